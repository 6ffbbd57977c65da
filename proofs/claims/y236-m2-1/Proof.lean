import JvmDerived
import JvmDerived.Pilot.@@N@@Statement
import JvmDerived.Pilot.@@N@@Code
set_option linter.unusedVariables false
set_option linter.unusedSimpArgs false
namespace Jvm.RoadKit
open Sem ClassFile Op Lib Jvm.Stand Jvm.Free Jvm.LawKit
section New
variable {p : Program} {l : Launch} {e : Env} {R : Room} {s : State} {m : MethodId} {args : Array Value} {below : List Frame} {meth : Method} {c : Code} {T : State} {locs : List Loc} {cells slots : Nat}
theorem retI (X : Stand p l e R s m args below meth c T locs cells slots) (hx : p.tables.exec = Jvm.exec) {pc : Nat} {Ls : Array Slot} {z : Int32} {rest : List Value} (hret : meth.sig.returnType = some .int) (hd : decode c.code pc = .ok (.ireturn, 1)) {fs : List Frame}
    (hl : ∀ (f : JFrame) (acts : List Action), f.method = m → f.locked = none → f.entered = [] → (doReturn e (T.setTop f) acts (some (.int z))).1 = T.setFrames fs) : Steps p.tables e below (T.setTop (mkF m pc Ls (.int z :: rest))) (T.setFrames fs) := by
  have hm' : T.vm.method? m = some meth := X.method'
  have hn : narrow .int (.int z) = .int z := rfl
  show Steps p.tables e below (T.setTop { method := m, pc := pc, locals := Ls, stack := _ :: rest, locked := none }) _
  jvm_step X.here [X.here.top, hx, hd, hm', hret, hn]
  first | (intro acts; rw [hl _ acts rfl rfl rfl]) | rw [hl _ _ rfl rfl rfl]
  exact Steps.refl _
theorem own_retJ (X : Stand p l e R s m args below meth c T locs cells slots) (hx : p.tables.exec = Jvm.exec) {pc : Nat} {Ls : Array Slot} {z : Int64} {rest : List Value} (hret : meth.sig.returnType = some .long) (hd : decode c.code pc = .ok (.lreturn, 1)) {fs : List Frame}
    (hl : ∀ (f : JFrame) (acts : List Action), f.method = m → f.locked = none → f.entered = [] → (doReturn e (T.setTop f) acts (some (.long z))).1 = T.setFrames fs) : Steps p.tables e below (T.setTop (mkF m pc Ls (.long z :: rest))) (T.setFrames fs) := by
  have hm' : T.vm.method? m = some meth := X.method'
  show Steps p.tables e below (T.setTop { method := m, pc := pc, locals := Ls, stack := _ :: rest, locked := none }) _
  jvm_step X.here [X.here.top, hx, hd, hm', hret, narrow]
  first | (intro acts; rw [hl _ acts rfl rfl rfl]) | rw [hl _ _ rfl rfl rfl]
  exact Steps.refl _
theorem own_retA (X : Stand p l e R s m args below meth c T locs cells slots) (hx : p.tables.exec = Jvm.exec) {pc : Nat} {Ls : Array Slot} {b : Addr} {t : FieldType} {rest : List Value} (hret : meth.sig.returnType = some t) (ht : t.isReference = true) (hb0 : b = b) (hd : decode c.code pc = .ok (.areturn, 1)) {fs : List Frame}
    (hl : ∀ (f : JFrame) (acts : List Action), f.method = m → f.locked = none → f.entered = [] → (doReturn e (T.setTop f) acts (some (.ref b))).1 = T.setFrames fs) : Steps p.tables e below (T.setTop (mkF m pc Ls (.ref b :: rest))) (T.setFrames fs) := by
  have hm' : T.vm.method? m = some meth := X.method'
  show Steps p.tables e below (T.setTop { method := m, pc := pc, locals := Ls, stack := _ :: rest, locked := none }) _
  jvm_step X.here [X.here.top, hx, hd, hm', hret, Value.isRef, ht]
  first | (intro acts; rw [hl _ acts rfl rfl rfl]) | rw [hl _ _ rfl rfl rfl]
  exact Steps.refl _
end New
/-- a walk's goal at the state A -/
def own_G (tb : Tables) (e : Env) (below : List Frame) (P : Outcome → State → Prop) (A : State) : Prop := ∃ s₂ o, Steps tb e below A s₂ ∧ s₂.status = .running ∧ Ended s₂ below o ∧ P o s₂
section Go
variable {tb : Tables} {e : Env} {below : List Frame} {P : Outcome → State → Prop} {A B : State}
theorem own_step (h : ∀ t, Steps tb e below B t → Steps tb e below A t) (k : own_G tb e below P B) : own_G tb e below P A := by
  obtain ⟨s₂, o, h1, h2⟩ := k
  exact ⟨s₂, o, h _ h1, h2⟩
theorem own_start (h : ∀ t, Steps tb e below B t → Steps tb e below A t) (k : own_G tb e below P B) : ∃ s₂ o, Steps tb e below A s₂ ∧ s₂.status = .running ∧ Ended s₂ below o ∧ P o s₂ := own_step h k
theorem own_done {s₂ : State} {o : Outcome} (h1 : Steps tb e below A s₂) (h2 : s₂.status = .running) (h3 : Ended s₂ below o) (h4 : P o s₂) : own_G tb e below P A := ⟨s₂, o, h1, h2, h3, h4⟩
theorem own_nm {α : Type} (x : α) (F : α → State) (h : ∀ v, v = x → own_G tb e below P (F v)) : own_G tb e below P (F x) := h x rfl
theorem own_gen (h : ∀ P', P' = P → own_G tb e below P' A) : own_G tb e below P A := h P rfl
theorem own_imp (h : own_G tb e below P B → own_G tb e below P A) (k : own_G tb e below P B) : own_G tb e below P A := h k
end Go
/-- an array of ints (bytes, chars, shorts) by its members; a long[] by its members -/
def own_Ari (Z : State) (h : Heap) (a : Addr) (ty : FieldType) (vs : List Int32) : Prop := ∃ c : Cell, Arr Z h a c ty ∧ c.slots.toList = vs.map Value.int ∧ vs.length < 2 ^ 31
def own_Arj (Z : State) (h : Heap) (a : Addr) (vs : List Int64) : Prop := ∃ c : Cell, Arr Z h a c .long ∧ c.slots.toList = vs.map Value.long ∧ vs.length < 2 ^ 31
def own_Inb (j : Int32) (n : Nat) : Prop := ¬ j < 0 ∧ j.toNatClampNeg < n
theorem own_inb {j : Int32} {n : Nat} (h1 : ¬ j < 0) (h2 : j.toNatClampNeg < n) : own_Inb j n := ⟨h1, h2⟩
section ArrFacts
variable {Z : State} {h h' : Heap} {a b : Addr} {ty : FieldType} {vs : List Int32} {us : List Int64} {sl : Nat} {v : Value} {L : List Addr}
theorem own_Ari.lt (F : own_Ari Z h a ty vs) : a < h.size := by obtain ⟨c, A, -⟩ := F; exact A.lt
theorem own_Ari.ext (F : own_Ari Z h a ty vs) (E : Ext h h') : own_Ari Z h' a ty vs := by obtain ⟨c, A, r⟩ := F; exact ⟨c, A.ext E, r⟩
theorem own_Ari.other (F : own_Ari Z h b ty vs) (W : Wr h h' a sl v) (q : b ≠ a) : own_Ari Z h' b ty vs := by obtain ⟨c, A, r⟩ := F; exact ⟨c, A.other W q, r⟩
theorem own_Ari.keep (F : own_Ari Z h a ty vs) (K : Keep h h' L) (q : a ∉ L) : own_Ari Z h' a ty vs := by obtain ⟨c, A, r⟩ := F; exact ⟨c, ⟨K.2.1 a c A.1 q, A.2⟩, r⟩
theorem own_Arj.lt (F : own_Arj Z h a us) : a < h.size := by obtain ⟨c, A, -⟩ := F; exact A.lt
theorem own_Arj.ext (F : own_Arj Z h a us) (E : Ext h h') : own_Arj Z h' a us := by obtain ⟨c, A, r⟩ := F; exact ⟨c, A.ext E, r⟩
theorem own_Arj.other (F : own_Arj Z h b us) (W : Wr h h' a sl v) (q : b ≠ a) : own_Arj Z h' b us := by obtain ⟨c, A, r⟩ := F; exact ⟨c, A.other W q, r⟩
theorem own_Arj.keep (F : own_Arj Z h a us) (K : Keep h h' L) (q : a ∉ L) : own_Arj Z h' a us := by obtain ⟨c, A, r⟩ := F; exact ⟨c, ⟨K.2.1 a c A.1 q, A.2⟩, r⟩
theorem own_Ari_new {cA : ClassId} {n : Int32} (A : Arr Z h b (newA cA ty n) ty) (hn : ¬ n < 0) (hd : defaultValue ty = .int 0) : own_Ari Z h b ty (List.replicate n.toNatClampNeg 0) :=
  ⟨_, A, by simp [newA, hd], by rw [List.length_replicate]; exact (back32 hn).2⟩
theorem own_Arj_new {cA : ClassId} {n : Int32} (A : Arr Z h b (newA cA .long n) .long) (hn : ¬ n < 0) : own_Arj Z h b (List.replicate n.toNatClampNeg 0) :=
  ⟨_, A, by simp [newA, defaultValue], by rw [List.length_replicate]; exact (back32 hn).2⟩
theorem own_szI {c : Cell} (S : c.slots.toList = vs.map Value.int) : c.slots.size = vs.length := by have := congrArg List.length S; simpa using this
theorem own_szJ {c : Cell} (S : c.slots.toList = us.map Value.long) : c.slots.size = us.length := by have := congrArg List.length S; simpa using this
theorem own_atI {c : Cell} {k : Nat} (S : c.slots.toList = vs.map Value.int) (hk : k < vs.length) : c.slots[k]? = some (.int (vs.getD k 0)) := by
  rw [← Array.getElem?_toList, S, List.getElem?_map, List.getD_eq_getElem?_getD, List.getElem?_eq_getElem hk]; rfl
theorem own_atJ {c : Cell} {k : Nat} (S : c.slots.toList = us.map Value.long) (hk : k < us.length) : c.slots[k]? = some (.long (us.getD k 0)) := by
  rw [← Array.getElem?_toList, S, List.getElem?_map, List.getD_eq_getElem?_getD, List.getElem?_eq_getElem hk]; rfl
theorem own_setI {c : Cell} {k : Nat} {x : Int32} (A : Arr Z h a c ty) (S : c.slots.toList = vs.map Value.int) (hl : vs.length < 2 ^ 31) (W : Wr h h' a k (.int x)) : own_Ari Z h' a ty (vs.set k x) :=
  ⟨_, A.same W, by simp [Cell.setSlot, S, List.map_set], by rw [List.length_set]; exact hl⟩
theorem own_setJ {c : Cell} {k : Nat} {x : Int64} (A : Arr Z h a c .long) (S : c.slots.toList = us.map Value.long) (hl : us.length < 2 ^ 31) (W : Wr h h' a k (.long x)) : own_Arj Z h' a (us.set k x) :=
  ⟨_, A.same W, by simp [Cell.setSlot, S, List.map_set], by rw [List.length_set]; exact hl⟩
end ArrFacts
section ArrSteps
variable {p : Program} {l : Launch} {e : Env} {R : Room} {s : State} {m : MethodId} {args : Array Value} {below : List Frame} {meth : Method} {c : Code} {T : State} {locs : List Loc} {cells slots : Nat} {Z : State} {h : Heap} {a : Addr} {vs : List Int32} {us : List Int64} {j : Int32} {g : JFrame} {rest : List Value}
theorem own_iaload (X : Stand p l e R s m args below meth c T locs cells slots) (hx : p.tables.exec = Jvm.exec) (hZ : Z.Warmed39 s.vm) (eT : T.heap = h) (F : own_Ari Z h a .int vs) (q : own_Inb j vs.length) (hg : g.method = m) (hs : g.stack = .int j :: .ref a :: rest) (hd : decode c.code g.pc = .ok (.iaload, 1)) :
    ∀ target, Steps p.tables e below (T.setTop { g with pc := g.pc + 1, stack := .int (vs.getD j.toNatClampNeg 0) :: rest }) target → Steps p.tables e below (T.setTop g) target := by
  obtain ⟨cl, A, S, hl⟩ := F
  have z := own_szI S
  exact X.iaload hx (by rw [eT]; exact A.1) (State.isArrayOf_alike hZ.alike A.2.1) A.2.2 (fun y => y.elim q.1 fun w => by have := q.2; omega) (own_atI S q.2) hg hs hd
theorem own_baload (X : Stand p l e R s m args below meth c T locs cells slots) (hx : p.tables.exec = Jvm.exec) (hZ : Z.Warmed39 s.vm) (eT : T.heap = h) (F : own_Ari Z h a .byte vs) (q : own_Inb j vs.length) (hg : g.method = m) (hs : g.stack = .int j :: .ref a :: rest) (hd : decode c.code g.pc = .ok (.baload, 1)) :
    ∀ target, Steps p.tables e below (T.setTop { g with pc := g.pc + 1, stack := .int (vs.getD j.toNatClampNeg 0) :: rest }) target → Steps p.tables e below (T.setTop g) target := by
  obtain ⟨cl, A, S, hl⟩ := F
  have z := own_szI S
  exact X.baloadBytes hx (by rw [eT]; exact A.1) (State.isArrayOf_alike hZ.alike A.2.1) A.2.2 (fun y => y.elim q.1 fun w => by have := q.2; omega) (own_atI S q.2) hg hs hd
theorem own_laload (X : Stand p l e R s m args below meth c T locs cells slots) (hx : p.tables.exec = Jvm.exec) (hZ : Z.Warmed39 s.vm) (eT : T.heap = h) (F : own_Arj Z h a us) (q : own_Inb j us.length) (hg : g.method = m) (hs : g.stack = .int j :: .ref a :: rest) (hd : decode c.code g.pc = .ok (.laload, 1)) :
    ∀ target, Steps p.tables e below (T.setTop { g with pc := g.pc + 1, stack := .long (us.getD j.toNatClampNeg 0) :: rest }) target → Steps p.tables e below (T.setTop g) target := by
  obtain ⟨cl, A, S, hl⟩ := F
  have z := own_szJ S
  exact X.laload hx (by rw [eT]; exact A.1) (State.isArrayOf_alike hZ.alike A.2.1) A.2.2 (fun y => y.elim q.1 fun w => by have := q.2; omega) (own_atJ S q.2) hg hs hd
theorem own_lenI {ty : FieldType} (X : Stand p l e R s m args below meth c T locs cells slots) (hx : p.tables.exec = Jvm.exec) (hZ : Z.Warmed39 s.vm) (eT : T.heap = h) (F : own_Ari Z h a ty vs) (hg : g.method = m) (hs : g.stack = .ref a :: rest) (hd : decode c.code g.pc = .ok (.arraylength, 1)) :
    ∀ target, Steps p.tables e below (T.setTop { g with pc := g.pc + 1, stack := .int vs.length.toInt32 :: rest }) target → Steps p.tables e below (T.setTop g) target := by
  obtain ⟨cl, A, S, hl⟩ := F
  have z := own_szI S
  have k := X.arraylength hx (by rw [eT]; exact A.1) (State.isArrayOf_alike hZ.alike A.2.1) hg hs hd
  rw [z] at k
  exact k
theorem own_lenJ (X : Stand p l e R s m args below meth c T locs cells slots) (hx : p.tables.exec = Jvm.exec) (hZ : Z.Warmed39 s.vm) (eT : T.heap = h) (F : own_Arj Z h a us) (hg : g.method = m) (hs : g.stack = .ref a :: rest) (hd : decode c.code g.pc = .ok (.arraylength, 1)) :
    ∀ target, Steps p.tables e below (T.setTop { g with pc := g.pc + 1, stack := .int us.length.toInt32 :: rest }) target → Steps p.tables e below (T.setTop g) target := by
  obtain ⟨cl, A, S, hl⟩ := F
  have z := own_szJ S
  have k := X.arraylength hx (by rw [eT]; exact A.1) (State.isArrayOf_alike hZ.alike A.2.1) hg hs hd
  rw [z] at k
  exact k
theorem own_iastore {x : Int32} (X : Stand p l e R s m args below meth c T locs cells slots) (hx : p.tables.exec = Jvm.exec) (hZ : Z.Warmed39 s.vm) (eT : T.heap = h) (F : own_Ari Z h a .int vs) (q : own_Inb j vs.length) (hg : g.method = m) (hs : g.stack = .int x :: .int j :: .ref a :: rest) (hd : decode c.code g.pc = .ok (.iastore, 1)) :
    ∃ T' h', Stand p l e R s m args below meth c T' (locs ++ [⟨a, j.toNatClampNeg⟩]) cells slots ∧ T'.heap = h' ∧ Wr h h' a j.toNatClampNeg (.int x) ∧ own_Ari Z h' a .int (vs.set j.toNatClampNeg x) ∧
      ∀ target, Steps p.tables e below (T'.setTop { g with pc := g.pc + 1, stack := rest }) target → Steps p.tables e below (T.setTop g) target := by
  obtain ⟨cl, A, S, hl⟩ := F
  have z := own_szI S
  obtain ⟨T', h', X', e', W, st⟩ := stI X hx hZ eT A (j := j) (x := x) (fun y => y.elim q.1 fun w => by have := q.2; omega) hg hs hd
  exact ⟨T', h', X', e', W, own_setI A S hl W, st⟩
theorem own_bastore {x : Int32} (X : Stand p l e R s m args below meth c T locs cells slots) (hx : p.tables.exec = Jvm.exec) (hZ : Z.Warmed39 s.vm) (eT : T.heap = h) (F : own_Ari Z h a .byte vs) (q : own_Inb j vs.length) (hg : g.method = m) (hs : g.stack = .int x :: .int j :: .ref a :: rest) (hd : decode c.code g.pc = .ok (.bastore, 1)) :
    ∃ T' h', Stand p l e R s m args below meth c T' (locs ++ [⟨a, j.toNatClampNeg⟩]) cells slots ∧ T'.heap = h' ∧ Wr h h' a j.toNatClampNeg (.int (nar .byte x)) ∧ own_Ari Z h' a .byte (vs.set j.toNatClampNeg (nar .byte x)) ∧
      ∀ target, Steps p.tables e below (T'.setTop { g with pc := g.pc + 1, stack := rest }) target → Steps p.tables e below (T.setTop g) target := by
  obtain ⟨cl, A, S, hl⟩ := F
  have z := own_szI S
  obtain ⟨T', h', X', e', W, st⟩ := stB X hx hZ eT A (j := j) (x := x) (fun y => y.elim q.1 fun w => by have := q.2; omega) hg hs hd
  exact ⟨T', h', X', e', W, own_setI A S hl W, st⟩
theorem own_lastore {x : Int64} (X : Stand p l e R s m args below meth c T locs cells slots) (hx : p.tables.exec = Jvm.exec) (hZ : Z.Warmed39 s.vm) (eT : T.heap = h) (F : own_Arj Z h a us) (q : own_Inb j us.length) (hg : g.method = m) (hs : g.stack = .long x :: .int j :: .ref a :: rest) (hd : decode c.code g.pc = .ok (.lastore, 1)) :
    ∃ T' h', Stand p l e R s m args below meth c T' (locs ++ [⟨a, j.toNatClampNeg⟩]) cells slots ∧ T'.heap = h' ∧ Wr h h' a j.toNatClampNeg (.long x) ∧ own_Arj Z h' a (us.set j.toNatClampNeg x) ∧
      ∀ target, Steps p.tables e below (T'.setTop { g with pc := g.pc + 1, stack := rest }) target → Steps p.tables e below (T.setTop g) target := by
  obtain ⟨cl, A, S, hl⟩ := F
  have z := own_szJ S
  obtain ⟨T', h', X', e', W, st⟩ := stJ X hx hZ eT A (j := j) (x := x) (fun y => y.elim q.1 fun w => by have := q.2; omega) hg hs hd
  exact ⟨T', h', X', e', W, own_setJ A S hl W, st⟩
theorem own_cloneI {a0 : Array Value} {own : String} {index : Nat} (X : Stand p l e R s m args below meth c T locs cells slots) (hx : p.tables.exec = Jvm.exec) (hZ : Z.Warmed39 s.vm) (hown : s.vm.findClass own = some m.cls)
    (w1 : (Cond.methodLink own index ⟨"[I", "clone", "()Ljava/lang/Object;"⟩).before a0 Z = true) (w2 : (Cond.sameMethod "[I" "java/lang/Object" "clone" "()Ljava/lang/Object;").before a0 Z = true) (w3 : (Cond.native ⟨"java/lang/Object", "clone", "()Ljava/lang/Object;"⟩).before a0 Z = true)
    (w4 : (Cond.instanceMethod ⟨"java/lang/Object", "clone", "()Ljava/lang/Object;"⟩).before a0 Z = true) (w5 : (Cond.selects "[I" ⟨"[I", "clone", "()Ljava/lang/Object;"⟩ ⟨"java/lang/Object", "clone", "()Ljava/lang/Object;"⟩).before a0 Z = true) (w6 : (Cond.castable "[I" "java/lang/Cloneable").before a0 Z = true)
    (eT : T.heap = h) (F : own_Ari Z h a .int vs) (E : Exa Z h a "[I") (hg : g.method = m) (hsize : g.locals.size = c.maxLocals) (hs : g.stack = .ref a :: rest) (hd : decode c.code g.pc = .ok (.invokevirtual index, 3))
    (hf : 1 ≤ R.frames) {W cap : Nat} (hW : 2 * g.monitorRoom + (rest.map fun v => v.category).sum ≤ W) (hl : W + 14 ≤ R.locals) (hcap : vs.length ≤ cap) (hc : cells + 1 ≤ R.cells) (hsl : slots + cap ≤ R.slots) :
    ∃ T' h', Stand p l e R s m args below meth c T' locs (cells + 1) (slots + cap) ∧ T'.heap = h' ∧ Ext h h' ∧ own_Ari Z h' h.size .int vs ∧ Exa Z h' h.size "[I" ∧
      ∀ target, Steps p.tables e below (T'.setTop { g with pc := g.pc + 3, stack := .ref h.size :: rest }) target → Steps p.tables e below (T.setTop g) target := by
  obtain ⟨cl, A, S, hl'⟩ := F
  have z := own_szI S
  have FC : FitC Z cl := fitC_of A fun i hi v hv => by
    rw [own_atI S (by omega)] at hv
    cases hv; rfl
  obtain ⟨T', h', X', e', ex, A', E', st⟩ := cloneA X hx hZ hown w1 w2 w3 w4 w5 w6 eT A E FC hg hsize hs hd hf hW hl (by rw [z]; exact hcap) hc hsl
  exact ⟨T', h', X', e', ex, ⟨cloneOf cl, A', S, hl'⟩, E', st⟩
end ArrSteps

section Starts
variable {Z : State} {args : Array Value} {h : Heap}
theorem own_of_arv {b : Addr} {k : ClassId} {z : Int32} {vs : List Int32} {dv : Value} {ty : FieldType} (F : Arv Z h b k ty z (vs.map Value.int) dv) (hl : z.toNatClampNeg = vs.length) : own_Ari Z h b ty vs := by
  obtain ⟨c, A, -, S, hz, H, -⟩ := F
  refine ⟨c, A, ?_, by rw [← hl]; exact (back32 hz).2⟩
  refine List.ext_getElem? fun i => ?_
  rw [Array.getElem?_toList]
  by_cases hi : i < c.slots.size
  · rw [H i hi, List.getD_eq_getElem?_getD, List.getElem?_eq_getElem (by rw [List.length_map, ← hl, ← S]; exact hi)]; rfl
  · rw [Array.getElem?_eq_none (by omega), List.getElem?_eq_none (by rw [List.length_map, ← hl, ← S]; omega)]
theorem own_fldS {t : Term} {C n d : String} {a : Addr} {v : Value} (ev : t.eval args Z none [] Z = some (.ref a)) (e : (Term.field t C n d).eval args Z none [] Z = some v) : Fld Z Z.heap a C n d v :=
  Fld.start (by simpa [Term.eval, ev] using e)
theorem own_ariS {t : Term} {a : Addr} {ty : FieldType} {vs : List Int32} (ev : t.eval args Z none [] Z = some (.ref a)) (hx : (Cond.arrayOf t ty).value args Z none Z [] = some true)
    (hl : (Term.length t).eval args Z none [] Z = some (.int vs.length.toInt32)) (hn : vs.length < 2 ^ 31) (he : ∀ j, j < vs.length → (Term.elem t (.int j.toInt32)).eval args Z none [] Z = some (.int (vs.getD j 0))) : own_Ari Z Z.heap a ty vs := by
  obtain ⟨c, A⟩ := Arr.start ev hx
  have hA : Z.arrayAt? a = some c := A.fin (Vm.Alike.refl _)
  obtain ⟨a', c', e1, e2, e3⟩ := Term.length_spec hl
  cases ev.symm.trans e1
  cases hA.symm.trans e2
  have hsz : c.slots.size < 2 ^ 31 := by
    simp only [Term.eval, ev, Option.bind_eq_bind, Option.bind_some, hA] at hl
    split at hl
    · assumption
    · cases hl
  have hs : c.slots.size = vs.length := by
    have q := Value.int.inj e3
    have q1 := congrArg Int32.toInt q
    have r1 : (vs.length.toInt32).toInt = (vs.length : Int) := Int32.toInt_ofNat_small (by omega)
    have r2 : (c.slots.size.toInt32).toInt = (c.slots.size : Int) := Int32.toInt_ofNat_small (by omega)
    rw [r1, r2] at q1
    omega
  refine ⟨c, A, ?_, hn⟩
  refine List.ext_getElem? fun i => ?_
  rw [Array.getElem?_toList]
  by_cases hi : i < vs.length
  · obtain ⟨a2, j2, c2, f1, f2, f3, f4, f5⟩ := Term.elem_spec (he i hi)
    cases ev.symm.trans f1
    cases hA.symm.trans f3
    have f6 : j2 = i.toInt32 := (Value.int.inj (Option.some.inj f2)).symm
    have r1 : (i.toInt32).toInt = (i : Int) := Int32.toInt_ofNat_small (by omega)
    have f7 : j2.toNatClampNeg = i := by rw [f6]; show Int.toNat _ = i; rw [r1]; exact Int.toNat_natCast i
    rw [f7] at f5
    rw [f5, List.getElem?_map, List.getElem?_eq_getElem hi, List.getD_eq_getElem?_getD, List.getElem?_eq_getElem hi]; rfl
  · rw [Array.getElem?_eq_none (by omega), List.getElem?_eq_none (by rw [List.length_map]; omega)]
end Starts

end Jvm.RoadKit
namespace Jvm.Pilot.@@N@@
open Jvm Jvm.ClassFile Sem Op Lib Jvm.Free Jvm.Stand Jvm.LawKit Jvm.RoadKit Bundle Jvm.Pilot.@@N@@.Jvm.D

theorem d1_0 : decode prog_23_method_4_code 0 = .ok (.iload_n 0, 1) := by decide +kernel
theorem d1_1 : decode prog_23_method_4_code 1 = .ok (.ifCond .eq 9, 3) := by decide +kernel
theorem d1_10 : decode prog_23_method_4_code 10 = .ok (.getstatic 3, 3) := by decide +kernel
theorem d1_13 : decode prog_23_method_4_code 13 = .ok (.areturn, 1) := by decide +kernel
theorem pn_1_t0 : plainName "com/example/prudentia/prudentia/sec/Treatment" = true := by first | (simp [plainName, overriddenIn]; done) | decide +kernel
theorem ef_1_t0 (m : MethodId) : entryFrame m #[(.int (0 : Int32))] 1 = mkF m 0 #[.val (.int (0 : Int32))] [] := by first | (simp [entryFrame, mkF, argsToLocals, Value.category]; done) | rfl
def Q1_t0 (Z : State) (s_NON_STS : Addr) (h0 : Heap) (n0 : Nat) (v : Option Value) (h : Heap) (L : List Loc) : Prop := v = some (.ref s_NON_STS) ∧ Fr n0 L ∧ h = h0
set_option maxRecDepth 65536 in
set_option maxHeartbeats 40000000 in
theorem rm1_t0 (l : Launch) (Z : State) (a0 : Array Value) (hw : ∀ d ∈ tables_1, d.before a0 Z = true) (ws : List Jvm.Cond) (s_NON_STS : Addr) (h0 : Heap) (n0 : Nat) (Z0 : n0 ≤ h0.size) (fp0 : Sta Z h0 "com/example/prudentia/prudentia/sec/Treatment" "NON_STS" "Lcom/example/prudentia/prudentia/sec/Treatment;" (.ref s_NON_STS)) :
    MetFree l (⟨"com/example/prudentia/prudentia/sec/Treatment", "of", "(Z)Lcom/example/prudentia/prudentia/sec/Treatment;"⟩ : MethodName) (head1 (Jvm.Cond.code (⟨"com/example/prudentia/prudentia/sec/Treatment", "of", "(Z)Lcom/example/prudentia/prudentia/sec/Treatment;"⟩ : MethodName) prog_23_method_4_code 1 (some (.object "com/example/prudentia/prudentia/sec/Treatment")) :: ws) ({ frames := 0, cells := 0, slots := 0, locals := 0 } : Room)) (fun a U => a = #[(.int (0 : Int32))] ∧ Z.Warmed39 U.vm ∧ U.heap = h0) (fun _ _ _ _ _ => True) (fun _ U o U' => ∃ v L, o = .returned v ∧ Q1_t0 Z s_NON_STS h0 n0 v U'.heap L ∧ FrameEnd U o U' L ({ frames := 0, cells := 0, slots := 0, locals := 0 } : Room).cells ({ frames := 0, cells := 0, slots := 0, locals := 0 } : Room).slots) := by
  refine MetFree.of_bodySF (plainFor_of_name pn_1_t0) hisR ?_
  intro p e s m args below meth c s₁ Bd hml0 hP hK
  obtain ⟨rfl, hZ, hh⟩ := hP
  have hx := Bd.exec
  have hby := Bd.bytes
  have hml : c.maxLocals = 1 := hml0
  have hown : s.vm.findClass "com/example/prudentia/prudentia/sec/Treatment" = some m.cls := findClass_of_methodNamed Bd.named
  have hnm := (name_of_methodNamed Bd.named Bd.method).1
  have X0 : Stand p l e ({ frames := 0, cells := 0, slots := 0, locals := 0 } : Room) s m #[(.int (0 : Int32))] below meth c s₁ [] 0 0 := Stand.of_body Bd
  have e0 : s₁.heap = h0 := by rw [← hh, Bd.state]; rfl
  have N0 := Fr.nil n0
  refine own_start (fun t k => castTop (ef_1_t0 m) k) ?_
  show own_G p.tables e below _ (s₁.setTop (mkF m 0 #[.val (.int (0 : Int32))] []))
  refine own_step (fun t k => XS.iloadN X0.here hx rfl (hb hby d1_0) rfl k) ?_
  show own_G p.tables e below _ (s₁.setTop (mkF m 1 #[.val (.int (0 : Int32))] [(.int (0 : Int32))]))
  have hk1 : (0 : Int32) = (0 : Int32) := rfl
  refine own_step (fun t k => XS.ifYes X0.here hx rfl (pc0 := 1) (pc' := 10) rfl (hb hby d1_1) rfl ((if0 _ _).trans (teq hk1).1) (by decide) (by decide) k) ?_
  show own_G p.tables e below _ (s₁.setTop (mkF m 10 #[.val (.int (0 : Int32))] []))
  obtain ⟨T2, X2, e2, st2⟩ := getS2 X0 hx hZ hown (host := "") (Or.inl (hw _ (List.mem_of_getElem? (i := 4) rfl))) Via.refl e0 fp0 (g := (mkF m 10 #[.val (.int (0 : Int32))] [])) rfl (hb hby d1_10)
  refine own_step st2 ?_
  show own_G p.tables e below _ (T2.setTop (mkF m 13 #[.val (.int (0 : Int32))] [(.ref s_NON_STS)]))
  obtain ⟨fs, hr, hrun, hended, hW, hsame⟩ := X2.leave (v := some (.ref s_NON_STS)) (fun h => by rw [Bd.returns] at h; cases h)
  refine own_done (own_retA X2 hx Bd.returns (by decide) rfl (hb hby d1_13) hr) hrun hended ⟨_, _, rfl, ?_, ⟨_, rfl⟩, hW, hsame.mono (by decide) (by decide)⟩
  show Q1_t0 Z s_NON_STS h0 n0 _ T2.heap _
  rw [e2]
  exact ⟨rfl, N0, rfl⟩
theorem d2_0 : decode prog_23_method_5_code 0 = .ok (.aload_n 0, 1) := by decide +kernel
theorem d2_1 : decode prog_23_method_5_code 1 = .ok (.getfield 29, 3) := by decide +kernel
theorem d2_4 : decode prog_23_method_5_code 4 = .ok (.areturn, 1) := by decide +kernel
theorem pn_2 : plainName "com/example/prudentia/prudentia/sec/Treatment" = true := by first | (simp [plainName, overriddenIn]; done) | decide +kernel
theorem ef_2 (m : MethodId) (a1 : Addr) : entryFrame m #[(.ref a1)] 1 = mkF m 0 #[.val (.ref a1)] [] := by first | (simp [entryFrame, mkF, argsToLocals, Value.category]; done) | rfl
def Q2 (Z : State) (a1 : Addr) (u_key_a1 : Addr) (h0 : Heap) (n0 : Nat) (v : Option Value) (h : Heap) (L : List Loc) : Prop := v = some (.ref u_key_a1) ∧ Fr n0 L ∧ h = h0
set_option maxRecDepth 65536 in
set_option maxHeartbeats 40000000 in
theorem rm2 (l : Launch) (Z : State) (a0 : Array Value) (hw : ∀ d ∈ tables_1, d.before a0 Z = true) (ws : List Jvm.Cond) (a1 : Addr) (u_key_a1 : Addr) (h0 : Heap) (n0 : Nat) (Z0 : n0 ≤ h0.size) (fp0 : Fld Z h0 a1 "com/example/prudentia/prudentia/sec/Treatment" "key" "Ljava/lang/String;" (.ref u_key_a1)) :
    MetFree l (⟨"com/example/prudentia/prudentia/sec/Treatment", "getKey", "()Ljava/lang/String;"⟩ : MethodName) (head1 (Jvm.Cond.code (⟨"com/example/prudentia/prudentia/sec/Treatment", "getKey", "()Ljava/lang/String;"⟩ : MethodName) prog_23_method_5_code 1 (some (.object "java/lang/String")) :: ws) ({ frames := 0, cells := 0, slots := 0, locals := 0 } : Room)) (fun a U => a = #[(.ref a1)] ∧ Z.Warmed39 U.vm ∧ U.heap = h0) (fun _ _ _ _ _ => True) (fun _ U o U' => ∃ v L, o = .returned v ∧ Q2 Z a1 u_key_a1 h0 n0 v U'.heap L ∧ FrameEnd U o U' L ({ frames := 0, cells := 0, slots := 0, locals := 0 } : Room).cells ({ frames := 0, cells := 0, slots := 0, locals := 0 } : Room).slots) := by
  refine MetFree.of_bodySF (plainFor_of_name pn_2) hisR ?_
  intro p e s m args below meth c s₁ Bd hml0 hP hK
  obtain ⟨rfl, hZ, hh⟩ := hP
  have hx := Bd.exec
  have hby := Bd.bytes
  have hml : c.maxLocals = 1 := hml0
  have hown : s.vm.findClass "com/example/prudentia/prudentia/sec/Treatment" = some m.cls := findClass_of_methodNamed Bd.named
  have hnm := (name_of_methodNamed Bd.named Bd.method).1
  have X0 : Stand p l e ({ frames := 0, cells := 0, slots := 0, locals := 0 } : Room) s m #[(.ref a1)] below meth c s₁ [] 0 0 := Stand.of_body Bd
  have e0 : s₁.heap = h0 := by rw [← hh, Bd.state]; rfl
  have N0 := Fr.nil n0
  refine own_start (fun t k => castTop (ef_2 m a1) k) ?_
  show own_G p.tables e below _ (s₁.setTop (mkF m 0 #[.val (.ref a1)] []))
  refine own_step (fun t k => XS.aloadN X0.here hx rfl (hb hby d2_0) rfl rfl k) ?_
  show own_G p.tables e below _ (s₁.setTop (mkF m 1 #[.val (.ref a1)] [(.ref a1)]))
  obtain ⟨T1, X1, e1, st1⟩ := getF X0 hx hZ hown (host := "") (Or.inl (hw _ (List.mem_of_getElem? (i := 12) rfl))) Via.refl e0 fp0 (g := (mkF m 1 #[.val (.ref a1)] [(.ref a1)])) rfl rfl (hb hby d2_1)
  refine own_step st1 ?_
  show own_G p.tables e below _ (T1.setTop (mkF m 4 #[.val (.ref a1)] [(.ref u_key_a1)]))
  obtain ⟨fs, hr, hrun, hended, hW, hsame⟩ := X1.leave (v := some (.ref u_key_a1)) (fun h => by rw [Bd.returns] at h; cases h)
  refine own_done (own_retA X1 hx Bd.returns (by decide) rfl (hb hby d2_4) hr) hrun hended ⟨_, _, rfl, ?_, ⟨_, rfl⟩, hW, hsame.mono (by decide) (by decide)⟩
  show Q2 Z a1 u_key_a1 h0 n0 _ T1.heap _
  rw [e1]
  exact ⟨rfl, N0, rfl⟩
theorem d4_0 : decode jdk_43_method_13_code 0 = .ok (.aload_n 0, 1) := by decide +kernel
theorem d4_1 : decode jdk_43_method_13_code 1 = .ok (.arraylength, 1) := by decide +kernel
theorem d4_2 : decode jdk_43_method_13_code 2 = .ok (.aload_n 1, 1) := by decide +kernel
theorem d4_3 : decode jdk_43_method_13_code 3 = .ok (.arraylength, 1) := by decide +kernel
theorem d4_4 : decode jdk_43_method_13_code 4 = .ok (.if_icmp .ne 30, 3) := by decide +kernel
theorem d4_7 : decode jdk_43_method_13_code 7 = .ok (.iconst 0, 1) := by decide +kernel
theorem d4_8 : decode jdk_43_method_13_code 8 = .ok (.istore_n 2, 1) := by decide +kernel
theorem d4_9 : decode jdk_43_method_13_code 9 = .ok (.iload_n 2, 1) := by decide +kernel
theorem d4_10 : decode jdk_43_method_13_code 10 = .ok (.aload_n 0, 1) := by decide +kernel
theorem d4_11 : decode jdk_43_method_13_code 11 = .ok (.arraylength, 1) := by decide +kernel
theorem d4_12 : decode jdk_43_method_13_code 12 = .ok (.if_icmp .ge 20, 3) := by decide +kernel
theorem d4_15 : decode jdk_43_method_13_code 15 = .ok (.aload_n 0, 1) := by decide +kernel
theorem d4_16 : decode jdk_43_method_13_code 16 = .ok (.iload_n 2, 1) := by decide +kernel
theorem d4_17 : decode jdk_43_method_13_code 17 = .ok (.baload, 1) := by decide +kernel
theorem d4_18 : decode jdk_43_method_13_code 18 = .ok (.aload_n 1, 1) := by decide +kernel
theorem d4_19 : decode jdk_43_method_13_code 19 = .ok (.iload_n 2, 1) := by decide +kernel
theorem d4_20 : decode jdk_43_method_13_code 20 = .ok (.baload, 1) := by decide +kernel
theorem d4_21 : decode jdk_43_method_13_code 21 = .ok (.if_icmp .eq 5, 3) := by decide +kernel
theorem d4_26 : decode jdk_43_method_13_code 26 = .ok (.iinc 2 1, 3) := by decide +kernel
theorem d4_29 : decode jdk_43_method_13_code 29 = .ok (.goto (-20), 3) := by decide +kernel
theorem d4_32 : decode jdk_43_method_13_code 32 = .ok (.iconst 1, 1) := by decide +kernel
theorem d4_33 : decode jdk_43_method_13_code 33 = .ok (.ireturn, 1) := by decide +kernel
theorem pn_4_x0 : plainName "java/lang/StringLatin1" = true := by first | (simp [plainName, overriddenIn]; done) | decide +kernel
theorem ef_4_x0 (m : MethodId) (a1 : Addr) (a2 : Addr) : entryFrame m #[(.ref a1), (.ref a2)] 3 = mkF m 0 #[.val (.ref a1), .val (.ref a2), .unset] [] := by first | (simp [entryFrame, mkF, argsToLocals, Value.category]; done) | rfl
def Q4_x0 (Z : State) (a1 : Addr) (a2 : Addr) (h0 : Heap) (n0 : Nat) (v : Option Value) (h : Heap) (L : List Loc) : Prop := v = some (.int (1 : Int32)) ∧ Fr n0 L ∧ h = h0
set_option maxRecDepth 65536 in
set_option maxHeartbeats 40000000 in
theorem rm4_x0 (l : Launch) (Z : State) (a0 : Array Value) (hw : ∀ d ∈ tables_1, d.before a0 Z = true) (ws : List Jvm.Cond) (a1 : Addr) (a2 : Addr) (h0 : Heap) (n0 : Nat) (Z0 : n0 ≤ h0.size) (fp0 : own_Ari Z h0 a1 .byte [(110 : Int32), (111 : Int32), (110 : Int32), (95 : Int32), (115 : Int32), (116 : Int32), (115 : Int32)]) (fp1 : own_Ari Z h0 a2 .byte [(110 : Int32), (111 : Int32), (110 : Int32), (95 : Int32), (115 : Int32), (116 : Int32), (115 : Int32)]) :
    MetFree l (⟨"java/lang/StringLatin1", "equals", "([B[B)Z"⟩ : MethodName) (head1 (Jvm.Cond.code (⟨"java/lang/StringLatin1", "equals", "([B[B)Z"⟩ : MethodName) jdk_43_method_13_code 3 (some .boolean) :: ws) ({ frames := 0, cells := 0, slots := 0, locals := 0 } : Room)) (fun a U => a = #[(.ref a1), (.ref a2)] ∧ Z.Warmed39 U.vm ∧ U.heap = h0) (fun _ _ _ _ _ => True) (fun _ U o U' => ∃ v L, o = .returned v ∧ Q4_x0 Z a1 a2 h0 n0 v U'.heap L ∧ FrameEnd U o U' L ({ frames := 0, cells := 0, slots := 0, locals := 0 } : Room).cells ({ frames := 0, cells := 0, slots := 0, locals := 0 } : Room).slots) := by
  refine MetFree.of_bodySF (plainFor_of_name pn_4_x0) hisR ?_
  intro p e s m args below meth c s₁ Bd hml0 hP hK
  obtain ⟨rfl, hZ, hh⟩ := hP
  have hx := Bd.exec
  have hby := Bd.bytes
  have hml : c.maxLocals = 3 := hml0
  have hown : s.vm.findClass "java/lang/StringLatin1" = some m.cls := findClass_of_methodNamed Bd.named
  have hnm := (name_of_methodNamed Bd.named Bd.method).1
  have X0 : Stand p l e ({ frames := 0, cells := 0, slots := 0, locals := 0 } : Room) s m #[(.ref a1), (.ref a2)] below meth c s₁ [] 0 0 := Stand.of_body Bd
  have e0 : s₁.heap = h0 := by rw [← hh, Bd.state]; rfl
  have N0 := Fr.nil n0
  refine own_start (fun t k => castTop (ef_4_x0 m a1 a2) k) ?_
  show own_G p.tables e below _ (s₁.setTop (mkF m 0 #[.val (.ref a1), .val (.ref a2), .unset] []))
  refine own_step (fun t k => XS.aloadN X0.here hx rfl (hb hby d4_0) rfl rfl k) ?_
  show own_G p.tables e below _ (s₁.setTop (mkF m 1 #[.val (.ref a1), .val (.ref a2), .unset] [(.ref a1)]))
  refine own_step (own_lenI X0 hx hZ e0 fp0 (g := (mkF m 1 #[.val (.ref a1), .val (.ref a2), .unset] [(.ref a1)])) rfl rfl (hb hby d4_1)) ?_
  show own_G p.tables e below _ (s₁.setTop (mkF m 2 #[.val (.ref a1), .val (.ref a2), .unset] [(.int (7 : Int32))]))
  refine own_step (fun t k => XS.aloadN X0.here hx rfl (hb hby d4_2) rfl rfl k) ?_
  show own_G p.tables e below _ (s₁.setTop (mkF m 3 #[.val (.ref a1), .val (.ref a2), .unset] [(.ref a2), (.int (7 : Int32))]))
  refine own_step (own_lenI X0 hx hZ e0 fp1 (g := (mkF m 3 #[.val (.ref a1), .val (.ref a2), .unset] [(.ref a2), (.int (7 : Int32))])) rfl rfl (hb hby d4_3)) ?_
  show own_G p.tables e below _ (s₁.setTop (mkF m 4 #[.val (.ref a1), .val (.ref a2), .unset] [(.int (7 : Int32)), (.int (7 : Int32))]))
  have hk1 : (7 : Int32) = (7 : Int32) := rfl
  refine own_step (fun t k => XS.icmpNo X0.here hx rfl (hb hby d4_4) rfl ((teq hk1).2) k) ?_
  show own_G p.tables e below _ (s₁.setTop (mkF m 7 #[.val (.ref a1), .val (.ref a2), .unset] []))
  refine own_step (fun t k => XS.iconst X0.here hx rfl (hb hby d4_7) k) ?_
  show own_G p.tables e below _ (s₁.setTop (mkF m 8 #[.val (.ref a1), .val (.ref a2), .unset] [(.int (0 : Int32))]))
  refine own_step (fun t k => XS.istoreN X0.here hx rfl (hb hby d4_8) rfl (l' := #[.val (.ref a1), .val (.ref a2), .val (.int (0 : Int32))]) rfl k) ?_
  show own_G p.tables e below _ (s₁.setTop (mkF m 9 #[.val (.ref a1), .val (.ref a2), .val (.int (0 : Int32))] []))
  refine own_step (fun t k => XS.iloadN X0.here hx rfl (hb hby d4_9) rfl k) ?_
  show own_G p.tables e below _ (s₁.setTop (mkF m 10 #[.val (.ref a1), .val (.ref a2), .val (.int (0 : Int32))] [(.int (0 : Int32))]))
  refine own_step (fun t k => XS.aloadN X0.here hx rfl (hb hby d4_10) rfl rfl k) ?_
  show own_G p.tables e below _ (s₁.setTop (mkF m 11 #[.val (.ref a1), .val (.ref a2), .val (.int (0 : Int32))] [(.ref a1), (.int (0 : Int32))]))
  refine own_step (own_lenI X0 hx hZ e0 fp0 (g := (mkF m 11 #[.val (.ref a1), .val (.ref a2), .val (.int (0 : Int32))] [(.ref a1), (.int (0 : Int32))])) rfl rfl (hb hby d4_11)) ?_
  show own_G p.tables e below _ (s₁.setTop (mkF m 12 #[.val (.ref a1), .val (.ref a2), .val (.int (0 : Int32))] [(.int (7 : Int32)), (.int (0 : Int32))]))
  have hk2 : (0 : Int32) < (7 : Int32) := (by decide)
  refine own_step (fun t k => XS.icmpNo X0.here hx rfl (hb hby d4_12) rfl ((tlt hk2).2.1) k) ?_
  show own_G p.tables e below _ (s₁.setTop (mkF m 15 #[.val (.ref a1), .val (.ref a2), .val (.int (0 : Int32))] []))
  refine own_step (fun t k => XS.aloadN X0.here hx rfl (hb hby d4_15) rfl rfl k) ?_
  show own_G p.tables e below _ (s₁.setTop (mkF m 16 #[.val (.ref a1), .val (.ref a2), .val (.int (0 : Int32))] [(.ref a1)]))
  refine own_step (fun t k => XS.iloadN X0.here hx rfl (hb hby d4_16) rfl k) ?_
  show own_G p.tables e below _ (s₁.setTop (mkF m 17 #[.val (.ref a1), .val (.ref a2), .val (.int (0 : Int32))] [(.int (0 : Int32)), (.ref a1)]))
  refine own_step (own_baload X0 hx hZ e0 fp0 (own_inb (by decide) (Nat.le_of_ble_eq_true rfl)) (g := (mkF m 17 #[.val (.ref a1), .val (.ref a2), .val (.int (0 : Int32))] [(.int (0 : Int32)), (.ref a1)])) rfl rfl (hb hby d4_17)) ?_
  show own_G p.tables e below _ (s₁.setTop (mkF m 18 #[.val (.ref a1), .val (.ref a2), .val (.int (0 : Int32))] [(.int (110 : Int32))]))
  refine own_step (fun t k => XS.aloadN X0.here hx rfl (hb hby d4_18) rfl rfl k) ?_
  show own_G p.tables e below _ (s₁.setTop (mkF m 19 #[.val (.ref a1), .val (.ref a2), .val (.int (0 : Int32))] [(.ref a2), (.int (110 : Int32))]))
  refine own_step (fun t k => XS.iloadN X0.here hx rfl (hb hby d4_19) rfl k) ?_
  show own_G p.tables e below _ (s₁.setTop (mkF m 20 #[.val (.ref a1), .val (.ref a2), .val (.int (0 : Int32))] [(.int (0 : Int32)), (.ref a2), (.int (110 : Int32))]))
  refine own_step (own_baload X0 hx hZ e0 fp1 (own_inb (by decide) (Nat.le_of_ble_eq_true rfl)) (g := (mkF m 20 #[.val (.ref a1), .val (.ref a2), .val (.int (0 : Int32))] [(.int (0 : Int32)), (.ref a2), (.int (110 : Int32))])) rfl rfl (hb hby d4_20)) ?_
  show own_G p.tables e below _ (s₁.setTop (mkF m 21 #[.val (.ref a1), .val (.ref a2), .val (.int (0 : Int32))] [(.int (110 : Int32)), (.int (110 : Int32))]))
  have hk3 : (110 : Int32) = (110 : Int32) := rfl
  refine own_step (fun t k => XS.icmpYes X0.here hx rfl (pc0 := 21) (pc' := 26) rfl (hb hby d4_21) rfl ((teq hk3).1) (by decide) (by decide) k) ?_
  show own_G p.tables e below _ (s₁.setTop (mkF m 26 #[.val (.ref a1), .val (.ref a2), .val (.int (0 : Int32))] []))
  refine own_step (fun t k => XS.iinc X0.here hx rfl (hb hby d4_26) rfl (l' := #[.val (.ref a1), .val (.ref a2), .val (.int (1 : Int32))]) rfl k) ?_
  show own_G p.tables e below _ (s₁.setTop (mkF m 29 #[.val (.ref a1), .val (.ref a2), .val (.int (1 : Int32))] []))
  refine own_step (fun t k => XS.goto X0.here hx rfl (pc0 := 29) (pc' := 9) rfl (hb hby d4_29) (by decide) (by decide) k) ?_
  show own_G p.tables e below _ (s₁.setTop (mkF m 9 #[.val (.ref a1), .val (.ref a2), .val (.int (1 : Int32))] []))
  refine own_step (fun t k => XS.iloadN X0.here hx rfl (hb hby d4_9) rfl k) ?_
  show own_G p.tables e below _ (s₁.setTop (mkF m 10 #[.val (.ref a1), .val (.ref a2), .val (.int (1 : Int32))] [(.int (1 : Int32))]))
  refine own_step (fun t k => XS.aloadN X0.here hx rfl (hb hby d4_10) rfl rfl k) ?_
  show own_G p.tables e below _ (s₁.setTop (mkF m 11 #[.val (.ref a1), .val (.ref a2), .val (.int (1 : Int32))] [(.ref a1), (.int (1 : Int32))]))
  refine own_step (own_lenI X0 hx hZ e0 fp0 (g := (mkF m 11 #[.val (.ref a1), .val (.ref a2), .val (.int (1 : Int32))] [(.ref a1), (.int (1 : Int32))])) rfl rfl (hb hby d4_11)) ?_
  show own_G p.tables e below _ (s₁.setTop (mkF m 12 #[.val (.ref a1), .val (.ref a2), .val (.int (1 : Int32))] [(.int (7 : Int32)), (.int (1 : Int32))]))
  have hk4 : (1 : Int32) < (7 : Int32) := (by decide)
  refine own_step (fun t k => XS.icmpNo X0.here hx rfl (hb hby d4_12) rfl ((tlt hk4).2.1) k) ?_
  show own_G p.tables e below _ (s₁.setTop (mkF m 15 #[.val (.ref a1), .val (.ref a2), .val (.int (1 : Int32))] []))
  refine own_step (fun t k => XS.aloadN X0.here hx rfl (hb hby d4_15) rfl rfl k) ?_
  show own_G p.tables e below _ (s₁.setTop (mkF m 16 #[.val (.ref a1), .val (.ref a2), .val (.int (1 : Int32))] [(.ref a1)]))
  refine own_step (fun t k => XS.iloadN X0.here hx rfl (hb hby d4_16) rfl k) ?_
  show own_G p.tables e below _ (s₁.setTop (mkF m 17 #[.val (.ref a1), .val (.ref a2), .val (.int (1 : Int32))] [(.int (1 : Int32)), (.ref a1)]))
  refine own_step (own_baload X0 hx hZ e0 fp0 (own_inb (by decide) (Nat.le_of_ble_eq_true rfl)) (g := (mkF m 17 #[.val (.ref a1), .val (.ref a2), .val (.int (1 : Int32))] [(.int (1 : Int32)), (.ref a1)])) rfl rfl (hb hby d4_17)) ?_
  show own_G p.tables e below _ (s₁.setTop (mkF m 18 #[.val (.ref a1), .val (.ref a2), .val (.int (1 : Int32))] [(.int (111 : Int32))]))
  refine own_step (fun t k => XS.aloadN X0.here hx rfl (hb hby d4_18) rfl rfl k) ?_
  show own_G p.tables e below _ (s₁.setTop (mkF m 19 #[.val (.ref a1), .val (.ref a2), .val (.int (1 : Int32))] [(.ref a2), (.int (111 : Int32))]))
  refine own_step (fun t k => XS.iloadN X0.here hx rfl (hb hby d4_19) rfl k) ?_
  show own_G p.tables e below _ (s₁.setTop (mkF m 20 #[.val (.ref a1), .val (.ref a2), .val (.int (1 : Int32))] [(.int (1 : Int32)), (.ref a2), (.int (111 : Int32))]))
  refine own_step (own_baload X0 hx hZ e0 fp1 (own_inb (by decide) (Nat.le_of_ble_eq_true rfl)) (g := (mkF m 20 #[.val (.ref a1), .val (.ref a2), .val (.int (1 : Int32))] [(.int (1 : Int32)), (.ref a2), (.int (111 : Int32))])) rfl rfl (hb hby d4_20)) ?_
  show own_G p.tables e below _ (s₁.setTop (mkF m 21 #[.val (.ref a1), .val (.ref a2), .val (.int (1 : Int32))] [(.int (111 : Int32)), (.int (111 : Int32))]))
  have hk5 : (111 : Int32) = (111 : Int32) := rfl
  refine own_step (fun t k => XS.icmpYes X0.here hx rfl (pc0 := 21) (pc' := 26) rfl (hb hby d4_21) rfl ((teq hk5).1) (by decide) (by decide) k) ?_
  show own_G p.tables e below _ (s₁.setTop (mkF m 26 #[.val (.ref a1), .val (.ref a2), .val (.int (1 : Int32))] []))
  refine own_step (fun t k => XS.iinc X0.here hx rfl (hb hby d4_26) rfl (l' := #[.val (.ref a1), .val (.ref a2), .val (.int (2 : Int32))]) rfl k) ?_
  show own_G p.tables e below _ (s₁.setTop (mkF m 29 #[.val (.ref a1), .val (.ref a2), .val (.int (2 : Int32))] []))
  refine own_step (fun t k => XS.goto X0.here hx rfl (pc0 := 29) (pc' := 9) rfl (hb hby d4_29) (by decide) (by decide) k) ?_
  show own_G p.tables e below _ (s₁.setTop (mkF m 9 #[.val (.ref a1), .val (.ref a2), .val (.int (2 : Int32))] []))
  refine own_step (fun t k => XS.iloadN X0.here hx rfl (hb hby d4_9) rfl k) ?_
  show own_G p.tables e below _ (s₁.setTop (mkF m 10 #[.val (.ref a1), .val (.ref a2), .val (.int (2 : Int32))] [(.int (2 : Int32))]))
  refine own_step (fun t k => XS.aloadN X0.here hx rfl (hb hby d4_10) rfl rfl k) ?_
  show own_G p.tables e below _ (s₁.setTop (mkF m 11 #[.val (.ref a1), .val (.ref a2), .val (.int (2 : Int32))] [(.ref a1), (.int (2 : Int32))]))
  refine own_step (own_lenI X0 hx hZ e0 fp0 (g := (mkF m 11 #[.val (.ref a1), .val (.ref a2), .val (.int (2 : Int32))] [(.ref a1), (.int (2 : Int32))])) rfl rfl (hb hby d4_11)) ?_
  show own_G p.tables e below _ (s₁.setTop (mkF m 12 #[.val (.ref a1), .val (.ref a2), .val (.int (2 : Int32))] [(.int (7 : Int32)), (.int (2 : Int32))]))
  have hk6 : (2 : Int32) < (7 : Int32) := (by decide)
  refine own_step (fun t k => XS.icmpNo X0.here hx rfl (hb hby d4_12) rfl ((tlt hk6).2.1) k) ?_
  show own_G p.tables e below _ (s₁.setTop (mkF m 15 #[.val (.ref a1), .val (.ref a2), .val (.int (2 : Int32))] []))
  refine own_step (fun t k => XS.aloadN X0.here hx rfl (hb hby d4_15) rfl rfl k) ?_
  show own_G p.tables e below _ (s₁.setTop (mkF m 16 #[.val (.ref a1), .val (.ref a2), .val (.int (2 : Int32))] [(.ref a1)]))
  refine own_step (fun t k => XS.iloadN X0.here hx rfl (hb hby d4_16) rfl k) ?_
  show own_G p.tables e below _ (s₁.setTop (mkF m 17 #[.val (.ref a1), .val (.ref a2), .val (.int (2 : Int32))] [(.int (2 : Int32)), (.ref a1)]))
  refine own_step (own_baload X0 hx hZ e0 fp0 (own_inb (by decide) (Nat.le_of_ble_eq_true rfl)) (g := (mkF m 17 #[.val (.ref a1), .val (.ref a2), .val (.int (2 : Int32))] [(.int (2 : Int32)), (.ref a1)])) rfl rfl (hb hby d4_17)) ?_
  show own_G p.tables e below _ (s₁.setTop (mkF m 18 #[.val (.ref a1), .val (.ref a2), .val (.int (2 : Int32))] [(.int (110 : Int32))]))
  refine own_step (fun t k => XS.aloadN X0.here hx rfl (hb hby d4_18) rfl rfl k) ?_
  show own_G p.tables e below _ (s₁.setTop (mkF m 19 #[.val (.ref a1), .val (.ref a2), .val (.int (2 : Int32))] [(.ref a2), (.int (110 : Int32))]))
  refine own_step (fun t k => XS.iloadN X0.here hx rfl (hb hby d4_19) rfl k) ?_
  show own_G p.tables e below _ (s₁.setTop (mkF m 20 #[.val (.ref a1), .val (.ref a2), .val (.int (2 : Int32))] [(.int (2 : Int32)), (.ref a2), (.int (110 : Int32))]))
  refine own_step (own_baload X0 hx hZ e0 fp1 (own_inb (by decide) (Nat.le_of_ble_eq_true rfl)) (g := (mkF m 20 #[.val (.ref a1), .val (.ref a2), .val (.int (2 : Int32))] [(.int (2 : Int32)), (.ref a2), (.int (110 : Int32))])) rfl rfl (hb hby d4_20)) ?_
  show own_G p.tables e below _ (s₁.setTop (mkF m 21 #[.val (.ref a1), .val (.ref a2), .val (.int (2 : Int32))] [(.int (110 : Int32)), (.int (110 : Int32))]))
  have hk7 : (110 : Int32) = (110 : Int32) := rfl
  refine own_step (fun t k => XS.icmpYes X0.here hx rfl (pc0 := 21) (pc' := 26) rfl (hb hby d4_21) rfl ((teq hk7).1) (by decide) (by decide) k) ?_
  show own_G p.tables e below _ (s₁.setTop (mkF m 26 #[.val (.ref a1), .val (.ref a2), .val (.int (2 : Int32))] []))
  refine own_step (fun t k => XS.iinc X0.here hx rfl (hb hby d4_26) rfl (l' := #[.val (.ref a1), .val (.ref a2), .val (.int (3 : Int32))]) rfl k) ?_
  show own_G p.tables e below _ (s₁.setTop (mkF m 29 #[.val (.ref a1), .val (.ref a2), .val (.int (3 : Int32))] []))
  refine own_step (fun t k => XS.goto X0.here hx rfl (pc0 := 29) (pc' := 9) rfl (hb hby d4_29) (by decide) (by decide) k) ?_
  show own_G p.tables e below _ (s₁.setTop (mkF m 9 #[.val (.ref a1), .val (.ref a2), .val (.int (3 : Int32))] []))
  refine own_step (fun t k => XS.iloadN X0.here hx rfl (hb hby d4_9) rfl k) ?_
  show own_G p.tables e below _ (s₁.setTop (mkF m 10 #[.val (.ref a1), .val (.ref a2), .val (.int (3 : Int32))] [(.int (3 : Int32))]))
  refine own_step (fun t k => XS.aloadN X0.here hx rfl (hb hby d4_10) rfl rfl k) ?_
  show own_G p.tables e below _ (s₁.setTop (mkF m 11 #[.val (.ref a1), .val (.ref a2), .val (.int (3 : Int32))] [(.ref a1), (.int (3 : Int32))]))
  refine own_step (own_lenI X0 hx hZ e0 fp0 (g := (mkF m 11 #[.val (.ref a1), .val (.ref a2), .val (.int (3 : Int32))] [(.ref a1), (.int (3 : Int32))])) rfl rfl (hb hby d4_11)) ?_
  show own_G p.tables e below _ (s₁.setTop (mkF m 12 #[.val (.ref a1), .val (.ref a2), .val (.int (3 : Int32))] [(.int (7 : Int32)), (.int (3 : Int32))]))
  have hk8 : (3 : Int32) < (7 : Int32) := (by decide)
  refine own_step (fun t k => XS.icmpNo X0.here hx rfl (hb hby d4_12) rfl ((tlt hk8).2.1) k) ?_
  show own_G p.tables e below _ (s₁.setTop (mkF m 15 #[.val (.ref a1), .val (.ref a2), .val (.int (3 : Int32))] []))
  refine own_step (fun t k => XS.aloadN X0.here hx rfl (hb hby d4_15) rfl rfl k) ?_
  show own_G p.tables e below _ (s₁.setTop (mkF m 16 #[.val (.ref a1), .val (.ref a2), .val (.int (3 : Int32))] [(.ref a1)]))
  refine own_step (fun t k => XS.iloadN X0.here hx rfl (hb hby d4_16) rfl k) ?_
  show own_G p.tables e below _ (s₁.setTop (mkF m 17 #[.val (.ref a1), .val (.ref a2), .val (.int (3 : Int32))] [(.int (3 : Int32)), (.ref a1)]))
  refine own_step (own_baload X0 hx hZ e0 fp0 (own_inb (by decide) (Nat.le_of_ble_eq_true rfl)) (g := (mkF m 17 #[.val (.ref a1), .val (.ref a2), .val (.int (3 : Int32))] [(.int (3 : Int32)), (.ref a1)])) rfl rfl (hb hby d4_17)) ?_
  show own_G p.tables e below _ (s₁.setTop (mkF m 18 #[.val (.ref a1), .val (.ref a2), .val (.int (3 : Int32))] [(.int (95 : Int32))]))
  refine own_step (fun t k => XS.aloadN X0.here hx rfl (hb hby d4_18) rfl rfl k) ?_
  show own_G p.tables e below _ (s₁.setTop (mkF m 19 #[.val (.ref a1), .val (.ref a2), .val (.int (3 : Int32))] [(.ref a2), (.int (95 : Int32))]))
  refine own_step (fun t k => XS.iloadN X0.here hx rfl (hb hby d4_19) rfl k) ?_
  show own_G p.tables e below _ (s₁.setTop (mkF m 20 #[.val (.ref a1), .val (.ref a2), .val (.int (3 : Int32))] [(.int (3 : Int32)), (.ref a2), (.int (95 : Int32))]))
  refine own_step (own_baload X0 hx hZ e0 fp1 (own_inb (by decide) (Nat.le_of_ble_eq_true rfl)) (g := (mkF m 20 #[.val (.ref a1), .val (.ref a2), .val (.int (3 : Int32))] [(.int (3 : Int32)), (.ref a2), (.int (95 : Int32))])) rfl rfl (hb hby d4_20)) ?_
  show own_G p.tables e below _ (s₁.setTop (mkF m 21 #[.val (.ref a1), .val (.ref a2), .val (.int (3 : Int32))] [(.int (95 : Int32)), (.int (95 : Int32))]))
  have hk9 : (95 : Int32) = (95 : Int32) := rfl
  refine own_step (fun t k => XS.icmpYes X0.here hx rfl (pc0 := 21) (pc' := 26) rfl (hb hby d4_21) rfl ((teq hk9).1) (by decide) (by decide) k) ?_
  show own_G p.tables e below _ (s₁.setTop (mkF m 26 #[.val (.ref a1), .val (.ref a2), .val (.int (3 : Int32))] []))
  refine own_step (fun t k => XS.iinc X0.here hx rfl (hb hby d4_26) rfl (l' := #[.val (.ref a1), .val (.ref a2), .val (.int (4 : Int32))]) rfl k) ?_
  show own_G p.tables e below _ (s₁.setTop (mkF m 29 #[.val (.ref a1), .val (.ref a2), .val (.int (4 : Int32))] []))
  refine own_step (fun t k => XS.goto X0.here hx rfl (pc0 := 29) (pc' := 9) rfl (hb hby d4_29) (by decide) (by decide) k) ?_
  show own_G p.tables e below _ (s₁.setTop (mkF m 9 #[.val (.ref a1), .val (.ref a2), .val (.int (4 : Int32))] []))
  refine own_step (fun t k => XS.iloadN X0.here hx rfl (hb hby d4_9) rfl k) ?_
  show own_G p.tables e below _ (s₁.setTop (mkF m 10 #[.val (.ref a1), .val (.ref a2), .val (.int (4 : Int32))] [(.int (4 : Int32))]))
  refine own_step (fun t k => XS.aloadN X0.here hx rfl (hb hby d4_10) rfl rfl k) ?_
  show own_G p.tables e below _ (s₁.setTop (mkF m 11 #[.val (.ref a1), .val (.ref a2), .val (.int (4 : Int32))] [(.ref a1), (.int (4 : Int32))]))
  refine own_step (own_lenI X0 hx hZ e0 fp0 (g := (mkF m 11 #[.val (.ref a1), .val (.ref a2), .val (.int (4 : Int32))] [(.ref a1), (.int (4 : Int32))])) rfl rfl (hb hby d4_11)) ?_
  show own_G p.tables e below _ (s₁.setTop (mkF m 12 #[.val (.ref a1), .val (.ref a2), .val (.int (4 : Int32))] [(.int (7 : Int32)), (.int (4 : Int32))]))
  have hk10 : (4 : Int32) < (7 : Int32) := (by decide)
  refine own_step (fun t k => XS.icmpNo X0.here hx rfl (hb hby d4_12) rfl ((tlt hk10).2.1) k) ?_
  clear hk1 hk10 hk2 hk3 hk4 hk5 hk6 hk7 hk8 hk9
  show own_G p.tables e below _ (s₁.setTop (mkF m 15 #[.val (.ref a1), .val (.ref a2), .val (.int (4 : Int32))] []))
  refine own_step (fun t k => XS.aloadN X0.here hx rfl (hb hby d4_15) rfl rfl k) ?_
  show own_G p.tables e below _ (s₁.setTop (mkF m 16 #[.val (.ref a1), .val (.ref a2), .val (.int (4 : Int32))] [(.ref a1)]))
  refine own_step (fun t k => XS.iloadN X0.here hx rfl (hb hby d4_16) rfl k) ?_
  show own_G p.tables e below _ (s₁.setTop (mkF m 17 #[.val (.ref a1), .val (.ref a2), .val (.int (4 : Int32))] [(.int (4 : Int32)), (.ref a1)]))
  refine own_step (own_baload X0 hx hZ e0 fp0 (own_inb (by decide) (Nat.le_of_ble_eq_true rfl)) (g := (mkF m 17 #[.val (.ref a1), .val (.ref a2), .val (.int (4 : Int32))] [(.int (4 : Int32)), (.ref a1)])) rfl rfl (hb hby d4_17)) ?_
  show own_G p.tables e below _ (s₁.setTop (mkF m 18 #[.val (.ref a1), .val (.ref a2), .val (.int (4 : Int32))] [(.int (115 : Int32))]))
  refine own_step (fun t k => XS.aloadN X0.here hx rfl (hb hby d4_18) rfl rfl k) ?_
  show own_G p.tables e below _ (s₁.setTop (mkF m 19 #[.val (.ref a1), .val (.ref a2), .val (.int (4 : Int32))] [(.ref a2), (.int (115 : Int32))]))
  refine own_step (fun t k => XS.iloadN X0.here hx rfl (hb hby d4_19) rfl k) ?_
  show own_G p.tables e below _ (s₁.setTop (mkF m 20 #[.val (.ref a1), .val (.ref a2), .val (.int (4 : Int32))] [(.int (4 : Int32)), (.ref a2), (.int (115 : Int32))]))
  refine own_step (own_baload X0 hx hZ e0 fp1 (own_inb (by decide) (Nat.le_of_ble_eq_true rfl)) (g := (mkF m 20 #[.val (.ref a1), .val (.ref a2), .val (.int (4 : Int32))] [(.int (4 : Int32)), (.ref a2), (.int (115 : Int32))])) rfl rfl (hb hby d4_20)) ?_
  show own_G p.tables e below _ (s₁.setTop (mkF m 21 #[.val (.ref a1), .val (.ref a2), .val (.int (4 : Int32))] [(.int (115 : Int32)), (.int (115 : Int32))]))
  have hk11 : (115 : Int32) = (115 : Int32) := rfl
  refine own_step (fun t k => XS.icmpYes X0.here hx rfl (pc0 := 21) (pc' := 26) rfl (hb hby d4_21) rfl ((teq hk11).1) (by decide) (by decide) k) ?_
  show own_G p.tables e below _ (s₁.setTop (mkF m 26 #[.val (.ref a1), .val (.ref a2), .val (.int (4 : Int32))] []))
  refine own_step (fun t k => XS.iinc X0.here hx rfl (hb hby d4_26) rfl (l' := #[.val (.ref a1), .val (.ref a2), .val (.int (5 : Int32))]) rfl k) ?_
  show own_G p.tables e below _ (s₁.setTop (mkF m 29 #[.val (.ref a1), .val (.ref a2), .val (.int (5 : Int32))] []))
  refine own_step (fun t k => XS.goto X0.here hx rfl (pc0 := 29) (pc' := 9) rfl (hb hby d4_29) (by decide) (by decide) k) ?_
  show own_G p.tables e below _ (s₁.setTop (mkF m 9 #[.val (.ref a1), .val (.ref a2), .val (.int (5 : Int32))] []))
  refine own_step (fun t k => XS.iloadN X0.here hx rfl (hb hby d4_9) rfl k) ?_
  show own_G p.tables e below _ (s₁.setTop (mkF m 10 #[.val (.ref a1), .val (.ref a2), .val (.int (5 : Int32))] [(.int (5 : Int32))]))
  refine own_step (fun t k => XS.aloadN X0.here hx rfl (hb hby d4_10) rfl rfl k) ?_
  show own_G p.tables e below _ (s₁.setTop (mkF m 11 #[.val (.ref a1), .val (.ref a2), .val (.int (5 : Int32))] [(.ref a1), (.int (5 : Int32))]))
  refine own_step (own_lenI X0 hx hZ e0 fp0 (g := (mkF m 11 #[.val (.ref a1), .val (.ref a2), .val (.int (5 : Int32))] [(.ref a1), (.int (5 : Int32))])) rfl rfl (hb hby d4_11)) ?_
  show own_G p.tables e below _ (s₁.setTop (mkF m 12 #[.val (.ref a1), .val (.ref a2), .val (.int (5 : Int32))] [(.int (7 : Int32)), (.int (5 : Int32))]))
  have hk12 : (5 : Int32) < (7 : Int32) := (by decide)
  refine own_step (fun t k => XS.icmpNo X0.here hx rfl (hb hby d4_12) rfl ((tlt hk12).2.1) k) ?_
  show own_G p.tables e below _ (s₁.setTop (mkF m 15 #[.val (.ref a1), .val (.ref a2), .val (.int (5 : Int32))] []))
  refine own_step (fun t k => XS.aloadN X0.here hx rfl (hb hby d4_15) rfl rfl k) ?_
  show own_G p.tables e below _ (s₁.setTop (mkF m 16 #[.val (.ref a1), .val (.ref a2), .val (.int (5 : Int32))] [(.ref a1)]))
  refine own_step (fun t k => XS.iloadN X0.here hx rfl (hb hby d4_16) rfl k) ?_
  show own_G p.tables e below _ (s₁.setTop (mkF m 17 #[.val (.ref a1), .val (.ref a2), .val (.int (5 : Int32))] [(.int (5 : Int32)), (.ref a1)]))
  refine own_step (own_baload X0 hx hZ e0 fp0 (own_inb (by decide) (Nat.le_of_ble_eq_true rfl)) (g := (mkF m 17 #[.val (.ref a1), .val (.ref a2), .val (.int (5 : Int32))] [(.int (5 : Int32)), (.ref a1)])) rfl rfl (hb hby d4_17)) ?_
  show own_G p.tables e below _ (s₁.setTop (mkF m 18 #[.val (.ref a1), .val (.ref a2), .val (.int (5 : Int32))] [(.int (116 : Int32))]))
  refine own_step (fun t k => XS.aloadN X0.here hx rfl (hb hby d4_18) rfl rfl k) ?_
  show own_G p.tables e below _ (s₁.setTop (mkF m 19 #[.val (.ref a1), .val (.ref a2), .val (.int (5 : Int32))] [(.ref a2), (.int (116 : Int32))]))
  refine own_step (fun t k => XS.iloadN X0.here hx rfl (hb hby d4_19) rfl k) ?_
  show own_G p.tables e below _ (s₁.setTop (mkF m 20 #[.val (.ref a1), .val (.ref a2), .val (.int (5 : Int32))] [(.int (5 : Int32)), (.ref a2), (.int (116 : Int32))]))
  refine own_step (own_baload X0 hx hZ e0 fp1 (own_inb (by decide) (Nat.le_of_ble_eq_true rfl)) (g := (mkF m 20 #[.val (.ref a1), .val (.ref a2), .val (.int (5 : Int32))] [(.int (5 : Int32)), (.ref a2), (.int (116 : Int32))])) rfl rfl (hb hby d4_20)) ?_
  show own_G p.tables e below _ (s₁.setTop (mkF m 21 #[.val (.ref a1), .val (.ref a2), .val (.int (5 : Int32))] [(.int (116 : Int32)), (.int (116 : Int32))]))
  have hk13 : (116 : Int32) = (116 : Int32) := rfl
  refine own_step (fun t k => XS.icmpYes X0.here hx rfl (pc0 := 21) (pc' := 26) rfl (hb hby d4_21) rfl ((teq hk13).1) (by decide) (by decide) k) ?_
  show own_G p.tables e below _ (s₁.setTop (mkF m 26 #[.val (.ref a1), .val (.ref a2), .val (.int (5 : Int32))] []))
  refine own_step (fun t k => XS.iinc X0.here hx rfl (hb hby d4_26) rfl (l' := #[.val (.ref a1), .val (.ref a2), .val (.int (6 : Int32))]) rfl k) ?_
  show own_G p.tables e below _ (s₁.setTop (mkF m 29 #[.val (.ref a1), .val (.ref a2), .val (.int (6 : Int32))] []))
  refine own_step (fun t k => XS.goto X0.here hx rfl (pc0 := 29) (pc' := 9) rfl (hb hby d4_29) (by decide) (by decide) k) ?_
  show own_G p.tables e below _ (s₁.setTop (mkF m 9 #[.val (.ref a1), .val (.ref a2), .val (.int (6 : Int32))] []))
  refine own_step (fun t k => XS.iloadN X0.here hx rfl (hb hby d4_9) rfl k) ?_
  show own_G p.tables e below _ (s₁.setTop (mkF m 10 #[.val (.ref a1), .val (.ref a2), .val (.int (6 : Int32))] [(.int (6 : Int32))]))
  refine own_step (fun t k => XS.aloadN X0.here hx rfl (hb hby d4_10) rfl rfl k) ?_
  show own_G p.tables e below _ (s₁.setTop (mkF m 11 #[.val (.ref a1), .val (.ref a2), .val (.int (6 : Int32))] [(.ref a1), (.int (6 : Int32))]))
  refine own_step (own_lenI X0 hx hZ e0 fp0 (g := (mkF m 11 #[.val (.ref a1), .val (.ref a2), .val (.int (6 : Int32))] [(.ref a1), (.int (6 : Int32))])) rfl rfl (hb hby d4_11)) ?_
  show own_G p.tables e below _ (s₁.setTop (mkF m 12 #[.val (.ref a1), .val (.ref a2), .val (.int (6 : Int32))] [(.int (7 : Int32)), (.int (6 : Int32))]))
  have hk14 : (6 : Int32) < (7 : Int32) := (by decide)
  refine own_step (fun t k => XS.icmpNo X0.here hx rfl (hb hby d4_12) rfl ((tlt hk14).2.1) k) ?_
  show own_G p.tables e below _ (s₁.setTop (mkF m 15 #[.val (.ref a1), .val (.ref a2), .val (.int (6 : Int32))] []))
  refine own_step (fun t k => XS.aloadN X0.here hx rfl (hb hby d4_15) rfl rfl k) ?_
  show own_G p.tables e below _ (s₁.setTop (mkF m 16 #[.val (.ref a1), .val (.ref a2), .val (.int (6 : Int32))] [(.ref a1)]))
  refine own_step (fun t k => XS.iloadN X0.here hx rfl (hb hby d4_16) rfl k) ?_
  show own_G p.tables e below _ (s₁.setTop (mkF m 17 #[.val (.ref a1), .val (.ref a2), .val (.int (6 : Int32))] [(.int (6 : Int32)), (.ref a1)]))
  refine own_step (own_baload X0 hx hZ e0 fp0 (own_inb (by decide) (Nat.le_of_ble_eq_true rfl)) (g := (mkF m 17 #[.val (.ref a1), .val (.ref a2), .val (.int (6 : Int32))] [(.int (6 : Int32)), (.ref a1)])) rfl rfl (hb hby d4_17)) ?_
  show own_G p.tables e below _ (s₁.setTop (mkF m 18 #[.val (.ref a1), .val (.ref a2), .val (.int (6 : Int32))] [(.int (115 : Int32))]))
  refine own_step (fun t k => XS.aloadN X0.here hx rfl (hb hby d4_18) rfl rfl k) ?_
  show own_G p.tables e below _ (s₁.setTop (mkF m 19 #[.val (.ref a1), .val (.ref a2), .val (.int (6 : Int32))] [(.ref a2), (.int (115 : Int32))]))
  refine own_step (fun t k => XS.iloadN X0.here hx rfl (hb hby d4_19) rfl k) ?_
  show own_G p.tables e below _ (s₁.setTop (mkF m 20 #[.val (.ref a1), .val (.ref a2), .val (.int (6 : Int32))] [(.int (6 : Int32)), (.ref a2), (.int (115 : Int32))]))
  refine own_step (own_baload X0 hx hZ e0 fp1 (own_inb (by decide) (Nat.le_of_ble_eq_true rfl)) (g := (mkF m 20 #[.val (.ref a1), .val (.ref a2), .val (.int (6 : Int32))] [(.int (6 : Int32)), (.ref a2), (.int (115 : Int32))])) rfl rfl (hb hby d4_20)) ?_
  show own_G p.tables e below _ (s₁.setTop (mkF m 21 #[.val (.ref a1), .val (.ref a2), .val (.int (6 : Int32))] [(.int (115 : Int32)), (.int (115 : Int32))]))
  have hk15 : (115 : Int32) = (115 : Int32) := rfl
  refine own_step (fun t k => XS.icmpYes X0.here hx rfl (pc0 := 21) (pc' := 26) rfl (hb hby d4_21) rfl ((teq hk15).1) (by decide) (by decide) k) ?_
  show own_G p.tables e below _ (s₁.setTop (mkF m 26 #[.val (.ref a1), .val (.ref a2), .val (.int (6 : Int32))] []))
  refine own_step (fun t k => XS.iinc X0.here hx rfl (hb hby d4_26) rfl (l' := #[.val (.ref a1), .val (.ref a2), .val (.int (7 : Int32))]) rfl k) ?_
  show own_G p.tables e below _ (s₁.setTop (mkF m 29 #[.val (.ref a1), .val (.ref a2), .val (.int (7 : Int32))] []))
  refine own_step (fun t k => XS.goto X0.here hx rfl (pc0 := 29) (pc' := 9) rfl (hb hby d4_29) (by decide) (by decide) k) ?_
  show own_G p.tables e below _ (s₁.setTop (mkF m 9 #[.val (.ref a1), .val (.ref a2), .val (.int (7 : Int32))] []))
  refine own_step (fun t k => XS.iloadN X0.here hx rfl (hb hby d4_9) rfl k) ?_
  show own_G p.tables e below _ (s₁.setTop (mkF m 10 #[.val (.ref a1), .val (.ref a2), .val (.int (7 : Int32))] [(.int (7 : Int32))]))
  refine own_step (fun t k => XS.aloadN X0.here hx rfl (hb hby d4_10) rfl rfl k) ?_
  show own_G p.tables e below _ (s₁.setTop (mkF m 11 #[.val (.ref a1), .val (.ref a2), .val (.int (7 : Int32))] [(.ref a1), (.int (7 : Int32))]))
  refine own_step (own_lenI X0 hx hZ e0 fp0 (g := (mkF m 11 #[.val (.ref a1), .val (.ref a2), .val (.int (7 : Int32))] [(.ref a1), (.int (7 : Int32))])) rfl rfl (hb hby d4_11)) ?_
  show own_G p.tables e below _ (s₁.setTop (mkF m 12 #[.val (.ref a1), .val (.ref a2), .val (.int (7 : Int32))] [(.int (7 : Int32)), (.int (7 : Int32))]))
  have hk16 : ¬ ((7 : Int32) < (7 : Int32)) := (by decide)
  refine own_step (fun t k => XS.icmpYes X0.here hx rfl (pc0 := 12) (pc' := 32) rfl (hb hby d4_12) rfl ((flt hk16).2.1) (by decide) (by decide) k) ?_
  show own_G p.tables e below _ (s₁.setTop (mkF m 32 #[.val (.ref a1), .val (.ref a2), .val (.int (7 : Int32))] []))
  refine own_step (fun t k => XS.iconst X0.here hx rfl (hb hby d4_32) k) ?_
  show own_G p.tables e below _ (s₁.setTop (mkF m 33 #[.val (.ref a1), .val (.ref a2), .val (.int (7 : Int32))] [(.int (1 : Int32))]))
  obtain ⟨fs, hr, hrun, hended, hW, hsame⟩ := X0.leave (v := some (.int (1 : Int32))) (fun h => by rw [Bd.returns] at h; cases h)
  refine own_done (retN X0 hx (t := .boolean) Bd.returns (by simp) (hb hby d4_33) hr) hrun hended ⟨_, _, rfl, ?_, ⟨_, rfl⟩, hW, hsame.mono (by decide) (by decide)⟩
  show Q4_x0 Z a1 a2 h0 n0 _ s₁.heap _
  rw [e0]
  exact ⟨congrArg (fun z => some (Value.int z)) (show (1 : Int32) = (1 : Int32) from rfl), N0, rfl⟩
theorem d3_0 : decode jdk_42_method_66_code 0 = .ok (.aload_n 0, 1) := by decide +kernel
theorem d3_1 : decode jdk_42_method_66_code 1 = .ok (.aload_n 1, 1) := by decide +kernel
theorem d3_2 : decode jdk_42_method_66_code 2 = .ok (.if_acmp .ne 5, 3) := by decide +kernel
theorem d3_5 : decode jdk_42_method_66_code 5 = .ok (.iconst 1, 1) := by decide +kernel
theorem d3_6 : decode jdk_42_method_66_code 6 = .ok (.ireturn, 1) := by decide +kernel
theorem d3_7 : decode jdk_42_method_66_code 7 = .ok (.aload_n 1, 1) := by decide +kernel
theorem d3_8 : decode jdk_42_method_66_code 8 = .ok (.instanceof 10, 3) := by decide +kernel
theorem d3_11 : decode jdk_42_method_66_code 11 = .ok (.ifCond .eq 43, 3) := by decide +kernel
theorem d3_14 : decode jdk_42_method_66_code 14 = .ok (.aload_n 1, 1) := by decide +kernel
theorem d3_15 : decode jdk_42_method_66_code 15 = .ok (.checkcast 10, 3) := by decide +kernel
theorem d3_18 : decode jdk_42_method_66_code 18 = .ok (.astore_n 2, 1) := by decide +kernel
theorem d3_19 : decode jdk_42_method_66_code 19 = .ok (.getstatic 38, 3) := by decide +kernel
theorem d3_22 : decode jdk_42_method_66_code 22 = .ok (.ifCond .eq 14, 3) := by decide +kernel
theorem d3_25 : decode jdk_42_method_66_code 25 = .ok (.aload_n 0, 1) := by decide +kernel
theorem d3_26 : decode jdk_42_method_66_code 26 = .ok (.getfield 15, 3) := by decide +kernel
theorem d3_29 : decode jdk_42_method_66_code 29 = .ok (.aload_n 2, 1) := by decide +kernel
theorem d3_30 : decode jdk_42_method_66_code 30 = .ok (.getfield 15, 3) := by decide +kernel
theorem d3_33 : decode jdk_42_method_66_code 33 = .ok (.if_icmp .ne 21, 3) := by decide +kernel
theorem d3_36 : decode jdk_42_method_66_code 36 = .ok (.aload_n 0, 1) := by decide +kernel
theorem d3_37 : decode jdk_42_method_66_code 37 = .ok (.getfield 9, 3) := by decide +kernel
theorem d3_40 : decode jdk_42_method_66_code 40 = .ok (.aload_n 2, 1) := by decide +kernel
theorem d3_41 : decode jdk_42_method_66_code 41 = .ok (.getfield 9, 3) := by decide +kernel
theorem d3_44 : decode jdk_42_method_66_code 44 = .ok (.invokestatic 541, 3) := by decide +kernel
theorem d3_47 : decode jdk_42_method_66_code 47 = .ok (.ifCond .eq 7, 3) := by decide +kernel
theorem d3_50 : decode jdk_42_method_66_code 50 = .ok (.iconst 1, 1) := by decide +kernel
theorem d3_51 : decode jdk_42_method_66_code 51 = .ok (.goto 4, 3) := by decide +kernel
theorem d3_55 : decode jdk_42_method_66_code 55 = .ok (.ireturn, 1) := by decide +kernel
theorem pn_3_x0 : plainName "java/lang/String" = true := by first | (simp [plainName, overriddenIn]; done) | decide +kernel
theorem pd_3_x0_0 : parseMethodDescriptor "([B[B)Z" = some ⟨[(.array .byte), (.array .byte)], some .boolean⟩ := by decide +kernel
theorem ef_3_x0 (m : MethodId) (a1 : Addr) (a2 : Addr) : entryFrame m #[(.ref a1), (.ref a2)] 3 = mkF m 0 #[.val (.ref a1), .val (.ref a2), .unset] [] := by first | (simp [entryFrame, mkF, argsToLocals, Value.category]; done) | rfl
def Q3_x0 (Z : State) (a1 : Addr) (a2 : Addr) (s_COMPACT_STRINGS : Int32) (ba1 : Addr) (ba2 : Addr) (h0 : Heap) (n0 : Nat) (v : Option Value) (h : Heap) (L : List Loc) : Prop := v = some (.int (1 : Int32)) ∧ Fr n0 L ∧ h = h0
set_option maxRecDepth 65536 in
set_option maxHeartbeats 40000000 in
theorem rm3_x0 (l : Launch) (Z : State) (a0 : Array Value) (hw : ∀ d ∈ tables_1, d.before a0 Z = true) (ws : List Jvm.Cond) (a1 : Addr) (a2 : Addr) (s_COMPACT_STRINGS : Int32) (ba1 : Addr) (ba2 : Addr) (h0 : Heap) (n0 : Nat) (Z0 : n0 ≤ h0.size) (fp0 : Sta Z h0 "java/lang/String" "COMPACT_STRINGS" "Z" (.int s_COMPACT_STRINGS)) (fp1 : Exa Z h0 a1 "java/lang/String") (fp2 : Fld Z h0 a1 "java/lang/String" "coder" "B" (.int (0 : Int32))) (fp3 : Fld Z h0 a1 "java/lang/String" "value" "[B" (.ref ba1)) (fp4 : own_Ari Z h0 ba1 .byte [(110 : Int32), (111 : Int32), (110 : Int32), (95 : Int32), (115 : Int32), (116 : Int32), (115 : Int32)]) (fp5 : Exa Z h0 a2 "java/lang/String") (fp6 : Fld Z h0 a2 "java/lang/String" "coder" "B" (.int (0 : Int32))) (fp7 : Fld Z h0 a2 "java/lang/String" "value" "[B" (.ref ba2)) (fp8 : own_Ari Z h0 ba2 .byte [(110 : Int32), (111 : Int32), (110 : Int32), (95 : Int32), (115 : Int32), (116 : Int32), (115 : Int32)]) (hcs : ¬ (s_COMPACT_STRINGS = (0 : Int32))) :
    MetFree l (⟨"java/lang/String", "equals", "(Ljava/lang/Object;)Z"⟩ : MethodName) (head1 (Jvm.Cond.code (⟨"java/lang/String", "equals", "(Ljava/lang/Object;)Z"⟩ : MethodName) jdk_42_method_66_code 3 (some .boolean) :: ws) ({ frames := 1, cells := 0, slots := 0, locals := 14 } : Room)) (fun a U => a = #[(.ref a1), (.ref a2)] ∧ Z.Warmed39 U.vm ∧ U.heap = h0) (fun _ _ _ _ _ => True) (fun _ U o U' => ∃ v L, o = .returned v ∧ Q3_x0 Z a1 a2 s_COMPACT_STRINGS ba1 ba2 h0 n0 v U'.heap L ∧ FrameEnd U o U' L ({ frames := 1, cells := 0, slots := 0, locals := 14 } : Room).cells ({ frames := 1, cells := 0, slots := 0, locals := 14 } : Room).slots) := by
  refine MetFree.of_bodySF (plainFor_of_name pn_3_x0) hisR ?_
  intro p e s m args below meth c s₁ Bd hml0 hP hK
  obtain ⟨rfl, hZ, hh⟩ := hP
  have hx := Bd.exec
  have hby := Bd.bytes
  have hml : c.maxLocals = 3 := hml0
  have hown : s.vm.findClass "java/lang/String" = some m.cls := findClass_of_methodNamed Bd.named
  have hnm := (name_of_methodNamed Bd.named Bd.method).1
  have X0 : Stand p l e ({ frames := 1, cells := 0, slots := 0, locals := 14 } : Room) s m #[(.ref a1), (.ref a2)] below meth c s₁ [] 0 0 := Stand.of_body Bd
  have e0 : s₁.heap = h0 := by rw [← hh, Bd.state]; rfl
  have N0 := Fr.nil n0
  refine own_start (fun t k => castTop (ef_3_x0 m a1 a2) k) ?_
  show own_G p.tables e below _ (s₁.setTop (mkF m 0 #[.val (.ref a1), .val (.ref a2), .unset] []))
  refine own_step (fun t k => XS.aloadN X0.here hx rfl (hb hby d3_0) rfl rfl k) ?_
  show own_G p.tables e below _ (s₁.setTop (mkF m 1 #[.val (.ref a1), .val (.ref a2), .unset] [(.ref a1)]))
  refine own_step (fun t k => XS.aloadN X0.here hx rfl (hb hby d3_1) rfl rfl k) ?_
  show own_G p.tables e below _ (s₁.setTop (mkF m 2 #[.val (.ref a1), .val (.ref a2), .unset] [(.ref a2), (.ref a1)]))
  by_cases ha1 : a1 = a2
  · skip
    refine own_step (fun t k => Jvm.RoadKit.acmp (g := (mkF m 2 #[.val (.ref a1), .val (.ref a2), .unset] [(.ref a2), (.ref a1)])) X0 hx rfl rfl rfl (pc0 := 2) (pc' := 5) (same := true) rfl (hb hby d3_2) rfl (decide_eq_true (congrArg Value.ref ha1)) (by decide) (by decide) k) ?_
    show own_G p.tables e below _ (s₁.setTop (mkF m 5 #[.val (.ref a1), .val (.ref a2), .unset] []))
    refine own_step (fun t k => XS.iconst X0.here hx rfl (hb hby d3_5) k) ?_
    show own_G p.tables e below _ (s₁.setTop (mkF m 6 #[.val (.ref a1), .val (.ref a2), .unset] [(.int (1 : Int32))]))
    obtain ⟨fs, hr, hrun, hended, hW, hsame⟩ := X0.leave (v := some (.int (1 : Int32))) (fun h => by rw [Bd.returns] at h; cases h)
    refine own_done (retN X0 hx (t := .boolean) Bd.returns (by simp) (hb hby d3_6) hr) hrun hended ⟨_, _, rfl, ?_, ⟨_, rfl⟩, hW, hsame.mono (by decide) (by decide)⟩
    show Q3_x0 Z a1 a2 s_COMPACT_STRINGS ba1 ba2 h0 n0 _ s₁.heap _
    rw [e0]
    exact ⟨congrArg (fun z => some (Value.int z)) (show (1 : Int32) = (1 : Int32) from rfl), N0, rfl⟩
  · skip
    refine own_step (fun t k => Jvm.RoadKit.acmp (g := (mkF m 2 #[.val (.ref a1), .val (.ref a2), .unset] [(.ref a2), (.ref a1)])) X0 hx rfl rfl rfl (pc0 := 2) (pc' := 7) (same := false) rfl (hb hby d3_2) rfl (decide_eq_false fun q => ha1 (Value.ref.inj q)) (by decide) (by decide) k) ?_
    show own_G p.tables e below _ (s₁.setTop (mkF m 7 #[.val (.ref a1), .val (.ref a2), .unset] []))
    refine own_step (fun t k => XS.aloadN X0.here hx rfl (hb hby d3_7) rfl rfl k) ?_
    show own_G p.tables e below _ (s₁.setTop (mkF m 8 #[.val (.ref a1), .val (.ref a2), .unset] [(.ref a2)]))
    obtain ⟨T2, X2, e2, st2⟩ := instY X0 hx hZ hown (hw _ (List.mem_of_getElem? (i := 27) rfl)) e0 (Ins.self fp5) (g := (mkF m 8 #[.val (.ref a1), .val (.ref a2), .unset] [(.ref a2)])) rfl rfl (hb hby d3_8)
    refine own_step st2 ?_
    show own_G p.tables e below _ (T2.setTop (mkF m 11 #[.val (.ref a1), .val (.ref a2), .unset] [(.int (1 : Int32))]))
    have hk3 : ¬ ((1 : Int32) = (0 : Int32)) := (by decide)
    refine own_step (fun t k => XS.ifNo X2.here hx rfl (hb hby d3_11) rfl ((if0 _ _).trans (feq hk3).1) k) ?_
    show own_G p.tables e below _ (T2.setTop (mkF m 14 #[.val (.ref a1), .val (.ref a2), .unset] []))
    refine own_step (fun t k => XS.aloadN X2.here hx rfl (hb hby d3_14) rfl rfl k) ?_
    show own_G p.tables e below _ (T2.setTop (mkF m 15 #[.val (.ref a1), .val (.ref a2), .unset] [(.ref a2)]))
    obtain ⟨T4, X4, e4, st4⟩ := castY X2 hx hZ hown (hw _ (List.mem_of_getElem? (i := 27) rfl)) e2 (Ins.self fp5) (g := (mkF m 15 #[.val (.ref a1), .val (.ref a2), .unset] [(.ref a2)])) rfl rfl (hb hby d3_15)
    refine own_step st4 ?_
    show own_G p.tables e below _ (T4.setTop (mkF m 18 #[.val (.ref a1), .val (.ref a2), .unset] [(.ref a2)]))
    refine own_step (fun t k => XS.astoreN X4.here hx rfl (hb hby d3_18) rfl rfl (l' := #[.val (.ref a1), .val (.ref a2), .val (.ref a2)]) rfl k) ?_
    show own_G p.tables e below _ (T4.setTop (mkF m 19 #[.val (.ref a1), .val (.ref a2), .val (.ref a2)] []))
    obtain ⟨T5, X5, e5, st5⟩ := getS2 X4 hx hZ hown (host := "") (Or.inl (hw _ (List.mem_of_getElem? (i := 29) rfl))) Via.refl e4 fp0 (g := (mkF m 19 #[.val (.ref a1), .val (.ref a2), .val (.ref a2)] [])) rfl (hb hby d3_19)
    refine own_step st5 ?_
    show own_G p.tables e below _ (T5.setTop (mkF m 22 #[.val (.ref a1), .val (.ref a2), .val (.ref a2)] [(.int s_COMPACT_STRINGS)]))
    have hk6 : ¬ (s_COMPACT_STRINGS = (0 : Int32)) := hcs
    refine own_step (fun t k => XS.ifNo X5.here hx rfl (hb hby d3_22) rfl ((if0 _ _).trans (feq hk6).1) k) ?_
    show own_G p.tables e below _ (T5.setTop (mkF m 25 #[.val (.ref a1), .val (.ref a2), .val (.ref a2)] []))
    refine own_step (fun t k => XS.aloadN X5.here hx rfl (hb hby d3_25) rfl rfl k) ?_
    show own_G p.tables e below _ (T5.setTop (mkF m 26 #[.val (.ref a1), .val (.ref a2), .val (.ref a2)] [(.ref a1)]))
    obtain ⟨T7, X7, e7, st7⟩ := getF X5 hx hZ hown (host := "") (Or.inl (hw _ (List.mem_of_getElem? (i := 30) rfl))) Via.refl e5 fp2 (g := (mkF m 26 #[.val (.ref a1), .val (.ref a2), .val (.ref a2)] [(.ref a1)])) rfl rfl (hb hby d3_26)
    refine own_step st7 ?_
    clear X2 X4 X5 e2 e4 e5 hk3 hk6 st2 st4 st5 st7
    show own_G p.tables e below _ (T7.setTop (mkF m 29 #[.val (.ref a1), .val (.ref a2), .val (.ref a2)] [(.int (0 : Int32))]))
    refine own_step (fun t k => XS.aloadN X7.here hx rfl (hb hby d3_29) rfl rfl k) ?_
    show own_G p.tables e below _ (T7.setTop (mkF m 30 #[.val (.ref a1), .val (.ref a2), .val (.ref a2)] [(.ref a2), (.int (0 : Int32))]))
    obtain ⟨T8, X8, e8, st8⟩ := getF X7 hx hZ hown (host := "") (Or.inl (hw _ (List.mem_of_getElem? (i := 30) rfl))) Via.refl e7 fp6 (g := (mkF m 30 #[.val (.ref a1), .val (.ref a2), .val (.ref a2)] [(.ref a2), (.int (0 : Int32))])) rfl rfl (hb hby d3_30)
    refine own_step st8 ?_
    show own_G p.tables e below _ (T8.setTop (mkF m 33 #[.val (.ref a1), .val (.ref a2), .val (.ref a2)] [(.int (0 : Int32)), (.int (0 : Int32))]))
    have hk9 : (0 : Int32) = (0 : Int32) := rfl
    refine own_step (fun t k => XS.icmpNo X8.here hx rfl (hb hby d3_33) rfl ((teq hk9).2) k) ?_
    show own_G p.tables e below _ (T8.setTop (mkF m 36 #[.val (.ref a1), .val (.ref a2), .val (.ref a2)] []))
    refine own_step (fun t k => XS.aloadN X8.here hx rfl (hb hby d3_36) rfl rfl k) ?_
    show own_G p.tables e below _ (T8.setTop (mkF m 37 #[.val (.ref a1), .val (.ref a2), .val (.ref a2)] [(.ref a1)]))
    obtain ⟨T10, X10, e10, st10⟩ := getF X8 hx hZ hown (host := "") (Or.inl (hw _ (List.mem_of_getElem? (i := 31) rfl))) Via.refl e8 fp3 (g := (mkF m 37 #[.val (.ref a1), .val (.ref a2), .val (.ref a2)] [(.ref a1)])) rfl rfl (hb hby d3_37)
    refine own_step st10 ?_
    show own_G p.tables e below _ (T10.setTop (mkF m 40 #[.val (.ref a1), .val (.ref a2), .val (.ref a2)] [(.ref ba1)]))
    refine own_step (fun t k => XS.aloadN X10.here hx rfl (hb hby d3_40) rfl rfl k) ?_
    show own_G p.tables e below _ (T10.setTop (mkF m 41 #[.val (.ref a1), .val (.ref a2), .val (.ref a2)] [(.ref a2), (.ref ba1)]))
    obtain ⟨T11, X11, e11, st11⟩ := getF X10 hx hZ hown (host := "") (Or.inl (hw _ (List.mem_of_getElem? (i := 31) rfl))) Via.refl e10 fp7 (g := (mkF m 41 #[.val (.ref a1), .val (.ref a2), .val (.ref a2)] [(.ref a2), (.ref ba1)])) rfl rfl (hb hby d3_41)
    refine own_step st11 ?_
    clear X10 X7 X8 e10 e7 e8 hk9 st10 st11 st8
    show own_G p.tables e below _ (T11.setTop (mkF m 44 #[.val (.ref a1), .val (.ref a2), .val (.ref a2)] [(.ref ba2), (.ref ba1)]))
    obtain ⟨_, _, ⟨T12, L12, k12, n12⟩, -, X12, ⟨Lc12, hQ12, l12, y12, z12⟩, st12⟩ := Jvm.LawKit.callS X11 hx (y := (⟨"java/lang/StringLatin1", "equals", "([B[B)Z"⟩ : MethodName)) hown (mvT hZ (hw _ (List.mem_of_getElem? (i := 32) rfl))) (mvT hZ (hw _ (List.mem_of_getElem? (i := 33) rfl))) (mvT hZ (hw _ (List.mem_of_getElem? (i := 34) rfl))) (mvT hZ (hw _ (List.mem_of_getElem? (i := 35) rfl))) (by decide) (backOf (W := 0) (rm4_x0 l Z a0 hw [] ba1 ba2 h0 n0 (Nat.le_trans Z0 (Keep.refl h0 []).1) fp4 fp8) hZ (hw _ (List.mem_of_getElem? (i := 35) rfl)) (hw _ (List.mem_of_getElem? (i := 34) rfl)) (by decide) (by decide)) (g := (mkF m 44 #[.val (.ref a1), .val (.ref a2), .val (.ref a2)] [(.ref ba2), (.ref ba1)])) rfl (by rw [hml]; rfl) (argsL := [(.ref ba1), (.ref ba2)]) (rest := []) (lenOf pd_3_x0_0 rfl) rfl (by show 2 * 0 + _ ≤ _; exact Nat.le_of_eq rfl) (hb hby d3_44) (fun _ _ => ⟨rfl, e11, (by decide : 0 + 0 ≤ _), (by decide : 0 + 0 ≤ _)⟩)
    dsimp only [Pt.U, Pt.locs, Pt.cells, Pt.slots] at X12 l12 y12 z12 st12 hQ12
    subst y12 z12
    obtain ⟨rfl, N12q, e12⟩ := hQ12
    have N12 : Fr n0 L12 := by rw [l12]; exact Fr.app N0 N12q
    refine own_step st12 ?_
    show own_G p.tables e below _ (T12.setTop (mkF m 47 #[.val (.ref a1), .val (.ref a2), .val (.ref a2)] [(.int (1 : Int32))]))
    have hk13 : ¬ ((1 : Int32) = (0 : Int32)) := (by decide)
    refine own_step (fun t k => XS.ifNo X12.here hx rfl (hb hby d3_47) rfl ((if0 _ _).trans (feq hk13).1) k) ?_
    show own_G p.tables e below _ (T12.setTop (mkF m 50 #[.val (.ref a1), .val (.ref a2), .val (.ref a2)] []))
    refine own_step (fun t k => XS.iconst X12.here hx rfl (hb hby d3_50) k) ?_
    show own_G p.tables e below _ (T12.setTop (mkF m 51 #[.val (.ref a1), .val (.ref a2), .val (.ref a2)] [(.int (1 : Int32))]))
    refine own_step (fun t k => XS.goto X12.here hx rfl (pc0 := 51) (pc' := 55) rfl (hb hby d3_51) (by decide) (by decide) k) ?_
    show own_G p.tables e below _ (T12.setTop (mkF m 55 #[.val (.ref a1), .val (.ref a2), .val (.ref a2)] [(.int (1 : Int32))]))
    obtain ⟨fs, hr, hrun, hended, hW, hsame⟩ := X12.leave (v := some (.int (1 : Int32))) (fun h => by rw [Bd.returns] at h; cases h)
    refine own_done (retN X12 hx (t := .boolean) Bd.returns (by simp) (hb hby d3_55) hr) hrun hended ⟨_, _, rfl, ?_, ⟨_, rfl⟩, hW, hsame.mono (by decide) (by decide)⟩
    show Q3_x0 Z a1 a2 s_COMPACT_STRINGS ba1 ba2 h0 n0 _ T12.heap _
    rw [e12]
    exact ⟨congrArg (fun z => some (Value.int z)) (show (1 : Int32) = (1 : Int32) from rfl), N12, rfl⟩
theorem d5_0 : decode prog_23_method_6_code 0 = .ok (.aload_n 0, 1) := by decide +kernel
theorem d5_1 : decode prog_23_method_6_code 1 = .ok (.getfield 33, 3) := by decide +kernel
theorem d5_4 : decode prog_23_method_6_code 4 = .ok (.areturn, 1) := by decide +kernel
theorem pn_5 : plainName "com/example/prudentia/prudentia/sec/Treatment" = true := by first | (simp [plainName, overriddenIn]; done) | decide +kernel
theorem ef_5 (m : MethodId) (a1 : Addr) : entryFrame m #[(.ref a1)] 1 = mkF m 0 #[.val (.ref a1)] [] := by first | (simp [entryFrame, mkF, argsToLocals, Value.category]; done) | rfl
def Q5 (Z : State) (a1 : Addr) (u_name_a1 : Addr) (h0 : Heap) (n0 : Nat) (v : Option Value) (h : Heap) (L : List Loc) : Prop := v = some (.ref u_name_a1) ∧ Fr n0 L ∧ h = h0
set_option maxRecDepth 65536 in
set_option maxHeartbeats 40000000 in
theorem rm5 (l : Launch) (Z : State) (a0 : Array Value) (hw : ∀ d ∈ tables_1, d.before a0 Z = true) (ws : List Jvm.Cond) (a1 : Addr) (u_name_a1 : Addr) (h0 : Heap) (n0 : Nat) (Z0 : n0 ≤ h0.size) (fp0 : Fld Z h0 a1 "com/example/prudentia/prudentia/sec/Treatment" "name" "Ljava/lang/String;" (.ref u_name_a1)) :
    MetFree l (⟨"com/example/prudentia/prudentia/sec/Treatment", "getName", "()Ljava/lang/String;"⟩ : MethodName) (head1 (Jvm.Cond.code (⟨"com/example/prudentia/prudentia/sec/Treatment", "getName", "()Ljava/lang/String;"⟩ : MethodName) prog_23_method_6_code 1 (some (.object "java/lang/String")) :: ws) ({ frames := 0, cells := 0, slots := 0, locals := 0 } : Room)) (fun a U => a = #[(.ref a1)] ∧ Z.Warmed39 U.vm ∧ U.heap = h0) (fun _ _ _ _ _ => True) (fun _ U o U' => ∃ v L, o = .returned v ∧ Q5 Z a1 u_name_a1 h0 n0 v U'.heap L ∧ FrameEnd U o U' L ({ frames := 0, cells := 0, slots := 0, locals := 0 } : Room).cells ({ frames := 0, cells := 0, slots := 0, locals := 0 } : Room).slots) := by
  refine MetFree.of_bodySF (plainFor_of_name pn_5) hisR ?_
  intro p e s m args below meth c s₁ Bd hml0 hP hK
  obtain ⟨rfl, hZ, hh⟩ := hP
  have hx := Bd.exec
  have hby := Bd.bytes
  have hml : c.maxLocals = 1 := hml0
  have hown : s.vm.findClass "com/example/prudentia/prudentia/sec/Treatment" = some m.cls := findClass_of_methodNamed Bd.named
  have hnm := (name_of_methodNamed Bd.named Bd.method).1
  have X0 : Stand p l e ({ frames := 0, cells := 0, slots := 0, locals := 0 } : Room) s m #[(.ref a1)] below meth c s₁ [] 0 0 := Stand.of_body Bd
  have e0 : s₁.heap = h0 := by rw [← hh, Bd.state]; rfl
  have N0 := Fr.nil n0
  refine own_start (fun t k => castTop (ef_5 m a1) k) ?_
  show own_G p.tables e below _ (s₁.setTop (mkF m 0 #[.val (.ref a1)] []))
  refine own_step (fun t k => XS.aloadN X0.here hx rfl (hb hby d5_0) rfl rfl k) ?_
  show own_G p.tables e below _ (s₁.setTop (mkF m 1 #[.val (.ref a1)] [(.ref a1)]))
  obtain ⟨T1, X1, e1, st1⟩ := getF X0 hx hZ hown (host := "") (Or.inl (hw _ (List.mem_of_getElem? (i := 41) rfl))) Via.refl e0 fp0 (g := (mkF m 1 #[.val (.ref a1)] [(.ref a1)])) rfl rfl (hb hby d5_1)
  refine own_step st1 ?_
  show own_G p.tables e below _ (T1.setTop (mkF m 4 #[.val (.ref a1)] [(.ref u_name_a1)]))
  obtain ⟨fs, hr, hrun, hended, hW, hsame⟩ := X1.leave (v := some (.ref u_name_a1)) (fun h => by rw [Bd.returns] at h; cases h)
  refine own_done (own_retA X1 hx Bd.returns (by decide) rfl (hb hby d5_4) hr) hrun hended ⟨_, _, rfl, ?_, ⟨_, rfl⟩, hW, hsame.mono (by decide) (by decide)⟩
  show Q5 Z a1 u_name_a1 h0 n0 _ T1.heap _
  rw [e1]
  exact ⟨rfl, N0, rfl⟩
theorem pn_4_x1 : plainName "java/lang/StringLatin1" = true := by first | (simp [plainName, overriddenIn]; done) | decide +kernel
theorem ef_4_x1 (m : MethodId) (a1 : Addr) (a2 : Addr) : entryFrame m #[(.ref a1), (.ref a2)] 3 = mkF m 0 #[.val (.ref a1), .val (.ref a2), .unset] [] := by first | (simp [entryFrame, mkF, argsToLocals, Value.category]; done) | rfl
def Q4_x1 (Z : State) (a1 : Addr) (a2 : Addr) (h0 : Heap) (n0 : Nat) (v : Option Value) (h : Heap) (L : List Loc) : Prop := v = some (.int (1 : Int32)) ∧ Fr n0 L ∧ h = h0
set_option maxRecDepth 65536 in
set_option maxHeartbeats 40000000 in
theorem rm4_x1 (l : Launch) (Z : State) (a0 : Array Value) (hw : ∀ d ∈ tables_1, d.before a0 Z = true) (ws : List Jvm.Cond) (a1 : Addr) (a2 : Addr) (h0 : Heap) (n0 : Nat) (Z0 : n0 ≤ h0.size) (fp0 : own_Ari Z h0 a1 .byte [(110 : Int32), (111 : Int32), (116 : Int32), (32 : Int32), (83 : Int32), (84 : Int32), (83 : Int32)]) (fp1 : own_Ari Z h0 a2 .byte [(110 : Int32), (111 : Int32), (116 : Int32), (32 : Int32), (83 : Int32), (84 : Int32), (83 : Int32)]) :
    MetFree l (⟨"java/lang/StringLatin1", "equals", "([B[B)Z"⟩ : MethodName) (head1 (Jvm.Cond.code (⟨"java/lang/StringLatin1", "equals", "([B[B)Z"⟩ : MethodName) jdk_43_method_13_code 3 (some .boolean) :: ws) ({ frames := 0, cells := 0, slots := 0, locals := 0 } : Room)) (fun a U => a = #[(.ref a1), (.ref a2)] ∧ Z.Warmed39 U.vm ∧ U.heap = h0) (fun _ _ _ _ _ => True) (fun _ U o U' => ∃ v L, o = .returned v ∧ Q4_x1 Z a1 a2 h0 n0 v U'.heap L ∧ FrameEnd U o U' L ({ frames := 0, cells := 0, slots := 0, locals := 0 } : Room).cells ({ frames := 0, cells := 0, slots := 0, locals := 0 } : Room).slots) := by
  refine MetFree.of_bodySF (plainFor_of_name pn_4_x1) hisR ?_
  intro p e s m args below meth c s₁ Bd hml0 hP hK
  obtain ⟨rfl, hZ, hh⟩ := hP
  have hx := Bd.exec
  have hby := Bd.bytes
  have hml : c.maxLocals = 3 := hml0
  have hown : s.vm.findClass "java/lang/StringLatin1" = some m.cls := findClass_of_methodNamed Bd.named
  have hnm := (name_of_methodNamed Bd.named Bd.method).1
  have X0 : Stand p l e ({ frames := 0, cells := 0, slots := 0, locals := 0 } : Room) s m #[(.ref a1), (.ref a2)] below meth c s₁ [] 0 0 := Stand.of_body Bd
  have e0 : s₁.heap = h0 := by rw [← hh, Bd.state]; rfl
  have N0 := Fr.nil n0
  refine own_start (fun t k => castTop (ef_4_x1 m a1 a2) k) ?_
  show own_G p.tables e below _ (s₁.setTop (mkF m 0 #[.val (.ref a1), .val (.ref a2), .unset] []))
  refine own_step (fun t k => XS.aloadN X0.here hx rfl (hb hby d4_0) rfl rfl k) ?_
  show own_G p.tables e below _ (s₁.setTop (mkF m 1 #[.val (.ref a1), .val (.ref a2), .unset] [(.ref a1)]))
  refine own_step (own_lenI X0 hx hZ e0 fp0 (g := (mkF m 1 #[.val (.ref a1), .val (.ref a2), .unset] [(.ref a1)])) rfl rfl (hb hby d4_1)) ?_
  show own_G p.tables e below _ (s₁.setTop (mkF m 2 #[.val (.ref a1), .val (.ref a2), .unset] [(.int (7 : Int32))]))
  refine own_step (fun t k => XS.aloadN X0.here hx rfl (hb hby d4_2) rfl rfl k) ?_
  show own_G p.tables e below _ (s₁.setTop (mkF m 3 #[.val (.ref a1), .val (.ref a2), .unset] [(.ref a2), (.int (7 : Int32))]))
  refine own_step (own_lenI X0 hx hZ e0 fp1 (g := (mkF m 3 #[.val (.ref a1), .val (.ref a2), .unset] [(.ref a2), (.int (7 : Int32))])) rfl rfl (hb hby d4_3)) ?_
  show own_G p.tables e below _ (s₁.setTop (mkF m 4 #[.val (.ref a1), .val (.ref a2), .unset] [(.int (7 : Int32)), (.int (7 : Int32))]))
  have hk1 : (7 : Int32) = (7 : Int32) := rfl
  refine own_step (fun t k => XS.icmpNo X0.here hx rfl (hb hby d4_4) rfl ((teq hk1).2) k) ?_
  show own_G p.tables e below _ (s₁.setTop (mkF m 7 #[.val (.ref a1), .val (.ref a2), .unset] []))
  refine own_step (fun t k => XS.iconst X0.here hx rfl (hb hby d4_7) k) ?_
  show own_G p.tables e below _ (s₁.setTop (mkF m 8 #[.val (.ref a1), .val (.ref a2), .unset] [(.int (0 : Int32))]))
  refine own_step (fun t k => XS.istoreN X0.here hx rfl (hb hby d4_8) rfl (l' := #[.val (.ref a1), .val (.ref a2), .val (.int (0 : Int32))]) rfl k) ?_
  show own_G p.tables e below _ (s₁.setTop (mkF m 9 #[.val (.ref a1), .val (.ref a2), .val (.int (0 : Int32))] []))
  refine own_step (fun t k => XS.iloadN X0.here hx rfl (hb hby d4_9) rfl k) ?_
  show own_G p.tables e below _ (s₁.setTop (mkF m 10 #[.val (.ref a1), .val (.ref a2), .val (.int (0 : Int32))] [(.int (0 : Int32))]))
  refine own_step (fun t k => XS.aloadN X0.here hx rfl (hb hby d4_10) rfl rfl k) ?_
  show own_G p.tables e below _ (s₁.setTop (mkF m 11 #[.val (.ref a1), .val (.ref a2), .val (.int (0 : Int32))] [(.ref a1), (.int (0 : Int32))]))
  refine own_step (own_lenI X0 hx hZ e0 fp0 (g := (mkF m 11 #[.val (.ref a1), .val (.ref a2), .val (.int (0 : Int32))] [(.ref a1), (.int (0 : Int32))])) rfl rfl (hb hby d4_11)) ?_
  show own_G p.tables e below _ (s₁.setTop (mkF m 12 #[.val (.ref a1), .val (.ref a2), .val (.int (0 : Int32))] [(.int (7 : Int32)), (.int (0 : Int32))]))
  have hk2 : (0 : Int32) < (7 : Int32) := (by decide)
  refine own_step (fun t k => XS.icmpNo X0.here hx rfl (hb hby d4_12) rfl ((tlt hk2).2.1) k) ?_
  show own_G p.tables e below _ (s₁.setTop (mkF m 15 #[.val (.ref a1), .val (.ref a2), .val (.int (0 : Int32))] []))
  refine own_step (fun t k => XS.aloadN X0.here hx rfl (hb hby d4_15) rfl rfl k) ?_
  show own_G p.tables e below _ (s₁.setTop (mkF m 16 #[.val (.ref a1), .val (.ref a2), .val (.int (0 : Int32))] [(.ref a1)]))
  refine own_step (fun t k => XS.iloadN X0.here hx rfl (hb hby d4_16) rfl k) ?_
  show own_G p.tables e below _ (s₁.setTop (mkF m 17 #[.val (.ref a1), .val (.ref a2), .val (.int (0 : Int32))] [(.int (0 : Int32)), (.ref a1)]))
  refine own_step (own_baload X0 hx hZ e0 fp0 (own_inb (by decide) (Nat.le_of_ble_eq_true rfl)) (g := (mkF m 17 #[.val (.ref a1), .val (.ref a2), .val (.int (0 : Int32))] [(.int (0 : Int32)), (.ref a1)])) rfl rfl (hb hby d4_17)) ?_
  show own_G p.tables e below _ (s₁.setTop (mkF m 18 #[.val (.ref a1), .val (.ref a2), .val (.int (0 : Int32))] [(.int (110 : Int32))]))
  refine own_step (fun t k => XS.aloadN X0.here hx rfl (hb hby d4_18) rfl rfl k) ?_
  show own_G p.tables e below _ (s₁.setTop (mkF m 19 #[.val (.ref a1), .val (.ref a2), .val (.int (0 : Int32))] [(.ref a2), (.int (110 : Int32))]))
  refine own_step (fun t k => XS.iloadN X0.here hx rfl (hb hby d4_19) rfl k) ?_
  show own_G p.tables e below _ (s₁.setTop (mkF m 20 #[.val (.ref a1), .val (.ref a2), .val (.int (0 : Int32))] [(.int (0 : Int32)), (.ref a2), (.int (110 : Int32))]))
  refine own_step (own_baload X0 hx hZ e0 fp1 (own_inb (by decide) (Nat.le_of_ble_eq_true rfl)) (g := (mkF m 20 #[.val (.ref a1), .val (.ref a2), .val (.int (0 : Int32))] [(.int (0 : Int32)), (.ref a2), (.int (110 : Int32))])) rfl rfl (hb hby d4_20)) ?_
  show own_G p.tables e below _ (s₁.setTop (mkF m 21 #[.val (.ref a1), .val (.ref a2), .val (.int (0 : Int32))] [(.int (110 : Int32)), (.int (110 : Int32))]))
  have hk3 : (110 : Int32) = (110 : Int32) := rfl
  refine own_step (fun t k => XS.icmpYes X0.here hx rfl (pc0 := 21) (pc' := 26) rfl (hb hby d4_21) rfl ((teq hk3).1) (by decide) (by decide) k) ?_
  show own_G p.tables e below _ (s₁.setTop (mkF m 26 #[.val (.ref a1), .val (.ref a2), .val (.int (0 : Int32))] []))
  refine own_step (fun t k => XS.iinc X0.here hx rfl (hb hby d4_26) rfl (l' := #[.val (.ref a1), .val (.ref a2), .val (.int (1 : Int32))]) rfl k) ?_
  show own_G p.tables e below _ (s₁.setTop (mkF m 29 #[.val (.ref a1), .val (.ref a2), .val (.int (1 : Int32))] []))
  refine own_step (fun t k => XS.goto X0.here hx rfl (pc0 := 29) (pc' := 9) rfl (hb hby d4_29) (by decide) (by decide) k) ?_
  show own_G p.tables e below _ (s₁.setTop (mkF m 9 #[.val (.ref a1), .val (.ref a2), .val (.int (1 : Int32))] []))
  refine own_step (fun t k => XS.iloadN X0.here hx rfl (hb hby d4_9) rfl k) ?_
  show own_G p.tables e below _ (s₁.setTop (mkF m 10 #[.val (.ref a1), .val (.ref a2), .val (.int (1 : Int32))] [(.int (1 : Int32))]))
  refine own_step (fun t k => XS.aloadN X0.here hx rfl (hb hby d4_10) rfl rfl k) ?_
  show own_G p.tables e below _ (s₁.setTop (mkF m 11 #[.val (.ref a1), .val (.ref a2), .val (.int (1 : Int32))] [(.ref a1), (.int (1 : Int32))]))
  refine own_step (own_lenI X0 hx hZ e0 fp0 (g := (mkF m 11 #[.val (.ref a1), .val (.ref a2), .val (.int (1 : Int32))] [(.ref a1), (.int (1 : Int32))])) rfl rfl (hb hby d4_11)) ?_
  show own_G p.tables e below _ (s₁.setTop (mkF m 12 #[.val (.ref a1), .val (.ref a2), .val (.int (1 : Int32))] [(.int (7 : Int32)), (.int (1 : Int32))]))
  have hk4 : (1 : Int32) < (7 : Int32) := (by decide)
  refine own_step (fun t k => XS.icmpNo X0.here hx rfl (hb hby d4_12) rfl ((tlt hk4).2.1) k) ?_
  show own_G p.tables e below _ (s₁.setTop (mkF m 15 #[.val (.ref a1), .val (.ref a2), .val (.int (1 : Int32))] []))
  refine own_step (fun t k => XS.aloadN X0.here hx rfl (hb hby d4_15) rfl rfl k) ?_
  show own_G p.tables e below _ (s₁.setTop (mkF m 16 #[.val (.ref a1), .val (.ref a2), .val (.int (1 : Int32))] [(.ref a1)]))
  refine own_step (fun t k => XS.iloadN X0.here hx rfl (hb hby d4_16) rfl k) ?_
  show own_G p.tables e below _ (s₁.setTop (mkF m 17 #[.val (.ref a1), .val (.ref a2), .val (.int (1 : Int32))] [(.int (1 : Int32)), (.ref a1)]))
  refine own_step (own_baload X0 hx hZ e0 fp0 (own_inb (by decide) (Nat.le_of_ble_eq_true rfl)) (g := (mkF m 17 #[.val (.ref a1), .val (.ref a2), .val (.int (1 : Int32))] [(.int (1 : Int32)), (.ref a1)])) rfl rfl (hb hby d4_17)) ?_
  show own_G p.tables e below _ (s₁.setTop (mkF m 18 #[.val (.ref a1), .val (.ref a2), .val (.int (1 : Int32))] [(.int (111 : Int32))]))
  refine own_step (fun t k => XS.aloadN X0.here hx rfl (hb hby d4_18) rfl rfl k) ?_
  show own_G p.tables e below _ (s₁.setTop (mkF m 19 #[.val (.ref a1), .val (.ref a2), .val (.int (1 : Int32))] [(.ref a2), (.int (111 : Int32))]))
  refine own_step (fun t k => XS.iloadN X0.here hx rfl (hb hby d4_19) rfl k) ?_
  show own_G p.tables e below _ (s₁.setTop (mkF m 20 #[.val (.ref a1), .val (.ref a2), .val (.int (1 : Int32))] [(.int (1 : Int32)), (.ref a2), (.int (111 : Int32))]))
  refine own_step (own_baload X0 hx hZ e0 fp1 (own_inb (by decide) (Nat.le_of_ble_eq_true rfl)) (g := (mkF m 20 #[.val (.ref a1), .val (.ref a2), .val (.int (1 : Int32))] [(.int (1 : Int32)), (.ref a2), (.int (111 : Int32))])) rfl rfl (hb hby d4_20)) ?_
  show own_G p.tables e below _ (s₁.setTop (mkF m 21 #[.val (.ref a1), .val (.ref a2), .val (.int (1 : Int32))] [(.int (111 : Int32)), (.int (111 : Int32))]))
  have hk5 : (111 : Int32) = (111 : Int32) := rfl
  refine own_step (fun t k => XS.icmpYes X0.here hx rfl (pc0 := 21) (pc' := 26) rfl (hb hby d4_21) rfl ((teq hk5).1) (by decide) (by decide) k) ?_
  show own_G p.tables e below _ (s₁.setTop (mkF m 26 #[.val (.ref a1), .val (.ref a2), .val (.int (1 : Int32))] []))
  refine own_step (fun t k => XS.iinc X0.here hx rfl (hb hby d4_26) rfl (l' := #[.val (.ref a1), .val (.ref a2), .val (.int (2 : Int32))]) rfl k) ?_
  show own_G p.tables e below _ (s₁.setTop (mkF m 29 #[.val (.ref a1), .val (.ref a2), .val (.int (2 : Int32))] []))
  refine own_step (fun t k => XS.goto X0.here hx rfl (pc0 := 29) (pc' := 9) rfl (hb hby d4_29) (by decide) (by decide) k) ?_
  show own_G p.tables e below _ (s₁.setTop (mkF m 9 #[.val (.ref a1), .val (.ref a2), .val (.int (2 : Int32))] []))
  refine own_step (fun t k => XS.iloadN X0.here hx rfl (hb hby d4_9) rfl k) ?_
  show own_G p.tables e below _ (s₁.setTop (mkF m 10 #[.val (.ref a1), .val (.ref a2), .val (.int (2 : Int32))] [(.int (2 : Int32))]))
  refine own_step (fun t k => XS.aloadN X0.here hx rfl (hb hby d4_10) rfl rfl k) ?_
  show own_G p.tables e below _ (s₁.setTop (mkF m 11 #[.val (.ref a1), .val (.ref a2), .val (.int (2 : Int32))] [(.ref a1), (.int (2 : Int32))]))
  refine own_step (own_lenI X0 hx hZ e0 fp0 (g := (mkF m 11 #[.val (.ref a1), .val (.ref a2), .val (.int (2 : Int32))] [(.ref a1), (.int (2 : Int32))])) rfl rfl (hb hby d4_11)) ?_
  show own_G p.tables e below _ (s₁.setTop (mkF m 12 #[.val (.ref a1), .val (.ref a2), .val (.int (2 : Int32))] [(.int (7 : Int32)), (.int (2 : Int32))]))
  have hk6 : (2 : Int32) < (7 : Int32) := (by decide)
  refine own_step (fun t k => XS.icmpNo X0.here hx rfl (hb hby d4_12) rfl ((tlt hk6).2.1) k) ?_
  show own_G p.tables e below _ (s₁.setTop (mkF m 15 #[.val (.ref a1), .val (.ref a2), .val (.int (2 : Int32))] []))
  refine own_step (fun t k => XS.aloadN X0.here hx rfl (hb hby d4_15) rfl rfl k) ?_
  show own_G p.tables e below _ (s₁.setTop (mkF m 16 #[.val (.ref a1), .val (.ref a2), .val (.int (2 : Int32))] [(.ref a1)]))
  refine own_step (fun t k => XS.iloadN X0.here hx rfl (hb hby d4_16) rfl k) ?_
  show own_G p.tables e below _ (s₁.setTop (mkF m 17 #[.val (.ref a1), .val (.ref a2), .val (.int (2 : Int32))] [(.int (2 : Int32)), (.ref a1)]))
  refine own_step (own_baload X0 hx hZ e0 fp0 (own_inb (by decide) (Nat.le_of_ble_eq_true rfl)) (g := (mkF m 17 #[.val (.ref a1), .val (.ref a2), .val (.int (2 : Int32))] [(.int (2 : Int32)), (.ref a1)])) rfl rfl (hb hby d4_17)) ?_
  show own_G p.tables e below _ (s₁.setTop (mkF m 18 #[.val (.ref a1), .val (.ref a2), .val (.int (2 : Int32))] [(.int (116 : Int32))]))
  refine own_step (fun t k => XS.aloadN X0.here hx rfl (hb hby d4_18) rfl rfl k) ?_
  show own_G p.tables e below _ (s₁.setTop (mkF m 19 #[.val (.ref a1), .val (.ref a2), .val (.int (2 : Int32))] [(.ref a2), (.int (116 : Int32))]))
  refine own_step (fun t k => XS.iloadN X0.here hx rfl (hb hby d4_19) rfl k) ?_
  show own_G p.tables e below _ (s₁.setTop (mkF m 20 #[.val (.ref a1), .val (.ref a2), .val (.int (2 : Int32))] [(.int (2 : Int32)), (.ref a2), (.int (116 : Int32))]))
  refine own_step (own_baload X0 hx hZ e0 fp1 (own_inb (by decide) (Nat.le_of_ble_eq_true rfl)) (g := (mkF m 20 #[.val (.ref a1), .val (.ref a2), .val (.int (2 : Int32))] [(.int (2 : Int32)), (.ref a2), (.int (116 : Int32))])) rfl rfl (hb hby d4_20)) ?_
  show own_G p.tables e below _ (s₁.setTop (mkF m 21 #[.val (.ref a1), .val (.ref a2), .val (.int (2 : Int32))] [(.int (116 : Int32)), (.int (116 : Int32))]))
  have hk7 : (116 : Int32) = (116 : Int32) := rfl
  refine own_step (fun t k => XS.icmpYes X0.here hx rfl (pc0 := 21) (pc' := 26) rfl (hb hby d4_21) rfl ((teq hk7).1) (by decide) (by decide) k) ?_
  show own_G p.tables e below _ (s₁.setTop (mkF m 26 #[.val (.ref a1), .val (.ref a2), .val (.int (2 : Int32))] []))
  refine own_step (fun t k => XS.iinc X0.here hx rfl (hb hby d4_26) rfl (l' := #[.val (.ref a1), .val (.ref a2), .val (.int (3 : Int32))]) rfl k) ?_
  show own_G p.tables e below _ (s₁.setTop (mkF m 29 #[.val (.ref a1), .val (.ref a2), .val (.int (3 : Int32))] []))
  refine own_step (fun t k => XS.goto X0.here hx rfl (pc0 := 29) (pc' := 9) rfl (hb hby d4_29) (by decide) (by decide) k) ?_
  show own_G p.tables e below _ (s₁.setTop (mkF m 9 #[.val (.ref a1), .val (.ref a2), .val (.int (3 : Int32))] []))
  refine own_step (fun t k => XS.iloadN X0.here hx rfl (hb hby d4_9) rfl k) ?_
  show own_G p.tables e below _ (s₁.setTop (mkF m 10 #[.val (.ref a1), .val (.ref a2), .val (.int (3 : Int32))] [(.int (3 : Int32))]))
  refine own_step (fun t k => XS.aloadN X0.here hx rfl (hb hby d4_10) rfl rfl k) ?_
  show own_G p.tables e below _ (s₁.setTop (mkF m 11 #[.val (.ref a1), .val (.ref a2), .val (.int (3 : Int32))] [(.ref a1), (.int (3 : Int32))]))
  refine own_step (own_lenI X0 hx hZ e0 fp0 (g := (mkF m 11 #[.val (.ref a1), .val (.ref a2), .val (.int (3 : Int32))] [(.ref a1), (.int (3 : Int32))])) rfl rfl (hb hby d4_11)) ?_
  show own_G p.tables e below _ (s₁.setTop (mkF m 12 #[.val (.ref a1), .val (.ref a2), .val (.int (3 : Int32))] [(.int (7 : Int32)), (.int (3 : Int32))]))
  have hk8 : (3 : Int32) < (7 : Int32) := (by decide)
  refine own_step (fun t k => XS.icmpNo X0.here hx rfl (hb hby d4_12) rfl ((tlt hk8).2.1) k) ?_
  show own_G p.tables e below _ (s₁.setTop (mkF m 15 #[.val (.ref a1), .val (.ref a2), .val (.int (3 : Int32))] []))
  refine own_step (fun t k => XS.aloadN X0.here hx rfl (hb hby d4_15) rfl rfl k) ?_
  show own_G p.tables e below _ (s₁.setTop (mkF m 16 #[.val (.ref a1), .val (.ref a2), .val (.int (3 : Int32))] [(.ref a1)]))
  refine own_step (fun t k => XS.iloadN X0.here hx rfl (hb hby d4_16) rfl k) ?_
  show own_G p.tables e below _ (s₁.setTop (mkF m 17 #[.val (.ref a1), .val (.ref a2), .val (.int (3 : Int32))] [(.int (3 : Int32)), (.ref a1)]))
  refine own_step (own_baload X0 hx hZ e0 fp0 (own_inb (by decide) (Nat.le_of_ble_eq_true rfl)) (g := (mkF m 17 #[.val (.ref a1), .val (.ref a2), .val (.int (3 : Int32))] [(.int (3 : Int32)), (.ref a1)])) rfl rfl (hb hby d4_17)) ?_
  show own_G p.tables e below _ (s₁.setTop (mkF m 18 #[.val (.ref a1), .val (.ref a2), .val (.int (3 : Int32))] [(.int (32 : Int32))]))
  refine own_step (fun t k => XS.aloadN X0.here hx rfl (hb hby d4_18) rfl rfl k) ?_
  show own_G p.tables e below _ (s₁.setTop (mkF m 19 #[.val (.ref a1), .val (.ref a2), .val (.int (3 : Int32))] [(.ref a2), (.int (32 : Int32))]))
  refine own_step (fun t k => XS.iloadN X0.here hx rfl (hb hby d4_19) rfl k) ?_
  show own_G p.tables e below _ (s₁.setTop (mkF m 20 #[.val (.ref a1), .val (.ref a2), .val (.int (3 : Int32))] [(.int (3 : Int32)), (.ref a2), (.int (32 : Int32))]))
  refine own_step (own_baload X0 hx hZ e0 fp1 (own_inb (by decide) (Nat.le_of_ble_eq_true rfl)) (g := (mkF m 20 #[.val (.ref a1), .val (.ref a2), .val (.int (3 : Int32))] [(.int (3 : Int32)), (.ref a2), (.int (32 : Int32))])) rfl rfl (hb hby d4_20)) ?_
  show own_G p.tables e below _ (s₁.setTop (mkF m 21 #[.val (.ref a1), .val (.ref a2), .val (.int (3 : Int32))] [(.int (32 : Int32)), (.int (32 : Int32))]))
  have hk9 : (32 : Int32) = (32 : Int32) := rfl
  refine own_step (fun t k => XS.icmpYes X0.here hx rfl (pc0 := 21) (pc' := 26) rfl (hb hby d4_21) rfl ((teq hk9).1) (by decide) (by decide) k) ?_
  show own_G p.tables e below _ (s₁.setTop (mkF m 26 #[.val (.ref a1), .val (.ref a2), .val (.int (3 : Int32))] []))
  refine own_step (fun t k => XS.iinc X0.here hx rfl (hb hby d4_26) rfl (l' := #[.val (.ref a1), .val (.ref a2), .val (.int (4 : Int32))]) rfl k) ?_
  show own_G p.tables e below _ (s₁.setTop (mkF m 29 #[.val (.ref a1), .val (.ref a2), .val (.int (4 : Int32))] []))
  refine own_step (fun t k => XS.goto X0.here hx rfl (pc0 := 29) (pc' := 9) rfl (hb hby d4_29) (by decide) (by decide) k) ?_
  show own_G p.tables e below _ (s₁.setTop (mkF m 9 #[.val (.ref a1), .val (.ref a2), .val (.int (4 : Int32))] []))
  refine own_step (fun t k => XS.iloadN X0.here hx rfl (hb hby d4_9) rfl k) ?_
  show own_G p.tables e below _ (s₁.setTop (mkF m 10 #[.val (.ref a1), .val (.ref a2), .val (.int (4 : Int32))] [(.int (4 : Int32))]))
  refine own_step (fun t k => XS.aloadN X0.here hx rfl (hb hby d4_10) rfl rfl k) ?_
  show own_G p.tables e below _ (s₁.setTop (mkF m 11 #[.val (.ref a1), .val (.ref a2), .val (.int (4 : Int32))] [(.ref a1), (.int (4 : Int32))]))
  refine own_step (own_lenI X0 hx hZ e0 fp0 (g := (mkF m 11 #[.val (.ref a1), .val (.ref a2), .val (.int (4 : Int32))] [(.ref a1), (.int (4 : Int32))])) rfl rfl (hb hby d4_11)) ?_
  show own_G p.tables e below _ (s₁.setTop (mkF m 12 #[.val (.ref a1), .val (.ref a2), .val (.int (4 : Int32))] [(.int (7 : Int32)), (.int (4 : Int32))]))
  have hk10 : (4 : Int32) < (7 : Int32) := (by decide)
  refine own_step (fun t k => XS.icmpNo X0.here hx rfl (hb hby d4_12) rfl ((tlt hk10).2.1) k) ?_
  clear hk1 hk10 hk2 hk3 hk4 hk5 hk6 hk7 hk8 hk9
  show own_G p.tables e below _ (s₁.setTop (mkF m 15 #[.val (.ref a1), .val (.ref a2), .val (.int (4 : Int32))] []))
  refine own_step (fun t k => XS.aloadN X0.here hx rfl (hb hby d4_15) rfl rfl k) ?_
  show own_G p.tables e below _ (s₁.setTop (mkF m 16 #[.val (.ref a1), .val (.ref a2), .val (.int (4 : Int32))] [(.ref a1)]))
  refine own_step (fun t k => XS.iloadN X0.here hx rfl (hb hby d4_16) rfl k) ?_
  show own_G p.tables e below _ (s₁.setTop (mkF m 17 #[.val (.ref a1), .val (.ref a2), .val (.int (4 : Int32))] [(.int (4 : Int32)), (.ref a1)]))
  refine own_step (own_baload X0 hx hZ e0 fp0 (own_inb (by decide) (Nat.le_of_ble_eq_true rfl)) (g := (mkF m 17 #[.val (.ref a1), .val (.ref a2), .val (.int (4 : Int32))] [(.int (4 : Int32)), (.ref a1)])) rfl rfl (hb hby d4_17)) ?_
  show own_G p.tables e below _ (s₁.setTop (mkF m 18 #[.val (.ref a1), .val (.ref a2), .val (.int (4 : Int32))] [(.int (83 : Int32))]))
  refine own_step (fun t k => XS.aloadN X0.here hx rfl (hb hby d4_18) rfl rfl k) ?_
  show own_G p.tables e below _ (s₁.setTop (mkF m 19 #[.val (.ref a1), .val (.ref a2), .val (.int (4 : Int32))] [(.ref a2), (.int (83 : Int32))]))
  refine own_step (fun t k => XS.iloadN X0.here hx rfl (hb hby d4_19) rfl k) ?_
  show own_G p.tables e below _ (s₁.setTop (mkF m 20 #[.val (.ref a1), .val (.ref a2), .val (.int (4 : Int32))] [(.int (4 : Int32)), (.ref a2), (.int (83 : Int32))]))
  refine own_step (own_baload X0 hx hZ e0 fp1 (own_inb (by decide) (Nat.le_of_ble_eq_true rfl)) (g := (mkF m 20 #[.val (.ref a1), .val (.ref a2), .val (.int (4 : Int32))] [(.int (4 : Int32)), (.ref a2), (.int (83 : Int32))])) rfl rfl (hb hby d4_20)) ?_
  show own_G p.tables e below _ (s₁.setTop (mkF m 21 #[.val (.ref a1), .val (.ref a2), .val (.int (4 : Int32))] [(.int (83 : Int32)), (.int (83 : Int32))]))
  have hk11 : (83 : Int32) = (83 : Int32) := rfl
  refine own_step (fun t k => XS.icmpYes X0.here hx rfl (pc0 := 21) (pc' := 26) rfl (hb hby d4_21) rfl ((teq hk11).1) (by decide) (by decide) k) ?_
  show own_G p.tables e below _ (s₁.setTop (mkF m 26 #[.val (.ref a1), .val (.ref a2), .val (.int (4 : Int32))] []))
  refine own_step (fun t k => XS.iinc X0.here hx rfl (hb hby d4_26) rfl (l' := #[.val (.ref a1), .val (.ref a2), .val (.int (5 : Int32))]) rfl k) ?_
  show own_G p.tables e below _ (s₁.setTop (mkF m 29 #[.val (.ref a1), .val (.ref a2), .val (.int (5 : Int32))] []))
  refine own_step (fun t k => XS.goto X0.here hx rfl (pc0 := 29) (pc' := 9) rfl (hb hby d4_29) (by decide) (by decide) k) ?_
  show own_G p.tables e below _ (s₁.setTop (mkF m 9 #[.val (.ref a1), .val (.ref a2), .val (.int (5 : Int32))] []))
  refine own_step (fun t k => XS.iloadN X0.here hx rfl (hb hby d4_9) rfl k) ?_
  show own_G p.tables e below _ (s₁.setTop (mkF m 10 #[.val (.ref a1), .val (.ref a2), .val (.int (5 : Int32))] [(.int (5 : Int32))]))
  refine own_step (fun t k => XS.aloadN X0.here hx rfl (hb hby d4_10) rfl rfl k) ?_
  show own_G p.tables e below _ (s₁.setTop (mkF m 11 #[.val (.ref a1), .val (.ref a2), .val (.int (5 : Int32))] [(.ref a1), (.int (5 : Int32))]))
  refine own_step (own_lenI X0 hx hZ e0 fp0 (g := (mkF m 11 #[.val (.ref a1), .val (.ref a2), .val (.int (5 : Int32))] [(.ref a1), (.int (5 : Int32))])) rfl rfl (hb hby d4_11)) ?_
  show own_G p.tables e below _ (s₁.setTop (mkF m 12 #[.val (.ref a1), .val (.ref a2), .val (.int (5 : Int32))] [(.int (7 : Int32)), (.int (5 : Int32))]))
  have hk12 : (5 : Int32) < (7 : Int32) := (by decide)
  refine own_step (fun t k => XS.icmpNo X0.here hx rfl (hb hby d4_12) rfl ((tlt hk12).2.1) k) ?_
  show own_G p.tables e below _ (s₁.setTop (mkF m 15 #[.val (.ref a1), .val (.ref a2), .val (.int (5 : Int32))] []))
  refine own_step (fun t k => XS.aloadN X0.here hx rfl (hb hby d4_15) rfl rfl k) ?_
  show own_G p.tables e below _ (s₁.setTop (mkF m 16 #[.val (.ref a1), .val (.ref a2), .val (.int (5 : Int32))] [(.ref a1)]))
  refine own_step (fun t k => XS.iloadN X0.here hx rfl (hb hby d4_16) rfl k) ?_
  show own_G p.tables e below _ (s₁.setTop (mkF m 17 #[.val (.ref a1), .val (.ref a2), .val (.int (5 : Int32))] [(.int (5 : Int32)), (.ref a1)]))
  refine own_step (own_baload X0 hx hZ e0 fp0 (own_inb (by decide) (Nat.le_of_ble_eq_true rfl)) (g := (mkF m 17 #[.val (.ref a1), .val (.ref a2), .val (.int (5 : Int32))] [(.int (5 : Int32)), (.ref a1)])) rfl rfl (hb hby d4_17)) ?_
  show own_G p.tables e below _ (s₁.setTop (mkF m 18 #[.val (.ref a1), .val (.ref a2), .val (.int (5 : Int32))] [(.int (84 : Int32))]))
  refine own_step (fun t k => XS.aloadN X0.here hx rfl (hb hby d4_18) rfl rfl k) ?_
  show own_G p.tables e below _ (s₁.setTop (mkF m 19 #[.val (.ref a1), .val (.ref a2), .val (.int (5 : Int32))] [(.ref a2), (.int (84 : Int32))]))
  refine own_step (fun t k => XS.iloadN X0.here hx rfl (hb hby d4_19) rfl k) ?_
  show own_G p.tables e below _ (s₁.setTop (mkF m 20 #[.val (.ref a1), .val (.ref a2), .val (.int (5 : Int32))] [(.int (5 : Int32)), (.ref a2), (.int (84 : Int32))]))
  refine own_step (own_baload X0 hx hZ e0 fp1 (own_inb (by decide) (Nat.le_of_ble_eq_true rfl)) (g := (mkF m 20 #[.val (.ref a1), .val (.ref a2), .val (.int (5 : Int32))] [(.int (5 : Int32)), (.ref a2), (.int (84 : Int32))])) rfl rfl (hb hby d4_20)) ?_
  show own_G p.tables e below _ (s₁.setTop (mkF m 21 #[.val (.ref a1), .val (.ref a2), .val (.int (5 : Int32))] [(.int (84 : Int32)), (.int (84 : Int32))]))
  have hk13 : (84 : Int32) = (84 : Int32) := rfl
  refine own_step (fun t k => XS.icmpYes X0.here hx rfl (pc0 := 21) (pc' := 26) rfl (hb hby d4_21) rfl ((teq hk13).1) (by decide) (by decide) k) ?_
  show own_G p.tables e below _ (s₁.setTop (mkF m 26 #[.val (.ref a1), .val (.ref a2), .val (.int (5 : Int32))] []))
  refine own_step (fun t k => XS.iinc X0.here hx rfl (hb hby d4_26) rfl (l' := #[.val (.ref a1), .val (.ref a2), .val (.int (6 : Int32))]) rfl k) ?_
  show own_G p.tables e below _ (s₁.setTop (mkF m 29 #[.val (.ref a1), .val (.ref a2), .val (.int (6 : Int32))] []))
  refine own_step (fun t k => XS.goto X0.here hx rfl (pc0 := 29) (pc' := 9) rfl (hb hby d4_29) (by decide) (by decide) k) ?_
  show own_G p.tables e below _ (s₁.setTop (mkF m 9 #[.val (.ref a1), .val (.ref a2), .val (.int (6 : Int32))] []))
  refine own_step (fun t k => XS.iloadN X0.here hx rfl (hb hby d4_9) rfl k) ?_
  show own_G p.tables e below _ (s₁.setTop (mkF m 10 #[.val (.ref a1), .val (.ref a2), .val (.int (6 : Int32))] [(.int (6 : Int32))]))
  refine own_step (fun t k => XS.aloadN X0.here hx rfl (hb hby d4_10) rfl rfl k) ?_
  show own_G p.tables e below _ (s₁.setTop (mkF m 11 #[.val (.ref a1), .val (.ref a2), .val (.int (6 : Int32))] [(.ref a1), (.int (6 : Int32))]))
  refine own_step (own_lenI X0 hx hZ e0 fp0 (g := (mkF m 11 #[.val (.ref a1), .val (.ref a2), .val (.int (6 : Int32))] [(.ref a1), (.int (6 : Int32))])) rfl rfl (hb hby d4_11)) ?_
  show own_G p.tables e below _ (s₁.setTop (mkF m 12 #[.val (.ref a1), .val (.ref a2), .val (.int (6 : Int32))] [(.int (7 : Int32)), (.int (6 : Int32))]))
  have hk14 : (6 : Int32) < (7 : Int32) := (by decide)
  refine own_step (fun t k => XS.icmpNo X0.here hx rfl (hb hby d4_12) rfl ((tlt hk14).2.1) k) ?_
  show own_G p.tables e below _ (s₁.setTop (mkF m 15 #[.val (.ref a1), .val (.ref a2), .val (.int (6 : Int32))] []))
  refine own_step (fun t k => XS.aloadN X0.here hx rfl (hb hby d4_15) rfl rfl k) ?_
  show own_G p.tables e below _ (s₁.setTop (mkF m 16 #[.val (.ref a1), .val (.ref a2), .val (.int (6 : Int32))] [(.ref a1)]))
  refine own_step (fun t k => XS.iloadN X0.here hx rfl (hb hby d4_16) rfl k) ?_
  show own_G p.tables e below _ (s₁.setTop (mkF m 17 #[.val (.ref a1), .val (.ref a2), .val (.int (6 : Int32))] [(.int (6 : Int32)), (.ref a1)]))
  refine own_step (own_baload X0 hx hZ e0 fp0 (own_inb (by decide) (Nat.le_of_ble_eq_true rfl)) (g := (mkF m 17 #[.val (.ref a1), .val (.ref a2), .val (.int (6 : Int32))] [(.int (6 : Int32)), (.ref a1)])) rfl rfl (hb hby d4_17)) ?_
  show own_G p.tables e below _ (s₁.setTop (mkF m 18 #[.val (.ref a1), .val (.ref a2), .val (.int (6 : Int32))] [(.int (83 : Int32))]))
  refine own_step (fun t k => XS.aloadN X0.here hx rfl (hb hby d4_18) rfl rfl k) ?_
  show own_G p.tables e below _ (s₁.setTop (mkF m 19 #[.val (.ref a1), .val (.ref a2), .val (.int (6 : Int32))] [(.ref a2), (.int (83 : Int32))]))
  refine own_step (fun t k => XS.iloadN X0.here hx rfl (hb hby d4_19) rfl k) ?_
  show own_G p.tables e below _ (s₁.setTop (mkF m 20 #[.val (.ref a1), .val (.ref a2), .val (.int (6 : Int32))] [(.int (6 : Int32)), (.ref a2), (.int (83 : Int32))]))
  refine own_step (own_baload X0 hx hZ e0 fp1 (own_inb (by decide) (Nat.le_of_ble_eq_true rfl)) (g := (mkF m 20 #[.val (.ref a1), .val (.ref a2), .val (.int (6 : Int32))] [(.int (6 : Int32)), (.ref a2), (.int (83 : Int32))])) rfl rfl (hb hby d4_20)) ?_
  show own_G p.tables e below _ (s₁.setTop (mkF m 21 #[.val (.ref a1), .val (.ref a2), .val (.int (6 : Int32))] [(.int (83 : Int32)), (.int (83 : Int32))]))
  have hk15 : (83 : Int32) = (83 : Int32) := rfl
  refine own_step (fun t k => XS.icmpYes X0.here hx rfl (pc0 := 21) (pc' := 26) rfl (hb hby d4_21) rfl ((teq hk15).1) (by decide) (by decide) k) ?_
  show own_G p.tables e below _ (s₁.setTop (mkF m 26 #[.val (.ref a1), .val (.ref a2), .val (.int (6 : Int32))] []))
  refine own_step (fun t k => XS.iinc X0.here hx rfl (hb hby d4_26) rfl (l' := #[.val (.ref a1), .val (.ref a2), .val (.int (7 : Int32))]) rfl k) ?_
  show own_G p.tables e below _ (s₁.setTop (mkF m 29 #[.val (.ref a1), .val (.ref a2), .val (.int (7 : Int32))] []))
  refine own_step (fun t k => XS.goto X0.here hx rfl (pc0 := 29) (pc' := 9) rfl (hb hby d4_29) (by decide) (by decide) k) ?_
  show own_G p.tables e below _ (s₁.setTop (mkF m 9 #[.val (.ref a1), .val (.ref a2), .val (.int (7 : Int32))] []))
  refine own_step (fun t k => XS.iloadN X0.here hx rfl (hb hby d4_9) rfl k) ?_
  show own_G p.tables e below _ (s₁.setTop (mkF m 10 #[.val (.ref a1), .val (.ref a2), .val (.int (7 : Int32))] [(.int (7 : Int32))]))
  refine own_step (fun t k => XS.aloadN X0.here hx rfl (hb hby d4_10) rfl rfl k) ?_
  show own_G p.tables e below _ (s₁.setTop (mkF m 11 #[.val (.ref a1), .val (.ref a2), .val (.int (7 : Int32))] [(.ref a1), (.int (7 : Int32))]))
  refine own_step (own_lenI X0 hx hZ e0 fp0 (g := (mkF m 11 #[.val (.ref a1), .val (.ref a2), .val (.int (7 : Int32))] [(.ref a1), (.int (7 : Int32))])) rfl rfl (hb hby d4_11)) ?_
  show own_G p.tables e below _ (s₁.setTop (mkF m 12 #[.val (.ref a1), .val (.ref a2), .val (.int (7 : Int32))] [(.int (7 : Int32)), (.int (7 : Int32))]))
  have hk16 : ¬ ((7 : Int32) < (7 : Int32)) := (by decide)
  refine own_step (fun t k => XS.icmpYes X0.here hx rfl (pc0 := 12) (pc' := 32) rfl (hb hby d4_12) rfl ((flt hk16).2.1) (by decide) (by decide) k) ?_
  show own_G p.tables e below _ (s₁.setTop (mkF m 32 #[.val (.ref a1), .val (.ref a2), .val (.int (7 : Int32))] []))
  refine own_step (fun t k => XS.iconst X0.here hx rfl (hb hby d4_32) k) ?_
  show own_G p.tables e below _ (s₁.setTop (mkF m 33 #[.val (.ref a1), .val (.ref a2), .val (.int (7 : Int32))] [(.int (1 : Int32))]))
  obtain ⟨fs, hr, hrun, hended, hW, hsame⟩ := X0.leave (v := some (.int (1 : Int32))) (fun h => by rw [Bd.returns] at h; cases h)
  refine own_done (retN X0 hx (t := .boolean) Bd.returns (by simp) (hb hby d4_33) hr) hrun hended ⟨_, _, rfl, ?_, ⟨_, rfl⟩, hW, hsame.mono (by decide) (by decide)⟩
  show Q4_x1 Z a1 a2 h0 n0 _ s₁.heap _
  rw [e0]
  exact ⟨congrArg (fun z => some (Value.int z)) (show (1 : Int32) = (1 : Int32) from rfl), N0, rfl⟩
theorem pn_3_x1 : plainName "java/lang/String" = true := by first | (simp [plainName, overriddenIn]; done) | decide +kernel
theorem pd_3_x1_0 : parseMethodDescriptor "([B[B)Z" = some ⟨[(.array .byte), (.array .byte)], some .boolean⟩ := by decide +kernel
theorem ef_3_x1 (m : MethodId) (a1 : Addr) (a2 : Addr) : entryFrame m #[(.ref a1), (.ref a2)] 3 = mkF m 0 #[.val (.ref a1), .val (.ref a2), .unset] [] := by first | (simp [entryFrame, mkF, argsToLocals, Value.category]; done) | rfl
def Q3_x1 (Z : State) (a1 : Addr) (a2 : Addr) (s_COMPACT_STRINGS : Int32) (ba1 : Addr) (ba2 : Addr) (h0 : Heap) (n0 : Nat) (v : Option Value) (h : Heap) (L : List Loc) : Prop := v = some (.int (1 : Int32)) ∧ Fr n0 L ∧ h = h0
set_option maxRecDepth 65536 in
set_option maxHeartbeats 40000000 in
theorem rm3_x1 (l : Launch) (Z : State) (a0 : Array Value) (hw : ∀ d ∈ tables_1, d.before a0 Z = true) (ws : List Jvm.Cond) (a1 : Addr) (a2 : Addr) (s_COMPACT_STRINGS : Int32) (ba1 : Addr) (ba2 : Addr) (h0 : Heap) (n0 : Nat) (Z0 : n0 ≤ h0.size) (fp0 : Sta Z h0 "java/lang/String" "COMPACT_STRINGS" "Z" (.int s_COMPACT_STRINGS)) (fp1 : Exa Z h0 a1 "java/lang/String") (fp2 : Fld Z h0 a1 "java/lang/String" "coder" "B" (.int (0 : Int32))) (fp3 : Fld Z h0 a1 "java/lang/String" "value" "[B" (.ref ba1)) (fp4 : own_Ari Z h0 ba1 .byte [(110 : Int32), (111 : Int32), (116 : Int32), (32 : Int32), (83 : Int32), (84 : Int32), (83 : Int32)]) (fp5 : Exa Z h0 a2 "java/lang/String") (fp6 : Fld Z h0 a2 "java/lang/String" "coder" "B" (.int (0 : Int32))) (fp7 : Fld Z h0 a2 "java/lang/String" "value" "[B" (.ref ba2)) (fp8 : own_Ari Z h0 ba2 .byte [(110 : Int32), (111 : Int32), (116 : Int32), (32 : Int32), (83 : Int32), (84 : Int32), (83 : Int32)]) (hcs : ¬ (s_COMPACT_STRINGS = (0 : Int32))) :
    MetFree l (⟨"java/lang/String", "equals", "(Ljava/lang/Object;)Z"⟩ : MethodName) (head1 (Jvm.Cond.code (⟨"java/lang/String", "equals", "(Ljava/lang/Object;)Z"⟩ : MethodName) jdk_42_method_66_code 3 (some .boolean) :: ws) ({ frames := 1, cells := 0, slots := 0, locals := 14 } : Room)) (fun a U => a = #[(.ref a1), (.ref a2)] ∧ Z.Warmed39 U.vm ∧ U.heap = h0) (fun _ _ _ _ _ => True) (fun _ U o U' => ∃ v L, o = .returned v ∧ Q3_x1 Z a1 a2 s_COMPACT_STRINGS ba1 ba2 h0 n0 v U'.heap L ∧ FrameEnd U o U' L ({ frames := 1, cells := 0, slots := 0, locals := 14 } : Room).cells ({ frames := 1, cells := 0, slots := 0, locals := 14 } : Room).slots) := by
  refine MetFree.of_bodySF (plainFor_of_name pn_3_x1) hisR ?_
  intro p e s m args below meth c s₁ Bd hml0 hP hK
  obtain ⟨rfl, hZ, hh⟩ := hP
  have hx := Bd.exec
  have hby := Bd.bytes
  have hml : c.maxLocals = 3 := hml0
  have hown : s.vm.findClass "java/lang/String" = some m.cls := findClass_of_methodNamed Bd.named
  have hnm := (name_of_methodNamed Bd.named Bd.method).1
  have X0 : Stand p l e ({ frames := 1, cells := 0, slots := 0, locals := 14 } : Room) s m #[(.ref a1), (.ref a2)] below meth c s₁ [] 0 0 := Stand.of_body Bd
  have e0 : s₁.heap = h0 := by rw [← hh, Bd.state]; rfl
  have N0 := Fr.nil n0
  refine own_start (fun t k => castTop (ef_3_x1 m a1 a2) k) ?_
  show own_G p.tables e below _ (s₁.setTop (mkF m 0 #[.val (.ref a1), .val (.ref a2), .unset] []))
  refine own_step (fun t k => XS.aloadN X0.here hx rfl (hb hby d3_0) rfl rfl k) ?_
  show own_G p.tables e below _ (s₁.setTop (mkF m 1 #[.val (.ref a1), .val (.ref a2), .unset] [(.ref a1)]))
  refine own_step (fun t k => XS.aloadN X0.here hx rfl (hb hby d3_1) rfl rfl k) ?_
  show own_G p.tables e below _ (s₁.setTop (mkF m 2 #[.val (.ref a1), .val (.ref a2), .unset] [(.ref a2), (.ref a1)]))
  by_cases ha1 : a1 = a2
  · skip
    refine own_step (fun t k => Jvm.RoadKit.acmp (g := (mkF m 2 #[.val (.ref a1), .val (.ref a2), .unset] [(.ref a2), (.ref a1)])) X0 hx rfl rfl rfl (pc0 := 2) (pc' := 5) (same := true) rfl (hb hby d3_2) rfl (decide_eq_true (congrArg Value.ref ha1)) (by decide) (by decide) k) ?_
    show own_G p.tables e below _ (s₁.setTop (mkF m 5 #[.val (.ref a1), .val (.ref a2), .unset] []))
    refine own_step (fun t k => XS.iconst X0.here hx rfl (hb hby d3_5) k) ?_
    show own_G p.tables e below _ (s₁.setTop (mkF m 6 #[.val (.ref a1), .val (.ref a2), .unset] [(.int (1 : Int32))]))
    obtain ⟨fs, hr, hrun, hended, hW, hsame⟩ := X0.leave (v := some (.int (1 : Int32))) (fun h => by rw [Bd.returns] at h; cases h)
    refine own_done (retN X0 hx (t := .boolean) Bd.returns (by simp) (hb hby d3_6) hr) hrun hended ⟨_, _, rfl, ?_, ⟨_, rfl⟩, hW, hsame.mono (by decide) (by decide)⟩
    show Q3_x1 Z a1 a2 s_COMPACT_STRINGS ba1 ba2 h0 n0 _ s₁.heap _
    rw [e0]
    exact ⟨congrArg (fun z => some (Value.int z)) (show (1 : Int32) = (1 : Int32) from rfl), N0, rfl⟩
  · skip
    refine own_step (fun t k => Jvm.RoadKit.acmp (g := (mkF m 2 #[.val (.ref a1), .val (.ref a2), .unset] [(.ref a2), (.ref a1)])) X0 hx rfl rfl rfl (pc0 := 2) (pc' := 7) (same := false) rfl (hb hby d3_2) rfl (decide_eq_false fun q => ha1 (Value.ref.inj q)) (by decide) (by decide) k) ?_
    show own_G p.tables e below _ (s₁.setTop (mkF m 7 #[.val (.ref a1), .val (.ref a2), .unset] []))
    refine own_step (fun t k => XS.aloadN X0.here hx rfl (hb hby d3_7) rfl rfl k) ?_
    show own_G p.tables e below _ (s₁.setTop (mkF m 8 #[.val (.ref a1), .val (.ref a2), .unset] [(.ref a2)]))
    obtain ⟨T2, X2, e2, st2⟩ := instY X0 hx hZ hown (hw _ (List.mem_of_getElem? (i := 27) rfl)) e0 (Ins.self fp5) (g := (mkF m 8 #[.val (.ref a1), .val (.ref a2), .unset] [(.ref a2)])) rfl rfl (hb hby d3_8)
    refine own_step st2 ?_
    show own_G p.tables e below _ (T2.setTop (mkF m 11 #[.val (.ref a1), .val (.ref a2), .unset] [(.int (1 : Int32))]))
    have hk3 : ¬ ((1 : Int32) = (0 : Int32)) := (by decide)
    refine own_step (fun t k => XS.ifNo X2.here hx rfl (hb hby d3_11) rfl ((if0 _ _).trans (feq hk3).1) k) ?_
    show own_G p.tables e below _ (T2.setTop (mkF m 14 #[.val (.ref a1), .val (.ref a2), .unset] []))
    refine own_step (fun t k => XS.aloadN X2.here hx rfl (hb hby d3_14) rfl rfl k) ?_
    show own_G p.tables e below _ (T2.setTop (mkF m 15 #[.val (.ref a1), .val (.ref a2), .unset] [(.ref a2)]))
    obtain ⟨T4, X4, e4, st4⟩ := castY X2 hx hZ hown (hw _ (List.mem_of_getElem? (i := 27) rfl)) e2 (Ins.self fp5) (g := (mkF m 15 #[.val (.ref a1), .val (.ref a2), .unset] [(.ref a2)])) rfl rfl (hb hby d3_15)
    refine own_step st4 ?_
    show own_G p.tables e below _ (T4.setTop (mkF m 18 #[.val (.ref a1), .val (.ref a2), .unset] [(.ref a2)]))
    refine own_step (fun t k => XS.astoreN X4.here hx rfl (hb hby d3_18) rfl rfl (l' := #[.val (.ref a1), .val (.ref a2), .val (.ref a2)]) rfl k) ?_
    show own_G p.tables e below _ (T4.setTop (mkF m 19 #[.val (.ref a1), .val (.ref a2), .val (.ref a2)] []))
    obtain ⟨T5, X5, e5, st5⟩ := getS2 X4 hx hZ hown (host := "") (Or.inl (hw _ (List.mem_of_getElem? (i := 29) rfl))) Via.refl e4 fp0 (g := (mkF m 19 #[.val (.ref a1), .val (.ref a2), .val (.ref a2)] [])) rfl (hb hby d3_19)
    refine own_step st5 ?_
    show own_G p.tables e below _ (T5.setTop (mkF m 22 #[.val (.ref a1), .val (.ref a2), .val (.ref a2)] [(.int s_COMPACT_STRINGS)]))
    have hk6 : ¬ (s_COMPACT_STRINGS = (0 : Int32)) := hcs
    refine own_step (fun t k => XS.ifNo X5.here hx rfl (hb hby d3_22) rfl ((if0 _ _).trans (feq hk6).1) k) ?_
    show own_G p.tables e below _ (T5.setTop (mkF m 25 #[.val (.ref a1), .val (.ref a2), .val (.ref a2)] []))
    refine own_step (fun t k => XS.aloadN X5.here hx rfl (hb hby d3_25) rfl rfl k) ?_
    show own_G p.tables e below _ (T5.setTop (mkF m 26 #[.val (.ref a1), .val (.ref a2), .val (.ref a2)] [(.ref a1)]))
    obtain ⟨T7, X7, e7, st7⟩ := getF X5 hx hZ hown (host := "") (Or.inl (hw _ (List.mem_of_getElem? (i := 30) rfl))) Via.refl e5 fp2 (g := (mkF m 26 #[.val (.ref a1), .val (.ref a2), .val (.ref a2)] [(.ref a1)])) rfl rfl (hb hby d3_26)
    refine own_step st7 ?_
    clear X2 X4 X5 e2 e4 e5 hk3 hk6 st2 st4 st5 st7
    show own_G p.tables e below _ (T7.setTop (mkF m 29 #[.val (.ref a1), .val (.ref a2), .val (.ref a2)] [(.int (0 : Int32))]))
    refine own_step (fun t k => XS.aloadN X7.here hx rfl (hb hby d3_29) rfl rfl k) ?_
    show own_G p.tables e below _ (T7.setTop (mkF m 30 #[.val (.ref a1), .val (.ref a2), .val (.ref a2)] [(.ref a2), (.int (0 : Int32))]))
    obtain ⟨T8, X8, e8, st8⟩ := getF X7 hx hZ hown (host := "") (Or.inl (hw _ (List.mem_of_getElem? (i := 30) rfl))) Via.refl e7 fp6 (g := (mkF m 30 #[.val (.ref a1), .val (.ref a2), .val (.ref a2)] [(.ref a2), (.int (0 : Int32))])) rfl rfl (hb hby d3_30)
    refine own_step st8 ?_
    show own_G p.tables e below _ (T8.setTop (mkF m 33 #[.val (.ref a1), .val (.ref a2), .val (.ref a2)] [(.int (0 : Int32)), (.int (0 : Int32))]))
    have hk9 : (0 : Int32) = (0 : Int32) := rfl
    refine own_step (fun t k => XS.icmpNo X8.here hx rfl (hb hby d3_33) rfl ((teq hk9).2) k) ?_
    show own_G p.tables e below _ (T8.setTop (mkF m 36 #[.val (.ref a1), .val (.ref a2), .val (.ref a2)] []))
    refine own_step (fun t k => XS.aloadN X8.here hx rfl (hb hby d3_36) rfl rfl k) ?_
    show own_G p.tables e below _ (T8.setTop (mkF m 37 #[.val (.ref a1), .val (.ref a2), .val (.ref a2)] [(.ref a1)]))
    obtain ⟨T10, X10, e10, st10⟩ := getF X8 hx hZ hown (host := "") (Or.inl (hw _ (List.mem_of_getElem? (i := 31) rfl))) Via.refl e8 fp3 (g := (mkF m 37 #[.val (.ref a1), .val (.ref a2), .val (.ref a2)] [(.ref a1)])) rfl rfl (hb hby d3_37)
    refine own_step st10 ?_
    show own_G p.tables e below _ (T10.setTop (mkF m 40 #[.val (.ref a1), .val (.ref a2), .val (.ref a2)] [(.ref ba1)]))
    refine own_step (fun t k => XS.aloadN X10.here hx rfl (hb hby d3_40) rfl rfl k) ?_
    show own_G p.tables e below _ (T10.setTop (mkF m 41 #[.val (.ref a1), .val (.ref a2), .val (.ref a2)] [(.ref a2), (.ref ba1)]))
    obtain ⟨T11, X11, e11, st11⟩ := getF X10 hx hZ hown (host := "") (Or.inl (hw _ (List.mem_of_getElem? (i := 31) rfl))) Via.refl e10 fp7 (g := (mkF m 41 #[.val (.ref a1), .val (.ref a2), .val (.ref a2)] [(.ref a2), (.ref ba1)])) rfl rfl (hb hby d3_41)
    refine own_step st11 ?_
    clear X10 X7 X8 e10 e7 e8 hk9 st10 st11 st8
    show own_G p.tables e below _ (T11.setTop (mkF m 44 #[.val (.ref a1), .val (.ref a2), .val (.ref a2)] [(.ref ba2), (.ref ba1)]))
    obtain ⟨_, _, ⟨T12, L12, k12, n12⟩, -, X12, ⟨Lc12, hQ12, l12, y12, z12⟩, st12⟩ := Jvm.LawKit.callS X11 hx (y := (⟨"java/lang/StringLatin1", "equals", "([B[B)Z"⟩ : MethodName)) hown (mvT hZ (hw _ (List.mem_of_getElem? (i := 32) rfl))) (mvT hZ (hw _ (List.mem_of_getElem? (i := 33) rfl))) (mvT hZ (hw _ (List.mem_of_getElem? (i := 34) rfl))) (mvT hZ (hw _ (List.mem_of_getElem? (i := 35) rfl))) (by decide) (backOf (W := 0) (rm4_x1 l Z a0 hw [] ba1 ba2 h0 n0 (Nat.le_trans Z0 (Keep.refl h0 []).1) fp4 fp8) hZ (hw _ (List.mem_of_getElem? (i := 35) rfl)) (hw _ (List.mem_of_getElem? (i := 34) rfl)) (by decide) (by decide)) (g := (mkF m 44 #[.val (.ref a1), .val (.ref a2), .val (.ref a2)] [(.ref ba2), (.ref ba1)])) rfl (by rw [hml]; rfl) (argsL := [(.ref ba1), (.ref ba2)]) (rest := []) (lenOf pd_3_x1_0 rfl) rfl (by show 2 * 0 + _ ≤ _; exact Nat.le_of_eq rfl) (hb hby d3_44) (fun _ _ => ⟨rfl, e11, (by decide : 0 + 0 ≤ _), (by decide : 0 + 0 ≤ _)⟩)
    dsimp only [Pt.U, Pt.locs, Pt.cells, Pt.slots] at X12 l12 y12 z12 st12 hQ12
    subst y12 z12
    obtain ⟨rfl, N12q, e12⟩ := hQ12
    have N12 : Fr n0 L12 := by rw [l12]; exact Fr.app N0 N12q
    refine own_step st12 ?_
    show own_G p.tables e below _ (T12.setTop (mkF m 47 #[.val (.ref a1), .val (.ref a2), .val (.ref a2)] [(.int (1 : Int32))]))
    have hk13 : ¬ ((1 : Int32) = (0 : Int32)) := (by decide)
    refine own_step (fun t k => XS.ifNo X12.here hx rfl (hb hby d3_47) rfl ((if0 _ _).trans (feq hk13).1) k) ?_
    show own_G p.tables e below _ (T12.setTop (mkF m 50 #[.val (.ref a1), .val (.ref a2), .val (.ref a2)] []))
    refine own_step (fun t k => XS.iconst X12.here hx rfl (hb hby d3_50) k) ?_
    show own_G p.tables e below _ (T12.setTop (mkF m 51 #[.val (.ref a1), .val (.ref a2), .val (.ref a2)] [(.int (1 : Int32))]))
    refine own_step (fun t k => XS.goto X12.here hx rfl (pc0 := 51) (pc' := 55) rfl (hb hby d3_51) (by decide) (by decide) k) ?_
    show own_G p.tables e below _ (T12.setTop (mkF m 55 #[.val (.ref a1), .val (.ref a2), .val (.ref a2)] [(.int (1 : Int32))]))
    obtain ⟨fs, hr, hrun, hended, hW, hsame⟩ := X12.leave (v := some (.int (1 : Int32))) (fun h => by rw [Bd.returns] at h; cases h)
    refine own_done (retN X12 hx (t := .boolean) Bd.returns (by simp) (hb hby d3_55) hr) hrun hended ⟨_, _, rfl, ?_, ⟨_, rfl⟩, hW, hsame.mono (by decide) (by decide)⟩
    show Q3_x1 Z a1 a2 s_COMPACT_STRINGS ba1 ba2 h0 n0 _ T12.heap _
    rw [e12]
    exact ⟨congrArg (fun z => some (Value.int z)) (show (1 : Int32) = (1 : Int32) from rfl), N12, rfl⟩
theorem d1_4 : decode prog_23_method_4_code 4 = .ok (.getstatic 7, 3) := by decide +kernel
theorem d1_7 : decode prog_23_method_4_code 7 = .ok (.goto 6, 3) := by decide +kernel
theorem pn_1_t1 : plainName "com/example/prudentia/prudentia/sec/Treatment" = true := by first | (simp [plainName, overriddenIn]; done) | decide +kernel
theorem ef_1_t1 (m : MethodId) : entryFrame m #[(.int (1 : Int32))] 1 = mkF m 0 #[.val (.int (1 : Int32))] [] := by first | (simp [entryFrame, mkF, argsToLocals, Value.category]; done) | rfl
def Q1_t1 (Z : State) (s_STS : Addr) (h0 : Heap) (n0 : Nat) (v : Option Value) (h : Heap) (L : List Loc) : Prop := v = some (.ref s_STS) ∧ Fr n0 L ∧ h = h0
set_option maxRecDepth 65536 in
set_option maxHeartbeats 40000000 in
theorem rm1_t1 (l : Launch) (Z : State) (a0 : Array Value) (hw : ∀ d ∈ tables_1, d.before a0 Z = true) (ws : List Jvm.Cond) (s_STS : Addr) (h0 : Heap) (n0 : Nat) (Z0 : n0 ≤ h0.size) (fp0 : Sta Z h0 "com/example/prudentia/prudentia/sec/Treatment" "STS" "Lcom/example/prudentia/prudentia/sec/Treatment;" (.ref s_STS)) :
    MetFree l (⟨"com/example/prudentia/prudentia/sec/Treatment", "of", "(Z)Lcom/example/prudentia/prudentia/sec/Treatment;"⟩ : MethodName) (head1 (Jvm.Cond.code (⟨"com/example/prudentia/prudentia/sec/Treatment", "of", "(Z)Lcom/example/prudentia/prudentia/sec/Treatment;"⟩ : MethodName) prog_23_method_4_code 1 (some (.object "com/example/prudentia/prudentia/sec/Treatment")) :: ws) ({ frames := 0, cells := 0, slots := 0, locals := 0 } : Room)) (fun a U => a = #[(.int (1 : Int32))] ∧ Z.Warmed39 U.vm ∧ U.heap = h0) (fun _ _ _ _ _ => True) (fun _ U o U' => ∃ v L, o = .returned v ∧ Q1_t1 Z s_STS h0 n0 v U'.heap L ∧ FrameEnd U o U' L ({ frames := 0, cells := 0, slots := 0, locals := 0 } : Room).cells ({ frames := 0, cells := 0, slots := 0, locals := 0 } : Room).slots) := by
  refine MetFree.of_bodySF (plainFor_of_name pn_1_t1) hisR ?_
  intro p e s m args below meth c s₁ Bd hml0 hP hK
  obtain ⟨rfl, hZ, hh⟩ := hP
  have hx := Bd.exec
  have hby := Bd.bytes
  have hml : c.maxLocals = 1 := hml0
  have hown : s.vm.findClass "com/example/prudentia/prudentia/sec/Treatment" = some m.cls := findClass_of_methodNamed Bd.named
  have hnm := (name_of_methodNamed Bd.named Bd.method).1
  have X0 : Stand p l e ({ frames := 0, cells := 0, slots := 0, locals := 0 } : Room) s m #[(.int (1 : Int32))] below meth c s₁ [] 0 0 := Stand.of_body Bd
  have e0 : s₁.heap = h0 := by rw [← hh, Bd.state]; rfl
  have N0 := Fr.nil n0
  refine own_start (fun t k => castTop (ef_1_t1 m) k) ?_
  show own_G p.tables e below _ (s₁.setTop (mkF m 0 #[.val (.int (1 : Int32))] []))
  refine own_step (fun t k => XS.iloadN X0.here hx rfl (hb hby d1_0) rfl k) ?_
  show own_G p.tables e below _ (s₁.setTop (mkF m 1 #[.val (.int (1 : Int32))] [(.int (1 : Int32))]))
  have hk1 : ¬ ((1 : Int32) = (0 : Int32)) := (by decide)
  refine own_step (fun t k => XS.ifNo X0.here hx rfl (hb hby d1_1) rfl ((if0 _ _).trans (feq hk1).1) k) ?_
  show own_G p.tables e below _ (s₁.setTop (mkF m 4 #[.val (.int (1 : Int32))] []))
  obtain ⟨T2, X2, e2, st2⟩ := getS2 X0 hx hZ hown (host := "") (Or.inl (hw _ (List.mem_of_getElem? (i := 44) rfl))) Via.refl e0 fp0 (g := (mkF m 4 #[.val (.int (1 : Int32))] [])) rfl (hb hby d1_4)
  refine own_step st2 ?_
  show own_G p.tables e below _ (T2.setTop (mkF m 7 #[.val (.int (1 : Int32))] [(.ref s_STS)]))
  refine own_step (fun t k => XS.goto X2.here hx rfl (pc0 := 7) (pc' := 13) rfl (hb hby d1_7) (by decide) (by decide) k) ?_
  show own_G p.tables e below _ (T2.setTop (mkF m 13 #[.val (.int (1 : Int32))] [(.ref s_STS)]))
  obtain ⟨fs, hr, hrun, hended, hW, hsame⟩ := X2.leave (v := some (.ref s_STS)) (fun h => by rw [Bd.returns] at h; cases h)
  refine own_done (own_retA X2 hx Bd.returns (by decide) rfl (hb hby d1_13) hr) hrun hended ⟨_, _, rfl, ?_, ⟨_, rfl⟩, hW, hsame.mono (by decide) (by decide)⟩
  show Q1_t1 Z s_STS h0 n0 _ T2.heap _
  rw [e2]
  exact ⟨rfl, N0, rfl⟩
theorem pn_4_x2 : plainName "java/lang/StringLatin1" = true := by first | (simp [plainName, overriddenIn]; done) | decide +kernel
theorem ef_4_x2 (m : MethodId) (a1 : Addr) (a2 : Addr) : entryFrame m #[(.ref a1), (.ref a2)] 3 = mkF m 0 #[.val (.ref a1), .val (.ref a2), .unset] [] := by first | (simp [entryFrame, mkF, argsToLocals, Value.category]; done) | rfl
def Q4_x2 (Z : State) (a1 : Addr) (a2 : Addr) (h0 : Heap) (n0 : Nat) (v : Option Value) (h : Heap) (L : List Loc) : Prop := v = some (.int (1 : Int32)) ∧ Fr n0 L ∧ h = h0
set_option maxRecDepth 65536 in
set_option maxHeartbeats 40000000 in
theorem rm4_x2 (l : Launch) (Z : State) (a0 : Array Value) (hw : ∀ d ∈ tables_1, d.before a0 Z = true) (ws : List Jvm.Cond) (a1 : Addr) (a2 : Addr) (h0 : Heap) (n0 : Nat) (Z0 : n0 ≤ h0.size) (fp0 : own_Ari Z h0 a1 .byte [(115 : Int32), (116 : Int32), (115 : Int32)]) (fp1 : own_Ari Z h0 a2 .byte [(115 : Int32), (116 : Int32), (115 : Int32)]) :
    MetFree l (⟨"java/lang/StringLatin1", "equals", "([B[B)Z"⟩ : MethodName) (head1 (Jvm.Cond.code (⟨"java/lang/StringLatin1", "equals", "([B[B)Z"⟩ : MethodName) jdk_43_method_13_code 3 (some .boolean) :: ws) ({ frames := 0, cells := 0, slots := 0, locals := 0 } : Room)) (fun a U => a = #[(.ref a1), (.ref a2)] ∧ Z.Warmed39 U.vm ∧ U.heap = h0) (fun _ _ _ _ _ => True) (fun _ U o U' => ∃ v L, o = .returned v ∧ Q4_x2 Z a1 a2 h0 n0 v U'.heap L ∧ FrameEnd U o U' L ({ frames := 0, cells := 0, slots := 0, locals := 0 } : Room).cells ({ frames := 0, cells := 0, slots := 0, locals := 0 } : Room).slots) := by
  refine MetFree.of_bodySF (plainFor_of_name pn_4_x2) hisR ?_
  intro p e s m args below meth c s₁ Bd hml0 hP hK
  obtain ⟨rfl, hZ, hh⟩ := hP
  have hx := Bd.exec
  have hby := Bd.bytes
  have hml : c.maxLocals = 3 := hml0
  have hown : s.vm.findClass "java/lang/StringLatin1" = some m.cls := findClass_of_methodNamed Bd.named
  have hnm := (name_of_methodNamed Bd.named Bd.method).1
  have X0 : Stand p l e ({ frames := 0, cells := 0, slots := 0, locals := 0 } : Room) s m #[(.ref a1), (.ref a2)] below meth c s₁ [] 0 0 := Stand.of_body Bd
  have e0 : s₁.heap = h0 := by rw [← hh, Bd.state]; rfl
  have N0 := Fr.nil n0
  refine own_start (fun t k => castTop (ef_4_x2 m a1 a2) k) ?_
  show own_G p.tables e below _ (s₁.setTop (mkF m 0 #[.val (.ref a1), .val (.ref a2), .unset] []))
  refine own_step (fun t k => XS.aloadN X0.here hx rfl (hb hby d4_0) rfl rfl k) ?_
  show own_G p.tables e below _ (s₁.setTop (mkF m 1 #[.val (.ref a1), .val (.ref a2), .unset] [(.ref a1)]))
  refine own_step (own_lenI X0 hx hZ e0 fp0 (g := (mkF m 1 #[.val (.ref a1), .val (.ref a2), .unset] [(.ref a1)])) rfl rfl (hb hby d4_1)) ?_
  show own_G p.tables e below _ (s₁.setTop (mkF m 2 #[.val (.ref a1), .val (.ref a2), .unset] [(.int (3 : Int32))]))
  refine own_step (fun t k => XS.aloadN X0.here hx rfl (hb hby d4_2) rfl rfl k) ?_
  show own_G p.tables e below _ (s₁.setTop (mkF m 3 #[.val (.ref a1), .val (.ref a2), .unset] [(.ref a2), (.int (3 : Int32))]))
  refine own_step (own_lenI X0 hx hZ e0 fp1 (g := (mkF m 3 #[.val (.ref a1), .val (.ref a2), .unset] [(.ref a2), (.int (3 : Int32))])) rfl rfl (hb hby d4_3)) ?_
  show own_G p.tables e below _ (s₁.setTop (mkF m 4 #[.val (.ref a1), .val (.ref a2), .unset] [(.int (3 : Int32)), (.int (3 : Int32))]))
  have hk1 : (3 : Int32) = (3 : Int32) := rfl
  refine own_step (fun t k => XS.icmpNo X0.here hx rfl (hb hby d4_4) rfl ((teq hk1).2) k) ?_
  show own_G p.tables e below _ (s₁.setTop (mkF m 7 #[.val (.ref a1), .val (.ref a2), .unset] []))
  refine own_step (fun t k => XS.iconst X0.here hx rfl (hb hby d4_7) k) ?_
  show own_G p.tables e below _ (s₁.setTop (mkF m 8 #[.val (.ref a1), .val (.ref a2), .unset] [(.int (0 : Int32))]))
  refine own_step (fun t k => XS.istoreN X0.here hx rfl (hb hby d4_8) rfl (l' := #[.val (.ref a1), .val (.ref a2), .val (.int (0 : Int32))]) rfl k) ?_
  show own_G p.tables e below _ (s₁.setTop (mkF m 9 #[.val (.ref a1), .val (.ref a2), .val (.int (0 : Int32))] []))
  refine own_step (fun t k => XS.iloadN X0.here hx rfl (hb hby d4_9) rfl k) ?_
  show own_G p.tables e below _ (s₁.setTop (mkF m 10 #[.val (.ref a1), .val (.ref a2), .val (.int (0 : Int32))] [(.int (0 : Int32))]))
  refine own_step (fun t k => XS.aloadN X0.here hx rfl (hb hby d4_10) rfl rfl k) ?_
  show own_G p.tables e below _ (s₁.setTop (mkF m 11 #[.val (.ref a1), .val (.ref a2), .val (.int (0 : Int32))] [(.ref a1), (.int (0 : Int32))]))
  refine own_step (own_lenI X0 hx hZ e0 fp0 (g := (mkF m 11 #[.val (.ref a1), .val (.ref a2), .val (.int (0 : Int32))] [(.ref a1), (.int (0 : Int32))])) rfl rfl (hb hby d4_11)) ?_
  show own_G p.tables e below _ (s₁.setTop (mkF m 12 #[.val (.ref a1), .val (.ref a2), .val (.int (0 : Int32))] [(.int (3 : Int32)), (.int (0 : Int32))]))
  have hk2 : (0 : Int32) < (3 : Int32) := (by decide)
  refine own_step (fun t k => XS.icmpNo X0.here hx rfl (hb hby d4_12) rfl ((tlt hk2).2.1) k) ?_
  show own_G p.tables e below _ (s₁.setTop (mkF m 15 #[.val (.ref a1), .val (.ref a2), .val (.int (0 : Int32))] []))
  refine own_step (fun t k => XS.aloadN X0.here hx rfl (hb hby d4_15) rfl rfl k) ?_
  show own_G p.tables e below _ (s₁.setTop (mkF m 16 #[.val (.ref a1), .val (.ref a2), .val (.int (0 : Int32))] [(.ref a1)]))
  refine own_step (fun t k => XS.iloadN X0.here hx rfl (hb hby d4_16) rfl k) ?_
  show own_G p.tables e below _ (s₁.setTop (mkF m 17 #[.val (.ref a1), .val (.ref a2), .val (.int (0 : Int32))] [(.int (0 : Int32)), (.ref a1)]))
  refine own_step (own_baload X0 hx hZ e0 fp0 (own_inb (by decide) (Nat.le_of_ble_eq_true rfl)) (g := (mkF m 17 #[.val (.ref a1), .val (.ref a2), .val (.int (0 : Int32))] [(.int (0 : Int32)), (.ref a1)])) rfl rfl (hb hby d4_17)) ?_
  show own_G p.tables e below _ (s₁.setTop (mkF m 18 #[.val (.ref a1), .val (.ref a2), .val (.int (0 : Int32))] [(.int (115 : Int32))]))
  refine own_step (fun t k => XS.aloadN X0.here hx rfl (hb hby d4_18) rfl rfl k) ?_
  show own_G p.tables e below _ (s₁.setTop (mkF m 19 #[.val (.ref a1), .val (.ref a2), .val (.int (0 : Int32))] [(.ref a2), (.int (115 : Int32))]))
  refine own_step (fun t k => XS.iloadN X0.here hx rfl (hb hby d4_19) rfl k) ?_
  show own_G p.tables e below _ (s₁.setTop (mkF m 20 #[.val (.ref a1), .val (.ref a2), .val (.int (0 : Int32))] [(.int (0 : Int32)), (.ref a2), (.int (115 : Int32))]))
  refine own_step (own_baload X0 hx hZ e0 fp1 (own_inb (by decide) (Nat.le_of_ble_eq_true rfl)) (g := (mkF m 20 #[.val (.ref a1), .val (.ref a2), .val (.int (0 : Int32))] [(.int (0 : Int32)), (.ref a2), (.int (115 : Int32))])) rfl rfl (hb hby d4_20)) ?_
  show own_G p.tables e below _ (s₁.setTop (mkF m 21 #[.val (.ref a1), .val (.ref a2), .val (.int (0 : Int32))] [(.int (115 : Int32)), (.int (115 : Int32))]))
  have hk3 : (115 : Int32) = (115 : Int32) := rfl
  refine own_step (fun t k => XS.icmpYes X0.here hx rfl (pc0 := 21) (pc' := 26) rfl (hb hby d4_21) rfl ((teq hk3).1) (by decide) (by decide) k) ?_
  show own_G p.tables e below _ (s₁.setTop (mkF m 26 #[.val (.ref a1), .val (.ref a2), .val (.int (0 : Int32))] []))
  refine own_step (fun t k => XS.iinc X0.here hx rfl (hb hby d4_26) rfl (l' := #[.val (.ref a1), .val (.ref a2), .val (.int (1 : Int32))]) rfl k) ?_
  show own_G p.tables e below _ (s₁.setTop (mkF m 29 #[.val (.ref a1), .val (.ref a2), .val (.int (1 : Int32))] []))
  refine own_step (fun t k => XS.goto X0.here hx rfl (pc0 := 29) (pc' := 9) rfl (hb hby d4_29) (by decide) (by decide) k) ?_
  show own_G p.tables e below _ (s₁.setTop (mkF m 9 #[.val (.ref a1), .val (.ref a2), .val (.int (1 : Int32))] []))
  refine own_step (fun t k => XS.iloadN X0.here hx rfl (hb hby d4_9) rfl k) ?_
  show own_G p.tables e below _ (s₁.setTop (mkF m 10 #[.val (.ref a1), .val (.ref a2), .val (.int (1 : Int32))] [(.int (1 : Int32))]))
  refine own_step (fun t k => XS.aloadN X0.here hx rfl (hb hby d4_10) rfl rfl k) ?_
  show own_G p.tables e below _ (s₁.setTop (mkF m 11 #[.val (.ref a1), .val (.ref a2), .val (.int (1 : Int32))] [(.ref a1), (.int (1 : Int32))]))
  refine own_step (own_lenI X0 hx hZ e0 fp0 (g := (mkF m 11 #[.val (.ref a1), .val (.ref a2), .val (.int (1 : Int32))] [(.ref a1), (.int (1 : Int32))])) rfl rfl (hb hby d4_11)) ?_
  show own_G p.tables e below _ (s₁.setTop (mkF m 12 #[.val (.ref a1), .val (.ref a2), .val (.int (1 : Int32))] [(.int (3 : Int32)), (.int (1 : Int32))]))
  have hk4 : (1 : Int32) < (3 : Int32) := (by decide)
  refine own_step (fun t k => XS.icmpNo X0.here hx rfl (hb hby d4_12) rfl ((tlt hk4).2.1) k) ?_
  show own_G p.tables e below _ (s₁.setTop (mkF m 15 #[.val (.ref a1), .val (.ref a2), .val (.int (1 : Int32))] []))
  refine own_step (fun t k => XS.aloadN X0.here hx rfl (hb hby d4_15) rfl rfl k) ?_
  show own_G p.tables e below _ (s₁.setTop (mkF m 16 #[.val (.ref a1), .val (.ref a2), .val (.int (1 : Int32))] [(.ref a1)]))
  refine own_step (fun t k => XS.iloadN X0.here hx rfl (hb hby d4_16) rfl k) ?_
  show own_G p.tables e below _ (s₁.setTop (mkF m 17 #[.val (.ref a1), .val (.ref a2), .val (.int (1 : Int32))] [(.int (1 : Int32)), (.ref a1)]))
  refine own_step (own_baload X0 hx hZ e0 fp0 (own_inb (by decide) (Nat.le_of_ble_eq_true rfl)) (g := (mkF m 17 #[.val (.ref a1), .val (.ref a2), .val (.int (1 : Int32))] [(.int (1 : Int32)), (.ref a1)])) rfl rfl (hb hby d4_17)) ?_
  show own_G p.tables e below _ (s₁.setTop (mkF m 18 #[.val (.ref a1), .val (.ref a2), .val (.int (1 : Int32))] [(.int (116 : Int32))]))
  refine own_step (fun t k => XS.aloadN X0.here hx rfl (hb hby d4_18) rfl rfl k) ?_
  show own_G p.tables e below _ (s₁.setTop (mkF m 19 #[.val (.ref a1), .val (.ref a2), .val (.int (1 : Int32))] [(.ref a2), (.int (116 : Int32))]))
  refine own_step (fun t k => XS.iloadN X0.here hx rfl (hb hby d4_19) rfl k) ?_
  show own_G p.tables e below _ (s₁.setTop (mkF m 20 #[.val (.ref a1), .val (.ref a2), .val (.int (1 : Int32))] [(.int (1 : Int32)), (.ref a2), (.int (116 : Int32))]))
  refine own_step (own_baload X0 hx hZ e0 fp1 (own_inb (by decide) (Nat.le_of_ble_eq_true rfl)) (g := (mkF m 20 #[.val (.ref a1), .val (.ref a2), .val (.int (1 : Int32))] [(.int (1 : Int32)), (.ref a2), (.int (116 : Int32))])) rfl rfl (hb hby d4_20)) ?_
  show own_G p.tables e below _ (s₁.setTop (mkF m 21 #[.val (.ref a1), .val (.ref a2), .val (.int (1 : Int32))] [(.int (116 : Int32)), (.int (116 : Int32))]))
  have hk5 : (116 : Int32) = (116 : Int32) := rfl
  refine own_step (fun t k => XS.icmpYes X0.here hx rfl (pc0 := 21) (pc' := 26) rfl (hb hby d4_21) rfl ((teq hk5).1) (by decide) (by decide) k) ?_
  show own_G p.tables e below _ (s₁.setTop (mkF m 26 #[.val (.ref a1), .val (.ref a2), .val (.int (1 : Int32))] []))
  refine own_step (fun t k => XS.iinc X0.here hx rfl (hb hby d4_26) rfl (l' := #[.val (.ref a1), .val (.ref a2), .val (.int (2 : Int32))]) rfl k) ?_
  show own_G p.tables e below _ (s₁.setTop (mkF m 29 #[.val (.ref a1), .val (.ref a2), .val (.int (2 : Int32))] []))
  refine own_step (fun t k => XS.goto X0.here hx rfl (pc0 := 29) (pc' := 9) rfl (hb hby d4_29) (by decide) (by decide) k) ?_
  show own_G p.tables e below _ (s₁.setTop (mkF m 9 #[.val (.ref a1), .val (.ref a2), .val (.int (2 : Int32))] []))
  refine own_step (fun t k => XS.iloadN X0.here hx rfl (hb hby d4_9) rfl k) ?_
  show own_G p.tables e below _ (s₁.setTop (mkF m 10 #[.val (.ref a1), .val (.ref a2), .val (.int (2 : Int32))] [(.int (2 : Int32))]))
  refine own_step (fun t k => XS.aloadN X0.here hx rfl (hb hby d4_10) rfl rfl k) ?_
  show own_G p.tables e below _ (s₁.setTop (mkF m 11 #[.val (.ref a1), .val (.ref a2), .val (.int (2 : Int32))] [(.ref a1), (.int (2 : Int32))]))
  refine own_step (own_lenI X0 hx hZ e0 fp0 (g := (mkF m 11 #[.val (.ref a1), .val (.ref a2), .val (.int (2 : Int32))] [(.ref a1), (.int (2 : Int32))])) rfl rfl (hb hby d4_11)) ?_
  show own_G p.tables e below _ (s₁.setTop (mkF m 12 #[.val (.ref a1), .val (.ref a2), .val (.int (2 : Int32))] [(.int (3 : Int32)), (.int (2 : Int32))]))
  have hk6 : (2 : Int32) < (3 : Int32) := (by decide)
  refine own_step (fun t k => XS.icmpNo X0.here hx rfl (hb hby d4_12) rfl ((tlt hk6).2.1) k) ?_
  show own_G p.tables e below _ (s₁.setTop (mkF m 15 #[.val (.ref a1), .val (.ref a2), .val (.int (2 : Int32))] []))
  refine own_step (fun t k => XS.aloadN X0.here hx rfl (hb hby d4_15) rfl rfl k) ?_
  show own_G p.tables e below _ (s₁.setTop (mkF m 16 #[.val (.ref a1), .val (.ref a2), .val (.int (2 : Int32))] [(.ref a1)]))
  refine own_step (fun t k => XS.iloadN X0.here hx rfl (hb hby d4_16) rfl k) ?_
  show own_G p.tables e below _ (s₁.setTop (mkF m 17 #[.val (.ref a1), .val (.ref a2), .val (.int (2 : Int32))] [(.int (2 : Int32)), (.ref a1)]))
  refine own_step (own_baload X0 hx hZ e0 fp0 (own_inb (by decide) (Nat.le_of_ble_eq_true rfl)) (g := (mkF m 17 #[.val (.ref a1), .val (.ref a2), .val (.int (2 : Int32))] [(.int (2 : Int32)), (.ref a1)])) rfl rfl (hb hby d4_17)) ?_
  show own_G p.tables e below _ (s₁.setTop (mkF m 18 #[.val (.ref a1), .val (.ref a2), .val (.int (2 : Int32))] [(.int (115 : Int32))]))
  refine own_step (fun t k => XS.aloadN X0.here hx rfl (hb hby d4_18) rfl rfl k) ?_
  show own_G p.tables e below _ (s₁.setTop (mkF m 19 #[.val (.ref a1), .val (.ref a2), .val (.int (2 : Int32))] [(.ref a2), (.int (115 : Int32))]))
  refine own_step (fun t k => XS.iloadN X0.here hx rfl (hb hby d4_19) rfl k) ?_
  show own_G p.tables e below _ (s₁.setTop (mkF m 20 #[.val (.ref a1), .val (.ref a2), .val (.int (2 : Int32))] [(.int (2 : Int32)), (.ref a2), (.int (115 : Int32))]))
  refine own_step (own_baload X0 hx hZ e0 fp1 (own_inb (by decide) (Nat.le_of_ble_eq_true rfl)) (g := (mkF m 20 #[.val (.ref a1), .val (.ref a2), .val (.int (2 : Int32))] [(.int (2 : Int32)), (.ref a2), (.int (115 : Int32))])) rfl rfl (hb hby d4_20)) ?_
  show own_G p.tables e below _ (s₁.setTop (mkF m 21 #[.val (.ref a1), .val (.ref a2), .val (.int (2 : Int32))] [(.int (115 : Int32)), (.int (115 : Int32))]))
  have hk7 : (115 : Int32) = (115 : Int32) := rfl
  refine own_step (fun t k => XS.icmpYes X0.here hx rfl (pc0 := 21) (pc' := 26) rfl (hb hby d4_21) rfl ((teq hk7).1) (by decide) (by decide) k) ?_
  show own_G p.tables e below _ (s₁.setTop (mkF m 26 #[.val (.ref a1), .val (.ref a2), .val (.int (2 : Int32))] []))
  refine own_step (fun t k => XS.iinc X0.here hx rfl (hb hby d4_26) rfl (l' := #[.val (.ref a1), .val (.ref a2), .val (.int (3 : Int32))]) rfl k) ?_
  show own_G p.tables e below _ (s₁.setTop (mkF m 29 #[.val (.ref a1), .val (.ref a2), .val (.int (3 : Int32))] []))
  refine own_step (fun t k => XS.goto X0.here hx rfl (pc0 := 29) (pc' := 9) rfl (hb hby d4_29) (by decide) (by decide) k) ?_
  show own_G p.tables e below _ (s₁.setTop (mkF m 9 #[.val (.ref a1), .val (.ref a2), .val (.int (3 : Int32))] []))
  refine own_step (fun t k => XS.iloadN X0.here hx rfl (hb hby d4_9) rfl k) ?_
  show own_G p.tables e below _ (s₁.setTop (mkF m 10 #[.val (.ref a1), .val (.ref a2), .val (.int (3 : Int32))] [(.int (3 : Int32))]))
  refine own_step (fun t k => XS.aloadN X0.here hx rfl (hb hby d4_10) rfl rfl k) ?_
  show own_G p.tables e below _ (s₁.setTop (mkF m 11 #[.val (.ref a1), .val (.ref a2), .val (.int (3 : Int32))] [(.ref a1), (.int (3 : Int32))]))
  refine own_step (own_lenI X0 hx hZ e0 fp0 (g := (mkF m 11 #[.val (.ref a1), .val (.ref a2), .val (.int (3 : Int32))] [(.ref a1), (.int (3 : Int32))])) rfl rfl (hb hby d4_11)) ?_
  show own_G p.tables e below _ (s₁.setTop (mkF m 12 #[.val (.ref a1), .val (.ref a2), .val (.int (3 : Int32))] [(.int (3 : Int32)), (.int (3 : Int32))]))
  have hk8 : ¬ ((3 : Int32) < (3 : Int32)) := (by decide)
  refine own_step (fun t k => XS.icmpYes X0.here hx rfl (pc0 := 12) (pc' := 32) rfl (hb hby d4_12) rfl ((flt hk8).2.1) (by decide) (by decide) k) ?_
  show own_G p.tables e below _ (s₁.setTop (mkF m 32 #[.val (.ref a1), .val (.ref a2), .val (.int (3 : Int32))] []))
  refine own_step (fun t k => XS.iconst X0.here hx rfl (hb hby d4_32) k) ?_
  show own_G p.tables e below _ (s₁.setTop (mkF m 33 #[.val (.ref a1), .val (.ref a2), .val (.int (3 : Int32))] [(.int (1 : Int32))]))
  obtain ⟨fs, hr, hrun, hended, hW, hsame⟩ := X0.leave (v := some (.int (1 : Int32))) (fun h => by rw [Bd.returns] at h; cases h)
  refine own_done (retN X0 hx (t := .boolean) Bd.returns (by simp) (hb hby d4_33) hr) hrun hended ⟨_, _, rfl, ?_, ⟨_, rfl⟩, hW, hsame.mono (by decide) (by decide)⟩
  show Q4_x2 Z a1 a2 h0 n0 _ s₁.heap _
  rw [e0]
  exact ⟨congrArg (fun z => some (Value.int z)) (show (1 : Int32) = (1 : Int32) from rfl), N0, rfl⟩
theorem pn_3_x2 : plainName "java/lang/String" = true := by first | (simp [plainName, overriddenIn]; done) | decide +kernel
theorem pd_3_x2_0 : parseMethodDescriptor "([B[B)Z" = some ⟨[(.array .byte), (.array .byte)], some .boolean⟩ := by decide +kernel
theorem ef_3_x2 (m : MethodId) (a1 : Addr) (a2 : Addr) : entryFrame m #[(.ref a1), (.ref a2)] 3 = mkF m 0 #[.val (.ref a1), .val (.ref a2), .unset] [] := by first | (simp [entryFrame, mkF, argsToLocals, Value.category]; done) | rfl
def Q3_x2 (Z : State) (a1 : Addr) (a2 : Addr) (s_COMPACT_STRINGS : Int32) (ba1 : Addr) (ba2 : Addr) (h0 : Heap) (n0 : Nat) (v : Option Value) (h : Heap) (L : List Loc) : Prop := v = some (.int (1 : Int32)) ∧ Fr n0 L ∧ h = h0
set_option maxRecDepth 65536 in
set_option maxHeartbeats 40000000 in
theorem rm3_x2 (l : Launch) (Z : State) (a0 : Array Value) (hw : ∀ d ∈ tables_1, d.before a0 Z = true) (ws : List Jvm.Cond) (a1 : Addr) (a2 : Addr) (s_COMPACT_STRINGS : Int32) (ba1 : Addr) (ba2 : Addr) (h0 : Heap) (n0 : Nat) (Z0 : n0 ≤ h0.size) (fp0 : Sta Z h0 "java/lang/String" "COMPACT_STRINGS" "Z" (.int s_COMPACT_STRINGS)) (fp1 : Exa Z h0 a1 "java/lang/String") (fp2 : Fld Z h0 a1 "java/lang/String" "coder" "B" (.int (0 : Int32))) (fp3 : Fld Z h0 a1 "java/lang/String" "value" "[B" (.ref ba1)) (fp4 : own_Ari Z h0 ba1 .byte [(115 : Int32), (116 : Int32), (115 : Int32)]) (fp5 : Exa Z h0 a2 "java/lang/String") (fp6 : Fld Z h0 a2 "java/lang/String" "coder" "B" (.int (0 : Int32))) (fp7 : Fld Z h0 a2 "java/lang/String" "value" "[B" (.ref ba2)) (fp8 : own_Ari Z h0 ba2 .byte [(115 : Int32), (116 : Int32), (115 : Int32)]) (hcs : ¬ (s_COMPACT_STRINGS = (0 : Int32))) :
    MetFree l (⟨"java/lang/String", "equals", "(Ljava/lang/Object;)Z"⟩ : MethodName) (head1 (Jvm.Cond.code (⟨"java/lang/String", "equals", "(Ljava/lang/Object;)Z"⟩ : MethodName) jdk_42_method_66_code 3 (some .boolean) :: ws) ({ frames := 1, cells := 0, slots := 0, locals := 14 } : Room)) (fun a U => a = #[(.ref a1), (.ref a2)] ∧ Z.Warmed39 U.vm ∧ U.heap = h0) (fun _ _ _ _ _ => True) (fun _ U o U' => ∃ v L, o = .returned v ∧ Q3_x2 Z a1 a2 s_COMPACT_STRINGS ba1 ba2 h0 n0 v U'.heap L ∧ FrameEnd U o U' L ({ frames := 1, cells := 0, slots := 0, locals := 14 } : Room).cells ({ frames := 1, cells := 0, slots := 0, locals := 14 } : Room).slots) := by
  refine MetFree.of_bodySF (plainFor_of_name pn_3_x2) hisR ?_
  intro p e s m args below meth c s₁ Bd hml0 hP hK
  obtain ⟨rfl, hZ, hh⟩ := hP
  have hx := Bd.exec
  have hby := Bd.bytes
  have hml : c.maxLocals = 3 := hml0
  have hown : s.vm.findClass "java/lang/String" = some m.cls := findClass_of_methodNamed Bd.named
  have hnm := (name_of_methodNamed Bd.named Bd.method).1
  have X0 : Stand p l e ({ frames := 1, cells := 0, slots := 0, locals := 14 } : Room) s m #[(.ref a1), (.ref a2)] below meth c s₁ [] 0 0 := Stand.of_body Bd
  have e0 : s₁.heap = h0 := by rw [← hh, Bd.state]; rfl
  have N0 := Fr.nil n0
  refine own_start (fun t k => castTop (ef_3_x2 m a1 a2) k) ?_
  show own_G p.tables e below _ (s₁.setTop (mkF m 0 #[.val (.ref a1), .val (.ref a2), .unset] []))
  refine own_step (fun t k => XS.aloadN X0.here hx rfl (hb hby d3_0) rfl rfl k) ?_
  show own_G p.tables e below _ (s₁.setTop (mkF m 1 #[.val (.ref a1), .val (.ref a2), .unset] [(.ref a1)]))
  refine own_step (fun t k => XS.aloadN X0.here hx rfl (hb hby d3_1) rfl rfl k) ?_
  show own_G p.tables e below _ (s₁.setTop (mkF m 2 #[.val (.ref a1), .val (.ref a2), .unset] [(.ref a2), (.ref a1)]))
  by_cases ha1 : a1 = a2
  · skip
    refine own_step (fun t k => Jvm.RoadKit.acmp (g := (mkF m 2 #[.val (.ref a1), .val (.ref a2), .unset] [(.ref a2), (.ref a1)])) X0 hx rfl rfl rfl (pc0 := 2) (pc' := 5) (same := true) rfl (hb hby d3_2) rfl (decide_eq_true (congrArg Value.ref ha1)) (by decide) (by decide) k) ?_
    show own_G p.tables e below _ (s₁.setTop (mkF m 5 #[.val (.ref a1), .val (.ref a2), .unset] []))
    refine own_step (fun t k => XS.iconst X0.here hx rfl (hb hby d3_5) k) ?_
    show own_G p.tables e below _ (s₁.setTop (mkF m 6 #[.val (.ref a1), .val (.ref a2), .unset] [(.int (1 : Int32))]))
    obtain ⟨fs, hr, hrun, hended, hW, hsame⟩ := X0.leave (v := some (.int (1 : Int32))) (fun h => by rw [Bd.returns] at h; cases h)
    refine own_done (retN X0 hx (t := .boolean) Bd.returns (by simp) (hb hby d3_6) hr) hrun hended ⟨_, _, rfl, ?_, ⟨_, rfl⟩, hW, hsame.mono (by decide) (by decide)⟩
    show Q3_x2 Z a1 a2 s_COMPACT_STRINGS ba1 ba2 h0 n0 _ s₁.heap _
    rw [e0]
    exact ⟨congrArg (fun z => some (Value.int z)) (show (1 : Int32) = (1 : Int32) from rfl), N0, rfl⟩
  · skip
    refine own_step (fun t k => Jvm.RoadKit.acmp (g := (mkF m 2 #[.val (.ref a1), .val (.ref a2), .unset] [(.ref a2), (.ref a1)])) X0 hx rfl rfl rfl (pc0 := 2) (pc' := 7) (same := false) rfl (hb hby d3_2) rfl (decide_eq_false fun q => ha1 (Value.ref.inj q)) (by decide) (by decide) k) ?_
    show own_G p.tables e below _ (s₁.setTop (mkF m 7 #[.val (.ref a1), .val (.ref a2), .unset] []))
    refine own_step (fun t k => XS.aloadN X0.here hx rfl (hb hby d3_7) rfl rfl k) ?_
    show own_G p.tables e below _ (s₁.setTop (mkF m 8 #[.val (.ref a1), .val (.ref a2), .unset] [(.ref a2)]))
    obtain ⟨T2, X2, e2, st2⟩ := instY X0 hx hZ hown (hw _ (List.mem_of_getElem? (i := 27) rfl)) e0 (Ins.self fp5) (g := (mkF m 8 #[.val (.ref a1), .val (.ref a2), .unset] [(.ref a2)])) rfl rfl (hb hby d3_8)
    refine own_step st2 ?_
    show own_G p.tables e below _ (T2.setTop (mkF m 11 #[.val (.ref a1), .val (.ref a2), .unset] [(.int (1 : Int32))]))
    have hk3 : ¬ ((1 : Int32) = (0 : Int32)) := (by decide)
    refine own_step (fun t k => XS.ifNo X2.here hx rfl (hb hby d3_11) rfl ((if0 _ _).trans (feq hk3).1) k) ?_
    show own_G p.tables e below _ (T2.setTop (mkF m 14 #[.val (.ref a1), .val (.ref a2), .unset] []))
    refine own_step (fun t k => XS.aloadN X2.here hx rfl (hb hby d3_14) rfl rfl k) ?_
    show own_G p.tables e below _ (T2.setTop (mkF m 15 #[.val (.ref a1), .val (.ref a2), .unset] [(.ref a2)]))
    obtain ⟨T4, X4, e4, st4⟩ := castY X2 hx hZ hown (hw _ (List.mem_of_getElem? (i := 27) rfl)) e2 (Ins.self fp5) (g := (mkF m 15 #[.val (.ref a1), .val (.ref a2), .unset] [(.ref a2)])) rfl rfl (hb hby d3_15)
    refine own_step st4 ?_
    show own_G p.tables e below _ (T4.setTop (mkF m 18 #[.val (.ref a1), .val (.ref a2), .unset] [(.ref a2)]))
    refine own_step (fun t k => XS.astoreN X4.here hx rfl (hb hby d3_18) rfl rfl (l' := #[.val (.ref a1), .val (.ref a2), .val (.ref a2)]) rfl k) ?_
    show own_G p.tables e below _ (T4.setTop (mkF m 19 #[.val (.ref a1), .val (.ref a2), .val (.ref a2)] []))
    obtain ⟨T5, X5, e5, st5⟩ := getS2 X4 hx hZ hown (host := "") (Or.inl (hw _ (List.mem_of_getElem? (i := 29) rfl))) Via.refl e4 fp0 (g := (mkF m 19 #[.val (.ref a1), .val (.ref a2), .val (.ref a2)] [])) rfl (hb hby d3_19)
    refine own_step st5 ?_
    show own_G p.tables e below _ (T5.setTop (mkF m 22 #[.val (.ref a1), .val (.ref a2), .val (.ref a2)] [(.int s_COMPACT_STRINGS)]))
    have hk6 : ¬ (s_COMPACT_STRINGS = (0 : Int32)) := hcs
    refine own_step (fun t k => XS.ifNo X5.here hx rfl (hb hby d3_22) rfl ((if0 _ _).trans (feq hk6).1) k) ?_
    show own_G p.tables e below _ (T5.setTop (mkF m 25 #[.val (.ref a1), .val (.ref a2), .val (.ref a2)] []))
    refine own_step (fun t k => XS.aloadN X5.here hx rfl (hb hby d3_25) rfl rfl k) ?_
    show own_G p.tables e below _ (T5.setTop (mkF m 26 #[.val (.ref a1), .val (.ref a2), .val (.ref a2)] [(.ref a1)]))
    obtain ⟨T7, X7, e7, st7⟩ := getF X5 hx hZ hown (host := "") (Or.inl (hw _ (List.mem_of_getElem? (i := 30) rfl))) Via.refl e5 fp2 (g := (mkF m 26 #[.val (.ref a1), .val (.ref a2), .val (.ref a2)] [(.ref a1)])) rfl rfl (hb hby d3_26)
    refine own_step st7 ?_
    clear X2 X4 X5 e2 e4 e5 hk3 hk6 st2 st4 st5 st7
    show own_G p.tables e below _ (T7.setTop (mkF m 29 #[.val (.ref a1), .val (.ref a2), .val (.ref a2)] [(.int (0 : Int32))]))
    refine own_step (fun t k => XS.aloadN X7.here hx rfl (hb hby d3_29) rfl rfl k) ?_
    show own_G p.tables e below _ (T7.setTop (mkF m 30 #[.val (.ref a1), .val (.ref a2), .val (.ref a2)] [(.ref a2), (.int (0 : Int32))]))
    obtain ⟨T8, X8, e8, st8⟩ := getF X7 hx hZ hown (host := "") (Or.inl (hw _ (List.mem_of_getElem? (i := 30) rfl))) Via.refl e7 fp6 (g := (mkF m 30 #[.val (.ref a1), .val (.ref a2), .val (.ref a2)] [(.ref a2), (.int (0 : Int32))])) rfl rfl (hb hby d3_30)
    refine own_step st8 ?_
    show own_G p.tables e below _ (T8.setTop (mkF m 33 #[.val (.ref a1), .val (.ref a2), .val (.ref a2)] [(.int (0 : Int32)), (.int (0 : Int32))]))
    have hk9 : (0 : Int32) = (0 : Int32) := rfl
    refine own_step (fun t k => XS.icmpNo X8.here hx rfl (hb hby d3_33) rfl ((teq hk9).2) k) ?_
    show own_G p.tables e below _ (T8.setTop (mkF m 36 #[.val (.ref a1), .val (.ref a2), .val (.ref a2)] []))
    refine own_step (fun t k => XS.aloadN X8.here hx rfl (hb hby d3_36) rfl rfl k) ?_
    show own_G p.tables e below _ (T8.setTop (mkF m 37 #[.val (.ref a1), .val (.ref a2), .val (.ref a2)] [(.ref a1)]))
    obtain ⟨T10, X10, e10, st10⟩ := getF X8 hx hZ hown (host := "") (Or.inl (hw _ (List.mem_of_getElem? (i := 31) rfl))) Via.refl e8 fp3 (g := (mkF m 37 #[.val (.ref a1), .val (.ref a2), .val (.ref a2)] [(.ref a1)])) rfl rfl (hb hby d3_37)
    refine own_step st10 ?_
    show own_G p.tables e below _ (T10.setTop (mkF m 40 #[.val (.ref a1), .val (.ref a2), .val (.ref a2)] [(.ref ba1)]))
    refine own_step (fun t k => XS.aloadN X10.here hx rfl (hb hby d3_40) rfl rfl k) ?_
    show own_G p.tables e below _ (T10.setTop (mkF m 41 #[.val (.ref a1), .val (.ref a2), .val (.ref a2)] [(.ref a2), (.ref ba1)]))
    obtain ⟨T11, X11, e11, st11⟩ := getF X10 hx hZ hown (host := "") (Or.inl (hw _ (List.mem_of_getElem? (i := 31) rfl))) Via.refl e10 fp7 (g := (mkF m 41 #[.val (.ref a1), .val (.ref a2), .val (.ref a2)] [(.ref a2), (.ref ba1)])) rfl rfl (hb hby d3_41)
    refine own_step st11 ?_
    clear X10 X7 X8 e10 e7 e8 hk9 st10 st11 st8
    show own_G p.tables e below _ (T11.setTop (mkF m 44 #[.val (.ref a1), .val (.ref a2), .val (.ref a2)] [(.ref ba2), (.ref ba1)]))
    obtain ⟨_, _, ⟨T12, L12, k12, n12⟩, -, X12, ⟨Lc12, hQ12, l12, y12, z12⟩, st12⟩ := Jvm.LawKit.callS X11 hx (y := (⟨"java/lang/StringLatin1", "equals", "([B[B)Z"⟩ : MethodName)) hown (mvT hZ (hw _ (List.mem_of_getElem? (i := 32) rfl))) (mvT hZ (hw _ (List.mem_of_getElem? (i := 33) rfl))) (mvT hZ (hw _ (List.mem_of_getElem? (i := 34) rfl))) (mvT hZ (hw _ (List.mem_of_getElem? (i := 35) rfl))) (by decide) (backOf (W := 0) (rm4_x2 l Z a0 hw [] ba1 ba2 h0 n0 (Nat.le_trans Z0 (Keep.refl h0 []).1) fp4 fp8) hZ (hw _ (List.mem_of_getElem? (i := 35) rfl)) (hw _ (List.mem_of_getElem? (i := 34) rfl)) (by decide) (by decide)) (g := (mkF m 44 #[.val (.ref a1), .val (.ref a2), .val (.ref a2)] [(.ref ba2), (.ref ba1)])) rfl (by rw [hml]; rfl) (argsL := [(.ref ba1), (.ref ba2)]) (rest := []) (lenOf pd_3_x2_0 rfl) rfl (by show 2 * 0 + _ ≤ _; exact Nat.le_of_eq rfl) (hb hby d3_44) (fun _ _ => ⟨rfl, e11, (by decide : 0 + 0 ≤ _), (by decide : 0 + 0 ≤ _)⟩)
    dsimp only [Pt.U, Pt.locs, Pt.cells, Pt.slots] at X12 l12 y12 z12 st12 hQ12
    subst y12 z12
    obtain ⟨rfl, N12q, e12⟩ := hQ12
    have N12 : Fr n0 L12 := by rw [l12]; exact Fr.app N0 N12q
    refine own_step st12 ?_
    show own_G p.tables e below _ (T12.setTop (mkF m 47 #[.val (.ref a1), .val (.ref a2), .val (.ref a2)] [(.int (1 : Int32))]))
    have hk13 : ¬ ((1 : Int32) = (0 : Int32)) := (by decide)
    refine own_step (fun t k => XS.ifNo X12.here hx rfl (hb hby d3_47) rfl ((if0 _ _).trans (feq hk13).1) k) ?_
    show own_G p.tables e below _ (T12.setTop (mkF m 50 #[.val (.ref a1), .val (.ref a2), .val (.ref a2)] []))
    refine own_step (fun t k => XS.iconst X12.here hx rfl (hb hby d3_50) k) ?_
    show own_G p.tables e below _ (T12.setTop (mkF m 51 #[.val (.ref a1), .val (.ref a2), .val (.ref a2)] [(.int (1 : Int32))]))
    refine own_step (fun t k => XS.goto X12.here hx rfl (pc0 := 51) (pc' := 55) rfl (hb hby d3_51) (by decide) (by decide) k) ?_
    show own_G p.tables e below _ (T12.setTop (mkF m 55 #[.val (.ref a1), .val (.ref a2), .val (.ref a2)] [(.int (1 : Int32))]))
    obtain ⟨fs, hr, hrun, hended, hW, hsame⟩ := X12.leave (v := some (.int (1 : Int32))) (fun h => by rw [Bd.returns] at h; cases h)
    refine own_done (retN X12 hx (t := .boolean) Bd.returns (by simp) (hb hby d3_55) hr) hrun hended ⟨_, _, rfl, ?_, ⟨_, rfl⟩, hW, hsame.mono (by decide) (by decide)⟩
    show Q3_x2 Z a1 a2 s_COMPACT_STRINGS ba1 ba2 h0 n0 _ T12.heap _
    rw [e12]
    exact ⟨congrArg (fun z => some (Value.int z)) (show (1 : Int32) = (1 : Int32) from rfl), N12, rfl⟩
theorem pn_4_x3 : plainName "java/lang/StringLatin1" = true := by first | (simp [plainName, overriddenIn]; done) | decide +kernel
theorem ef_4_x3 (m : MethodId) (a1 : Addr) (a2 : Addr) : entryFrame m #[(.ref a1), (.ref a2)] 3 = mkF m 0 #[.val (.ref a1), .val (.ref a2), .unset] [] := by first | (simp [entryFrame, mkF, argsToLocals, Value.category]; done) | rfl
def Q4_x3 (Z : State) (a1 : Addr) (a2 : Addr) (h0 : Heap) (n0 : Nat) (v : Option Value) (h : Heap) (L : List Loc) : Prop := v = some (.int (1 : Int32)) ∧ Fr n0 L ∧ h = h0
set_option maxRecDepth 65536 in
set_option maxHeartbeats 40000000 in
theorem rm4_x3 (l : Launch) (Z : State) (a0 : Array Value) (hw : ∀ d ∈ tables_1, d.before a0 Z = true) (ws : List Jvm.Cond) (a1 : Addr) (a2 : Addr) (h0 : Heap) (n0 : Nat) (Z0 : n0 ≤ h0.size) (fp0 : own_Ari Z h0 a1 .byte [(83 : Int32), (84 : Int32), (83 : Int32)]) (fp1 : own_Ari Z h0 a2 .byte [(83 : Int32), (84 : Int32), (83 : Int32)]) :
    MetFree l (⟨"java/lang/StringLatin1", "equals", "([B[B)Z"⟩ : MethodName) (head1 (Jvm.Cond.code (⟨"java/lang/StringLatin1", "equals", "([B[B)Z"⟩ : MethodName) jdk_43_method_13_code 3 (some .boolean) :: ws) ({ frames := 0, cells := 0, slots := 0, locals := 0 } : Room)) (fun a U => a = #[(.ref a1), (.ref a2)] ∧ Z.Warmed39 U.vm ∧ U.heap = h0) (fun _ _ _ _ _ => True) (fun _ U o U' => ∃ v L, o = .returned v ∧ Q4_x3 Z a1 a2 h0 n0 v U'.heap L ∧ FrameEnd U o U' L ({ frames := 0, cells := 0, slots := 0, locals := 0 } : Room).cells ({ frames := 0, cells := 0, slots := 0, locals := 0 } : Room).slots) := by
  refine MetFree.of_bodySF (plainFor_of_name pn_4_x3) hisR ?_
  intro p e s m args below meth c s₁ Bd hml0 hP hK
  obtain ⟨rfl, hZ, hh⟩ := hP
  have hx := Bd.exec
  have hby := Bd.bytes
  have hml : c.maxLocals = 3 := hml0
  have hown : s.vm.findClass "java/lang/StringLatin1" = some m.cls := findClass_of_methodNamed Bd.named
  have hnm := (name_of_methodNamed Bd.named Bd.method).1
  have X0 : Stand p l e ({ frames := 0, cells := 0, slots := 0, locals := 0 } : Room) s m #[(.ref a1), (.ref a2)] below meth c s₁ [] 0 0 := Stand.of_body Bd
  have e0 : s₁.heap = h0 := by rw [← hh, Bd.state]; rfl
  have N0 := Fr.nil n0
  refine own_start (fun t k => castTop (ef_4_x3 m a1 a2) k) ?_
  show own_G p.tables e below _ (s₁.setTop (mkF m 0 #[.val (.ref a1), .val (.ref a2), .unset] []))
  refine own_step (fun t k => XS.aloadN X0.here hx rfl (hb hby d4_0) rfl rfl k) ?_
  show own_G p.tables e below _ (s₁.setTop (mkF m 1 #[.val (.ref a1), .val (.ref a2), .unset] [(.ref a1)]))
  refine own_step (own_lenI X0 hx hZ e0 fp0 (g := (mkF m 1 #[.val (.ref a1), .val (.ref a2), .unset] [(.ref a1)])) rfl rfl (hb hby d4_1)) ?_
  show own_G p.tables e below _ (s₁.setTop (mkF m 2 #[.val (.ref a1), .val (.ref a2), .unset] [(.int (3 : Int32))]))
  refine own_step (fun t k => XS.aloadN X0.here hx rfl (hb hby d4_2) rfl rfl k) ?_
  show own_G p.tables e below _ (s₁.setTop (mkF m 3 #[.val (.ref a1), .val (.ref a2), .unset] [(.ref a2), (.int (3 : Int32))]))
  refine own_step (own_lenI X0 hx hZ e0 fp1 (g := (mkF m 3 #[.val (.ref a1), .val (.ref a2), .unset] [(.ref a2), (.int (3 : Int32))])) rfl rfl (hb hby d4_3)) ?_
  show own_G p.tables e below _ (s₁.setTop (mkF m 4 #[.val (.ref a1), .val (.ref a2), .unset] [(.int (3 : Int32)), (.int (3 : Int32))]))
  have hk1 : (3 : Int32) = (3 : Int32) := rfl
  refine own_step (fun t k => XS.icmpNo X0.here hx rfl (hb hby d4_4) rfl ((teq hk1).2) k) ?_
  show own_G p.tables e below _ (s₁.setTop (mkF m 7 #[.val (.ref a1), .val (.ref a2), .unset] []))
  refine own_step (fun t k => XS.iconst X0.here hx rfl (hb hby d4_7) k) ?_
  show own_G p.tables e below _ (s₁.setTop (mkF m 8 #[.val (.ref a1), .val (.ref a2), .unset] [(.int (0 : Int32))]))
  refine own_step (fun t k => XS.istoreN X0.here hx rfl (hb hby d4_8) rfl (l' := #[.val (.ref a1), .val (.ref a2), .val (.int (0 : Int32))]) rfl k) ?_
  show own_G p.tables e below _ (s₁.setTop (mkF m 9 #[.val (.ref a1), .val (.ref a2), .val (.int (0 : Int32))] []))
  refine own_step (fun t k => XS.iloadN X0.here hx rfl (hb hby d4_9) rfl k) ?_
  show own_G p.tables e below _ (s₁.setTop (mkF m 10 #[.val (.ref a1), .val (.ref a2), .val (.int (0 : Int32))] [(.int (0 : Int32))]))
  refine own_step (fun t k => XS.aloadN X0.here hx rfl (hb hby d4_10) rfl rfl k) ?_
  show own_G p.tables e below _ (s₁.setTop (mkF m 11 #[.val (.ref a1), .val (.ref a2), .val (.int (0 : Int32))] [(.ref a1), (.int (0 : Int32))]))
  refine own_step (own_lenI X0 hx hZ e0 fp0 (g := (mkF m 11 #[.val (.ref a1), .val (.ref a2), .val (.int (0 : Int32))] [(.ref a1), (.int (0 : Int32))])) rfl rfl (hb hby d4_11)) ?_
  show own_G p.tables e below _ (s₁.setTop (mkF m 12 #[.val (.ref a1), .val (.ref a2), .val (.int (0 : Int32))] [(.int (3 : Int32)), (.int (0 : Int32))]))
  have hk2 : (0 : Int32) < (3 : Int32) := (by decide)
  refine own_step (fun t k => XS.icmpNo X0.here hx rfl (hb hby d4_12) rfl ((tlt hk2).2.1) k) ?_
  show own_G p.tables e below _ (s₁.setTop (mkF m 15 #[.val (.ref a1), .val (.ref a2), .val (.int (0 : Int32))] []))
  refine own_step (fun t k => XS.aloadN X0.here hx rfl (hb hby d4_15) rfl rfl k) ?_
  show own_G p.tables e below _ (s₁.setTop (mkF m 16 #[.val (.ref a1), .val (.ref a2), .val (.int (0 : Int32))] [(.ref a1)]))
  refine own_step (fun t k => XS.iloadN X0.here hx rfl (hb hby d4_16) rfl k) ?_
  show own_G p.tables e below _ (s₁.setTop (mkF m 17 #[.val (.ref a1), .val (.ref a2), .val (.int (0 : Int32))] [(.int (0 : Int32)), (.ref a1)]))
  refine own_step (own_baload X0 hx hZ e0 fp0 (own_inb (by decide) (Nat.le_of_ble_eq_true rfl)) (g := (mkF m 17 #[.val (.ref a1), .val (.ref a2), .val (.int (0 : Int32))] [(.int (0 : Int32)), (.ref a1)])) rfl rfl (hb hby d4_17)) ?_
  show own_G p.tables e below _ (s₁.setTop (mkF m 18 #[.val (.ref a1), .val (.ref a2), .val (.int (0 : Int32))] [(.int (83 : Int32))]))
  refine own_step (fun t k => XS.aloadN X0.here hx rfl (hb hby d4_18) rfl rfl k) ?_
  show own_G p.tables e below _ (s₁.setTop (mkF m 19 #[.val (.ref a1), .val (.ref a2), .val (.int (0 : Int32))] [(.ref a2), (.int (83 : Int32))]))
  refine own_step (fun t k => XS.iloadN X0.here hx rfl (hb hby d4_19) rfl k) ?_
  show own_G p.tables e below _ (s₁.setTop (mkF m 20 #[.val (.ref a1), .val (.ref a2), .val (.int (0 : Int32))] [(.int (0 : Int32)), (.ref a2), (.int (83 : Int32))]))
  refine own_step (own_baload X0 hx hZ e0 fp1 (own_inb (by decide) (Nat.le_of_ble_eq_true rfl)) (g := (mkF m 20 #[.val (.ref a1), .val (.ref a2), .val (.int (0 : Int32))] [(.int (0 : Int32)), (.ref a2), (.int (83 : Int32))])) rfl rfl (hb hby d4_20)) ?_
  show own_G p.tables e below _ (s₁.setTop (mkF m 21 #[.val (.ref a1), .val (.ref a2), .val (.int (0 : Int32))] [(.int (83 : Int32)), (.int (83 : Int32))]))
  have hk3 : (83 : Int32) = (83 : Int32) := rfl
  refine own_step (fun t k => XS.icmpYes X0.here hx rfl (pc0 := 21) (pc' := 26) rfl (hb hby d4_21) rfl ((teq hk3).1) (by decide) (by decide) k) ?_
  show own_G p.tables e below _ (s₁.setTop (mkF m 26 #[.val (.ref a1), .val (.ref a2), .val (.int (0 : Int32))] []))
  refine own_step (fun t k => XS.iinc X0.here hx rfl (hb hby d4_26) rfl (l' := #[.val (.ref a1), .val (.ref a2), .val (.int (1 : Int32))]) rfl k) ?_
  show own_G p.tables e below _ (s₁.setTop (mkF m 29 #[.val (.ref a1), .val (.ref a2), .val (.int (1 : Int32))] []))
  refine own_step (fun t k => XS.goto X0.here hx rfl (pc0 := 29) (pc' := 9) rfl (hb hby d4_29) (by decide) (by decide) k) ?_
  show own_G p.tables e below _ (s₁.setTop (mkF m 9 #[.val (.ref a1), .val (.ref a2), .val (.int (1 : Int32))] []))
  refine own_step (fun t k => XS.iloadN X0.here hx rfl (hb hby d4_9) rfl k) ?_
  show own_G p.tables e below _ (s₁.setTop (mkF m 10 #[.val (.ref a1), .val (.ref a2), .val (.int (1 : Int32))] [(.int (1 : Int32))]))
  refine own_step (fun t k => XS.aloadN X0.here hx rfl (hb hby d4_10) rfl rfl k) ?_
  show own_G p.tables e below _ (s₁.setTop (mkF m 11 #[.val (.ref a1), .val (.ref a2), .val (.int (1 : Int32))] [(.ref a1), (.int (1 : Int32))]))
  refine own_step (own_lenI X0 hx hZ e0 fp0 (g := (mkF m 11 #[.val (.ref a1), .val (.ref a2), .val (.int (1 : Int32))] [(.ref a1), (.int (1 : Int32))])) rfl rfl (hb hby d4_11)) ?_
  show own_G p.tables e below _ (s₁.setTop (mkF m 12 #[.val (.ref a1), .val (.ref a2), .val (.int (1 : Int32))] [(.int (3 : Int32)), (.int (1 : Int32))]))
  have hk4 : (1 : Int32) < (3 : Int32) := (by decide)
  refine own_step (fun t k => XS.icmpNo X0.here hx rfl (hb hby d4_12) rfl ((tlt hk4).2.1) k) ?_
  show own_G p.tables e below _ (s₁.setTop (mkF m 15 #[.val (.ref a1), .val (.ref a2), .val (.int (1 : Int32))] []))
  refine own_step (fun t k => XS.aloadN X0.here hx rfl (hb hby d4_15) rfl rfl k) ?_
  show own_G p.tables e below _ (s₁.setTop (mkF m 16 #[.val (.ref a1), .val (.ref a2), .val (.int (1 : Int32))] [(.ref a1)]))
  refine own_step (fun t k => XS.iloadN X0.here hx rfl (hb hby d4_16) rfl k) ?_
  show own_G p.tables e below _ (s₁.setTop (mkF m 17 #[.val (.ref a1), .val (.ref a2), .val (.int (1 : Int32))] [(.int (1 : Int32)), (.ref a1)]))
  refine own_step (own_baload X0 hx hZ e0 fp0 (own_inb (by decide) (Nat.le_of_ble_eq_true rfl)) (g := (mkF m 17 #[.val (.ref a1), .val (.ref a2), .val (.int (1 : Int32))] [(.int (1 : Int32)), (.ref a1)])) rfl rfl (hb hby d4_17)) ?_
  show own_G p.tables e below _ (s₁.setTop (mkF m 18 #[.val (.ref a1), .val (.ref a2), .val (.int (1 : Int32))] [(.int (84 : Int32))]))
  refine own_step (fun t k => XS.aloadN X0.here hx rfl (hb hby d4_18) rfl rfl k) ?_
  show own_G p.tables e below _ (s₁.setTop (mkF m 19 #[.val (.ref a1), .val (.ref a2), .val (.int (1 : Int32))] [(.ref a2), (.int (84 : Int32))]))
  refine own_step (fun t k => XS.iloadN X0.here hx rfl (hb hby d4_19) rfl k) ?_
  show own_G p.tables e below _ (s₁.setTop (mkF m 20 #[.val (.ref a1), .val (.ref a2), .val (.int (1 : Int32))] [(.int (1 : Int32)), (.ref a2), (.int (84 : Int32))]))
  refine own_step (own_baload X0 hx hZ e0 fp1 (own_inb (by decide) (Nat.le_of_ble_eq_true rfl)) (g := (mkF m 20 #[.val (.ref a1), .val (.ref a2), .val (.int (1 : Int32))] [(.int (1 : Int32)), (.ref a2), (.int (84 : Int32))])) rfl rfl (hb hby d4_20)) ?_
  show own_G p.tables e below _ (s₁.setTop (mkF m 21 #[.val (.ref a1), .val (.ref a2), .val (.int (1 : Int32))] [(.int (84 : Int32)), (.int (84 : Int32))]))
  have hk5 : (84 : Int32) = (84 : Int32) := rfl
  refine own_step (fun t k => XS.icmpYes X0.here hx rfl (pc0 := 21) (pc' := 26) rfl (hb hby d4_21) rfl ((teq hk5).1) (by decide) (by decide) k) ?_
  show own_G p.tables e below _ (s₁.setTop (mkF m 26 #[.val (.ref a1), .val (.ref a2), .val (.int (1 : Int32))] []))
  refine own_step (fun t k => XS.iinc X0.here hx rfl (hb hby d4_26) rfl (l' := #[.val (.ref a1), .val (.ref a2), .val (.int (2 : Int32))]) rfl k) ?_
  show own_G p.tables e below _ (s₁.setTop (mkF m 29 #[.val (.ref a1), .val (.ref a2), .val (.int (2 : Int32))] []))
  refine own_step (fun t k => XS.goto X0.here hx rfl (pc0 := 29) (pc' := 9) rfl (hb hby d4_29) (by decide) (by decide) k) ?_
  show own_G p.tables e below _ (s₁.setTop (mkF m 9 #[.val (.ref a1), .val (.ref a2), .val (.int (2 : Int32))] []))
  refine own_step (fun t k => XS.iloadN X0.here hx rfl (hb hby d4_9) rfl k) ?_
  show own_G p.tables e below _ (s₁.setTop (mkF m 10 #[.val (.ref a1), .val (.ref a2), .val (.int (2 : Int32))] [(.int (2 : Int32))]))
  refine own_step (fun t k => XS.aloadN X0.here hx rfl (hb hby d4_10) rfl rfl k) ?_
  show own_G p.tables e below _ (s₁.setTop (mkF m 11 #[.val (.ref a1), .val (.ref a2), .val (.int (2 : Int32))] [(.ref a1), (.int (2 : Int32))]))
  refine own_step (own_lenI X0 hx hZ e0 fp0 (g := (mkF m 11 #[.val (.ref a1), .val (.ref a2), .val (.int (2 : Int32))] [(.ref a1), (.int (2 : Int32))])) rfl rfl (hb hby d4_11)) ?_
  show own_G p.tables e below _ (s₁.setTop (mkF m 12 #[.val (.ref a1), .val (.ref a2), .val (.int (2 : Int32))] [(.int (3 : Int32)), (.int (2 : Int32))]))
  have hk6 : (2 : Int32) < (3 : Int32) := (by decide)
  refine own_step (fun t k => XS.icmpNo X0.here hx rfl (hb hby d4_12) rfl ((tlt hk6).2.1) k) ?_
  show own_G p.tables e below _ (s₁.setTop (mkF m 15 #[.val (.ref a1), .val (.ref a2), .val (.int (2 : Int32))] []))
  refine own_step (fun t k => XS.aloadN X0.here hx rfl (hb hby d4_15) rfl rfl k) ?_
  show own_G p.tables e below _ (s₁.setTop (mkF m 16 #[.val (.ref a1), .val (.ref a2), .val (.int (2 : Int32))] [(.ref a1)]))
  refine own_step (fun t k => XS.iloadN X0.here hx rfl (hb hby d4_16) rfl k) ?_
  show own_G p.tables e below _ (s₁.setTop (mkF m 17 #[.val (.ref a1), .val (.ref a2), .val (.int (2 : Int32))] [(.int (2 : Int32)), (.ref a1)]))
  refine own_step (own_baload X0 hx hZ e0 fp0 (own_inb (by decide) (Nat.le_of_ble_eq_true rfl)) (g := (mkF m 17 #[.val (.ref a1), .val (.ref a2), .val (.int (2 : Int32))] [(.int (2 : Int32)), (.ref a1)])) rfl rfl (hb hby d4_17)) ?_
  show own_G p.tables e below _ (s₁.setTop (mkF m 18 #[.val (.ref a1), .val (.ref a2), .val (.int (2 : Int32))] [(.int (83 : Int32))]))
  refine own_step (fun t k => XS.aloadN X0.here hx rfl (hb hby d4_18) rfl rfl k) ?_
  show own_G p.tables e below _ (s₁.setTop (mkF m 19 #[.val (.ref a1), .val (.ref a2), .val (.int (2 : Int32))] [(.ref a2), (.int (83 : Int32))]))
  refine own_step (fun t k => XS.iloadN X0.here hx rfl (hb hby d4_19) rfl k) ?_
  show own_G p.tables e below _ (s₁.setTop (mkF m 20 #[.val (.ref a1), .val (.ref a2), .val (.int (2 : Int32))] [(.int (2 : Int32)), (.ref a2), (.int (83 : Int32))]))
  refine own_step (own_baload X0 hx hZ e0 fp1 (own_inb (by decide) (Nat.le_of_ble_eq_true rfl)) (g := (mkF m 20 #[.val (.ref a1), .val (.ref a2), .val (.int (2 : Int32))] [(.int (2 : Int32)), (.ref a2), (.int (83 : Int32))])) rfl rfl (hb hby d4_20)) ?_
  show own_G p.tables e below _ (s₁.setTop (mkF m 21 #[.val (.ref a1), .val (.ref a2), .val (.int (2 : Int32))] [(.int (83 : Int32)), (.int (83 : Int32))]))
  have hk7 : (83 : Int32) = (83 : Int32) := rfl
  refine own_step (fun t k => XS.icmpYes X0.here hx rfl (pc0 := 21) (pc' := 26) rfl (hb hby d4_21) rfl ((teq hk7).1) (by decide) (by decide) k) ?_
  show own_G p.tables e below _ (s₁.setTop (mkF m 26 #[.val (.ref a1), .val (.ref a2), .val (.int (2 : Int32))] []))
  refine own_step (fun t k => XS.iinc X0.here hx rfl (hb hby d4_26) rfl (l' := #[.val (.ref a1), .val (.ref a2), .val (.int (3 : Int32))]) rfl k) ?_
  show own_G p.tables e below _ (s₁.setTop (mkF m 29 #[.val (.ref a1), .val (.ref a2), .val (.int (3 : Int32))] []))
  refine own_step (fun t k => XS.goto X0.here hx rfl (pc0 := 29) (pc' := 9) rfl (hb hby d4_29) (by decide) (by decide) k) ?_
  show own_G p.tables e below _ (s₁.setTop (mkF m 9 #[.val (.ref a1), .val (.ref a2), .val (.int (3 : Int32))] []))
  refine own_step (fun t k => XS.iloadN X0.here hx rfl (hb hby d4_9) rfl k) ?_
  show own_G p.tables e below _ (s₁.setTop (mkF m 10 #[.val (.ref a1), .val (.ref a2), .val (.int (3 : Int32))] [(.int (3 : Int32))]))
  refine own_step (fun t k => XS.aloadN X0.here hx rfl (hb hby d4_10) rfl rfl k) ?_
  show own_G p.tables e below _ (s₁.setTop (mkF m 11 #[.val (.ref a1), .val (.ref a2), .val (.int (3 : Int32))] [(.ref a1), (.int (3 : Int32))]))
  refine own_step (own_lenI X0 hx hZ e0 fp0 (g := (mkF m 11 #[.val (.ref a1), .val (.ref a2), .val (.int (3 : Int32))] [(.ref a1), (.int (3 : Int32))])) rfl rfl (hb hby d4_11)) ?_
  show own_G p.tables e below _ (s₁.setTop (mkF m 12 #[.val (.ref a1), .val (.ref a2), .val (.int (3 : Int32))] [(.int (3 : Int32)), (.int (3 : Int32))]))
  have hk8 : ¬ ((3 : Int32) < (3 : Int32)) := (by decide)
  refine own_step (fun t k => XS.icmpYes X0.here hx rfl (pc0 := 12) (pc' := 32) rfl (hb hby d4_12) rfl ((flt hk8).2.1) (by decide) (by decide) k) ?_
  show own_G p.tables e below _ (s₁.setTop (mkF m 32 #[.val (.ref a1), .val (.ref a2), .val (.int (3 : Int32))] []))
  refine own_step (fun t k => XS.iconst X0.here hx rfl (hb hby d4_32) k) ?_
  show own_G p.tables e below _ (s₁.setTop (mkF m 33 #[.val (.ref a1), .val (.ref a2), .val (.int (3 : Int32))] [(.int (1 : Int32))]))
  obtain ⟨fs, hr, hrun, hended, hW, hsame⟩ := X0.leave (v := some (.int (1 : Int32))) (fun h => by rw [Bd.returns] at h; cases h)
  refine own_done (retN X0 hx (t := .boolean) Bd.returns (by simp) (hb hby d4_33) hr) hrun hended ⟨_, _, rfl, ?_, ⟨_, rfl⟩, hW, hsame.mono (by decide) (by decide)⟩
  show Q4_x3 Z a1 a2 h0 n0 _ s₁.heap _
  rw [e0]
  exact ⟨congrArg (fun z => some (Value.int z)) (show (1 : Int32) = (1 : Int32) from rfl), N0, rfl⟩
theorem pn_3_x3 : plainName "java/lang/String" = true := by first | (simp [plainName, overriddenIn]; done) | decide +kernel
theorem pd_3_x3_0 : parseMethodDescriptor "([B[B)Z" = some ⟨[(.array .byte), (.array .byte)], some .boolean⟩ := by decide +kernel
theorem ef_3_x3 (m : MethodId) (a1 : Addr) (a2 : Addr) : entryFrame m #[(.ref a1), (.ref a2)] 3 = mkF m 0 #[.val (.ref a1), .val (.ref a2), .unset] [] := by first | (simp [entryFrame, mkF, argsToLocals, Value.category]; done) | rfl
def Q3_x3 (Z : State) (a1 : Addr) (a2 : Addr) (s_COMPACT_STRINGS : Int32) (ba1 : Addr) (ba2 : Addr) (h0 : Heap) (n0 : Nat) (v : Option Value) (h : Heap) (L : List Loc) : Prop := v = some (.int (1 : Int32)) ∧ Fr n0 L ∧ h = h0
set_option maxRecDepth 65536 in
set_option maxHeartbeats 40000000 in
theorem rm3_x3 (l : Launch) (Z : State) (a0 : Array Value) (hw : ∀ d ∈ tables_1, d.before a0 Z = true) (ws : List Jvm.Cond) (a1 : Addr) (a2 : Addr) (s_COMPACT_STRINGS : Int32) (ba1 : Addr) (ba2 : Addr) (h0 : Heap) (n0 : Nat) (Z0 : n0 ≤ h0.size) (fp0 : Sta Z h0 "java/lang/String" "COMPACT_STRINGS" "Z" (.int s_COMPACT_STRINGS)) (fp1 : Exa Z h0 a1 "java/lang/String") (fp2 : Fld Z h0 a1 "java/lang/String" "coder" "B" (.int (0 : Int32))) (fp3 : Fld Z h0 a1 "java/lang/String" "value" "[B" (.ref ba1)) (fp4 : own_Ari Z h0 ba1 .byte [(83 : Int32), (84 : Int32), (83 : Int32)]) (fp5 : Exa Z h0 a2 "java/lang/String") (fp6 : Fld Z h0 a2 "java/lang/String" "coder" "B" (.int (0 : Int32))) (fp7 : Fld Z h0 a2 "java/lang/String" "value" "[B" (.ref ba2)) (fp8 : own_Ari Z h0 ba2 .byte [(83 : Int32), (84 : Int32), (83 : Int32)]) (hcs : ¬ (s_COMPACT_STRINGS = (0 : Int32))) :
    MetFree l (⟨"java/lang/String", "equals", "(Ljava/lang/Object;)Z"⟩ : MethodName) (head1 (Jvm.Cond.code (⟨"java/lang/String", "equals", "(Ljava/lang/Object;)Z"⟩ : MethodName) jdk_42_method_66_code 3 (some .boolean) :: ws) ({ frames := 1, cells := 0, slots := 0, locals := 14 } : Room)) (fun a U => a = #[(.ref a1), (.ref a2)] ∧ Z.Warmed39 U.vm ∧ U.heap = h0) (fun _ _ _ _ _ => True) (fun _ U o U' => ∃ v L, o = .returned v ∧ Q3_x3 Z a1 a2 s_COMPACT_STRINGS ba1 ba2 h0 n0 v U'.heap L ∧ FrameEnd U o U' L ({ frames := 1, cells := 0, slots := 0, locals := 14 } : Room).cells ({ frames := 1, cells := 0, slots := 0, locals := 14 } : Room).slots) := by
  refine MetFree.of_bodySF (plainFor_of_name pn_3_x3) hisR ?_
  intro p e s m args below meth c s₁ Bd hml0 hP hK
  obtain ⟨rfl, hZ, hh⟩ := hP
  have hx := Bd.exec
  have hby := Bd.bytes
  have hml : c.maxLocals = 3 := hml0
  have hown : s.vm.findClass "java/lang/String" = some m.cls := findClass_of_methodNamed Bd.named
  have hnm := (name_of_methodNamed Bd.named Bd.method).1
  have X0 : Stand p l e ({ frames := 1, cells := 0, slots := 0, locals := 14 } : Room) s m #[(.ref a1), (.ref a2)] below meth c s₁ [] 0 0 := Stand.of_body Bd
  have e0 : s₁.heap = h0 := by rw [← hh, Bd.state]; rfl
  have N0 := Fr.nil n0
  refine own_start (fun t k => castTop (ef_3_x3 m a1 a2) k) ?_
  show own_G p.tables e below _ (s₁.setTop (mkF m 0 #[.val (.ref a1), .val (.ref a2), .unset] []))
  refine own_step (fun t k => XS.aloadN X0.here hx rfl (hb hby d3_0) rfl rfl k) ?_
  show own_G p.tables e below _ (s₁.setTop (mkF m 1 #[.val (.ref a1), .val (.ref a2), .unset] [(.ref a1)]))
  refine own_step (fun t k => XS.aloadN X0.here hx rfl (hb hby d3_1) rfl rfl k) ?_
  show own_G p.tables e below _ (s₁.setTop (mkF m 2 #[.val (.ref a1), .val (.ref a2), .unset] [(.ref a2), (.ref a1)]))
  by_cases ha1 : a1 = a2
  · skip
    refine own_step (fun t k => Jvm.RoadKit.acmp (g := (mkF m 2 #[.val (.ref a1), .val (.ref a2), .unset] [(.ref a2), (.ref a1)])) X0 hx rfl rfl rfl (pc0 := 2) (pc' := 5) (same := true) rfl (hb hby d3_2) rfl (decide_eq_true (congrArg Value.ref ha1)) (by decide) (by decide) k) ?_
    show own_G p.tables e below _ (s₁.setTop (mkF m 5 #[.val (.ref a1), .val (.ref a2), .unset] []))
    refine own_step (fun t k => XS.iconst X0.here hx rfl (hb hby d3_5) k) ?_
    show own_G p.tables e below _ (s₁.setTop (mkF m 6 #[.val (.ref a1), .val (.ref a2), .unset] [(.int (1 : Int32))]))
    obtain ⟨fs, hr, hrun, hended, hW, hsame⟩ := X0.leave (v := some (.int (1 : Int32))) (fun h => by rw [Bd.returns] at h; cases h)
    refine own_done (retN X0 hx (t := .boolean) Bd.returns (by simp) (hb hby d3_6) hr) hrun hended ⟨_, _, rfl, ?_, ⟨_, rfl⟩, hW, hsame.mono (by decide) (by decide)⟩
    show Q3_x3 Z a1 a2 s_COMPACT_STRINGS ba1 ba2 h0 n0 _ s₁.heap _
    rw [e0]
    exact ⟨congrArg (fun z => some (Value.int z)) (show (1 : Int32) = (1 : Int32) from rfl), N0, rfl⟩
  · skip
    refine own_step (fun t k => Jvm.RoadKit.acmp (g := (mkF m 2 #[.val (.ref a1), .val (.ref a2), .unset] [(.ref a2), (.ref a1)])) X0 hx rfl rfl rfl (pc0 := 2) (pc' := 7) (same := false) rfl (hb hby d3_2) rfl (decide_eq_false fun q => ha1 (Value.ref.inj q)) (by decide) (by decide) k) ?_
    show own_G p.tables e below _ (s₁.setTop (mkF m 7 #[.val (.ref a1), .val (.ref a2), .unset] []))
    refine own_step (fun t k => XS.aloadN X0.here hx rfl (hb hby d3_7) rfl rfl k) ?_
    show own_G p.tables e below _ (s₁.setTop (mkF m 8 #[.val (.ref a1), .val (.ref a2), .unset] [(.ref a2)]))
    obtain ⟨T2, X2, e2, st2⟩ := instY X0 hx hZ hown (hw _ (List.mem_of_getElem? (i := 27) rfl)) e0 (Ins.self fp5) (g := (mkF m 8 #[.val (.ref a1), .val (.ref a2), .unset] [(.ref a2)])) rfl rfl (hb hby d3_8)
    refine own_step st2 ?_
    show own_G p.tables e below _ (T2.setTop (mkF m 11 #[.val (.ref a1), .val (.ref a2), .unset] [(.int (1 : Int32))]))
    have hk3 : ¬ ((1 : Int32) = (0 : Int32)) := (by decide)
    refine own_step (fun t k => XS.ifNo X2.here hx rfl (hb hby d3_11) rfl ((if0 _ _).trans (feq hk3).1) k) ?_
    show own_G p.tables e below _ (T2.setTop (mkF m 14 #[.val (.ref a1), .val (.ref a2), .unset] []))
    refine own_step (fun t k => XS.aloadN X2.here hx rfl (hb hby d3_14) rfl rfl k) ?_
    show own_G p.tables e below _ (T2.setTop (mkF m 15 #[.val (.ref a1), .val (.ref a2), .unset] [(.ref a2)]))
    obtain ⟨T4, X4, e4, st4⟩ := castY X2 hx hZ hown (hw _ (List.mem_of_getElem? (i := 27) rfl)) e2 (Ins.self fp5) (g := (mkF m 15 #[.val (.ref a1), .val (.ref a2), .unset] [(.ref a2)])) rfl rfl (hb hby d3_15)
    refine own_step st4 ?_
    show own_G p.tables e below _ (T4.setTop (mkF m 18 #[.val (.ref a1), .val (.ref a2), .unset] [(.ref a2)]))
    refine own_step (fun t k => XS.astoreN X4.here hx rfl (hb hby d3_18) rfl rfl (l' := #[.val (.ref a1), .val (.ref a2), .val (.ref a2)]) rfl k) ?_
    show own_G p.tables e below _ (T4.setTop (mkF m 19 #[.val (.ref a1), .val (.ref a2), .val (.ref a2)] []))
    obtain ⟨T5, X5, e5, st5⟩ := getS2 X4 hx hZ hown (host := "") (Or.inl (hw _ (List.mem_of_getElem? (i := 29) rfl))) Via.refl e4 fp0 (g := (mkF m 19 #[.val (.ref a1), .val (.ref a2), .val (.ref a2)] [])) rfl (hb hby d3_19)
    refine own_step st5 ?_
    show own_G p.tables e below _ (T5.setTop (mkF m 22 #[.val (.ref a1), .val (.ref a2), .val (.ref a2)] [(.int s_COMPACT_STRINGS)]))
    have hk6 : ¬ (s_COMPACT_STRINGS = (0 : Int32)) := hcs
    refine own_step (fun t k => XS.ifNo X5.here hx rfl (hb hby d3_22) rfl ((if0 _ _).trans (feq hk6).1) k) ?_
    show own_G p.tables e below _ (T5.setTop (mkF m 25 #[.val (.ref a1), .val (.ref a2), .val (.ref a2)] []))
    refine own_step (fun t k => XS.aloadN X5.here hx rfl (hb hby d3_25) rfl rfl k) ?_
    show own_G p.tables e below _ (T5.setTop (mkF m 26 #[.val (.ref a1), .val (.ref a2), .val (.ref a2)] [(.ref a1)]))
    obtain ⟨T7, X7, e7, st7⟩ := getF X5 hx hZ hown (host := "") (Or.inl (hw _ (List.mem_of_getElem? (i := 30) rfl))) Via.refl e5 fp2 (g := (mkF m 26 #[.val (.ref a1), .val (.ref a2), .val (.ref a2)] [(.ref a1)])) rfl rfl (hb hby d3_26)
    refine own_step st7 ?_
    clear X2 X4 X5 e2 e4 e5 hk3 hk6 st2 st4 st5 st7
    show own_G p.tables e below _ (T7.setTop (mkF m 29 #[.val (.ref a1), .val (.ref a2), .val (.ref a2)] [(.int (0 : Int32))]))
    refine own_step (fun t k => XS.aloadN X7.here hx rfl (hb hby d3_29) rfl rfl k) ?_
    show own_G p.tables e below _ (T7.setTop (mkF m 30 #[.val (.ref a1), .val (.ref a2), .val (.ref a2)] [(.ref a2), (.int (0 : Int32))]))
    obtain ⟨T8, X8, e8, st8⟩ := getF X7 hx hZ hown (host := "") (Or.inl (hw _ (List.mem_of_getElem? (i := 30) rfl))) Via.refl e7 fp6 (g := (mkF m 30 #[.val (.ref a1), .val (.ref a2), .val (.ref a2)] [(.ref a2), (.int (0 : Int32))])) rfl rfl (hb hby d3_30)
    refine own_step st8 ?_
    show own_G p.tables e below _ (T8.setTop (mkF m 33 #[.val (.ref a1), .val (.ref a2), .val (.ref a2)] [(.int (0 : Int32)), (.int (0 : Int32))]))
    have hk9 : (0 : Int32) = (0 : Int32) := rfl
    refine own_step (fun t k => XS.icmpNo X8.here hx rfl (hb hby d3_33) rfl ((teq hk9).2) k) ?_
    show own_G p.tables e below _ (T8.setTop (mkF m 36 #[.val (.ref a1), .val (.ref a2), .val (.ref a2)] []))
    refine own_step (fun t k => XS.aloadN X8.here hx rfl (hb hby d3_36) rfl rfl k) ?_
    show own_G p.tables e below _ (T8.setTop (mkF m 37 #[.val (.ref a1), .val (.ref a2), .val (.ref a2)] [(.ref a1)]))
    obtain ⟨T10, X10, e10, st10⟩ := getF X8 hx hZ hown (host := "") (Or.inl (hw _ (List.mem_of_getElem? (i := 31) rfl))) Via.refl e8 fp3 (g := (mkF m 37 #[.val (.ref a1), .val (.ref a2), .val (.ref a2)] [(.ref a1)])) rfl rfl (hb hby d3_37)
    refine own_step st10 ?_
    show own_G p.tables e below _ (T10.setTop (mkF m 40 #[.val (.ref a1), .val (.ref a2), .val (.ref a2)] [(.ref ba1)]))
    refine own_step (fun t k => XS.aloadN X10.here hx rfl (hb hby d3_40) rfl rfl k) ?_
    show own_G p.tables e below _ (T10.setTop (mkF m 41 #[.val (.ref a1), .val (.ref a2), .val (.ref a2)] [(.ref a2), (.ref ba1)]))
    obtain ⟨T11, X11, e11, st11⟩ := getF X10 hx hZ hown (host := "") (Or.inl (hw _ (List.mem_of_getElem? (i := 31) rfl))) Via.refl e10 fp7 (g := (mkF m 41 #[.val (.ref a1), .val (.ref a2), .val (.ref a2)] [(.ref a2), (.ref ba1)])) rfl rfl (hb hby d3_41)
    refine own_step st11 ?_
    clear X10 X7 X8 e10 e7 e8 hk9 st10 st11 st8
    show own_G p.tables e below _ (T11.setTop (mkF m 44 #[.val (.ref a1), .val (.ref a2), .val (.ref a2)] [(.ref ba2), (.ref ba1)]))
    obtain ⟨_, _, ⟨T12, L12, k12, n12⟩, -, X12, ⟨Lc12, hQ12, l12, y12, z12⟩, st12⟩ := Jvm.LawKit.callS X11 hx (y := (⟨"java/lang/StringLatin1", "equals", "([B[B)Z"⟩ : MethodName)) hown (mvT hZ (hw _ (List.mem_of_getElem? (i := 32) rfl))) (mvT hZ (hw _ (List.mem_of_getElem? (i := 33) rfl))) (mvT hZ (hw _ (List.mem_of_getElem? (i := 34) rfl))) (mvT hZ (hw _ (List.mem_of_getElem? (i := 35) rfl))) (by decide) (backOf (W := 0) (rm4_x3 l Z a0 hw [] ba1 ba2 h0 n0 (Nat.le_trans Z0 (Keep.refl h0 []).1) fp4 fp8) hZ (hw _ (List.mem_of_getElem? (i := 35) rfl)) (hw _ (List.mem_of_getElem? (i := 34) rfl)) (by decide) (by decide)) (g := (mkF m 44 #[.val (.ref a1), .val (.ref a2), .val (.ref a2)] [(.ref ba2), (.ref ba1)])) rfl (by rw [hml]; rfl) (argsL := [(.ref ba1), (.ref ba2)]) (rest := []) (lenOf pd_3_x3_0 rfl) rfl (by show 2 * 0 + _ ≤ _; exact Nat.le_of_eq rfl) (hb hby d3_44) (fun _ _ => ⟨rfl, e11, (by decide : 0 + 0 ≤ _), (by decide : 0 + 0 ≤ _)⟩)
    dsimp only [Pt.U, Pt.locs, Pt.cells, Pt.slots] at X12 l12 y12 z12 st12 hQ12
    subst y12 z12
    obtain ⟨rfl, N12q, e12⟩ := hQ12
    have N12 : Fr n0 L12 := by rw [l12]; exact Fr.app N0 N12q
    refine own_step st12 ?_
    show own_G p.tables e below _ (T12.setTop (mkF m 47 #[.val (.ref a1), .val (.ref a2), .val (.ref a2)] [(.int (1 : Int32))]))
    have hk13 : ¬ ((1 : Int32) = (0 : Int32)) := (by decide)
    refine own_step (fun t k => XS.ifNo X12.here hx rfl (hb hby d3_47) rfl ((if0 _ _).trans (feq hk13).1) k) ?_
    show own_G p.tables e below _ (T12.setTop (mkF m 50 #[.val (.ref a1), .val (.ref a2), .val (.ref a2)] []))
    refine own_step (fun t k => XS.iconst X12.here hx rfl (hb hby d3_50) k) ?_
    show own_G p.tables e below _ (T12.setTop (mkF m 51 #[.val (.ref a1), .val (.ref a2), .val (.ref a2)] [(.int (1 : Int32))]))
    refine own_step (fun t k => XS.goto X12.here hx rfl (pc0 := 51) (pc' := 55) rfl (hb hby d3_51) (by decide) (by decide) k) ?_
    show own_G p.tables e below _ (T12.setTop (mkF m 55 #[.val (.ref a1), .val (.ref a2), .val (.ref a2)] [(.int (1 : Int32))]))
    obtain ⟨fs, hr, hrun, hended, hW, hsame⟩ := X12.leave (v := some (.int (1 : Int32))) (fun h => by rw [Bd.returns] at h; cases h)
    refine own_done (retN X12 hx (t := .boolean) Bd.returns (by simp) (hb hby d3_55) hr) hrun hended ⟨_, _, rfl, ?_, ⟨_, rfl⟩, hW, hsame.mono (by decide) (by decide)⟩
    show Q3_x3 Z a1 a2 s_COMPACT_STRINGS ba1 ba2 h0 n0 _ T12.heap _
    rw [e12]
    exact ⟨congrArg (fun z => some (Value.int z)) (show (1 : Int32) = (1 : Int32) from rfl), N12, rfl⟩
theorem pn_0 : plainName "com/example/prudentia/prudentia/sec/TreatmentOfPinLaw" = true := by first | (simp [plainName, overriddenIn]; done) | decide +kernel
theorem pd_0_0 : parseMethodDescriptor "(Z)Lcom/example/prudentia/prudentia/sec/Treatment;" = some ⟨[.boolean], some (.object "com/example/prudentia/prudentia/sec/Treatment")⟩ := by decide +kernel
theorem pd_0_1 : parseMethodDescriptor "()Ljava/lang/String;" = some ⟨[], some (.object "java/lang/String")⟩ := by decide +kernel
theorem pd_0_2 : parseMethodDescriptor "(Ljava/lang/Object;)Z" = some ⟨[(.object "java/lang/Object")], some .boolean⟩ := by decide +kernel
theorem ef_0 (m : MethodId) (p1 : Int32) : entryFrame m #[(.int p1)] maxLocals = mkF m 0 #[.val (.int p1), .unset, .unset] [] := by first | (simp [entryFrame, mkF, argsToLocals, Value.category, maxLocals]; done) | rfl
def Q0 (Z : State) (p1 : Int32) (s_COMPACT_STRINGS : Int32) (o_NON_STS : Addr) (key_NON_STS : Addr) (by_key_NON_STS : Addr) (name_NON_STS : Addr) (by_name_NON_STS : Addr) (o_STS : Addr) (key_STS : Addr) (by_key_STS : Addr) (name_STS : Addr) (by_name_STS : Addr) (h0 : Heap) (n0 : Nat) (v : Option Value) (h : Heap) (L : List Loc) : Prop := v = some (.int (1 : Int32)) ∧ Fr n0 L
set_option maxRecDepth 65536 in
set_option maxHeartbeats 40000000 in
theorem rm0 (l : Launch) (Z : State) (a0 : Array Value) (hw : ∀ d ∈ tables_1, d.before a0 Z = true) (ws : List Jvm.Cond) (p1 : Int32) (s_COMPACT_STRINGS : Int32) (o_NON_STS : Addr) (key_NON_STS : Addr) (by_key_NON_STS : Addr) (name_NON_STS : Addr) (by_name_NON_STS : Addr) (o_STS : Addr) (key_STS : Addr) (by_key_STS : Addr) (name_STS : Addr) (by_name_STS : Addr) (h0 : Heap) (n0 : Nat) (Z0 : n0 ≤ h0.size) (fp0 : Sta Z h0 "java/lang/String" "COMPACT_STRINGS" "Z" (.int s_COMPACT_STRINGS)) (fp1 : Sta Z h0 "com/example/prudentia/prudentia/sec/Treatment" "NON_STS" "Lcom/example/prudentia/prudentia/sec/Treatment;" (.ref o_NON_STS)) (fp2 : Exa Z h0 o_NON_STS "com/example/prudentia/prudentia/sec/Treatment") (fp3 : Fld Z h0 o_NON_STS "com/example/prudentia/prudentia/sec/Treatment" "key" "Ljava/lang/String;" (.ref key_NON_STS)) (fp4 : Exa Z h0 key_NON_STS "java/lang/String") (fp5 : Fld Z h0 key_NON_STS "java/lang/String" "coder" "B" (.int (0 : Int32))) (fp6 : Fld Z h0 key_NON_STS "java/lang/String" "value" "[B" (.ref by_key_NON_STS)) (fp7 : own_Ari Z h0 by_key_NON_STS .byte [(110 : Int32), (111 : Int32), (110 : Int32), (95 : Int32), (115 : Int32), (116 : Int32), (115 : Int32)]) (fp8 : Fld Z h0 o_NON_STS "com/example/prudentia/prudentia/sec/Treatment" "name" "Ljava/lang/String;" (.ref name_NON_STS)) (fp9 : Exa Z h0 name_NON_STS "java/lang/String") (fp10 : Fld Z h0 name_NON_STS "java/lang/String" "coder" "B" (.int (0 : Int32))) (fp11 : Fld Z h0 name_NON_STS "java/lang/String" "value" "[B" (.ref by_name_NON_STS)) (fp12 : own_Ari Z h0 by_name_NON_STS .byte [(110 : Int32), (111 : Int32), (116 : Int32), (32 : Int32), (83 : Int32), (84 : Int32), (83 : Int32)]) (fp13 : Sta Z h0 "com/example/prudentia/prudentia/sec/Treatment" "STS" "Lcom/example/prudentia/prudentia/sec/Treatment;" (.ref o_STS)) (fp14 : Exa Z h0 o_STS "com/example/prudentia/prudentia/sec/Treatment") (fp15 : Fld Z h0 o_STS "com/example/prudentia/prudentia/sec/Treatment" "key" "Ljava/lang/String;" (.ref key_STS)) (fp16 : Exa Z h0 key_STS "java/lang/String") (fp17 : Fld Z h0 key_STS "java/lang/String" "coder" "B" (.int (0 : Int32))) (fp18 : Fld Z h0 key_STS "java/lang/String" "value" "[B" (.ref by_key_STS)) (fp19 : own_Ari Z h0 by_key_STS .byte [(115 : Int32), (116 : Int32), (115 : Int32)]) (fp20 : Fld Z h0 o_STS "com/example/prudentia/prudentia/sec/Treatment" "name" "Ljava/lang/String;" (.ref name_STS)) (fp21 : Exa Z h0 name_STS "java/lang/String") (fp22 : Fld Z h0 name_STS "java/lang/String" "coder" "B" (.int (0 : Int32))) (fp23 : Fld Z h0 name_STS "java/lang/String" "value" "[B" (.ref by_name_STS)) (fp24 : own_Ari Z h0 by_name_STS .byte [(83 : Int32), (84 : Int32), (83 : Int32)]) (hcs : ¬ (s_COMPACT_STRINGS = (0 : Int32))) (hZh : Z.heap = h0) (hZn : Z.heap.size = n0) (hcw : Jvm.Lit.compactW.before a0 Z = true) (hh21 : Jvm.Lit.constHeld Z "com/example/prudentia/prudentia/sec/TreatmentOfPinLaw" 21) (hh32 : Jvm.Lit.constHeld Z "com/example/prudentia/prudentia/sec/TreatmentOfPinLaw" 32) (hh36 : Jvm.Lit.constHeld Z "com/example/prudentia/prudentia/sec/TreatmentOfPinLaw" 36) (hh38 : Jvm.Lit.constHeld Z "com/example/prudentia/prudentia/sec/TreatmentOfPinLaw" 38) :
    MetFree l x (head1 (Jvm.Cond.code x code maxLocals ret :: ws) room_1) (fun a U => a = #[(.int p1)] ∧ U = Z) (fun _ _ _ _ _ => True) (fun _ U o U' => ∃ v L, o = .returned v ∧ Q0 Z p1 s_COMPACT_STRINGS o_NON_STS key_NON_STS by_key_NON_STS name_NON_STS by_name_NON_STS o_STS key_STS by_key_STS name_STS by_name_STS h0 n0 v U'.heap L ∧ ReturnedEndW U o U' L room_1.cells room_1.slots) := by
  refine MetFree.of_bodySF (plainFor_of_name pn_0) hisR ?_
  intro p e s m args below meth c s₁ Bd hml0 hP hK
  obtain ⟨rfl, hU⟩ := hP
  have hZ : Z.Warmed39 s.vm := by rw [hU]; exact State.Warmed39.refl Z
  have hh : s.heap = h0 := by rw [hU]; exact hZh
  have hx := Bd.exec
  have hby := Bd.bytes
  have hml : c.maxLocals = 3 := hml0
  have hown : s.vm.findClass "com/example/prudentia/prudentia/sec/TreatmentOfPinLaw" = some m.cls := findClass_of_methodNamed Bd.named
  have hnm := (name_of_methodNamed Bd.named Bd.method).1
  have X0 : Stand p l e room_1 s m #[(.int p1)] below meth c s₁ [] 0 0 := Stand.of_body Bd
  have e0 : s₁.heap = h0 := by rw [← hh, Bd.state]; rfl
  have N0 := Fr.nil n0
  have hS0 : s.Since s.vm 0 := (State.WarmedH.refl s).since 0
  have hk0 : 0 ≤ h0.size := Nat.zero_le _
  have IB0 : IB Z s.vm [] := by rw [hU]; exact IB.start
  have hkeep : ∀ (b : Addr) (cl : Cell), Z.heap[b]? = some cl → s.heap[b]? = some cl := fun b cl q => by rw [hU]; exact q
  have hn0 : s.heap.size = n0 := by rw [hU]; exact hZn
  have wS : ∀ d ∈ Bundle.stringAtoms, d.before a0 Z = true := fun d hd => by
    simp only [Bundle.stringAtoms, Bundle.sN, List.mem_cons, List.not_mem_nil, or_false] at hd
    rcases hd with rfl | rfl | rfl | rfl | rfl | rfl | rfl
    · exact (hw _ (List.mem_of_getElem? (i := 15) rfl))
    · exact (hw _ (List.mem_of_getElem? (i := 16) rfl))
    · exact (hw _ (List.mem_of_getElem? (i := 17) rfl))
    · exact (hw _ (List.mem_of_getElem? (i := 18) rfl))
    · exact (hw _ (List.mem_of_getElem? (i := 19) rfl))
    · exact (hw _ (List.mem_of_getElem? (i := 20) rfl))
    · exact (hw _ (List.mem_of_getElem? (i := 21) rfl))
  refine own_start (fun t k => castTop (ef_0 m p1) k) ?_
  show own_G p.tables e below _ (s₁.setTop (mkF m 0 #[.val (.int p1), .unset, .unset] []))
  refine own_step (fun t k => XS.iloadN X0.here hx rfl (hb hby at_0) rfl k) ?_
  show own_G p.tables e below _ (s₁.setTop (mkF m 1 #[.val (.int p1), .unset, .unset] [(.int p1)]))
  refine own_step (fun t k => XS.iconst X0.here hx rfl (hb hby at_1) k) ?_
  show own_G p.tables e below _ (s₁.setTop (mkF m 2 #[.val (.int p1), .unset, .unset] [(.int (1 : Int32)), (.int p1)]))
  refine own_step (fun t k => XS.iand X0.here hx rfl (hb hby at_2) rfl k) ?_
  show own_G p.tables e below _ (s₁.setTop (mkF m 3 #[.val (.int p1), .unset, .unset] [(.int (p1 &&& (1 : Int32)))]))
  by_cases hc1 : (p1 &&& (1 : Int32)) = (0 : Int32)
  · skip
    refine own_step (fun t k => XS.ifYes X0.here hx rfl (pc0 := 3) (pc' := 10) rfl (hb hby at_3) rfl ((if0 _ _).trans (teq hc1).1) (by decide) (by decide) k) ?_
    show own_G p.tables e below _ (s₁.setTop (mkF m 10 #[.val (.int p1), .unset, .unset] []))
    refine own_step (fun t k => XS.iconst X0.here hx rfl (hb hby at_10) k) ?_
    show own_G p.tables e below _ (s₁.setTop (mkF m 11 #[.val (.int p1), .unset, .unset] [(.int (0 : Int32))]))
    refine own_step (fun t k => XS.istoreN X0.here hx rfl (hb hby at_11) rfl (l' := #[.val (.int p1), .val (.int (0 : Int32)), .unset]) rfl k) ?_
    show own_G p.tables e below _ (s₁.setTop (mkF m 12 #[.val (.int p1), .val (.int (0 : Int32)), .unset] []))
    refine own_step (fun t k => XS.iloadN X0.here hx rfl (hb hby at_12) rfl k) ?_
    show own_G p.tables e below _ (s₁.setTop (mkF m 13 #[.val (.int p1), .val (.int (0 : Int32)), .unset] [(.int (0 : Int32))]))
    obtain ⟨_, _, ⟨T2, L2, k2, n2⟩, -, X2, ⟨Lc2, hQ2, l2, y2, z2⟩, st2⟩ := Jvm.LawKit.callS X0 hx (y := (⟨"com/example/prudentia/prudentia/sec/Treatment", "of", "(Z)Lcom/example/prudentia/prudentia/sec/Treatment;"⟩ : MethodName)) hown (mvT hZ (hw _ (List.mem_of_getElem? (i := 0) rfl))) (mvT hZ (hw _ (List.mem_of_getElem? (i := 1) rfl))) (mvT hZ (hw _ (List.mem_of_getElem? (i := 2) rfl))) (mvT hZ (hw _ (List.mem_of_getElem? (i := 3) rfl))) (by decide) (backOf (W := 0) (rm1_t0 l Z a0 hw [] o_NON_STS h0 n0 (Nat.le_trans Z0 (Keep.refl h0 []).1) fp1) hZ (hw _ (List.mem_of_getElem? (i := 3) rfl)) (hw _ (List.mem_of_getElem? (i := 2) rfl)) (by decide) (by decide)) (g := (mkF m 13 #[.val (.int p1), .val (.int (0 : Int32)), .unset] [(.int (0 : Int32))])) rfl (by rw [hml]; rfl) (argsL := [(.int (0 : Int32))]) (rest := []) (lenOf pd_0_0 rfl) rfl (by show 2 * 0 + _ ≤ _; exact Nat.le_of_eq rfl) (hb hby at_13) (fun _ _ => ⟨rfl, e0, (by decide : 0 + 0 ≤ _), (by decide : 0 + 0 ≤ _)⟩)
    dsimp only [Pt.U, Pt.locs, Pt.cells, Pt.slots] at X2 l2 y2 z2 st2 hQ2
    subst y2 z2
    obtain ⟨rfl, N2q, e2⟩ := hQ2
    have N2 : Fr n0 L2 := by rw [l2]; exact Fr.app N0 N2q
    refine own_step st2 ?_
    show own_G p.tables e below _ (T2.setTop (mkF m 16 #[.val (.int p1), .val (.int (0 : Int32)), .unset] [(.ref o_NON_STS)]))
    refine own_step (fun t k => XS.astoreN X2.here hx rfl (hb hby at_16) rfl rfl (l' := #[.val (.int p1), .val (.int (0 : Int32)), .val (.ref o_NON_STS)]) rfl k) ?_
    show own_G p.tables e below _ (T2.setTop (mkF m 17 #[.val (.int p1), .val (.int (0 : Int32)), .val (.ref o_NON_STS)] []))
    refine own_step (fun t k => XS.aloadN X2.here hx rfl (hb hby at_17) rfl rfl k) ?_
    show own_G p.tables e below _ (T2.setTop (mkF m 18 #[.val (.int p1), .val (.int (0 : Int32)), .val (.ref o_NON_STS)] [(.ref o_NON_STS)]))
    refine own_step (fun t k => XS.ifnonnullYes X2.here hx rfl (pc0 := 18) (pc' := 23) rfl (hb hby at_18) rfl (by decide) (by decide) k) ?_
    show own_G p.tables e below _ (T2.setTop (mkF m 23 #[.val (.int p1), .val (.int (0 : Int32)), .val (.ref o_NON_STS)] []))
    refine own_step (fun t k => XS.iloadN X2.here hx rfl (hb hby at_23) rfl k) ?_
    show own_G p.tables e below _ (T2.setTop (mkF m 24 #[.val (.int p1), .val (.int (0 : Int32)), .val (.ref o_NON_STS)] [(.int (0 : Int32))]))
    have hk3 : (0 : Int32) = (0 : Int32) := rfl
    refine own_step (fun t k => XS.ifYes X2.here hx rfl (pc0 := 24) (pc' := 64) rfl (hb hby at_24) rfl ((if0 _ _).trans (teq hk3).1) (by decide) (by decide) k) ?_
    show own_G p.tables e below _ (T2.setTop (mkF m 64 #[.val (.int p1), .val (.int (0 : Int32)), .val (.ref o_NON_STS)] []))
    refine own_step (fun t k => XS.aloadN X2.here hx rfl (hb hby at_64) rfl rfl k) ?_
    show own_G p.tables e below _ (T2.setTop (mkF m 65 #[.val (.int p1), .val (.int (0 : Int32)), .val (.ref o_NON_STS)] [(.ref o_NON_STS)]))
    obtain ⟨T4, X4, e4, st4⟩ := getS2 X2 hx hZ hown (host := "") (Or.inl (hw _ (List.mem_of_getElem? (i := 6) rfl))) Via.refl e2 fp1 (g := (mkF m 65 #[.val (.int p1), .val (.int (0 : Int32)), .val (.ref o_NON_STS)] [(.ref o_NON_STS)])) rfl (hb hby at_65)
    refine own_step st4 ?_
    show own_G p.tables e below _ (T4.setTop (mkF m 68 #[.val (.int p1), .val (.int (0 : Int32)), .val (.ref o_NON_STS)] [(.ref o_NON_STS), (.ref o_NON_STS)]))
    refine own_step (fun t k => Jvm.RoadKit.acmp (g := (mkF m 68 #[.val (.int p1), .val (.int (0 : Int32)), .val (.ref o_NON_STS)] [(.ref o_NON_STS), (.ref o_NON_STS)])) X4 hx rfl rfl rfl (pc0 := 68) (pc' := 71) (same := true) rfl (hb hby at_68) rfl (decide_eq_true rfl) (by decide) (by decide) k) ?_
    show own_G p.tables e below _ (T4.setTop (mkF m 71 #[.val (.int p1), .val (.int (0 : Int32)), .val (.ref o_NON_STS)] []))
    refine own_step (fun t k => XS.aloadN X4.here hx rfl (hb hby at_71) rfl rfl k) ?_
    show own_G p.tables e below _ (T4.setTop (mkF m 72 #[.val (.int p1), .val (.int (0 : Int32)), .val (.ref o_NON_STS)] [(.ref o_NON_STS)]))
    obtain ⟨cq5, kq5, q5a, q5b, q5c⟩ := isOf hZ e4 fp2
    obtain ⟨_, _, ⟨T5, L5, k5, n5⟩, -, X5, ⟨Lc5, hQ5, l5, y5, z5⟩, st5⟩ := X4.virtualBack hx (y := (⟨"com/example/prudentia/prudentia/sec/Treatment", "getKey", "()Ljava/lang/String;"⟩ : MethodName)) (z := (⟨"com/example/prudentia/prudentia/sec/Treatment", "getKey", "()Ljava/lang/String;"⟩ : MethodName)) hown (mvT hZ (hw _ (List.mem_of_getElem? (i := 7) rfl))) (mvT hZ (hw _ (List.mem_of_getElem? (i := 8) rfl))) (notFace_of_selects (args := #[]) (mvT hZ (hw _ (List.mem_of_getElem? (i := 10) rfl)))) (mvT hZ (hw _ (List.mem_of_getElem? (i := 10) rfl))) (mvT hZ (hw _ (List.mem_of_getElem? (i := 9) rfl))) (by decide) (backOf (W := 0) (rm2 l Z a0 hw [] o_NON_STS key_NON_STS h0 n0 (Nat.le_trans Z0 (Keep.refl h0 []).1) fp3) hZ (hw _ (List.mem_of_getElem? (i := 11) rfl)) (hw _ (List.mem_of_getElem? (i := 2) rfl)) (by decide) (by decide)) q5a q5c (g := (mkF m 72 #[.val (.int p1), .val (.int (0 : Int32)), .val (.ref o_NON_STS)] [(.ref o_NON_STS)])) rfl (by rw [hml]; rfl) (Steps.refl _) (argsL := []) (rest := []) (lenOf pd_0_1 rfl) rfl (by show 2 * 0 + _ ≤ _; exact Nat.le_of_eq rfl) (hb hby at_72) (fun _ _ => ⟨rfl, e4, (by decide : 0 + 0 ≤ _), (by decide : 0 + 0 ≤ _)⟩)
    dsimp only [Pt.U, Pt.locs, Pt.cells, Pt.slots] at X5 l5 y5 z5 st5 hQ5
    subst y5 z5
    obtain ⟨rfl, N5q, e5⟩ := hQ5
    have N5 : Fr n0 L5 := by rw [l5]; exact Fr.app N2 N5q
    refine own_step (fun t k => st5.trans k) ?_
    clear N2 N2q N5q X2 X4 e2 e4 hk3 q5a q5b q5c st2 st4 st5
    show own_G p.tables e below _ (T5.setTop (mkF m 75 #[.val (.int p1), .val (.int (0 : Int32)), .val (.ref o_NON_STS)] [(.ref key_NON_STS)]))
    obtain ⟨b6, T6, h6, k6, v6, q6, X6, e6, E6, hS6, hk6w, hZ, hown, A6, B6, D6, W6, -, -, IB6, -, -, st6⟩ := ldcSVd (s := s) (vm0 := s.vm) X5 hx hZ hown (hw _ (List.mem_of_getElem? (i := 14) rfl)) wS e5 hS0 (by exact hk0) (by rw [hn0]; exact N5) hkeep IB0 (by decide) (hh36) hcw (vs := [(110 : Int32), (111 : Int32), (110 : Int32), (95 : Int32), (115 : Int32), (116 : Int32), (115 : Int32)].map Value.int) (z := (7 : Int32)) ⟨by decide, by decide⟩ (by decide) rfl (g := (mkF m 75 #[.val (.int p1), .val (.int (0 : Int32)), .val (.ref o_NON_STS)] [(.ref key_NON_STS)])) rfl (hb hby at_75) (n := 28) (by decide) (by decide) (by decide) (by decide)
    have c7 : Sta Z h6 "java/lang/String" "COMPACT_STRINGS" "Z" (.int s_COMPACT_STRINGS) := fp0.ext E6
    have c8 : Sta Z h6 "com/example/prudentia/prudentia/sec/Treatment" "NON_STS" "Lcom/example/prudentia/prudentia/sec/Treatment;" (.ref o_NON_STS) := fp1.ext E6
    have c9 : Exa Z h6 o_NON_STS "com/example/prudentia/prudentia/sec/Treatment" := fp2.ext E6
    have c10 : Fld Z h6 o_NON_STS "com/example/prudentia/prudentia/sec/Treatment" "key" "Ljava/lang/String;" (.ref key_NON_STS) := fp3.ext E6
    have c11 : Exa Z h6 key_NON_STS "java/lang/String" := fp4.ext E6
    have c12 : Fld Z h6 key_NON_STS "java/lang/String" "coder" "B" (.int (0 : Int32)) := fp5.ext E6
    have c13 : Fld Z h6 key_NON_STS "java/lang/String" "value" "[B" (.ref by_key_NON_STS) := fp6.ext E6
    have c14 : own_Ari Z h6 by_key_NON_STS .byte [(110 : Int32), (111 : Int32), (110 : Int32), (95 : Int32), (115 : Int32), (116 : Int32), (115 : Int32)] := fp7.ext E6
    have c15 : Fld Z h6 o_NON_STS "com/example/prudentia/prudentia/sec/Treatment" "name" "Ljava/lang/String;" (.ref name_NON_STS) := fp8.ext E6
    have c16 : Exa Z h6 name_NON_STS "java/lang/String" := fp9.ext E6
    have c17 : Fld Z h6 name_NON_STS "java/lang/String" "coder" "B" (.int (0 : Int32)) := fp10.ext E6
    have c18 : Fld Z h6 name_NON_STS "java/lang/String" "value" "[B" (.ref by_name_NON_STS) := fp11.ext E6
    have c19 : own_Ari Z h6 by_name_NON_STS .byte [(110 : Int32), (111 : Int32), (116 : Int32), (32 : Int32), (83 : Int32), (84 : Int32), (83 : Int32)] := fp12.ext E6
    have c20 : Sta Z h6 "com/example/prudentia/prudentia/sec/Treatment" "STS" "Lcom/example/prudentia/prudentia/sec/Treatment;" (.ref o_STS) := fp13.ext E6
    have c21 : Exa Z h6 o_STS "com/example/prudentia/prudentia/sec/Treatment" := fp14.ext E6
    have c22 : Fld Z h6 o_STS "com/example/prudentia/prudentia/sec/Treatment" "key" "Ljava/lang/String;" (.ref key_STS) := fp15.ext E6
    have c23 : Exa Z h6 key_STS "java/lang/String" := fp16.ext E6
    have c24 : Fld Z h6 key_STS "java/lang/String" "coder" "B" (.int (0 : Int32)) := fp17.ext E6
    have c25 : Fld Z h6 key_STS "java/lang/String" "value" "[B" (.ref by_key_STS) := fp18.ext E6
    have c26 : own_Ari Z h6 by_key_STS .byte [(115 : Int32), (116 : Int32), (115 : Int32)] := fp19.ext E6
    have c27 : Fld Z h6 o_STS "com/example/prudentia/prudentia/sec/Treatment" "name" "Ljava/lang/String;" (.ref name_STS) := fp20.ext E6
    have c28 : Exa Z h6 name_STS "java/lang/String" := fp21.ext E6
    have c29 : Fld Z h6 name_STS "java/lang/String" "coder" "B" (.int (0 : Int32)) := fp22.ext E6
    have c30 : Fld Z h6 name_STS "java/lang/String" "value" "[B" (.ref by_name_STS) := fp23.ext E6
    have c31 : own_Ari Z h6 by_name_STS .byte [(83 : Int32), (84 : Int32), (83 : Int32)] := fp24.ext E6
    have K6 : Keep h0 h6 [] := (Keep.refl h0 []).ext E6
    have c32 : own_Ari Z h6 v6 .byte [(110 : Int32), (111 : Int32), (110 : Int32), (95 : Int32), (115 : Int32), (116 : Int32), (115 : Int32)] := own_of_arv W6 rfl
    refine own_step st6 ?_
    show own_G p.tables e below _ (T6.setTop (mkF m 77 #[.val (.int p1), .val (.int (0 : Int32)), .val (.ref o_NON_STS)] [(.ref b6), (.ref key_NON_STS)]))
    obtain ⟨cq33, kq33, q33a, q33b, q33c⟩ := isOf hZ e6 c11
    obtain ⟨_, _, ⟨T33, L33, k33, n33⟩, -, X33, ⟨Lc33, hQ33, l33, y33, z33⟩, st33⟩ := X6.virtualBack hx (y := (⟨"java/lang/String", "equals", "(Ljava/lang/Object;)Z"⟩ : MethodName)) (z := (⟨"java/lang/String", "equals", "(Ljava/lang/Object;)Z"⟩ : MethodName)) hown (mvT hZ (hw _ (List.mem_of_getElem? (i := 22) rfl))) (mvT hZ (hw _ (List.mem_of_getElem? (i := 23) rfl))) (notFace_of_selects (args := #[]) (mvT hZ (hw _ (List.mem_of_getElem? (i := 25) rfl)))) (mvT hZ (hw _ (List.mem_of_getElem? (i := 25) rfl))) (mvT hZ (hw _ (List.mem_of_getElem? (i := 24) rfl))) (by decide) (backOf (W := 0) (rm3_x0 l Z a0 hw [] key_NON_STS b6 s_COMPACT_STRINGS by_key_NON_STS v6 h6 n0 (Nat.le_trans Z0 K6.1) c7 c11 c12 c13 c14 A6 B6 D6 c32 (hcs : ¬ (s_COMPACT_STRINGS = (0 : Int32)))) hZ (hw _ (List.mem_of_getElem? (i := 26) rfl)) (hw _ (List.mem_of_getElem? (i := 15) rfl)) (by decide) (by decide)) q33a q33c (g := (mkF m 77 #[.val (.int p1), .val (.int (0 : Int32)), .val (.ref o_NON_STS)] [(.ref b6), (.ref key_NON_STS)])) rfl (by rw [hml]; rfl) (Steps.refl _) (argsL := [(.ref b6)]) (rest := []) (lenOf pd_0_2 rfl) rfl (by show 2 * 0 + _ ≤ _; exact Nat.le_of_eq rfl) (hb hby at_77) (fun _ _ => ⟨rfl, e6, (by decide : 2 + 0 ≤ _), (by decide : 32 + 0 ≤ _)⟩)
    dsimp only [Pt.U, Pt.locs, Pt.cells, Pt.slots] at X33 l33 y33 z33 st33 hQ33
    subst y33 z33
    obtain ⟨rfl, N33q, e33⟩ := hQ33
    have N33 : Fr n0 L33 := by rw [l33]; exact Fr.app N5 N33q
    refine own_step (fun t k => st33.trans k) ?_
    clear E6 N33q N5 W6 X5 X6 e5 e6 q33a q33b q33c q6 st33 st6
    show own_G p.tables e below _ (T33.setTop (mkF m 80 #[.val (.int p1), .val (.int (0 : Int32)), .val (.ref o_NON_STS)] [(.int (1 : Int32))]))
    have hk34 : ¬ ((1 : Int32) = (0 : Int32)) := (by decide)
    refine own_step (fun t k => XS.ifNo X33.here hx rfl (hb hby at_80) rfl ((if0 _ _).trans (feq hk34).1) k) ?_
    show own_G p.tables e below _ (T33.setTop (mkF m 83 #[.val (.int p1), .val (.int (0 : Int32)), .val (.ref o_NON_STS)] []))
    refine own_step (fun t k => XS.aloadN X33.here hx rfl (hb hby at_83) rfl rfl k) ?_
    show own_G p.tables e below _ (T33.setTop (mkF m 84 #[.val (.int p1), .val (.int (0 : Int32)), .val (.ref o_NON_STS)] [(.ref o_NON_STS)]))
    obtain ⟨cq35, kq35, q35a, q35b, q35c⟩ := isOf hZ e33 c9
    obtain ⟨_, _, ⟨T35, L35, k35, n35⟩, -, X35, ⟨Lc35, hQ35, l35, y35, z35⟩, st35⟩ := X33.virtualBack hx (y := (⟨"com/example/prudentia/prudentia/sec/Treatment", "getName", "()Ljava/lang/String;"⟩ : MethodName)) (z := (⟨"com/example/prudentia/prudentia/sec/Treatment", "getName", "()Ljava/lang/String;"⟩ : MethodName)) hown (mvT hZ (hw _ (List.mem_of_getElem? (i := 36) rfl))) (mvT hZ (hw _ (List.mem_of_getElem? (i := 37) rfl))) (notFace_of_selects (args := #[]) (mvT hZ (hw _ (List.mem_of_getElem? (i := 39) rfl)))) (mvT hZ (hw _ (List.mem_of_getElem? (i := 39) rfl))) (mvT hZ (hw _ (List.mem_of_getElem? (i := 38) rfl))) (by decide) (backOf (W := 0) (rm5 l Z a0 hw [] o_NON_STS name_NON_STS h6 n0 (Nat.le_trans Z0 K6.1) c15) hZ (hw _ (List.mem_of_getElem? (i := 40) rfl)) (hw _ (List.mem_of_getElem? (i := 2) rfl)) (by decide) (by decide)) q35a q35c (g := (mkF m 84 #[.val (.int p1), .val (.int (0 : Int32)), .val (.ref o_NON_STS)] [(.ref o_NON_STS)])) rfl (by rw [hml]; rfl) (Steps.refl _) (argsL := []) (rest := []) (lenOf pd_0_1 rfl) rfl (by show 2 * 0 + _ ≤ _; exact Nat.le_of_eq rfl) (hb hby at_84) (fun _ _ => ⟨rfl, e33, (by decide : 2 + 0 ≤ _), (by decide : 32 + 0 ≤ _)⟩)
    dsimp only [Pt.U, Pt.locs, Pt.cells, Pt.slots] at X35 l35 y35 z35 st35 hQ35
    subst y35 z35
    obtain ⟨rfl, N35q, e35⟩ := hQ35
    have N35 : Fr n0 L35 := by rw [l35]; exact Fr.app N33 N35q
    refine own_step (fun t k => st35.trans k) ?_
    show own_G p.tables e below _ (T35.setTop (mkF m 87 #[.val (.int p1), .val (.int (0 : Int32)), .val (.ref o_NON_STS)] [(.ref name_NON_STS)]))
    obtain ⟨b36, T36, h36, k36, v36, q36, X36, e36, E36, hS36, hk36w, hZ, hown, A36, B36, D36, W36, -, -, IB36, -, -, st36⟩ := ldcSVd (s := s) (vm0 := T6.vm) X35 hx hZ hown (hw _ (List.mem_of_getElem? (i := 43) rfl)) wS e35 hS6 (by exact hk6w) (by rw [hn0]; exact N35) hkeep IB6 (by decide) (hh38) hcw (vs := [(110 : Int32), (111 : Int32), (116 : Int32), (32 : Int32), (83 : Int32), (84 : Int32), (83 : Int32)].map Value.int) (z := (7 : Int32)) ⟨by decide, by decide⟩ (by decide) rfl (g := (mkF m 87 #[.val (.int p1), .val (.int (0 : Int32)), .val (.ref o_NON_STS)] [(.ref name_NON_STS)])) rfl (hb hby at_87) (n := 28) (by decide) (by decide) (by decide) (by decide)
    have c37 : Sta Z h36 "java/lang/String" "COMPACT_STRINGS" "Z" (.int s_COMPACT_STRINGS) := c7.ext E36
    have c38 : Sta Z h36 "com/example/prudentia/prudentia/sec/Treatment" "NON_STS" "Lcom/example/prudentia/prudentia/sec/Treatment;" (.ref o_NON_STS) := c8.ext E36
    have c39 : Exa Z h36 o_NON_STS "com/example/prudentia/prudentia/sec/Treatment" := c9.ext E36
    have c40 : Fld Z h36 o_NON_STS "com/example/prudentia/prudentia/sec/Treatment" "key" "Ljava/lang/String;" (.ref key_NON_STS) := c10.ext E36
    have c41 : Exa Z h36 key_NON_STS "java/lang/String" := c11.ext E36
    have c42 : Fld Z h36 key_NON_STS "java/lang/String" "coder" "B" (.int (0 : Int32)) := c12.ext E36
    have c43 : Fld Z h36 key_NON_STS "java/lang/String" "value" "[B" (.ref by_key_NON_STS) := c13.ext E36
    have c44 : own_Ari Z h36 by_key_NON_STS .byte [(110 : Int32), (111 : Int32), (110 : Int32), (95 : Int32), (115 : Int32), (116 : Int32), (115 : Int32)] := c14.ext E36
    have c45 : Fld Z h36 o_NON_STS "com/example/prudentia/prudentia/sec/Treatment" "name" "Ljava/lang/String;" (.ref name_NON_STS) := c15.ext E36
    have c46 : Exa Z h36 name_NON_STS "java/lang/String" := c16.ext E36
    have c47 : Fld Z h36 name_NON_STS "java/lang/String" "coder" "B" (.int (0 : Int32)) := c17.ext E36
    have c48 : Fld Z h36 name_NON_STS "java/lang/String" "value" "[B" (.ref by_name_NON_STS) := c18.ext E36
    have c49 : own_Ari Z h36 by_name_NON_STS .byte [(110 : Int32), (111 : Int32), (116 : Int32), (32 : Int32), (83 : Int32), (84 : Int32), (83 : Int32)] := c19.ext E36
    have c50 : Sta Z h36 "com/example/prudentia/prudentia/sec/Treatment" "STS" "Lcom/example/prudentia/prudentia/sec/Treatment;" (.ref o_STS) := c20.ext E36
    have c51 : Exa Z h36 o_STS "com/example/prudentia/prudentia/sec/Treatment" := c21.ext E36
    have c52 : Fld Z h36 o_STS "com/example/prudentia/prudentia/sec/Treatment" "key" "Ljava/lang/String;" (.ref key_STS) := c22.ext E36
    have c53 : Exa Z h36 key_STS "java/lang/String" := c23.ext E36
    have c54 : Fld Z h36 key_STS "java/lang/String" "coder" "B" (.int (0 : Int32)) := c24.ext E36
    have c55 : Fld Z h36 key_STS "java/lang/String" "value" "[B" (.ref by_key_STS) := c25.ext E36
    have c56 : own_Ari Z h36 by_key_STS .byte [(115 : Int32), (116 : Int32), (115 : Int32)] := c26.ext E36
    have c57 : Fld Z h36 o_STS "com/example/prudentia/prudentia/sec/Treatment" "name" "Ljava/lang/String;" (.ref name_STS) := c27.ext E36
    have c58 : Exa Z h36 name_STS "java/lang/String" := c28.ext E36
    have c59 : Fld Z h36 name_STS "java/lang/String" "coder" "B" (.int (0 : Int32)) := c29.ext E36
    have c60 : Fld Z h36 name_STS "java/lang/String" "value" "[B" (.ref by_name_STS) := c30.ext E36
    have c61 : own_Ari Z h36 by_name_STS .byte [(83 : Int32), (84 : Int32), (83 : Int32)] := c31.ext E36
    have c62 : Exa Z h36 b6 "java/lang/String" := A6.ext E36
    have c63 : Fld Z h36 b6 "java/lang/String" "coder" "B" (.int (0 : Int32)) := B6.ext E36
    have c64 : Fld Z h36 b6 "java/lang/String" "value" "[B" (.ref v6) := D6.ext E36
    have c65 : own_Ari Z h36 v6 .byte [(110 : Int32), (111 : Int32), (110 : Int32), (95 : Int32), (115 : Int32), (116 : Int32), (115 : Int32)] := c32.ext E36
    have K36 : Keep h0 h36 [] := K6.ext E36
    have c66 : own_Ari Z h36 v36 .byte [(110 : Int32), (111 : Int32), (116 : Int32), (32 : Int32), (83 : Int32), (84 : Int32), (83 : Int32)] := own_of_arv W36 rfl
    refine own_step st36 ?_
    clear A6 B6 D6 E36 K6 N33 N35q W36 X33 X35 c10 c11 c12 c13 c14 c15 c16 c17 c18 c19 c20 c21 c22 c23 c24 c25 c26 c27 c28 c29 c30 c31 c32 c7 c8 c9 e33 e35 hk34 q35a q35b q35c q36 st35 st36
    show own_G p.tables e below _ (T36.setTop (mkF m 89 #[.val (.int p1), .val (.int (0 : Int32)), .val (.ref o_NON_STS)] [(.ref b36), (.ref name_NON_STS)]))
    obtain ⟨cq67, kq67, q67a, q67b, q67c⟩ := isOf hZ e36 c46
    obtain ⟨_, _, ⟨T67, L67, k67, n67⟩, -, X67, ⟨Lc67, hQ67, l67, y67, z67⟩, st67⟩ := X36.virtualBack hx (y := (⟨"java/lang/String", "equals", "(Ljava/lang/Object;)Z"⟩ : MethodName)) (z := (⟨"java/lang/String", "equals", "(Ljava/lang/Object;)Z"⟩ : MethodName)) hown (mvT hZ (hw _ (List.mem_of_getElem? (i := 22) rfl))) (mvT hZ (hw _ (List.mem_of_getElem? (i := 23) rfl))) (notFace_of_selects (args := #[]) (mvT hZ (hw _ (List.mem_of_getElem? (i := 25) rfl)))) (mvT hZ (hw _ (List.mem_of_getElem? (i := 25) rfl))) (mvT hZ (hw _ (List.mem_of_getElem? (i := 24) rfl))) (by decide) (backOf (W := 0) (rm3_x1 l Z a0 hw [] name_NON_STS b36 s_COMPACT_STRINGS by_name_NON_STS v36 h36 n0 (Nat.le_trans Z0 K36.1) c37 c46 c47 c48 c49 A36 B36 D36 c66 (hcs : ¬ (s_COMPACT_STRINGS = (0 : Int32)))) hZ (hw _ (List.mem_of_getElem? (i := 26) rfl)) (hw _ (List.mem_of_getElem? (i := 15) rfl)) (by decide) (by decide)) q67a q67c (g := (mkF m 89 #[.val (.int p1), .val (.int (0 : Int32)), .val (.ref o_NON_STS)] [(.ref b36), (.ref name_NON_STS)])) rfl (by rw [hml]; rfl) (Steps.refl _) (argsL := [(.ref b36)]) (rest := []) (lenOf pd_0_2 rfl) rfl (by show 2 * 0 + _ ≤ _; exact Nat.le_of_eq rfl) (hb hby at_89) (fun _ _ => ⟨rfl, e36, (by decide : 4 + 0 ≤ _), (by decide : 64 + 0 ≤ _)⟩)
    dsimp only [Pt.U, Pt.locs, Pt.cells, Pt.slots] at X67 l67 y67 z67 st67 hQ67
    subst y67 z67
    obtain ⟨rfl, N67q, e67⟩ := hQ67
    have N67 : Fr n0 L67 := by rw [l67]; exact Fr.app N35 N67q
    refine own_step (fun t k => st67.trans k) ?_
    show own_G p.tables e below _ (T67.setTop (mkF m 92 #[.val (.int p1), .val (.int (0 : Int32)), .val (.ref o_NON_STS)] [(.int (1 : Int32))]))
    have hk68 : ¬ ((1 : Int32) = (0 : Int32)) := (by decide)
    refine own_step (fun t k => XS.ifNo X67.here hx rfl (hb hby at_92) rfl ((if0 _ _).trans (feq hk68).1) k) ?_
    show own_G p.tables e below _ (T67.setTop (mkF m 95 #[.val (.int p1), .val (.int (0 : Int32)), .val (.ref o_NON_STS)] []))
    refine own_step (fun t k => XS.iconst X67.here hx rfl (hb hby at_95) k) ?_
    show own_G p.tables e below _ (T67.setTop (mkF m 96 #[.val (.int p1), .val (.int (0 : Int32)), .val (.ref o_NON_STS)] [(.int (1 : Int32))]))
    refine own_step (fun t k => XS.goto X67.here hx rfl (pc0 := 96) (pc' := 100) rfl (hb hby at_96) (by decide) (by decide) k) ?_
    show own_G p.tables e below _ (T67.setTop (mkF m 100 #[.val (.int p1), .val (.int (0 : Int32)), .val (.ref o_NON_STS)] [(.int (1 : Int32))]))
    obtain ⟨fs, hr, hrun, hended, hRE⟩ := Jvm.Stand.leaveW (s := s) (vm₁ := T36.vm) X67 hS36 (by rw [e67]; exact hk36w) (v := some (.int (1 : Int32))) (fun h => by rw [Bd.returns] at h; cases h)
    refine own_done (retN X67 hx (t := .boolean) Bd.returns (by simp) (hb hby at_100) hr) hrun hended ⟨_, _, rfl, ?_, hRE.1, hRE.2.1, hRE.2.2.1, hRE.2.2.2.mono (by decide) (by decide)⟩
    show Q0 Z p1 s_COMPACT_STRINGS o_NON_STS key_NON_STS by_key_NON_STS name_NON_STS by_name_NON_STS o_STS key_STS by_key_STS name_STS by_name_STS h0 n0 _ T67.heap _
    rw [e67]
    exact ⟨rfl, N67⟩
  · skip
    refine own_step (fun t k => XS.ifNo X0.here hx rfl (hb hby at_3) rfl ((if0 _ _).trans (feq hc1).1) k) ?_
    show own_G p.tables e below _ (s₁.setTop (mkF m 6 #[.val (.int p1), .unset, .unset] []))
    refine own_step (fun t k => XS.iconst X0.here hx rfl (hb hby at_6) k) ?_
    show own_G p.tables e below _ (s₁.setTop (mkF m 7 #[.val (.int p1), .unset, .unset] [(.int (1 : Int32))]))
    refine own_step (fun t k => XS.goto X0.here hx rfl (pc0 := 7) (pc' := 11) rfl (hb hby at_7) (by decide) (by decide) k) ?_
    show own_G p.tables e below _ (s₁.setTop (mkF m 11 #[.val (.int p1), .unset, .unset] [(.int (1 : Int32))]))
    refine own_step (fun t k => XS.istoreN X0.here hx rfl (hb hby at_11) rfl (l' := #[.val (.int p1), .val (.int (1 : Int32)), .unset]) rfl k) ?_
    show own_G p.tables e below _ (s₁.setTop (mkF m 12 #[.val (.int p1), .val (.int (1 : Int32)), .unset] []))
    refine own_step (fun t k => XS.iloadN X0.here hx rfl (hb hby at_12) rfl k) ?_
    show own_G p.tables e below _ (s₁.setTop (mkF m 13 #[.val (.int p1), .val (.int (1 : Int32)), .unset] [(.int (1 : Int32))]))
    obtain ⟨_, _, ⟨T69, L69, k69, n69⟩, -, X69, ⟨Lc69, hQ69, l69, y69, z69⟩, st69⟩ := Jvm.LawKit.callS X0 hx (y := (⟨"com/example/prudentia/prudentia/sec/Treatment", "of", "(Z)Lcom/example/prudentia/prudentia/sec/Treatment;"⟩ : MethodName)) hown (mvT hZ (hw _ (List.mem_of_getElem? (i := 0) rfl))) (mvT hZ (hw _ (List.mem_of_getElem? (i := 1) rfl))) (mvT hZ (hw _ (List.mem_of_getElem? (i := 2) rfl))) (mvT hZ (hw _ (List.mem_of_getElem? (i := 3) rfl))) (by decide) (backOf (W := 0) (rm1_t1 l Z a0 hw [] o_STS h0 n0 (Nat.le_trans Z0 (Keep.refl h0 []).1) fp13) hZ (hw _ (List.mem_of_getElem? (i := 3) rfl)) (hw _ (List.mem_of_getElem? (i := 2) rfl)) (by decide) (by decide)) (g := (mkF m 13 #[.val (.int p1), .val (.int (1 : Int32)), .unset] [(.int (1 : Int32))])) rfl (by rw [hml]; rfl) (argsL := [(.int (1 : Int32))]) (rest := []) (lenOf pd_0_0 rfl) rfl (by show 2 * 0 + _ ≤ _; exact Nat.le_of_eq rfl) (hb hby at_13) (fun _ _ => ⟨rfl, e0, (by decide : 0 + 0 ≤ _), (by decide : 0 + 0 ≤ _)⟩)
    dsimp only [Pt.U, Pt.locs, Pt.cells, Pt.slots] at X69 l69 y69 z69 st69 hQ69
    subst y69 z69
    obtain ⟨rfl, N69q, e69⟩ := hQ69
    have N69 : Fr n0 L69 := by rw [l69]; exact Fr.app N0 N69q
    refine own_step st69 ?_
    show own_G p.tables e below _ (T69.setTop (mkF m 16 #[.val (.int p1), .val (.int (1 : Int32)), .unset] [(.ref o_STS)]))
    refine own_step (fun t k => XS.astoreN X69.here hx rfl (hb hby at_16) rfl rfl (l' := #[.val (.int p1), .val (.int (1 : Int32)), .val (.ref o_STS)]) rfl k) ?_
    show own_G p.tables e below _ (T69.setTop (mkF m 17 #[.val (.int p1), .val (.int (1 : Int32)), .val (.ref o_STS)] []))
    refine own_step (fun t k => XS.aloadN X69.here hx rfl (hb hby at_17) rfl rfl k) ?_
    show own_G p.tables e below _ (T69.setTop (mkF m 18 #[.val (.int p1), .val (.int (1 : Int32)), .val (.ref o_STS)] [(.ref o_STS)]))
    refine own_step (fun t k => XS.ifnonnullYes X69.here hx rfl (pc0 := 18) (pc' := 23) rfl (hb hby at_18) rfl (by decide) (by decide) k) ?_
    show own_G p.tables e below _ (T69.setTop (mkF m 23 #[.val (.int p1), .val (.int (1 : Int32)), .val (.ref o_STS)] []))
    refine own_step (fun t k => XS.iloadN X69.here hx rfl (hb hby at_23) rfl k) ?_
    show own_G p.tables e below _ (T69.setTop (mkF m 24 #[.val (.int p1), .val (.int (1 : Int32)), .val (.ref o_STS)] [(.int (1 : Int32))]))
    have hk70 : ¬ ((1 : Int32) = (0 : Int32)) := (by decide)
    refine own_step (fun t k => XS.ifNo X69.here hx rfl (hb hby at_24) rfl ((if0 _ _).trans (feq hk70).1) k) ?_
    show own_G p.tables e below _ (T69.setTop (mkF m 27 #[.val (.int p1), .val (.int (1 : Int32)), .val (.ref o_STS)] []))
    refine own_step (fun t k => XS.aloadN X69.here hx rfl (hb hby at_27) rfl rfl k) ?_
    show own_G p.tables e below _ (T69.setTop (mkF m 28 #[.val (.int p1), .val (.int (1 : Int32)), .val (.ref o_STS)] [(.ref o_STS)]))
    obtain ⟨T71, X71, e71, st71⟩ := getS2 X69 hx hZ hown (host := "") (Or.inl (hw _ (List.mem_of_getElem? (i := 46) rfl))) Via.refl e69 fp13 (g := (mkF m 28 #[.val (.int p1), .val (.int (1 : Int32)), .val (.ref o_STS)] [(.ref o_STS)])) rfl (hb hby at_28)
    refine own_step st71 ?_
    show own_G p.tables e below _ (T71.setTop (mkF m 31 #[.val (.int p1), .val (.int (1 : Int32)), .val (.ref o_STS)] [(.ref o_STS), (.ref o_STS)]))
    refine own_step (fun t k => Jvm.RoadKit.acmp (g := (mkF m 31 #[.val (.int p1), .val (.int (1 : Int32)), .val (.ref o_STS)] [(.ref o_STS), (.ref o_STS)])) X71 hx rfl rfl rfl (pc0 := 31) (pc' := 34) (same := true) rfl (hb hby at_31) rfl (decide_eq_true rfl) (by decide) (by decide) k) ?_
    show own_G p.tables e below _ (T71.setTop (mkF m 34 #[.val (.int p1), .val (.int (1 : Int32)), .val (.ref o_STS)] []))
    refine own_step (fun t k => XS.aloadN X71.here hx rfl (hb hby at_34) rfl rfl k) ?_
    show own_G p.tables e below _ (T71.setTop (mkF m 35 #[.val (.int p1), .val (.int (1 : Int32)), .val (.ref o_STS)] [(.ref o_STS)]))
    obtain ⟨cq72, kq72, q72a, q72b, q72c⟩ := isOf hZ e71 fp14
    obtain ⟨_, _, ⟨T72, L72, k72, n72⟩, -, X72, ⟨Lc72, hQ72, l72, y72, z72⟩, st72⟩ := X71.virtualBack hx (y := (⟨"com/example/prudentia/prudentia/sec/Treatment", "getKey", "()Ljava/lang/String;"⟩ : MethodName)) (z := (⟨"com/example/prudentia/prudentia/sec/Treatment", "getKey", "()Ljava/lang/String;"⟩ : MethodName)) hown (mvT hZ (hw _ (List.mem_of_getElem? (i := 7) rfl))) (mvT hZ (hw _ (List.mem_of_getElem? (i := 8) rfl))) (notFace_of_selects (args := #[]) (mvT hZ (hw _ (List.mem_of_getElem? (i := 10) rfl)))) (mvT hZ (hw _ (List.mem_of_getElem? (i := 10) rfl))) (mvT hZ (hw _ (List.mem_of_getElem? (i := 9) rfl))) (by decide) (backOf (W := 0) (rm2 l Z a0 hw [] o_STS key_STS h0 n0 (Nat.le_trans Z0 (Keep.refl h0 []).1) fp15) hZ (hw _ (List.mem_of_getElem? (i := 11) rfl)) (hw _ (List.mem_of_getElem? (i := 2) rfl)) (by decide) (by decide)) q72a q72c (g := (mkF m 35 #[.val (.int p1), .val (.int (1 : Int32)), .val (.ref o_STS)] [(.ref o_STS)])) rfl (by rw [hml]; rfl) (Steps.refl _) (argsL := []) (rest := []) (lenOf pd_0_1 rfl) rfl (by show 2 * 0 + _ ≤ _; exact Nat.le_of_eq rfl) (hb hby at_35) (fun _ _ => ⟨rfl, e71, (by decide : 0 + 0 ≤ _), (by decide : 0 + 0 ≤ _)⟩)
    dsimp only [Pt.U, Pt.locs, Pt.cells, Pt.slots] at X72 l72 y72 z72 st72 hQ72
    subst y72 z72
    obtain ⟨rfl, N72q, e72⟩ := hQ72
    have N72 : Fr n0 L72 := by rw [l72]; exact Fr.app N69 N72q
    refine own_step (fun t k => st72.trans k) ?_
    clear N69 N69q N72q X69 X71 e69 e71 hk70 q72a q72b q72c st69 st71 st72
    show own_G p.tables e below _ (T72.setTop (mkF m 38 #[.val (.int p1), .val (.int (1 : Int32)), .val (.ref o_STS)] [(.ref key_STS)]))
    obtain ⟨b73, T73, h73, k73, v73, q73, X73, e73, E73, hS73, hk73w, hZ, hown, A73, B73, D73, W73, -, -, IB73, -, -, st73⟩ := ldcSVd (s := s) (vm0 := s.vm) X72 hx hZ hown (hw _ (List.mem_of_getElem? (i := 47) rfl)) wS e72 hS0 (by exact hk0) (by rw [hn0]; exact N72) hkeep IB0 (by decide) (hh21) hcw (vs := [(115 : Int32), (116 : Int32), (115 : Int32)].map Value.int) (z := (3 : Int32)) ⟨by decide, by decide⟩ (by decide) rfl (g := (mkF m 38 #[.val (.int p1), .val (.int (1 : Int32)), .val (.ref o_STS)] [(.ref key_STS)])) rfl (hb hby at_38) (n := 12) (by decide) (by decide) (by decide) (by decide)
    have c74 : Sta Z h73 "java/lang/String" "COMPACT_STRINGS" "Z" (.int s_COMPACT_STRINGS) := fp0.ext E73
    have c75 : Sta Z h73 "com/example/prudentia/prudentia/sec/Treatment" "NON_STS" "Lcom/example/prudentia/prudentia/sec/Treatment;" (.ref o_NON_STS) := fp1.ext E73
    have c76 : Exa Z h73 o_NON_STS "com/example/prudentia/prudentia/sec/Treatment" := fp2.ext E73
    have c77 : Fld Z h73 o_NON_STS "com/example/prudentia/prudentia/sec/Treatment" "key" "Ljava/lang/String;" (.ref key_NON_STS) := fp3.ext E73
    have c78 : Exa Z h73 key_NON_STS "java/lang/String" := fp4.ext E73
    have c79 : Fld Z h73 key_NON_STS "java/lang/String" "coder" "B" (.int (0 : Int32)) := fp5.ext E73
    have c80 : Fld Z h73 key_NON_STS "java/lang/String" "value" "[B" (.ref by_key_NON_STS) := fp6.ext E73
    have c81 : own_Ari Z h73 by_key_NON_STS .byte [(110 : Int32), (111 : Int32), (110 : Int32), (95 : Int32), (115 : Int32), (116 : Int32), (115 : Int32)] := fp7.ext E73
    have c82 : Fld Z h73 o_NON_STS "com/example/prudentia/prudentia/sec/Treatment" "name" "Ljava/lang/String;" (.ref name_NON_STS) := fp8.ext E73
    have c83 : Exa Z h73 name_NON_STS "java/lang/String" := fp9.ext E73
    have c84 : Fld Z h73 name_NON_STS "java/lang/String" "coder" "B" (.int (0 : Int32)) := fp10.ext E73
    have c85 : Fld Z h73 name_NON_STS "java/lang/String" "value" "[B" (.ref by_name_NON_STS) := fp11.ext E73
    have c86 : own_Ari Z h73 by_name_NON_STS .byte [(110 : Int32), (111 : Int32), (116 : Int32), (32 : Int32), (83 : Int32), (84 : Int32), (83 : Int32)] := fp12.ext E73
    have c87 : Sta Z h73 "com/example/prudentia/prudentia/sec/Treatment" "STS" "Lcom/example/prudentia/prudentia/sec/Treatment;" (.ref o_STS) := fp13.ext E73
    have c88 : Exa Z h73 o_STS "com/example/prudentia/prudentia/sec/Treatment" := fp14.ext E73
    have c89 : Fld Z h73 o_STS "com/example/prudentia/prudentia/sec/Treatment" "key" "Ljava/lang/String;" (.ref key_STS) := fp15.ext E73
    have c90 : Exa Z h73 key_STS "java/lang/String" := fp16.ext E73
    have c91 : Fld Z h73 key_STS "java/lang/String" "coder" "B" (.int (0 : Int32)) := fp17.ext E73
    have c92 : Fld Z h73 key_STS "java/lang/String" "value" "[B" (.ref by_key_STS) := fp18.ext E73
    have c93 : own_Ari Z h73 by_key_STS .byte [(115 : Int32), (116 : Int32), (115 : Int32)] := fp19.ext E73
    have c94 : Fld Z h73 o_STS "com/example/prudentia/prudentia/sec/Treatment" "name" "Ljava/lang/String;" (.ref name_STS) := fp20.ext E73
    have c95 : Exa Z h73 name_STS "java/lang/String" := fp21.ext E73
    have c96 : Fld Z h73 name_STS "java/lang/String" "coder" "B" (.int (0 : Int32)) := fp22.ext E73
    have c97 : Fld Z h73 name_STS "java/lang/String" "value" "[B" (.ref by_name_STS) := fp23.ext E73
    have c98 : own_Ari Z h73 by_name_STS .byte [(83 : Int32), (84 : Int32), (83 : Int32)] := fp24.ext E73
    have K73 : Keep h0 h73 [] := (Keep.refl h0 []).ext E73
    have c99 : own_Ari Z h73 v73 .byte [(115 : Int32), (116 : Int32), (115 : Int32)] := own_of_arv W73 rfl
    refine own_step st73 ?_
    show own_G p.tables e below _ (T73.setTop (mkF m 40 #[.val (.int p1), .val (.int (1 : Int32)), .val (.ref o_STS)] [(.ref b73), (.ref key_STS)]))
    obtain ⟨cq100, kq100, q100a, q100b, q100c⟩ := isOf hZ e73 c90
    obtain ⟨_, _, ⟨T100, L100, k100, n100⟩, -, X100, ⟨Lc100, hQ100, l100, y100, z100⟩, st100⟩ := X73.virtualBack hx (y := (⟨"java/lang/String", "equals", "(Ljava/lang/Object;)Z"⟩ : MethodName)) (z := (⟨"java/lang/String", "equals", "(Ljava/lang/Object;)Z"⟩ : MethodName)) hown (mvT hZ (hw _ (List.mem_of_getElem? (i := 22) rfl))) (mvT hZ (hw _ (List.mem_of_getElem? (i := 23) rfl))) (notFace_of_selects (args := #[]) (mvT hZ (hw _ (List.mem_of_getElem? (i := 25) rfl)))) (mvT hZ (hw _ (List.mem_of_getElem? (i := 25) rfl))) (mvT hZ (hw _ (List.mem_of_getElem? (i := 24) rfl))) (by decide) (backOf (W := 0) (rm3_x2 l Z a0 hw [] key_STS b73 s_COMPACT_STRINGS by_key_STS v73 h73 n0 (Nat.le_trans Z0 K73.1) c74 c90 c91 c92 c93 A73 B73 D73 c99 (hcs : ¬ (s_COMPACT_STRINGS = (0 : Int32)))) hZ (hw _ (List.mem_of_getElem? (i := 26) rfl)) (hw _ (List.mem_of_getElem? (i := 15) rfl)) (by decide) (by decide)) q100a q100c (g := (mkF m 40 #[.val (.int p1), .val (.int (1 : Int32)), .val (.ref o_STS)] [(.ref b73), (.ref key_STS)])) rfl (by rw [hml]; rfl) (Steps.refl _) (argsL := [(.ref b73)]) (rest := []) (lenOf pd_0_2 rfl) rfl (by show 2 * 0 + _ ≤ _; exact Nat.le_of_eq rfl) (hb hby at_40) (fun _ _ => ⟨rfl, e73, (by decide : 2 + 0 ≤ _), (by decide : 16 + 0 ≤ _)⟩)
    dsimp only [Pt.U, Pt.locs, Pt.cells, Pt.slots] at X100 l100 y100 z100 st100 hQ100
    subst y100 z100
    obtain ⟨rfl, N100q, e100⟩ := hQ100
    have N100 : Fr n0 L100 := by rw [l100]; exact Fr.app N72 N100q
    refine own_step (fun t k => st100.trans k) ?_
    clear E73 N100q N72 W73 X72 X73 e72 e73 q100a q100b q100c q73 st100 st73
    show own_G p.tables e below _ (T100.setTop (mkF m 43 #[.val (.int p1), .val (.int (1 : Int32)), .val (.ref o_STS)] [(.int (1 : Int32))]))
    have hk101 : ¬ ((1 : Int32) = (0 : Int32)) := (by decide)
    refine own_step (fun t k => XS.ifNo X100.here hx rfl (hb hby at_43) rfl ((if0 _ _).trans (feq hk101).1) k) ?_
    show own_G p.tables e below _ (T100.setTop (mkF m 46 #[.val (.int p1), .val (.int (1 : Int32)), .val (.ref o_STS)] []))
    refine own_step (fun t k => XS.aloadN X100.here hx rfl (hb hby at_46) rfl rfl k) ?_
    show own_G p.tables e below _ (T100.setTop (mkF m 47 #[.val (.int p1), .val (.int (1 : Int32)), .val (.ref o_STS)] [(.ref o_STS)]))
    obtain ⟨cq102, kq102, q102a, q102b, q102c⟩ := isOf hZ e100 c88
    obtain ⟨_, _, ⟨T102, L102, k102, n102⟩, -, X102, ⟨Lc102, hQ102, l102, y102, z102⟩, st102⟩ := X100.virtualBack hx (y := (⟨"com/example/prudentia/prudentia/sec/Treatment", "getName", "()Ljava/lang/String;"⟩ : MethodName)) (z := (⟨"com/example/prudentia/prudentia/sec/Treatment", "getName", "()Ljava/lang/String;"⟩ : MethodName)) hown (mvT hZ (hw _ (List.mem_of_getElem? (i := 36) rfl))) (mvT hZ (hw _ (List.mem_of_getElem? (i := 37) rfl))) (notFace_of_selects (args := #[]) (mvT hZ (hw _ (List.mem_of_getElem? (i := 39) rfl)))) (mvT hZ (hw _ (List.mem_of_getElem? (i := 39) rfl))) (mvT hZ (hw _ (List.mem_of_getElem? (i := 38) rfl))) (by decide) (backOf (W := 0) (rm5 l Z a0 hw [] o_STS name_STS h73 n0 (Nat.le_trans Z0 K73.1) c94) hZ (hw _ (List.mem_of_getElem? (i := 40) rfl)) (hw _ (List.mem_of_getElem? (i := 2) rfl)) (by decide) (by decide)) q102a q102c (g := (mkF m 47 #[.val (.int p1), .val (.int (1 : Int32)), .val (.ref o_STS)] [(.ref o_STS)])) rfl (by rw [hml]; rfl) (Steps.refl _) (argsL := []) (rest := []) (lenOf pd_0_1 rfl) rfl (by show 2 * 0 + _ ≤ _; exact Nat.le_of_eq rfl) (hb hby at_47) (fun _ _ => ⟨rfl, e100, (by decide : 2 + 0 ≤ _), (by decide : 16 + 0 ≤ _)⟩)
    dsimp only [Pt.U, Pt.locs, Pt.cells, Pt.slots] at X102 l102 y102 z102 st102 hQ102
    subst y102 z102
    obtain ⟨rfl, N102q, e102⟩ := hQ102
    have N102 : Fr n0 L102 := by rw [l102]; exact Fr.app N100 N102q
    refine own_step (fun t k => st102.trans k) ?_
    show own_G p.tables e below _ (T102.setTop (mkF m 50 #[.val (.int p1), .val (.int (1 : Int32)), .val (.ref o_STS)] [(.ref name_STS)]))
    obtain ⟨b103, T103, h103, k103, v103, q103, X103, e103, E103, hS103, hk103w, hZ, hown, A103, B103, D103, W103, -, -, IB103, -, -, st103⟩ := ldcSVd (s := s) (vm0 := T73.vm) X102 hx hZ hown (hw _ (List.mem_of_getElem? (i := 48) rfl)) wS e102 hS73 (by exact hk73w) (by rw [hn0]; exact N102) hkeep IB73 (by decide) (hh32) hcw (vs := [(83 : Int32), (84 : Int32), (83 : Int32)].map Value.int) (z := (3 : Int32)) ⟨by decide, by decide⟩ (by decide) rfl (g := (mkF m 50 #[.val (.int p1), .val (.int (1 : Int32)), .val (.ref o_STS)] [(.ref name_STS)])) rfl (hb hby at_50) (n := 12) (by decide) (by decide) (by decide) (by decide)
    have c104 : Sta Z h103 "java/lang/String" "COMPACT_STRINGS" "Z" (.int s_COMPACT_STRINGS) := c74.ext E103
    have c105 : Sta Z h103 "com/example/prudentia/prudentia/sec/Treatment" "NON_STS" "Lcom/example/prudentia/prudentia/sec/Treatment;" (.ref o_NON_STS) := c75.ext E103
    have c106 : Exa Z h103 o_NON_STS "com/example/prudentia/prudentia/sec/Treatment" := c76.ext E103
    have c107 : Fld Z h103 o_NON_STS "com/example/prudentia/prudentia/sec/Treatment" "key" "Ljava/lang/String;" (.ref key_NON_STS) := c77.ext E103
    have c108 : Exa Z h103 key_NON_STS "java/lang/String" := c78.ext E103
    have c109 : Fld Z h103 key_NON_STS "java/lang/String" "coder" "B" (.int (0 : Int32)) := c79.ext E103
    have c110 : Fld Z h103 key_NON_STS "java/lang/String" "value" "[B" (.ref by_key_NON_STS) := c80.ext E103
    have c111 : own_Ari Z h103 by_key_NON_STS .byte [(110 : Int32), (111 : Int32), (110 : Int32), (95 : Int32), (115 : Int32), (116 : Int32), (115 : Int32)] := c81.ext E103
    have c112 : Fld Z h103 o_NON_STS "com/example/prudentia/prudentia/sec/Treatment" "name" "Ljava/lang/String;" (.ref name_NON_STS) := c82.ext E103
    have c113 : Exa Z h103 name_NON_STS "java/lang/String" := c83.ext E103
    have c114 : Fld Z h103 name_NON_STS "java/lang/String" "coder" "B" (.int (0 : Int32)) := c84.ext E103
    have c115 : Fld Z h103 name_NON_STS "java/lang/String" "value" "[B" (.ref by_name_NON_STS) := c85.ext E103
    have c116 : own_Ari Z h103 by_name_NON_STS .byte [(110 : Int32), (111 : Int32), (116 : Int32), (32 : Int32), (83 : Int32), (84 : Int32), (83 : Int32)] := c86.ext E103
    have c117 : Sta Z h103 "com/example/prudentia/prudentia/sec/Treatment" "STS" "Lcom/example/prudentia/prudentia/sec/Treatment;" (.ref o_STS) := c87.ext E103
    have c118 : Exa Z h103 o_STS "com/example/prudentia/prudentia/sec/Treatment" := c88.ext E103
    have c119 : Fld Z h103 o_STS "com/example/prudentia/prudentia/sec/Treatment" "key" "Ljava/lang/String;" (.ref key_STS) := c89.ext E103
    have c120 : Exa Z h103 key_STS "java/lang/String" := c90.ext E103
    have c121 : Fld Z h103 key_STS "java/lang/String" "coder" "B" (.int (0 : Int32)) := c91.ext E103
    have c122 : Fld Z h103 key_STS "java/lang/String" "value" "[B" (.ref by_key_STS) := c92.ext E103
    have c123 : own_Ari Z h103 by_key_STS .byte [(115 : Int32), (116 : Int32), (115 : Int32)] := c93.ext E103
    have c124 : Fld Z h103 o_STS "com/example/prudentia/prudentia/sec/Treatment" "name" "Ljava/lang/String;" (.ref name_STS) := c94.ext E103
    have c125 : Exa Z h103 name_STS "java/lang/String" := c95.ext E103
    have c126 : Fld Z h103 name_STS "java/lang/String" "coder" "B" (.int (0 : Int32)) := c96.ext E103
    have c127 : Fld Z h103 name_STS "java/lang/String" "value" "[B" (.ref by_name_STS) := c97.ext E103
    have c128 : own_Ari Z h103 by_name_STS .byte [(83 : Int32), (84 : Int32), (83 : Int32)] := c98.ext E103
    have c129 : Exa Z h103 b73 "java/lang/String" := A73.ext E103
    have c130 : Fld Z h103 b73 "java/lang/String" "coder" "B" (.int (0 : Int32)) := B73.ext E103
    have c131 : Fld Z h103 b73 "java/lang/String" "value" "[B" (.ref v73) := D73.ext E103
    have c132 : own_Ari Z h103 v73 .byte [(115 : Int32), (116 : Int32), (115 : Int32)] := c99.ext E103
    have K103 : Keep h0 h103 [] := K73.ext E103
    have c133 : own_Ari Z h103 v103 .byte [(83 : Int32), (84 : Int32), (83 : Int32)] := own_of_arv W103 rfl
    refine own_step st103 ?_
    clear A73 B73 D73 E103 K73 N100 N102q W103 X100 X102 c74 c75 c76 c77 c78 c79 c80 c81 c82 c83 c84 c85 c86 c87 c88 c89 c90 c91 c92 c93 c94 c95 c96 c97 c98 c99 e100 e102 hk101 q102a q102b q102c q103 st102 st103
    show own_G p.tables e below _ (T103.setTop (mkF m 52 #[.val (.int p1), .val (.int (1 : Int32)), .val (.ref o_STS)] [(.ref b103), (.ref name_STS)]))
    obtain ⟨cq134, kq134, q134a, q134b, q134c⟩ := isOf hZ e103 c125
    obtain ⟨_, _, ⟨T134, L134, k134, n134⟩, -, X134, ⟨Lc134, hQ134, l134, y134, z134⟩, st134⟩ := X103.virtualBack hx (y := (⟨"java/lang/String", "equals", "(Ljava/lang/Object;)Z"⟩ : MethodName)) (z := (⟨"java/lang/String", "equals", "(Ljava/lang/Object;)Z"⟩ : MethodName)) hown (mvT hZ (hw _ (List.mem_of_getElem? (i := 22) rfl))) (mvT hZ (hw _ (List.mem_of_getElem? (i := 23) rfl))) (notFace_of_selects (args := #[]) (mvT hZ (hw _ (List.mem_of_getElem? (i := 25) rfl)))) (mvT hZ (hw _ (List.mem_of_getElem? (i := 25) rfl))) (mvT hZ (hw _ (List.mem_of_getElem? (i := 24) rfl))) (by decide) (backOf (W := 0) (rm3_x3 l Z a0 hw [] name_STS b103 s_COMPACT_STRINGS by_name_STS v103 h103 n0 (Nat.le_trans Z0 K103.1) c104 c125 c126 c127 c128 A103 B103 D103 c133 (hcs : ¬ (s_COMPACT_STRINGS = (0 : Int32)))) hZ (hw _ (List.mem_of_getElem? (i := 26) rfl)) (hw _ (List.mem_of_getElem? (i := 15) rfl)) (by decide) (by decide)) q134a q134c (g := (mkF m 52 #[.val (.int p1), .val (.int (1 : Int32)), .val (.ref o_STS)] [(.ref b103), (.ref name_STS)])) rfl (by rw [hml]; rfl) (Steps.refl _) (argsL := [(.ref b103)]) (rest := []) (lenOf pd_0_2 rfl) rfl (by show 2 * 0 + _ ≤ _; exact Nat.le_of_eq rfl) (hb hby at_52) (fun _ _ => ⟨rfl, e103, (by decide : 4 + 0 ≤ _), (by decide : 32 + 0 ≤ _)⟩)
    dsimp only [Pt.U, Pt.locs, Pt.cells, Pt.slots] at X134 l134 y134 z134 st134 hQ134
    subst y134 z134
    obtain ⟨rfl, N134q, e134⟩ := hQ134
    have N134 : Fr n0 L134 := by rw [l134]; exact Fr.app N102 N134q
    refine own_step (fun t k => st134.trans k) ?_
    show own_G p.tables e below _ (T134.setTop (mkF m 55 #[.val (.int p1), .val (.int (1 : Int32)), .val (.ref o_STS)] [(.int (1 : Int32))]))
    have hk135 : ¬ ((1 : Int32) = (0 : Int32)) := (by decide)
    refine own_step (fun t k => XS.ifNo X134.here hx rfl (hb hby at_55) rfl ((if0 _ _).trans (feq hk135).1) k) ?_
    show own_G p.tables e below _ (T134.setTop (mkF m 58 #[.val (.int p1), .val (.int (1 : Int32)), .val (.ref o_STS)] []))
    refine own_step (fun t k => XS.iconst X134.here hx rfl (hb hby at_58) k) ?_
    show own_G p.tables e below _ (T134.setTop (mkF m 59 #[.val (.int p1), .val (.int (1 : Int32)), .val (.ref o_STS)] [(.int (1 : Int32))]))
    refine own_step (fun t k => XS.goto X134.here hx rfl (pc0 := 59) (pc' := 63) rfl (hb hby at_59) (by decide) (by decide) k) ?_
    show own_G p.tables e below _ (T134.setTop (mkF m 63 #[.val (.int p1), .val (.int (1 : Int32)), .val (.ref o_STS)] [(.int (1 : Int32))]))
    obtain ⟨fs, hr, hrun, hended, hRE⟩ := Jvm.Stand.leaveW (s := s) (vm₁ := T103.vm) X134 hS103 (by rw [e134]; exact hk103w) (v := some (.int (1 : Int32))) (fun h => by rw [Bd.returns] at h; cases h)
    refine own_done (retN X134 hx (t := .boolean) Bd.returns (by simp) (hb hby at_63) hr) hrun hended ⟨_, _, rfl, ?_, hRE.1, hRE.2.1, hRE.2.2.1, hRE.2.2.2.mono (by decide) (by decide)⟩
    show Q0 Z p1 s_COMPACT_STRINGS o_NON_STS key_NON_STS by_key_NON_STS name_NON_STS by_name_NON_STS o_STS key_STS by_key_STS name_STS by_name_STS h0 n0 _ T134.heap _
    rw [e134]
    exact ⟨rfl, N134⟩
set_option maxRecDepth 65536 in
set_option maxHeartbeats 40000000 in
theorem comes_1 {Post : Tables → Env → Array Value → State → Outcome → State → Prop} (hpost : ∀ tb e args s v u, (limb_1_1.after args s (.returned v) u = true ∧ limb_1_2.after args s (.returned v) u = true ∧ True) → ReturnedEndW s (.returned v) u (Jvm.fieldLocs frame_1_writes args s ++ Jvm.arrayLocs frame_1_arrays args s ++ Jvm.staticLocs frame_1_statics s) 8 4160 → Post tb e args s (.returned v) u) :
    ArmFor flags0 classFile x code maxLocals ret World_1 tables_1 room_1 Calls_1 rest_1 Pre_1 Post := by
  intro l hfl _ _ p e ha hc hk s m args below hf hA hF happ hP
  obtain ⟨hcalls, hrest, hpre⟩ := hP
  obtain ⟨-, -, -, hnamed, -, -, -, hat⟩ := (Spec.applies_iff hf).mp happ
  obtain ⟨hg, hn⟩ := and_e (Cond.before_iff.mp (show (Jvm.Cond.and given_1 narrow_1).before args s = true from hpre))
  obtain ⟨g1, g2⟩ := and_e hg
  obtain ⟨w0, rfl⟩ : ∃ w0 : Value, args = #[w0] := by
    have hs : args.size = 1 := by simpa [Cond.value, given_1] using g1
    obtain ⟨L⟩ := args
    match L, hs with
    | [w0], _ => exact ⟨w0, rfl⟩
  have hw := fun d (hd : d ∈ tables_1) => atoms_spec (ws := Jvm.Cond.code x code maxLocals ret :: tables_1) hat d (List.mem_cons_of_mem _ hd)
  obtain ⟨hsets, hown0⟩ := atoms_of _ (rest_1_c_eq ▸ (show rest_1_c.before _ s = true from hrest))
  obtain ⟨n0, m0⟩ := and_e hn
  obtain ⟨n1, m1⟩ := and_e m0
  obtain ⟨n2, m2⟩ := and_e m1
  obtain ⟨n3, m3⟩ := and_e m2
  obtain ⟨n4, m4⟩ := and_e m3
  obtain ⟨n5, m5⟩ := and_e m4
  obtain ⟨n6, m6⟩ := and_e m5
  obtain ⟨n7, m7⟩ := and_e m6
  obtain ⟨n8, m8⟩ := and_e m7
  obtain ⟨n9, m9⟩ := and_e m8
  obtain ⟨n10, m10⟩ := and_e m9
  obtain ⟨n11, m11⟩ := and_e m10
  obtain ⟨n12, m12⟩ := and_e m11
  obtain ⟨n13, m13⟩ := and_e m12
  obtain ⟨n14, m14⟩ := and_e m13
  obtain ⟨n15, m15⟩ := and_e m14
  obtain ⟨n16, m16⟩ := and_e m15
  obtain ⟨n17, m17⟩ := and_e m16
  obtain ⟨n18, m18⟩ := and_e m17
  obtain ⟨n19, m19⟩ := and_e m18
  obtain ⟨n20, m20⟩ := and_e m19
  obtain ⟨n21, m21⟩ := and_e m20
  obtain ⟨n22, m22⟩ := and_e m21
  obtain ⟨n23, m23⟩ := and_e m22
  obtain ⟨n24, m24⟩ := and_e m23
  obtain ⟨n25, m25⟩ := and_e m24
  obtain ⟨n26, m26⟩ := and_e m25
  obtain ⟨n27, m27⟩ := and_e m26
  obtain ⟨n28, m28⟩ := and_e m27
  obtain ⟨n29, m29⟩ := and_e m28
  obtain ⟨n30, m30⟩ := and_e m29
  obtain ⟨n31, m31⟩ := and_e m30
  obtain ⟨n32, m32⟩ := and_e m31
  obtain ⟨n33, m33⟩ := and_e m32
  obtain ⟨n34, m34⟩ := and_e m33
  obtain ⟨n35, m35⟩ := and_e m34
  obtain ⟨n36, m36⟩ := and_e m35
  have n37 := m36
  obtain ⟨cs0, ecs0⟩ := is_v (Cond.before_iff.mp (hsets _ (List.mem_of_getElem? (i := 1) rfl)))
  have fcs : Sta s s.heap "java/lang/String" "COMPACT_STRINGS" "Z" (.int cs0) := Sta.start ecs0 (Or.inl (hsets _ (List.mem_of_getElem? (i := 0) rfl)))
  have hcw0 := hsets _ (List.mem_of_getElem? (i := 2) rfl)
  have hcsn : ¬ cs0 = (0 : Int32) := fun q => by
    subst q
    have hv := eq_i ecs0 (Term.int_eval (0 : Int32)) rfl
    have hv' := not_v (Cond.before_iff.mp hcw0)
    exact absurd (hv.symm.trans hv') (by decide)
  obtain ⟨oNON_STS, _, _, _, evNON_STS, -⟩ := Cond.exactly_spec (Cond.before_iff.mpr n0)
  have fsNON_STS : Sta s s.heap "com/example/prudentia/prudentia/sec/Treatment" "NON_STS" "Lcom/example/prudentia/prudentia/sec/Treatment;" (.ref oNON_STS) := Sta.start evNON_STS (Or.inr ⟨(hw _ (List.mem_of_getElem? (i := 2) rfl)), (hw _ (List.mem_of_getElem? (i := 5) rfl))⟩)
  have feNON_STS : Exa s s.heap oNON_STS "com/example/prudentia/prudentia/sec/Treatment" := Exa.start evNON_STS n0
  obtain ⟨kNON_STSkey, _, _, _, ekNON_STSkey, -⟩ := Cond.exactly_spec (Cond.before_iff.mpr n1)
  have ffNON_STSkey := own_fldS evNON_STS ekNON_STSkey
  have fxNON_STSkey : Exa s s.heap kNON_STSkey "java/lang/String" := Exa.start ekNON_STSkey n1
  have fcNON_STSkey := own_fldS ekNON_STSkey (Jvm.Free.NT.SwA.eq_int (Cond.before_iff.mpr n2))
  obtain ⟨bNON_STSkey, ebNON_STSkey⟩ := arr_v n3
  have fvNON_STSkey := own_fldS ekNON_STSkey ebNON_STSkey
  have faNON_STSkey : own_Ari s s.heap bNON_STSkey .byte [(110 : Int32), (111 : Int32), (110 : Int32), (95 : Int32), (115 : Int32), (116 : Int32), (115 : Int32)] := own_ariS ebNON_STSkey n3 (Jvm.Free.NT.SwA.eq_int (Cond.before_iff.mpr n4)) (by decide) (fun j hj => match j, hj with | 0, _ => Jvm.Free.NT.SwA.eq_int (Cond.before_iff.mpr n24) | 1, _ => Jvm.Free.NT.SwA.eq_int (Cond.before_iff.mpr n25) | 2, _ => Jvm.Free.NT.SwA.eq_int (Cond.before_iff.mpr n26) | 3, _ => Jvm.Free.NT.SwA.eq_int (Cond.before_iff.mpr n27) | 4, _ => Jvm.Free.NT.SwA.eq_int (Cond.before_iff.mpr n28) | 5, _ => Jvm.Free.NT.SwA.eq_int (Cond.before_iff.mpr n29) | 6, _ => Jvm.Free.NT.SwA.eq_int (Cond.before_iff.mpr n30) | _ + 7, hj => absurd hj (by simp))
  obtain ⟨kNON_STSname, _, _, _, ekNON_STSname, -⟩ := Cond.exactly_spec (Cond.before_iff.mpr n5)
  have ffNON_STSname := own_fldS evNON_STS ekNON_STSname
  have fxNON_STSname : Exa s s.heap kNON_STSname "java/lang/String" := Exa.start ekNON_STSname n5
  have fcNON_STSname := own_fldS ekNON_STSname (Jvm.Free.NT.SwA.eq_int (Cond.before_iff.mpr n6))
  obtain ⟨bNON_STSname, ebNON_STSname⟩ := arr_v n7
  have fvNON_STSname := own_fldS ekNON_STSname ebNON_STSname
  have faNON_STSname : own_Ari s s.heap bNON_STSname .byte [(110 : Int32), (111 : Int32), (116 : Int32), (32 : Int32), (83 : Int32), (84 : Int32), (83 : Int32)] := own_ariS ebNON_STSname n7 (Jvm.Free.NT.SwA.eq_int (Cond.before_iff.mpr n8)) (by decide) (fun j hj => match j, hj with | 0, _ => Jvm.Free.NT.SwA.eq_int (Cond.before_iff.mpr n31) | 1, _ => Jvm.Free.NT.SwA.eq_int (Cond.before_iff.mpr n32) | 2, _ => Jvm.Free.NT.SwA.eq_int (Cond.before_iff.mpr n33) | 3, _ => Jvm.Free.NT.SwA.eq_int (Cond.before_iff.mpr n34) | 4, _ => Jvm.Free.NT.SwA.eq_int (Cond.before_iff.mpr n35) | 5, _ => Jvm.Free.NT.SwA.eq_int (Cond.before_iff.mpr n36) | 6, _ => Jvm.Free.NT.SwA.eq_int (Cond.before_iff.mpr n37) | _ + 7, hj => absurd hj (by simp))
  obtain ⟨oSTS, _, _, _, evSTS, -⟩ := Cond.exactly_spec (Cond.before_iff.mpr n9)
  have fsSTS : Sta s s.heap "com/example/prudentia/prudentia/sec/Treatment" "STS" "Lcom/example/prudentia/prudentia/sec/Treatment;" (.ref oSTS) := Sta.start evSTS (Or.inr ⟨(hw _ (List.mem_of_getElem? (i := 2) rfl)), (hw _ (List.mem_of_getElem? (i := 45) rfl))⟩)
  have feSTS : Exa s s.heap oSTS "com/example/prudentia/prudentia/sec/Treatment" := Exa.start evSTS n9
  obtain ⟨kSTSkey, _, _, _, ekSTSkey, -⟩ := Cond.exactly_spec (Cond.before_iff.mpr n10)
  have ffSTSkey := own_fldS evSTS ekSTSkey
  have fxSTSkey : Exa s s.heap kSTSkey "java/lang/String" := Exa.start ekSTSkey n10
  have fcSTSkey := own_fldS ekSTSkey (Jvm.Free.NT.SwA.eq_int (Cond.before_iff.mpr n11))
  obtain ⟨bSTSkey, ebSTSkey⟩ := arr_v n12
  have fvSTSkey := own_fldS ekSTSkey ebSTSkey
  have faSTSkey : own_Ari s s.heap bSTSkey .byte [(115 : Int32), (116 : Int32), (115 : Int32)] := own_ariS ebSTSkey n12 (Jvm.Free.NT.SwA.eq_int (Cond.before_iff.mpr n13)) (by decide) (fun j hj => match j, hj with | 0, _ => Jvm.Free.NT.SwA.eq_int (Cond.before_iff.mpr n14) | 1, _ => Jvm.Free.NT.SwA.eq_int (Cond.before_iff.mpr n15) | 2, _ => Jvm.Free.NT.SwA.eq_int (Cond.before_iff.mpr n16) | _ + 3, hj => absurd hj (by simp))
  obtain ⟨kSTSname, _, _, _, ekSTSname, -⟩ := Cond.exactly_spec (Cond.before_iff.mpr n17)
  have ffSTSname := own_fldS evSTS ekSTSname
  have fxSTSname : Exa s s.heap kSTSname "java/lang/String" := Exa.start ekSTSname n17
  have fcSTSname := own_fldS ekSTSname (Jvm.Free.NT.SwA.eq_int (Cond.before_iff.mpr n18))
  obtain ⟨bSTSname, ebSTSname⟩ := arr_v n19
  have fvSTSname := own_fldS ekSTSname ebSTSname
  have faSTSname : own_Ari s s.heap bSTSname .byte [(83 : Int32), (84 : Int32), (83 : Int32)] := own_ariS ebSTSname n19 (Jvm.Free.NT.SwA.eq_int (Cond.before_iff.mpr n20)) (by decide) (fun j hj => match j, hj with | 0, _ => Jvm.Free.NT.SwA.eq_int (Cond.before_iff.mpr n21) | 1, _ => Jvm.Free.NT.SwA.eq_int (Cond.before_iff.mpr n22) | 2, _ => Jvm.Free.NT.SwA.eq_int (Cond.before_iff.mpr n23) | _ + 3, hj => absurd hj (by simp))
  obtain ⟨i0, ei0⟩ := is_v g2
  obtain rfl : w0 = (.int i0) := Option.some.inj ei0
  obtain ⟨n, o, h1, h2, h3, _, L, rfl, ⟨rfl, N⟩, hq⟩ := rm0 l s _ hw tables_1 i0 cs0 oNON_STS kNON_STSkey bNON_STSkey kNON_STSname bNON_STSname oSTS kSTSkey bSTSkey kSTSname bSTSname s.heap s.heap.size (Nat.le_refl _) fcs fsNON_STS feNON_STS ffNON_STSkey fxNON_STSkey fcNON_STSkey fvNON_STSkey faNON_STSkey ffNON_STSname fxNON_STSname fcNON_STSname fvNON_STSname faNON_STSname fsSTS feSTS ffSTSkey fxSTSkey fcSTSkey fvSTSkey faSTSkey ffSTSname fxSTSname fcSTSname fvSTSname faSTSname hcsn rfl rfl hcw0 (hcalls.1 _ (List.mem_of_getElem? (i := 0) rfl)) (hcalls.1 _ (List.mem_of_getElem? (i := 1) rfl)) (hcalls.1 _ (List.mem_of_getElem? (i := 2) rfl)) (hcalls.1 _ (List.mem_of_getElem? (i := 3) rfl)) p e ha hc hk s m _ below hf ((Spec.applies_iff_loose hf).mp happ).1 ⟨rfl, rfl⟩ trivial
  refine ⟨n, _, h1, h2, h3, hpost _ _ _ _ _ _ ⟨Cond.after_iff.mpr rfl, Cond.after_iff.mpr (eq_i res_at (Term.int_eval (1)) rfl), trivial⟩ ⟨hq.1, hq.2.1, hq.2.2.1, (hq.2.2.2.sift fun y hy => Or.inr (N y hy)).mono (by decide) (by decide)⟩⟩
theorem main_1_1 : Claimed_1_1 := comes_1 fun _ _ _ _ _ _ h hF => ⟨h.1, hF⟩
theorem main_1_2 : Claimed_1_2 := comes_1 fun _ _ _ _ _ _ h hF => ⟨h.2.1, hF⟩
end Jvm.Pilot.@@N@@
namespace Jvm.Pilot.@@N@@
open Jvm Jvm.ClassFile Sem Op Lib Jvm.Free Jvm.Stand Jvm.Pilot.@@N@@.Jvm.D
/-! MADE BY PROGRAM (witnessworld.py) out of the Statement's table words and the real class files: 18 classes; the members and pool entries that the words name. The judged class is class 1, her method 1. -/
namespace start1
open Jvm.ClassFile
def u (s : String) : CpInfo := .utf8 (stringToUtf16 s)
/-- a pool by its gaps: so many unusable entries, then the entry; so many at the end -/
def gap : Nat → List CpInfo → List CpInfo
  | 0, r => r
  | n + 1, r => .unusable :: gap n r
def poolList (es : List (Nat × CpInfo)) (last : Nat) : List CpInfo := es.foldr (fun e r => gap e.1 (e.2 :: r)) (gap last [])
def pool (es : List (Nat × CpInfo)) (last : Nat) : Array CpInfo := ⟨poolList es last⟩
def fileOf (pool : Array CpInfo) (this : Nat) (attrs : Array Attribute := #[]) (ms : Array MethodInfo := #[]) (fl : Nat := 33) (sup : Nat := 0) (ifs : Array Nat := #[]) (fds : Array FieldInfo := #[]) : ClassFile where
  minorVersion := 0
  majorVersion := 65
  constantPool := pool
  accessFlags := fl
  thisClass := this
  superClass := sup
  interfaces := ifs
  fields := fds
  methods := ms
  attributes := attrs
def plain (name : String) (sup : Option ClassId) : Class where
  name := name
  kind := .ordinary
  loader := none
  accessFlags := 33
  super := sup
  interfaces := #[]
  cf := none
  fields := #[]
  methods := #[]
  instanceTypes := #[]
  staticTypes := #[]
  resolved := #[]
  callSites := []
  init := .initialized
  statics := none
  mirror := none

def pool0 : Array CpInfo := pool [(5, u "<init>"), (0, u "()V"), (1, .class_ 10), (1, u "java/lang/Object")] 113

def k0m0 : Method := { name := "<init>", desc := "()V", sig := { parameters := [], returnType := none }, accessFlags := 1, code := none }
/-- java/lang/Object -/
def k0 : Class := { plain "java/lang/Object" none with
  accessFlags := 33
  interfaces := #[]
  cf := some (fileOf pool0 8 #[] #[{ accessFlags := 1, nameIndex := 5, descriptorIndex := 6, attributes := #[] }] 33 0 #[] #[])
  fields := #[]
  methods := #[k0m0]
  instanceTypes := #[]
  staticTypes := #[]
  resolved := Array.replicate 124 none
  statics := none }

def pool1 : Array CpInfo := pool [(2, .class_ 4), (1, u "java/lang/Object"), (0, u "<init>"), (0, u "()V"), (0, .methodref 8 9), (0, .class_ 10), (0, .nameAndType 11 12), (0, u "com/example/prudentia/prudentia/sec/Treatment"), (0, u "of"), (0, u "(Z)Lcom/example/prudentia/prudentia/sec/Treatment;"), (0, .fieldref 8 14), (0, .nameAndType 15 16), (0, u "STS"), (0, u "Lcom/example/prudentia/prudentia/sec/Treatment;"), (0, .methodref 8 18), (0, .nameAndType 19 20), (0, u "getKey"), (0, u "()Ljava/lang/String;"), (0, .string 22), (0, u "sts"), (0, .methodref 24 25), (0, .class_ 26), (0, .nameAndType 27 28), (0, u "java/lang/String"), (0, u "equals"), (0, u "(Ljava/lang/Object;)Z"), (0, .methodref 8 30), (0, .nameAndType 31 20), (0, u "getName"), (0, .string 15), (0, .fieldref 8 34), (0, .nameAndType 35 16), (0, u "NON_STS"), (0, .string 37), (0, u "non_sts"), (0, .string 39), (0, u "not STS"), (0, .class_ 41), (0, u "com/example/prudentia/prudentia/sec/TreatmentOfPinLaw"), (2, u "law"), (0, u "(I)Z")] 3

def k1m0 : Method := { name := "<init>", desc := "()V", sig := { parameters := [], returnType := none }, accessFlags := 1, code := none }
def k1c1 : Code := { maxStack := 2, maxLocals := 3, code := code, exceptionTable := #[], attributes := #[] }
def k1m1 : Method := { name := "law", desc := "(I)Z", sig := { parameters := [.int], returnType := some .boolean }, accessFlags := 9, code := some k1c1 }
/-- com/example/prudentia/prudentia/sec/TreatmentOfPinLaw -/
def k1 : Class := { plain "com/example/prudentia/prudentia/sec/TreatmentOfPinLaw" (some 0) with
  accessFlags := 49
  interfaces := #[]
  cf := some (fileOf pool1 40 #[] #[{ accessFlags := 1, nameIndex := 5, descriptorIndex := 6, attributes := #[] }, { accessFlags := 9, nameIndex := 44, descriptorIndex := 45, attributes := #[] }] 49 2 #[] #[])
  fields := #[]
  methods := #[k1m0, k1m1]
  instanceTypes := #[]
  staticTypes := #[]
  resolved := Array.replicate 49 none
  statics := none }

def pool2 : Array CpInfo := pool [(1, .class_ 2), (0, u "java/lang/constant/Constable"), (0, .class_ 4), (0, u "java/lang/Object")] 6

/-- java/lang/constant/Constable -/
def k2 : Class := { plain "java/lang/constant/Constable" (some 0) with
  accessFlags := 1537
  interfaces := #[]
  cf := some (fileOf pool2 1 #[] #[] 1537 3 #[] #[])
  fields := #[]
  methods := #[]
  instanceTypes := #[]
  staticTypes := #[]
  resolved := Array.replicate 11 none
  statics := none }

def pool3 : Array CpInfo := pool [(1, .class_ 2), (0, u "java/lang/Comparable"), (0, .class_ 4), (0, u "java/lang/Object")] 7

/-- java/lang/Comparable -/
def k3 : Class := { plain "java/lang/Comparable" (some 0) with
  accessFlags := 1537
  interfaces := #[]
  cf := some (fileOf pool3 1 #[] #[] 1537 3 #[] #[])
  fields := #[]
  methods := #[]
  instanceTypes := #[]
  staticTypes := #[]
  resolved := Array.replicate 12 none
  statics := none }

def pool4 : Array CpInfo := pool [(1, .class_ 2), (0, u "java/io/Serializable"), (0, .class_ 4), (0, u "java/lang/Object")] 2

/-- java/io/Serializable -/
def k4 : Class := { plain "java/io/Serializable" (some 0) with
  accessFlags := 1537
  interfaces := #[]
  cf := some (fileOf pool4 1 #[] #[] 1537 3 #[] #[])
  fields := #[]
  methods := #[]
  instanceTypes := #[]
  staticTypes := #[]
  resolved := Array.replicate 7 none
  statics := none }

def pool5 : Array CpInfo := pool [(2, .class_ 4), (1, u "java/lang/Enum"), (0, u "name"), (0, u "Ljava/lang/String;"), (2, u "ordinal"), (0, u "I"), (1, .class_ 14), (1, u "java/lang/Object"), (4, u "hash"), (86, .class_ 108), (1, u "java/lang/Enum$EnumDesc"), (2, .class_ 112), (0, u "java/lang/constant/Constable"), (0, .class_ 114), (0, u "java/lang/Comparable"), (0, .class_ 116), (0, u "java/io/Serializable")] 87

/-- java/lang/Enum -/
def k5 : Class := { plain "java/lang/Enum" (some 0) with
  accessFlags := 1057
  interfaces := #[2, 3, 4]
  cf := some (fileOf pool5 2 #[.nestMembers #[106]] #[] 1057 12 #[111, 113, 115] #[{ accessFlags := 18, nameIndex := 5, descriptorIndex := 6, attributes := #[] }, { accessFlags := 18, nameIndex := 9, descriptorIndex := 10, attributes := #[] }, { accessFlags := 2, nameIndex := 19, descriptorIndex := 10, attributes := #[] }])
  fields := #[{ name := "name", type := (.object "java/lang/String"), accessFlags := 18, slot := 0, constantValue := 0 }, { name := "ordinal", type := .int, accessFlags := 18, slot := 1, constantValue := 0 }, { name := "hash", type := .int, accessFlags := 2, slot := 2, constantValue := 0 }]
  methods := #[]
  instanceTypes := #[(.object "java/lang/String"), .int, .int]
  staticTypes := #[]
  resolved := Array.replicate 204 none
  statics := none }

def pool6 : Array CpInfo := pool [(1, .class_ 2), (0, u "com/example/prudentia/prudentia/sec/Treatment"), (0, .fieldref 1 4), (0, .nameAndType 5 6), (0, u "NON_STS"), (0, u "Lcom/example/prudentia/prudentia/sec/Treatment;"), (0, .fieldref 1 8), (0, .nameAndType 9 6), (0, u "STS"), (2, u "$VALUES"), (0, u "[Lcom/example/prudentia/prudentia/sec/Treatment;"), (6, .class_ 22), (1, u "java/lang/Enum"), (6, .fieldref 1 30), (0, .nameAndType 31 32), (0, u "key"), (0, u "Ljava/lang/String;"), (0, .fieldref 1 34), (0, .nameAndType 35 32), (0, u "name"), (22, u "of"), (0, u "(Z)Lcom/example/prudentia/prudentia/sec/Treatment;"), (1, u "getKey"), (0, u "()Ljava/lang/String;"), (0, u "getName")] 5

def k6c0 : Code := { maxStack := 1, maxLocals := 1, code := prog_23_method_4_code, exceptionTable := #[], attributes := #[] }
def k6m0 : Method := { name := "of", desc := "(Z)Lcom/example/prudentia/prudentia/sec/Treatment;", sig := { parameters := [.boolean], returnType := some (.object "com/example/prudentia/prudentia/sec/Treatment") }, accessFlags := 9, code := some k6c0 }
def k6c1 : Code := { maxStack := 1, maxLocals := 1, code := prog_23_method_5_code, exceptionTable := #[], attributes := #[] }
def k6m1 : Method := { name := "getKey", desc := "()Ljava/lang/String;", sig := { parameters := [], returnType := some (.object "java/lang/String") }, accessFlags := 1, code := some k6c1 }
def k6c2 : Code := { maxStack := 1, maxLocals := 1, code := prog_23_method_6_code, exceptionTable := #[], attributes := #[] }
def k6m2 : Method := { name := "getName", desc := "()Ljava/lang/String;", sig := { parameters := [], returnType := some (.object "java/lang/String") }, accessFlags := 1, code := some k6c2 }
/-- com/example/prudentia/prudentia/sec/Treatment -/
def k6 : Class := { plain "com/example/prudentia/prudentia/sec/Treatment" (some 5) with
  accessFlags := 16433
  interfaces := #[]
  cf := some (fileOf pool6 1 #[] #[{ accessFlags := 9, nameIndex := 58, descriptorIndex := 59, attributes := #[] }, { accessFlags := 1, nameIndex := 61, descriptorIndex := 62, attributes := #[] }, { accessFlags := 1, nameIndex := 63, descriptorIndex := 62, attributes := #[] }] 16433 20 #[] #[{ accessFlags := 16409, nameIndex := 5, descriptorIndex := 6, attributes := #[] }, { accessFlags := 16409, nameIndex := 9, descriptorIndex := 6, attributes := #[] }, { accessFlags := 18, nameIndex := 31, descriptorIndex := 32, attributes := #[] }, { accessFlags := 18, nameIndex := 35, descriptorIndex := 32, attributes := #[] }, { accessFlags := 4122, nameIndex := 12, descriptorIndex := 13, attributes := #[] }])
  fields := #[{ name := "NON_STS", type := (.object "com/example/prudentia/prudentia/sec/Treatment"), accessFlags := 16409, slot := 0, constantValue := 0 }, { name := "STS", type := (.object "com/example/prudentia/prudentia/sec/Treatment"), accessFlags := 16409, slot := 1, constantValue := 0 }, { name := "key", type := (.object "java/lang/String"), accessFlags := 18, slot := 3, constantValue := 0 }, { name := "name", type := (.object "java/lang/String"), accessFlags := 18, slot := 4, constantValue := 0 }, { name := "$VALUES", type := (.array (.object "com/example/prudentia/prudentia/sec/Treatment")), accessFlags := 4122, slot := 2, constantValue := 0 }]
  methods := #[k6m0, k6m1, k6m2]
  instanceTypes := #[(.object "java/lang/String"), .int, .int, (.object "java/lang/String"), (.object "java/lang/String")]
  staticTypes := #[(.object "com/example/prudentia/prudentia/sec/Treatment"), (.object "com/example/prudentia/prudentia/sec/Treatment"), (.array (.object "com/example/prudentia/prudentia/sec/Treatment"))]
  resolved := Array.replicate 69 none
  statics := some 0 }

def pool7 : Array CpInfo := pool [(2, .class_ 4), (1, u "java/lang/CharSequence"), (42, .class_ 48), (0, u "java/lang/CharSequence$1CodePointIterator"), (10, .class_ 60), (0, u "java/lang/CharSequence$1CharIterator"), (5, .class_ 67), (0, u "java/lang/Object")] 63

/-- java/lang/CharSequence -/
def k7 : Class := { plain "java/lang/CharSequence" (some 0) with
  accessFlags := 1537
  interfaces := #[]
  cf := some (fileOf pool7 2 #[.nestMembers #[47, 59]] #[] 1537 66 #[] #[])
  fields := #[]
  methods := #[]
  instanceTypes := #[]
  staticTypes := #[]
  resolved := Array.replicate 131 none
  statics := none }

def pool8 : Array CpInfo := pool [(1, .class_ 2), (0, u "java/lang/constant/ConstantDesc"), (0, .class_ 4), (0, u "java/lang/Object")] 32

/-- java/lang/constant/ConstantDesc -/
def k8 : Class := { plain "java/lang/constant/ConstantDesc" (some 0) with
  accessFlags := 1537
  interfaces := #[]
  cf := some (fileOf pool8 1 #[] #[] 1537 3 #[] #[])
  fields := #[]
  methods := #[]
  instanceTypes := #[]
  staticTypes := #[]
  resolved := Array.replicate 37 none
  statics := none }

def pool9 : Array CpInfo := pool [(2, .class_ 4), (1, u "java/lang/Object"), (0, u "<init>"), (0, u "()V"), (2, .fieldref 10 11), (0, .class_ 12), (0, .nameAndType 13 14), (0, u "java/lang/String"), (0, u "value"), (0, u "[B"), (0, .fieldref 10 16), (0, .nameAndType 17 18), (0, u "coder"), (0, u "B"), (2, u "hash"), (0, u "I"), (2, u "hashIsZero"), (0, u "Z"), (11, .fieldref 10 39), (0, .nameAndType 40 26), (0, u "COMPACT_STRINGS"), (66, .class_ 109), (1, u "java/lang/StringLatin1"), (431, .methodref 107 542), (0, .nameAndType 543 544), (0, u "equals"), (0, u "([B[B)Z"), (28, u "(Ljava/lang/Object;)Z"), (1, .class_ 576), (0, u "java/lang/CharSequence"), (22, u "CASE_INSENSITIVE_ORDER"), (0, u "Ljava/util/Comparator;"), (500, u "serialPersistentFields"), (0, u "[Ljava/io/ObjectStreamField;"), (0, .class_ 1104), (0, u "java/lang/String$CaseInsensitiveComparator"), (1, .class_ 1107), (0, u "java/io/Serializable"), (0, .class_ 1109), (0, u "java/lang/Comparable"), (0, .class_ 1111), (0, u "java/lang/constant/Constable"), (0, .class_ 1113), (0, u "java/lang/constant/ConstantDesc"), (2, u "serialVersionUID"), (0, u "J"), (3, u "REPL"), (0, u "C"), (2, u "LATIN1"), (1, u "UTF16")] 323

def k9m0 : Method := { name := "<init>", desc := "()V", sig := { parameters := [], returnType := none }, accessFlags := 1, code := none }
def k9c1 : Code := { maxStack := 2, maxLocals := 3, code := jdk_42_method_66_code, exceptionTable := #[], attributes := #[] }
def k9m1 : Method := { name := "equals", desc := "(Ljava/lang/Object;)Z", sig := { parameters := [(.object "java/lang/Object")], returnType := some .boolean }, accessFlags := 1, code := some k9c1 }
/-- java/lang/String -/
def k9 : Class := { plain "java/lang/String" (some 0) with
  accessFlags := 49
  interfaces := #[4, 3, 7, 2, 8]
  cf := some (fileOf pool9 10 #[.nestMembers #[1103]] #[{ accessFlags := 1, nameIndex := 5, descriptorIndex := 6, attributes := #[] }, { accessFlags := 1, nameIndex := 543, descriptorIndex := 573, attributes := #[] }] 49 2 #[1106, 1108, 575, 1110, 1112] #[{ accessFlags := 18, nameIndex := 13, descriptorIndex := 14, attributes := #[] }, { accessFlags := 18, nameIndex := 17, descriptorIndex := 18, attributes := #[] }, { accessFlags := 2, nameIndex := 21, descriptorIndex := 22, attributes := #[] }, { accessFlags := 2, nameIndex := 25, descriptorIndex := 26, attributes := #[] }, { accessFlags := 26, nameIndex := 1116, descriptorIndex := 1117, attributes := #[] }, { accessFlags := 24, nameIndex := 40, descriptorIndex := 26, attributes := #[] }, { accessFlags := 26, nameIndex := 1101, descriptorIndex := 1102, attributes := #[] }, { accessFlags := 26, nameIndex := 1121, descriptorIndex := 1122, attributes := #[] }, { accessFlags := 25, nameIndex := 599, descriptorIndex := 600, attributes := #[] }, { accessFlags := 24, nameIndex := 1125, descriptorIndex := 18, attributes := #[] }, { accessFlags := 24, nameIndex := 1127, descriptorIndex := 18, attributes := #[] }])
  fields := #[{ name := "value", type := (.array .byte), accessFlags := 18, slot := 0, constantValue := 0 }, { name := "coder", type := .byte, accessFlags := 18, slot := 1, constantValue := 0 }, { name := "hash", type := .int, accessFlags := 2, slot := 2, constantValue := 0 }, { name := "hashIsZero", type := .boolean, accessFlags := 2, slot := 3, constantValue := 0 }, { name := "serialVersionUID", type := .long, accessFlags := 26, slot := 0, constantValue := 0 }, { name := "COMPACT_STRINGS", type := .boolean, accessFlags := 24, slot := 1, constantValue := 0 }, { name := "serialPersistentFields", type := (.array (.object "java/io/ObjectStreamField")), accessFlags := 26, slot := 2, constantValue := 0 }, { name := "REPL", type := .char, accessFlags := 26, slot := 3, constantValue := 0 }, { name := "CASE_INSENSITIVE_ORDER", type := (.object "java/util/Comparator"), accessFlags := 25, slot := 4, constantValue := 0 }, { name := "LATIN1", type := .byte, accessFlags := 24, slot := 5, constantValue := 0 }, { name := "UTF16", type := .byte, accessFlags := 24, slot := 6, constantValue := 0 }]
  methods := #[k9m0, k9m1]
  instanceTypes := #[(.array .byte), .byte, .int, .boolean]
  staticTypes := #[.long, .boolean, (.array (.object "java/io/ObjectStreamField")), .char, (.object "java/util/Comparator"), .byte, .byte]
  resolved := Array.replicate 1451 none
  statics := some 1 }

def pool10 : Array CpInfo := pool [(4, .class_ 6), (1, u "java/lang/Object"), (0, u "<init>"), (0, u "()V"), (5, .class_ 16), (1, u "java/lang/StringLatin1"), (104, u "$assertionsDisabled"), (0, u "Z"), (98, .class_ 223), (1, u "java/lang/StringLatin1$LinesSpliterator"), (57, u "equals"), (0, u "([B[B)Z"), (107, .class_ 391), (0, u "java/lang/StringLatin1$CharsSpliterator")] 3

def k10m0 : Method := { name := "<init>", desc := "()V", sig := { parameters := [], returnType := none }, accessFlags := 0, code := none }
def k10c1 : Code := { maxStack := 3, maxLocals := 3, code := jdk_43_method_13_code, exceptionTable := #[], attributes := #[] }
def k10m1 : Method := { name := "equals", desc := "([B[B)Z", sig := { parameters := [(.array .byte), (.array .byte)], returnType := some .boolean }, accessFlags := 9, code := some k10c1 }
/-- java/lang/StringLatin1 -/
def k10 : Class := { plain "java/lang/StringLatin1" (some 0) with
  accessFlags := 48
  interfaces := #[]
  cf := some (fileOf pool10 14 #[.nestMembers #[390, 221]] #[{ accessFlags := 0, nameIndex := 7, descriptorIndex := 8, attributes := #[] }, { accessFlags := 9, nameIndex := 281, descriptorIndex := 282, attributes := #[] }] 48 4 #[] #[{ accessFlags := 4120, nameIndex := 121, descriptorIndex := 122, attributes := #[] }])
  fields := #[{ name := "$assertionsDisabled", type := .boolean, accessFlags := 4120, slot := 0, constantValue := 0 }]
  methods := #[k10m0, k10m1]
  instanceTypes := #[]
  staticTypes := #[.boolean]
  resolved := Array.replicate 395 none
  statics := none }

def pool11 : Array CpInfo := pool [(2, .class_ 4), (1, u "java/lang/Object"), (0, u "<init>"), (0, u "()V"), (17, .class_ 26), (1, u "jdk/internal/util/Preconditions"), (28, .class_ 56), (0, u "jdk/internal/util/Preconditions$4"), (57, .class_ 115), (0, u "jdk/internal/util/Preconditions$1"), (7, u "SIOOBE_FORMATTER"), (0, u "Ljava/util/function/BiFunction;"), (0, .class_ 126), (0, u "jdk/internal/util/Preconditions$2"), (3, u "AIOOBE_FORMATTER"), (0, .class_ 132), (0, u "jdk/internal/util/Preconditions$3"), (3, u "IOOBE_FORMATTER")] 57

def k11m0 : Method := { name := "<init>", desc := "()V", sig := { parameters := [], returnType := none }, accessFlags := 1, code := none }
/-- jdk/internal/util/Preconditions -/
def k11 : Class := { plain "jdk/internal/util/Preconditions" (some 0) with
  accessFlags := 33
  interfaces := #[]
  cf := some (fileOf pool11 24 #[.nestMembers #[55, 131, 125, 114]] #[{ accessFlags := 1, nameIndex := 5, descriptorIndex := 6, attributes := #[] }] 33 2 #[] #[{ accessFlags := 25, nameIndex := 123, descriptorIndex := 124, attributes := #[] }, { accessFlags := 25, nameIndex := 130, descriptorIndex := 124, attributes := #[] }, { accessFlags := 25, nameIndex := 136, descriptorIndex := 124, attributes := #[] }])
  fields := #[{ name := "SIOOBE_FORMATTER", type := (.object "java/util/function/BiFunction"), accessFlags := 25, slot := 0, constantValue := 0 }, { name := "AIOOBE_FORMATTER", type := (.object "java/util/function/BiFunction"), accessFlags := 25, slot := 1, constantValue := 0 }, { name := "IOOBE_FORMATTER", type := (.object "java/util/function/BiFunction"), accessFlags := 25, slot := 2, constantValue := 0 }]
  methods := #[k11m0]
  instanceTypes := #[]
  staticTypes := #[(.object "java/util/function/BiFunction"), (.object "java/util/function/BiFunction"), (.object "java/util/function/BiFunction")]
  resolved := Array.replicate 194 none
  statics := some 2 }

def pool12 : Array CpInfo := pool [(9, u "<init>"), (6, .class_ 18), (1, u "java/lang/Object"), (0, u "()V"), (1, .class_ 23), (1, u "jdk/internal/util/ArraysSupport"), (0, u "LOG2_ARRAY_LONG_INDEX_SCALE"), (0, u "I"), (2, u "U"), (0, u "Ljdk/internal/misc/Unsafe;"), (8, u "BIG_ENDIAN"), (0, u "Z"), (8, u "LOG2_BYTE_BIT_SIZE"), (4, u "LOG2_ARRAY_INT_INDEX_SCALE"), (54, u "JLA"), (0, u "Ljdk/internal/access/JavaLangAccess;"), (11, u "LOG2_ARRAY_BOOLEAN_INDEX_SCALE"), (9, u "LOG2_ARRAY_BYTE_INDEX_SCALE"), (5, u "LOG2_ARRAY_CHAR_INDEX_SCALE"), (5, u "LOG2_ARRAY_SHORT_INDEX_SCALE"), (18, u "LOG2_ARRAY_FLOAT_INDEX_SCALE"), (24, u "LOG2_ARRAY_DOUBLE_INDEX_SCALE"), (89, u "T_BOOLEAN"), (2, u "T_CHAR"), (1, u "T_FLOAT"), (1, u "T_DOUBLE"), (1, u "T_BYTE"), (1, u "T_SHORT"), (1, u "T_INT"), (1, u "T_LONG"), (1, u "SOFT_MAX_ARRAY_LENGTH")] 83

def k12m0 : Method := { name := "<init>", desc := "()V", sig := { parameters := [], returnType := none }, accessFlags := 2, code := none }
/-- jdk/internal/util/ArraysSupport -/
def k12 : Class := { plain "jdk/internal/util/ArraysSupport" (some 0) with
  accessFlags := 33
  interfaces := #[]
  cf := some (fileOf pool12 21 #[] #[{ accessFlags := 2, nameIndex := 9, descriptorIndex := 19, attributes := #[] }] 33 16 #[] #[{ accessFlags := 24, nameIndex := 28, descriptorIndex := 29, attributes := #[] }, { accessFlags := 26, nameIndex := 38, descriptorIndex := 39, attributes := #[] }, { accessFlags := 25, nameIndex := 121, descriptorIndex := 25, attributes := #[] }, { accessFlags := 25, nameIndex := 131, descriptorIndex := 25, attributes := #[] }, { accessFlags := 25, nameIndex := 137, descriptorIndex := 25, attributes := #[] }, { accessFlags := 25, nameIndex := 143, descriptorIndex := 25, attributes := #[] }, { accessFlags := 25, nameIndex := 53, descriptorIndex := 25, attributes := #[] }, { accessFlags := 25, nameIndex := 24, descriptorIndex := 25, attributes := #[] }, { accessFlags := 25, nameIndex := 162, descriptorIndex := 25, attributes := #[] }, { accessFlags := 25, nameIndex := 187, descriptorIndex := 25, attributes := #[] }, { accessFlags := 26, nameIndex := 48, descriptorIndex := 25, attributes := #[] }, { accessFlags := 25, nameIndex := 277, descriptorIndex := 25, attributes := #[] }, { accessFlags := 25, nameIndex := 280, descriptorIndex := 25, attributes := #[] }, { accessFlags := 25, nameIndex := 282, descriptorIndex := 25, attributes := #[] }, { accessFlags := 25, nameIndex := 284, descriptorIndex := 25, attributes := #[] }, { accessFlags := 25, nameIndex := 286, descriptorIndex := 25, attributes := #[] }, { accessFlags := 25, nameIndex := 288, descriptorIndex := 25, attributes := #[] }, { accessFlags := 25, nameIndex := 290, descriptorIndex := 25, attributes := #[] }, { accessFlags := 25, nameIndex := 292, descriptorIndex := 25, attributes := #[] }, { accessFlags := 26, nameIndex := 108, descriptorIndex := 109, attributes := #[] }, { accessFlags := 25, nameIndex := 294, descriptorIndex := 25, attributes := #[] }])
  fields := #[{ name := "U", type := (.object "jdk/internal/misc/Unsafe"), accessFlags := 24, slot := 0, constantValue := 0 }, { name := "BIG_ENDIAN", type := .boolean, accessFlags := 26, slot := 1, constantValue := 0 }, { name := "LOG2_ARRAY_BOOLEAN_INDEX_SCALE", type := .int, accessFlags := 25, slot := 2, constantValue := 0 }, { name := "LOG2_ARRAY_BYTE_INDEX_SCALE", type := .int, accessFlags := 25, slot := 3, constantValue := 0 }, { name := "LOG2_ARRAY_CHAR_INDEX_SCALE", type := .int, accessFlags := 25, slot := 4, constantValue := 0 }, { name := "LOG2_ARRAY_SHORT_INDEX_SCALE", type := .int, accessFlags := 25, slot := 5, constantValue := 0 }, { name := "LOG2_ARRAY_INT_INDEX_SCALE", type := .int, accessFlags := 25, slot := 6, constantValue := 0 }, { name := "LOG2_ARRAY_LONG_INDEX_SCALE", type := .int, accessFlags := 25, slot := 7, constantValue := 0 }, { name := "LOG2_ARRAY_FLOAT_INDEX_SCALE", type := .int, accessFlags := 25, slot := 8, constantValue := 0 }, { name := "LOG2_ARRAY_DOUBLE_INDEX_SCALE", type := .int, accessFlags := 25, slot := 9, constantValue := 0 }, { name := "LOG2_BYTE_BIT_SIZE", type := .int, accessFlags := 26, slot := 10, constantValue := 0 }, { name := "T_BOOLEAN", type := .int, accessFlags := 25, slot := 11, constantValue := 0 }, { name := "T_CHAR", type := .int, accessFlags := 25, slot := 12, constantValue := 0 }, { name := "T_FLOAT", type := .int, accessFlags := 25, slot := 13, constantValue := 0 }, { name := "T_DOUBLE", type := .int, accessFlags := 25, slot := 14, constantValue := 0 }, { name := "T_BYTE", type := .int, accessFlags := 25, slot := 15, constantValue := 0 }, { name := "T_SHORT", type := .int, accessFlags := 25, slot := 16, constantValue := 0 }, { name := "T_INT", type := .int, accessFlags := 25, slot := 17, constantValue := 0 }, { name := "T_LONG", type := .int, accessFlags := 25, slot := 18, constantValue := 0 }, { name := "JLA", type := (.object "jdk/internal/access/JavaLangAccess"), accessFlags := 26, slot := 19, constantValue := 0 }, { name := "SOFT_MAX_ARRAY_LENGTH", type := .int, accessFlags := 25, slot := 20, constantValue := 0 }]
  methods := #[k12m0]
  instanceTypes := #[]
  staticTypes := #[(.object "jdk/internal/misc/Unsafe"), .boolean, .int, .int, .int, .int, .int, .int, .int, .int, .int, .int, .int, .int, .int, .int, .int, .int, .int, (.object "jdk/internal/access/JavaLangAccess"), .int]
  resolved := Array.replicate 378 none
  statics := none }

def pool13 : Array CpInfo := pool [(1, u "java/lang/Cloneable"), (0, .class_ 1), (0, u "java/lang/Object"), (0, .class_ 3)] 3

/-- java/lang/Cloneable -/
def k13 : Class := { plain "java/lang/Cloneable" (some 0) with
  accessFlags := 1537
  interfaces := #[]
  cf := some (fileOf pool13 2 #[] #[] 1537 4 #[] #[])
  fields := #[]
  methods := #[]
  instanceTypes := #[]
  staticTypes := #[]
  resolved := Array.replicate 8 none
  statics := none }

/-- the primitive byte -/
def k14 : Class := { plain "byte" none with kind := .primitive 'B', accessFlags := 0x411 }
/-- [B -/
def k15 : Class := { plain "[B" (some 0) with kind := .array 14 .byte, interfaces := #[13, 4], accessFlags := 1041 }

/-- the primitive int -/
def k16 : Class := { plain "int" none with kind := .primitive 'I', accessFlags := 0x411 }
/-- [I -/
def k17 : Class := { plain "[I" (some 0) with kind := .array 16 .int, interfaces := #[13, 4], accessFlags := 1041 }

def heap : Heap := #[{ cls := 6, slots := #[.ref 7, .ref 12, .null], vm := .statics 6 },
  { cls := 9, slots := #[.long 0, .int 1, .null, .int 0, .null, .int 0, .int 0], vm := .statics 9 },
  { cls := 11, slots := #[.null, .null, .null], vm := .statics 11 },
  { cls := 15, slots := #[.int 110, .int 111, .int 110, .int 95, .int 115, .int 116, .int 115], vm := .none },
  { cls := 9, slots := #[.ref 3, .int 0, .int 0, .int 0], vm := .none },
  { cls := 15, slots := #[.int 110, .int 111, .int 116, .int 32, .int 83, .int 84, .int 83], vm := .none },
  { cls := 9, slots := #[.ref 5, .int 0, .int 0, .int 0], vm := .none },
  { cls := 6, slots := #[.null, .int 0, .int 0, .ref 4, .ref 6], vm := .none },
  { cls := 15, slots := #[.int 115, .int 116, .int 115], vm := .none },
  { cls := 9, slots := #[.ref 8, .int 0, .int 0, .int 0], vm := .none },
  { cls := 15, slots := #[.int 83, .int 84, .int 83], vm := .none },
  { cls := 9, slots := #[.ref 10, .int 0, .int 0, .int 0], vm := .none },
  { cls := 6, slots := #[.null, .int 1, .int 0, .ref 9, .ref 11], vm := .none }]
def classes : Array Class := #[k0, k1, k2, k3, k4, k5, k6, k7, k8, k9, k10, k11, k12, k13, k14, k15, k16, k17]
def interned : List (Array UInt16 × Addr) := []
def slotsUsed : Nat := 59
def theMethod : MethodId := ⟨1, 1⟩
def args0 : Array Value := #[.int 5]
def aboutOver (below : List Frame) : State where
  vm := { classes := classes, interned := interned.toArray }
  heap := heap
  slotsUsed := slotsUsed
  threads := #[{ frames := .invoking theMethod args0 :: below }]
def below0 : List Frame := [.native { method := ⟨0, 0⟩, args := #[] }]
def about1 : State := aboutOver below0
def p0 : Program := .bare "" "" ""
def e0 : Env := launch0.env 0 0 0
theorem w_frames : about1.frames = Frame.invoking theMethod args0 :: below0 := rfl
set_option maxRecDepth 65536 in
theorem w_args : argsFit about1.vm theMethod args0 = true := by decide +kernel
set_option maxRecDepth 65536 in
theorem w_heap : heapFits about1 = true := by decide +kernel
set_option maxRecDepth 65536 in
theorem w_runnable : about1.curStatus? = some .runnable := by decide +kernel
set_option maxRecDepth 65536 in
theorem w_alone : about1.alone = true := by decide +kernel
set_option maxRecDepth 65536 in
theorem w_named : about1.methodNamed? x = some theMethod := by decide +kernel
set_option maxRecDepth 65536 in
theorem w_hears : about1.hears theMethod below0 = true := by decide +kernel
set_option maxRecDepth 65536 in
theorem w_ripe : about1.ripe theMethod args0 below0 = true := by decide +kernel
theorem w_running : about1.status = .running := rfl
set_option maxRecDepth 65536 in
theorem w_room : about1.hasRoom e0.platform room_1 = true :=
  launch0.hasRoom_least _ room_1 (by decide +kernel) (by decide +kernel) (by decide +kernel) (by decide +kernel) (by decide +kernel) (by decide +kernel)
theorem allAtoms_all (ts : List Jvm.Cond) (a : Array Jvm.Value) (st : Jvm.State) : (allAtoms ts).before a st = ts.all (fun c => c.before a st) := by
  induction ts with
  | nil => rfl
  | cons c t ih =>
    show (Jvm.Cond.and c (allAtoms t)).before a st = _
    rw [Jvm.Cond.before_and, ih, List.all_cons]
def words1 : List Jvm.Cond := Jvm.Cond.code x code maxLocals ret :: tables_1
/-- a 'code' word, met by the world's own term for the bytes: nothing is compared byte by byte -/
theorem code_word {y : MethodName} {bytes : ByteArray} {mx : Nat} {rt : Option FieldType} {a : Array Value} {s : State} {m : MethodId} {meth : Method} {c : Code} (h1 : s.methodNamed? y = some m) (h2 : s.vm.method? m = some meth) (h3 : meth.code = some c) (h4 : c.code = bytes)
    (h5 : (c.maxLocals == mx && c.exceptionTable.isEmpty && decide (c.maxStack ≤ mostOperands) && decide (meth.sig.returnType = rt) && !meth.locks && decide (parseMethodDescriptor y.desc = some meth.sig)) = true) : (Jvm.Cond.code y bytes mx rt).before a s = true := by
  simp only [Bool.and_eq_true, beq_iff_eq, Bool.not_eq_true', decide_eq_true_eq] at h5
  obtain ⟨⟨⟨⟨⟨g1, g2⟩, g3⟩, g4⟩, g5⟩, g6⟩ := h5
  simp [Cond.before, Cond.holds, Cond.value, h1, h2, h3, h4, g1, g2, g3, g4, g5, g6]
def isCode : Jvm.Cond → Bool
  | .code _ _ _ _ => true
  | _ => false
theorem all_split {L : List Jvm.Cond} {P : Jvm.Cond → Bool} (h1 : L.all (fun c => isCode c || P c) = true) (h2 : ∀ c ∈ L.filter isCode, P c = true) : L.all P = true := by
  refine List.all_eq_true.mpr fun c hc => ?_
  have h := List.all_eq_true.mp h1 c hc
  rcases Bool.eq_false_or_eq_true (isCode c) with hi | hi
  · exact h2 c (List.mem_filter.mpr ⟨hc, hi⟩)
  · simpa [hi] using h
set_option maxRecDepth 65536 in
theorem w_c0 : (Jvm.Cond.code x code maxLocals ret).before args0 about1 = true := code_word (m := ⟨1, 1⟩) (meth := k1m1) (c := k1c1) (by decide +kernel) rfl rfl rfl (by decide +kernel)
set_option maxRecDepth 65536 in
theorem w_c1 : (Jvm.Cond.code ({ cls := "com/example/prudentia/prudentia/sec/Treatment", name := "of", desc := "(Z)Lcom/example/prudentia/prudentia/sec/Treatment;" } : Jvm.MethodName) prog_23_method_4_code (1 : Nat) (Option.some (Jvm.ClassFile.FieldType.object "com/example/prudentia/prudentia/sec/Treatment"))).before args0 about1 = true := code_word (m := ⟨6, 0⟩) (meth := k6m0) (c := k6c0) (by decide +kernel) rfl rfl rfl (by decide +kernel)
set_option maxRecDepth 65536 in
theorem w_c2 : (Jvm.Cond.code ({ cls := "com/example/prudentia/prudentia/sec/Treatment", name := "getKey", desc := "()Ljava/lang/String;" } : Jvm.MethodName) prog_23_method_5_code (1 : Nat) (Option.some (Jvm.ClassFile.FieldType.object "java/lang/String"))).before args0 about1 = true := code_word (m := ⟨6, 1⟩) (meth := k6m1) (c := k6c1) (by decide +kernel) rfl rfl rfl (by decide +kernel)
set_option maxRecDepth 65536 in
theorem w_c3 : (Jvm.Cond.code ({ cls := "java/lang/String", name := "equals", desc := "(Ljava/lang/Object;)Z" } : Jvm.MethodName) jdk_42_method_66_code (3 : Nat) (Option.some Jvm.ClassFile.FieldType.boolean)).before args0 about1 = true := code_word (m := ⟨9, 1⟩) (meth := k9m1) (c := k9c1) (by decide +kernel) rfl rfl rfl (by decide +kernel)
set_option maxRecDepth 65536 in
theorem w_c4 : (Jvm.Cond.code ({ cls := "java/lang/StringLatin1", name := "equals", desc := "([B[B)Z" } : Jvm.MethodName) jdk_43_method_13_code (3 : Nat) (Option.some Jvm.ClassFile.FieldType.boolean)).before args0 about1 = true := code_word (m := ⟨10, 1⟩) (meth := k10m1) (c := k10c1) (by decide +kernel) rfl rfl rfl (by decide +kernel)
set_option maxRecDepth 65536 in
theorem w_c5 : (Jvm.Cond.code ({ cls := "com/example/prudentia/prudentia/sec/Treatment", name := "getName", desc := "()Ljava/lang/String;" } : Jvm.MethodName) prog_23_method_6_code (1 : Nat) (Option.some (Jvm.ClassFile.FieldType.object "java/lang/String"))).before args0 about1 = true := code_word (m := ⟨6, 2⟩) (meth := k6m2) (c := k6c2) (by decide +kernel) rfl rfl rfl (by decide +kernel)
def codes1 : List Jvm.Cond := [Jvm.Cond.code x code maxLocals ret, Jvm.Cond.code ({ cls := "com/example/prudentia/prudentia/sec/Treatment", name := "of", desc := "(Z)Lcom/example/prudentia/prudentia/sec/Treatment;" } : Jvm.MethodName) prog_23_method_4_code (1 : Nat) (Option.some (Jvm.ClassFile.FieldType.object "com/example/prudentia/prudentia/sec/Treatment")), Jvm.Cond.code ({ cls := "com/example/prudentia/prudentia/sec/Treatment", name := "getKey", desc := "()Ljava/lang/String;" } : Jvm.MethodName) prog_23_method_5_code (1 : Nat) (Option.some (Jvm.ClassFile.FieldType.object "java/lang/String")), Jvm.Cond.code ({ cls := "java/lang/String", name := "equals", desc := "(Ljava/lang/Object;)Z" } : Jvm.MethodName) jdk_42_method_66_code (3 : Nat) (Option.some Jvm.ClassFile.FieldType.boolean), Jvm.Cond.code ({ cls := "java/lang/StringLatin1", name := "equals", desc := "([B[B)Z" } : Jvm.MethodName) jdk_43_method_13_code (3 : Nat) (Option.some Jvm.ClassFile.FieldType.boolean), Jvm.Cond.code ({ cls := "com/example/prudentia/prudentia/sec/Treatment", name := "getName", desc := "()Ljava/lang/String;" } : Jvm.MethodName) prog_23_method_6_code (1 : Nat) (Option.some (Jvm.ClassFile.FieldType.object "java/lang/String"))]
set_option maxRecDepth 65536 in
theorem codes_eq : words1.filter isCode = codes1 := rfl
theorem w_codes : ∀ c ∈ words1.filter isCode, c.before args0 about1 = true := by
  rw [codes_eq]
  intro c hc
  simp only [codes1, List.mem_cons, List.not_mem_nil, or_false] at hc
  rcases hc with rfl | rfl | rfl | rfl | rfl | rfl
  · exact w_c0
  · exact w_c1
  · exact w_c2
  · exact w_c3
  · exact w_c4
  · exact w_c5
set_option maxRecDepth 65536 in
theorem w_t1 : (words1.take 24).all (fun c => isCode c || c.before args0 about1) = true := by decide +kernel
set_option maxRecDepth 65536 in
theorem w_t2 : ((words1.drop 24).take 24).all (fun c => isCode c || c.before args0 about1) = true := by decide +kernel
set_option maxRecDepth 65536 in
theorem w_t3 : ((words1.drop 24).drop 24).all (fun c => isCode c || c.before args0 about1) = true := by decide +kernel
theorem w_tables : (allAtoms (Jvm.Cond.code x code maxLocals ret :: tables_1)).before args0 about1 = true := by
  rw [allAtoms_all]
  show words1.all (fun c => c.before args0 about1) = true
  refine all_split ?_ w_codes
  rw [← List.take_append_drop 24 words1, List.all_append, w_t1, ← List.take_append_drop 24 (words1.drop 24), List.all_append, w_t2, w_t3]
  rfl
set_option maxRecDepth 65536 in
theorem w_rest : rest_1_c.before args0 about1 = true := by decide +kernel
set_option maxRecDepth 65536 in
theorem w_case : (Jvm.Cond.and given_1 narrow_1).before args0 about1 = true := by decide +kernel
set_option maxRecDepth 65536 in
theorem w_consts : constsHeld consts_1 about1 := Jvm.Lit.constsHeldB_iff.mp (by decide +kernel)
theorem w_applies : (headSpec (Jvm.Cond.code x code maxLocals ret :: tables_1) room_1).applies x e0.platform about1 = true :=
  (Spec.applies_iff w_frames).mpr ⟨w_running, w_runnable, w_alone, w_named, w_hears, w_ripe, w_room, w_tables⟩
theorem atStart : AtStart classFile x code maxLocals ret World_1 tables_1 room_1 Calls_1 rest_1 Pre_1 launch0 p0 e0 about1 theMethod args0 below0 :=
  ⟨lists_1, trivial, launch0.admits_env _ _ _, launch0.least_env, fairChoices_fair.cas, fairChoices_fair.clock, w_frames, w_args, w_heap, w_applies, ⟨w_consts, trivial⟩, w_rest, w_case⟩
end start1
theorem witness_1 : WitnessClaimed_1 := ⟨start1.p0, start1.e0, start1.about1, start1.theMethod, start1.args0, start1.below0, start1.atStart⟩
end Jvm.Pilot.@@N@@
