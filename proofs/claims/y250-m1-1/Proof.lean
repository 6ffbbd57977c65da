import JvmDerived
import JvmDerived.Pilot.@@N@@Statement
import JvmDerived.Pilot.@@N@@Code
set_option linter.unusedVariables false
set_option linter.unusedSimpArgs false
@@BLOCK:NumsL.lean.txt@@
namespace Jvm.RoadKit
open Sem ClassFile Op Lib Jvm.Stand Jvm.Free Jvm.LawKit
section New
variable {p : Program} {l : Launch} {e : Env} {R : Room} {s : State} {m : MethodId} {args : Array Value} {below : List Frame} {meth : Method} {c : Code} {T : State} {locs : List Loc} {cells slots : Nat}
theorem retI (X : Stand p l e R s m args below meth c T locs cells slots) (hx : p.tables.exec = Jvm.exec) {pc : Nat} {Ls : Array Slot} {z : Int32} {rest : List Value} (hret : meth.sig.returnType = some .int) (hd : decode c.code pc = .ok (.ireturn, 1)) {fs : List Frame}
    (hl : ∀ (f : JFrame) (acts : List Action), f.method = m → f.locked = none → f.entered = [] → (doReturn e (T.setTop f) acts (some (.int z))).1 = T.setFrames fs) : Steps p.tables e below (T.setTop (mkF m pc Ls (.int z :: rest))) (T.setFrames fs) := by
  have hm' : T.vm.method? m = some meth := X.method'
  have hn : narrow .int (.int z) = .int z := rfl
  show Steps p.tables e below (T.setTop { method := m, pc := pc, locals := Ls, stack := _ :: rest, locked := none }) _
  jvm_step X.here [X.here.top, hx, hd, hm', hret, hn]
  first | (intro acts; rw [hl _ acts rfl rfl rfl]) | rw [hl _ _ rfl rfl rfl]
  exact Steps.refl _
theorem own_retJ (X : Stand p l e R s m args below meth c T locs cells slots) (hx : p.tables.exec = Jvm.exec) {pc : Nat} {Ls : Array Slot} {z : Int64} {rest : List Value} (hret : meth.sig.returnType = some .long) (hd : decode c.code pc = .ok (.lreturn, 1)) {fs : List Frame}
    (hl : ∀ (f : JFrame) (acts : List Action), f.method = m → f.locked = none → f.entered = [] → (doReturn e (T.setTop f) acts (some (.long z))).1 = T.setFrames fs) : Steps p.tables e below (T.setTop (mkF m pc Ls (.long z :: rest))) (T.setFrames fs) := by
  have hm' : T.vm.method? m = some meth := X.method'
  show Steps p.tables e below (T.setTop { method := m, pc := pc, locals := Ls, stack := _ :: rest, locked := none }) _
  jvm_step X.here [X.here.top, hx, hd, hm', hret, narrow]
  first | (intro acts; rw [hl _ acts rfl rfl rfl]) | rw [hl _ _ rfl rfl rfl]
  exact Steps.refl _
theorem own_retA (X : Stand p l e R s m args below meth c T locs cells slots) (hx : p.tables.exec = Jvm.exec) {pc : Nat} {Ls : Array Slot} {b : Addr} {t : FieldType} {rest : List Value} (hret : meth.sig.returnType = some t) (ht : t.isReference = true) (hb0 : b = b) (hd : decode c.code pc = .ok (.areturn, 1)) {fs : List Frame}
    (hl : ∀ (f : JFrame) (acts : List Action), f.method = m → f.locked = none → f.entered = [] → (doReturn e (T.setTop f) acts (some (.ref b))).1 = T.setFrames fs) : Steps p.tables e below (T.setTop (mkF m pc Ls (.ref b :: rest))) (T.setFrames fs) := by
  have hm' : T.vm.method? m = some meth := X.method'
  show Steps p.tables e below (T.setTop { method := m, pc := pc, locals := Ls, stack := _ :: rest, locked := none }) _
  jvm_step X.here [X.here.top, hx, hd, hm', hret, Value.isRef, ht]
  first | (intro acts; rw [hl _ acts rfl rfl rfl]) | rw [hl _ _ rfl rfl rfl]
  exact Steps.refl _
end New
/-- a walk's goal at the state A -/
def own_G (tb : Tables) (e : Env) (below : List Frame) (P : Outcome → State → Prop) (A : State) : Prop := ∃ s₂ o, Steps tb e below A s₂ ∧ s₂.status = .running ∧ Ended s₂ below o ∧ P o s₂
section Go
variable {tb : Tables} {e : Env} {below : List Frame} {P : Outcome → State → Prop} {A B : State}
theorem own_step (h : ∀ t, Steps tb e below B t → Steps tb e below A t) (k : own_G tb e below P B) : own_G tb e below P A := by
  obtain ⟨s₂, o, h1, h2⟩ := k
  exact ⟨s₂, o, h _ h1, h2⟩
theorem own_start (h : ∀ t, Steps tb e below B t → Steps tb e below A t) (k : own_G tb e below P B) : ∃ s₂ o, Steps tb e below A s₂ ∧ s₂.status = .running ∧ Ended s₂ below o ∧ P o s₂ := own_step h k
theorem own_done {s₂ : State} {o : Outcome} (h1 : Steps tb e below A s₂) (h2 : s₂.status = .running) (h3 : Ended s₂ below o) (h4 : P o s₂) : own_G tb e below P A := ⟨s₂, o, h1, h2, h3, h4⟩
theorem own_nm {α : Type} (x : α) (F : α → State) (h : ∀ v, v = x → own_G tb e below P (F v)) : own_G tb e below P (F x) := h x rfl
theorem own_gen (h : ∀ P', P' = P → own_G tb e below P' A) : own_G tb e below P A := h P rfl
theorem own_imp (h : own_G tb e below P B → own_G tb e below P A) (k : own_G tb e below P B) : own_G tb e below P A := h k
end Go
/-- an array of ints (bytes, chars, shorts) by its members; a long[] by its members -/
def own_Ari (Z : State) (h : Heap) (a : Addr) (ty : FieldType) (vs : List Int32) : Prop := ∃ c : Cell, Arr Z h a c ty ∧ c.slots.toList = vs.map Value.int ∧ vs.length < 2 ^ 31
def own_Arj (Z : State) (h : Heap) (a : Addr) (vs : List Int64) : Prop := ∃ c : Cell, Arr Z h a c .long ∧ c.slots.toList = vs.map Value.long ∧ vs.length < 2 ^ 31
def own_Inb (j : Int32) (n : Nat) : Prop := ¬ j < 0 ∧ j.toNatClampNeg < n
theorem own_inb {j : Int32} {n : Nat} (h1 : ¬ j < 0) (h2 : j.toNatClampNeg < n) : own_Inb j n := ⟨h1, h2⟩
section ArrFacts
variable {Z : State} {h h' : Heap} {a b : Addr} {ty : FieldType} {vs : List Int32} {us : List Int64} {sl : Nat} {v : Value} {L : List Addr}
theorem own_Ari.lt (F : own_Ari Z h a ty vs) : a < h.size := by obtain ⟨c, A, -⟩ := F; exact A.lt
theorem own_Ari.ext (F : own_Ari Z h a ty vs) (E : Ext h h') : own_Ari Z h' a ty vs := by obtain ⟨c, A, r⟩ := F; exact ⟨c, A.ext E, r⟩
theorem own_Ari.other (F : own_Ari Z h b ty vs) (W : Wr h h' a sl v) (q : b ≠ a) : own_Ari Z h' b ty vs := by obtain ⟨c, A, r⟩ := F; exact ⟨c, A.other W q, r⟩
theorem own_Ari.keep (F : own_Ari Z h a ty vs) (K : Keep h h' L) (q : a ∉ L) : own_Ari Z h' a ty vs := by obtain ⟨c, A, r⟩ := F; exact ⟨c, ⟨K.2.1 a c A.1 q, A.2⟩, r⟩
theorem own_Arj.lt (F : own_Arj Z h a us) : a < h.size := by obtain ⟨c, A, -⟩ := F; exact A.lt
theorem own_Arj.ext (F : own_Arj Z h a us) (E : Ext h h') : own_Arj Z h' a us := by obtain ⟨c, A, r⟩ := F; exact ⟨c, A.ext E, r⟩
theorem own_Arj.other (F : own_Arj Z h b us) (W : Wr h h' a sl v) (q : b ≠ a) : own_Arj Z h' b us := by obtain ⟨c, A, r⟩ := F; exact ⟨c, A.other W q, r⟩
theorem own_Arj.keep (F : own_Arj Z h a us) (K : Keep h h' L) (q : a ∉ L) : own_Arj Z h' a us := by obtain ⟨c, A, r⟩ := F; exact ⟨c, ⟨K.2.1 a c A.1 q, A.2⟩, r⟩
theorem own_Ari_new {cA : ClassId} {n : Int32} (A : Arr Z h b (newA cA ty n) ty) (hn : ¬ n < 0) (hd : defaultValue ty = .int 0) : own_Ari Z h b ty (List.replicate n.toNatClampNeg 0) :=
  ⟨_, A, by simp [newA, hd], by rw [List.length_replicate]; exact (back32 hn).2⟩
theorem own_Arj_new {cA : ClassId} {n : Int32} (A : Arr Z h b (newA cA .long n) .long) (hn : ¬ n < 0) : own_Arj Z h b (List.replicate n.toNatClampNeg 0) :=
  ⟨_, A, by simp [newA, defaultValue], by rw [List.length_replicate]; exact (back32 hn).2⟩
theorem own_szI {c : Cell} (S : c.slots.toList = vs.map Value.int) : c.slots.size = vs.length := by have := congrArg List.length S; simpa using this
theorem own_szJ {c : Cell} (S : c.slots.toList = us.map Value.long) : c.slots.size = us.length := by have := congrArg List.length S; simpa using this
theorem own_atI {c : Cell} {k : Nat} (S : c.slots.toList = vs.map Value.int) (hk : k < vs.length) : c.slots[k]? = some (.int (vs.getD k 0)) := by
  rw [← Array.getElem?_toList, S, List.getElem?_map, List.getD_eq_getElem?_getD, List.getElem?_eq_getElem hk]; rfl
theorem own_atJ {c : Cell} {k : Nat} (S : c.slots.toList = us.map Value.long) (hk : k < us.length) : c.slots[k]? = some (.long (us.getD k 0)) := by
  rw [← Array.getElem?_toList, S, List.getElem?_map, List.getD_eq_getElem?_getD, List.getElem?_eq_getElem hk]; rfl
theorem own_setI {c : Cell} {k : Nat} {x : Int32} (A : Arr Z h a c ty) (S : c.slots.toList = vs.map Value.int) (hl : vs.length < 2 ^ 31) (W : Wr h h' a k (.int x)) : own_Ari Z h' a ty (vs.set k x) :=
  ⟨_, A.same W, by simp [Cell.setSlot, S, List.map_set], by rw [List.length_set]; exact hl⟩
theorem own_setJ {c : Cell} {k : Nat} {x : Int64} (A : Arr Z h a c .long) (S : c.slots.toList = us.map Value.long) (hl : us.length < 2 ^ 31) (W : Wr h h' a k (.long x)) : own_Arj Z h' a (us.set k x) :=
  ⟨_, A.same W, by simp [Cell.setSlot, S, List.map_set], by rw [List.length_set]; exact hl⟩
end ArrFacts
section ArrSteps
variable {p : Program} {l : Launch} {e : Env} {R : Room} {s : State} {m : MethodId} {args : Array Value} {below : List Frame} {meth : Method} {c : Code} {T : State} {locs : List Loc} {cells slots : Nat} {Z : State} {h : Heap} {a : Addr} {vs : List Int32} {us : List Int64} {j : Int32} {g : JFrame} {rest : List Value}
theorem own_iaload (X : Stand p l e R s m args below meth c T locs cells slots) (hx : p.tables.exec = Jvm.exec) (hZ : Z.Warmed39 s.vm) (eT : T.heap = h) (F : own_Ari Z h a .int vs) (q : own_Inb j vs.length) (hg : g.method = m) (hs : g.stack = .int j :: .ref a :: rest) (hd : decode c.code g.pc = .ok (.iaload, 1)) :
    ∀ target, Steps p.tables e below (T.setTop { g with pc := g.pc + 1, stack := .int (vs.getD j.toNatClampNeg 0) :: rest }) target → Steps p.tables e below (T.setTop g) target := by
  obtain ⟨cl, A, S, hl⟩ := F
  have z := own_szI S
  exact X.iaload hx (by rw [eT]; exact A.1) (State.isArrayOf_alike hZ.alike A.2.1) A.2.2 (fun y => y.elim q.1 fun w => by have := q.2; omega) (own_atI S q.2) hg hs hd
theorem own_baload (X : Stand p l e R s m args below meth c T locs cells slots) (hx : p.tables.exec = Jvm.exec) (hZ : Z.Warmed39 s.vm) (eT : T.heap = h) (F : own_Ari Z h a .byte vs) (q : own_Inb j vs.length) (hg : g.method = m) (hs : g.stack = .int j :: .ref a :: rest) (hd : decode c.code g.pc = .ok (.baload, 1)) :
    ∀ target, Steps p.tables e below (T.setTop { g with pc := g.pc + 1, stack := .int (vs.getD j.toNatClampNeg 0) :: rest }) target → Steps p.tables e below (T.setTop g) target := by
  obtain ⟨cl, A, S, hl⟩ := F
  have z := own_szI S
  exact X.baloadBytes hx (by rw [eT]; exact A.1) (State.isArrayOf_alike hZ.alike A.2.1) A.2.2 (fun y => y.elim q.1 fun w => by have := q.2; omega) (own_atI S q.2) hg hs hd
theorem own_laload (X : Stand p l e R s m args below meth c T locs cells slots) (hx : p.tables.exec = Jvm.exec) (hZ : Z.Warmed39 s.vm) (eT : T.heap = h) (F : own_Arj Z h a us) (q : own_Inb j us.length) (hg : g.method = m) (hs : g.stack = .int j :: .ref a :: rest) (hd : decode c.code g.pc = .ok (.laload, 1)) :
    ∀ target, Steps p.tables e below (T.setTop { g with pc := g.pc + 1, stack := .long (us.getD j.toNatClampNeg 0) :: rest }) target → Steps p.tables e below (T.setTop g) target := by
  obtain ⟨cl, A, S, hl⟩ := F
  have z := own_szJ S
  exact X.laload hx (by rw [eT]; exact A.1) (State.isArrayOf_alike hZ.alike A.2.1) A.2.2 (fun y => y.elim q.1 fun w => by have := q.2; omega) (own_atJ S q.2) hg hs hd
theorem own_lenI {ty : FieldType} (X : Stand p l e R s m args below meth c T locs cells slots) (hx : p.tables.exec = Jvm.exec) (hZ : Z.Warmed39 s.vm) (eT : T.heap = h) (F : own_Ari Z h a ty vs) (hg : g.method = m) (hs : g.stack = .ref a :: rest) (hd : decode c.code g.pc = .ok (.arraylength, 1)) :
    ∀ target, Steps p.tables e below (T.setTop { g with pc := g.pc + 1, stack := .int vs.length.toInt32 :: rest }) target → Steps p.tables e below (T.setTop g) target := by
  obtain ⟨cl, A, S, hl⟩ := F
  have z := own_szI S
  have k := X.arraylength hx (by rw [eT]; exact A.1) (State.isArrayOf_alike hZ.alike A.2.1) hg hs hd
  rw [z] at k
  exact k
theorem own_lenJ (X : Stand p l e R s m args below meth c T locs cells slots) (hx : p.tables.exec = Jvm.exec) (hZ : Z.Warmed39 s.vm) (eT : T.heap = h) (F : own_Arj Z h a us) (hg : g.method = m) (hs : g.stack = .ref a :: rest) (hd : decode c.code g.pc = .ok (.arraylength, 1)) :
    ∀ target, Steps p.tables e below (T.setTop { g with pc := g.pc + 1, stack := .int us.length.toInt32 :: rest }) target → Steps p.tables e below (T.setTop g) target := by
  obtain ⟨cl, A, S, hl⟩ := F
  have z := own_szJ S
  have k := X.arraylength hx (by rw [eT]; exact A.1) (State.isArrayOf_alike hZ.alike A.2.1) hg hs hd
  rw [z] at k
  exact k
theorem own_iastore {x : Int32} (X : Stand p l e R s m args below meth c T locs cells slots) (hx : p.tables.exec = Jvm.exec) (hZ : Z.Warmed39 s.vm) (eT : T.heap = h) (F : own_Ari Z h a .int vs) (q : own_Inb j vs.length) (hg : g.method = m) (hs : g.stack = .int x :: .int j :: .ref a :: rest) (hd : decode c.code g.pc = .ok (.iastore, 1)) :
    ∃ T' h', Stand p l e R s m args below meth c T' (locs ++ [⟨a, j.toNatClampNeg⟩]) cells slots ∧ T'.heap = h' ∧ Wr h h' a j.toNatClampNeg (.int x) ∧ own_Ari Z h' a .int (vs.set j.toNatClampNeg x) ∧
      ∀ target, Steps p.tables e below (T'.setTop { g with pc := g.pc + 1, stack := rest }) target → Steps p.tables e below (T.setTop g) target := by
  obtain ⟨cl, A, S, hl⟩ := F
  have z := own_szI S
  obtain ⟨T', h', X', e', W, st⟩ := stI X hx hZ eT A (j := j) (x := x) (fun y => y.elim q.1 fun w => by have := q.2; omega) hg hs hd
  exact ⟨T', h', X', e', W, own_setI A S hl W, st⟩
theorem own_bastore {x : Int32} (X : Stand p l e R s m args below meth c T locs cells slots) (hx : p.tables.exec = Jvm.exec) (hZ : Z.Warmed39 s.vm) (eT : T.heap = h) (F : own_Ari Z h a .byte vs) (q : own_Inb j vs.length) (hg : g.method = m) (hs : g.stack = .int x :: .int j :: .ref a :: rest) (hd : decode c.code g.pc = .ok (.bastore, 1)) :
    ∃ T' h', Stand p l e R s m args below meth c T' (locs ++ [⟨a, j.toNatClampNeg⟩]) cells slots ∧ T'.heap = h' ∧ Wr h h' a j.toNatClampNeg (.int (nar .byte x)) ∧ own_Ari Z h' a .byte (vs.set j.toNatClampNeg (nar .byte x)) ∧
      ∀ target, Steps p.tables e below (T'.setTop { g with pc := g.pc + 1, stack := rest }) target → Steps p.tables e below (T.setTop g) target := by
  obtain ⟨cl, A, S, hl⟩ := F
  have z := own_szI S
  obtain ⟨T', h', X', e', W, st⟩ := stB X hx hZ eT A (j := j) (x := x) (fun y => y.elim q.1 fun w => by have := q.2; omega) hg hs hd
  exact ⟨T', h', X', e', W, own_setI A S hl W, st⟩
theorem own_lastore {x : Int64} (X : Stand p l e R s m args below meth c T locs cells slots) (hx : p.tables.exec = Jvm.exec) (hZ : Z.Warmed39 s.vm) (eT : T.heap = h) (F : own_Arj Z h a us) (q : own_Inb j us.length) (hg : g.method = m) (hs : g.stack = .long x :: .int j :: .ref a :: rest) (hd : decode c.code g.pc = .ok (.lastore, 1)) :
    ∃ T' h', Stand p l e R s m args below meth c T' (locs ++ [⟨a, j.toNatClampNeg⟩]) cells slots ∧ T'.heap = h' ∧ Wr h h' a j.toNatClampNeg (.long x) ∧ own_Arj Z h' a (us.set j.toNatClampNeg x) ∧
      ∀ target, Steps p.tables e below (T'.setTop { g with pc := g.pc + 1, stack := rest }) target → Steps p.tables e below (T.setTop g) target := by
  obtain ⟨cl, A, S, hl⟩ := F
  have z := own_szJ S
  obtain ⟨T', h', X', e', W, st⟩ := stJ X hx hZ eT A (j := j) (x := x) (fun y => y.elim q.1 fun w => by have := q.2; omega) hg hs hd
  exact ⟨T', h', X', e', W, own_setJ A S hl W, st⟩
theorem own_cloneI {a0 : Array Value} {own : String} {index : Nat} (X : Stand p l e R s m args below meth c T locs cells slots) (hx : p.tables.exec = Jvm.exec) (hZ : Z.Warmed39 s.vm) (hown : s.vm.findClass own = some m.cls)
    (w1 : (Cond.methodLink own index ⟨"[I", "clone", "()Ljava/lang/Object;"⟩).before a0 Z = true) (w2 : (Cond.sameMethod "[I" "java/lang/Object" "clone" "()Ljava/lang/Object;").before a0 Z = true) (w3 : (Cond.native ⟨"java/lang/Object", "clone", "()Ljava/lang/Object;"⟩).before a0 Z = true)
    (w4 : (Cond.instanceMethod ⟨"java/lang/Object", "clone", "()Ljava/lang/Object;"⟩).before a0 Z = true) (w5 : (Cond.selects "[I" ⟨"[I", "clone", "()Ljava/lang/Object;"⟩ ⟨"java/lang/Object", "clone", "()Ljava/lang/Object;"⟩).before a0 Z = true) (w6 : (Cond.castable "[I" "java/lang/Cloneable").before a0 Z = true)
    (eT : T.heap = h) (F : own_Ari Z h a .int vs) (E : Exa Z h a "[I") (hg : g.method = m) (hsize : g.locals.size = c.maxLocals) (hs : g.stack = .ref a :: rest) (hd : decode c.code g.pc = .ok (.invokevirtual index, 3))
    (hf : 1 ≤ R.frames) {W cap : Nat} (hW : 2 * g.monitorRoom + (rest.map fun v => v.category).sum ≤ W) (hl : W + 14 ≤ R.locals) (hcap : vs.length ≤ cap) (hc : cells + 1 ≤ R.cells) (hsl : slots + cap ≤ R.slots) :
    ∃ T' h', Stand p l e R s m args below meth c T' locs (cells + 1) (slots + cap) ∧ T'.heap = h' ∧ Ext h h' ∧ own_Ari Z h' h.size .int vs ∧ Exa Z h' h.size "[I" ∧
      ∀ target, Steps p.tables e below (T'.setTop { g with pc := g.pc + 3, stack := .ref h.size :: rest }) target → Steps p.tables e below (T.setTop g) target := by
  obtain ⟨cl, A, S, hl'⟩ := F
  have z := own_szI S
  have FC : FitC Z cl := fitC_of A fun i hi v hv => by
    rw [own_atI S (by omega)] at hv
    cases hv; rfl
  obtain ⟨T', h', X', e', ex, A', E', st⟩ := cloneA X hx hZ hown w1 w2 w3 w4 w5 w6 eT A E FC hg hsize hs hd hf hW hl (by rw [z]; exact hcap) hc hsl
  exact ⟨T', h', X', e', ex, ⟨cloneOf cl, A', S, hl'⟩, E', st⟩
end ArrSteps

end Jvm.RoadKit
namespace Jvm.Pilot.@@N@@
open Jvm Jvm.ClassFile Sem Op Lib Jvm.Free Jvm.Stand Jvm.LawKit Jvm.RoadKit Bundle Jvm.Pilot.@@N@@.Jvm.D


def own_3 (x : Int32) : Prop := x = 0 ∨ x = 1 ∨ x = 2
def own_inc (vs : List Int32) (x : Int32) : List Int32 := (vs.set x.toNatClampNeg ((vs.getD x.toNatClampNeg 0) + (1 : Int32)))
def own_st (n x v : Int32) : Int32 := (if x = v then (n + (1 : Int32)) else n)
def own_blk (c z w : Int32) : Int32 := (if (0 : Int32) < c then (w + (((c - (1 : Int32)) / z) + (1 : Int32))) else w)
def own_cs (x0 x1 x2 x3 x4 : Int32) : List Int32 := (own_inc (own_inc (own_inc (own_inc (own_inc [(0 : Int32), (0 : Int32), (0 : Int32)] x0) x1) x2) x3) x4)
theorem own_inc_len (vs : List Int32) (x : Int32) : (own_inc vs x).length = vs.length := by unfold own_inc; rw [List.length_set]
theorem own_cs_len (x0 x1 x2 x3 x4 : Int32) : (own_cs x0 x1 x2 x3 x4).length = 3 := by unfold own_cs; simp only [own_inc_len]; rfl
theorem own_i3 {x : Int32} {n : Nat} (h : own_3 x) (hn : n = 3) : own_Inb x n := by
  subst hn
  rcases h with rfl | rfl | rfl <;> exact own_inb (by decide) (by decide)
theorem own_nz3 {x a b c : Int32} (h : own_3 x) (ha : a ≠ 0) (hb : b ≠ 0) (hc : c ≠ 0) : ([a, b, c].getD x.toNatClampNeg 0) ≠ 0 := by
  rcases h with rfl | rfl | rfl
  · exact ha
  · exact hb
  · exact hc
theorem own_remI (x y : Int32) (hx : 0 ≤ x.toInt) (hy : 0 < y.toInt) : (x - (x / y) * y).toInt = x.toInt % y.toInt := by
  have d := Jvm.Kit.i32_div (x := x) (y := y) (by omega)
  rw [Int.tdiv_eq_ediv_of_nonneg hx] at d
  have r := x.toInt_lt
  have k1 : 0 ≤ x.toInt / y.toInt := Int.ediv_nonneg hx (by omega)
  have k2 : x.toInt / y.toInt * y.toInt ≤ x.toInt := Int.ediv_mul_le _ (by omega)
  have k3 : 0 ≤ x.toInt / y.toInt * y.toInt := Int.mul_nonneg k1 (by omega)
  have m := Jvm.Kit.i32_mul (p := x / y) (q := y) (by rw [d]; omega) (by rw [d]; omega)
  have s := Jvm.Kit.i32_sub (p := x) (q := x / y * y) (by rw [m, d]; omega) (by rw [m, d]; omega)
  rw [s, m, d]
  have := Int.emod_add_mul_ediv x.toInt y.toInt
  rw [Int.mul_comm] at this
  omega
theorem own_mod3 (e x : Int32) (he : 0 ≤ e.toInt) (hx : x = e - (e / (3 : Int32)) * (3 : Int32)) : own_3 x := by
  have e3 : (3 : Int32).toInt = 3 := rfl
  have q := own_remI e 3 he (by rw [e3]; omega)
  rw [← hx, e3] at q
  have z : x.toInt = 0 ∨ x.toInt = 1 ∨ x.toInt = 2 := by omega
  rcases z with z | z | z
  · exact Or.inl (Int32.toInt_inj.mp z)
  · exact Or.inr (Or.inl (Int32.toInt_inj.mp z))
  · exact Or.inr (Or.inr (Int32.toInt_inj.mp z))
theorem own_divn (e k : Int32) (he : 0 ≤ e.toInt) (hk : 0 < k.toInt) : 0 ≤ (e / k).toInt := by
  rw [Jvm.Kit.i32_div (x := e) (y := k) (by omega), Int.tdiv_eq_ediv_of_nonneg he]
  exact Int.ediv_nonneg he (by omega)
theorem own_xx (r x : Int32) (hx : x = (r &&& (2147483647 : Int32)) - ((r &&& (2147483647 : Int32)) / (243 : Int32)) * (243 : Int32)) : 0 ≤ x.toInt := by
  have m : (r &&& (2147483647 : Int32)).toInt = r.toInt % 2 ^ 31 := Jvm.Kit.i32_mask r 2147483647 (k := 31) (by decide) (by decide)
  have e3 : (243 : Int32).toInt = 243 := rfl
  have q := own_remI (r &&& (2147483647 : Int32)) 243 (by omega) (by rw [e3]; omega)
  rw [← hx, e3] at q
  omega
theorem own_incD {vs : List Int32} (hl : vs.length = 3) {x v : Int32} (hx : own_3 x) (hv : own_3 v) : (own_inc vs x).getD v.toNatClampNeg 0 = own_st (vs.getD v.toNatClampNeg 0) x v := by
  match vs, hl with
  | [a, b, c], _ =>
    rcases hx with rfl | rfl | rfl <;> rcases hv with rfl | rfl | rfl <;> rfl
theorem own_z3 {v : Int32} (hv : own_3 v) : [(0 : Int32), (0 : Int32), (0 : Int32)].getD v.toNatClampNeg 0 = (0 : Int32) := by rcases hv with rfl | rfl | rfl <;> rfl
theorem own_stb {n x v : Int32} {k : Int} (h : 0 ≤ n.toInt ∧ n.toInt ≤ k) (hk : k ≤ 100) : 0 ≤ (own_st n x v).toInt ∧ (own_st n x v).toInt ≤ k + 1 := by
  unfold own_st
  split
  · have e1 : (1 : Int32).toInt = 1 := rfl
    have a := Jvm.Kit.i32_add (p := n) (q := 1) (by rw [e1]; omega) (by rw [e1]; omega)
    rw [a, e1]; omega
  · omega
theorem own_div0 {c z : Int32} (h : 0 ≤ c.toInt) (hz : c.toInt < z.toInt) : c / z = 0 := by
  refine Int32.toInt_inj.mp ?_
  rw [Jvm.Kit.i32_div (x := c) (y := z) (by omega), Int.tdiv_eq_ediv_of_nonneg h, Int.ediv_eq_zero_of_lt h hz]
  rfl

theorem d1_0 : decode jdk_29_method_65_code 0 = .ok (.iload_n 0, 1) := by decide +kernel
theorem d1_1 : decode jdk_29_method_65_code 1 = .ok (.iload_n 1, 1) := by decide +kernel
theorem d1_2 : decode jdk_29_method_65_code 2 = .ok (.if_icmp .lt 7, 3) := by decide +kernel
theorem d1_5 : decode jdk_29_method_65_code 5 = .ok (.iload_n 0, 1) := by decide +kernel
theorem d1_6 : decode jdk_29_method_65_code 6 = .ok (.goto 4, 3) := by decide +kernel
theorem d1_9 : decode jdk_29_method_65_code 9 = .ok (.iload_n 1, 1) := by decide +kernel
theorem d1_10 : decode jdk_29_method_65_code 10 = .ok (.ireturn, 1) := by decide +kernel
theorem ef_1 (m : MethodId) (p1 : Int32) (p2 : Int32) : entryFrame m #[(.int p1), (.int p2)] 2 = mkF m 0 #[.val (.int p1), .val (.int p2)] [] := by first | (simp [entryFrame, mkF, argsToLocals, Value.category]; done) | rfl
def own_f1 (p1 : Int32) (p2 : Int32) : Int32 :=
  (if p1 < p2 then p2 else p1)
def Q1 (Z : State) (p1 : Int32) (p2 : Int32) (h0 : Heap) (n0 : Nat) (v : Option Value) (h : Heap) (L : List Loc) : Prop := v = some (.int (own_f1 p1 p2)) ∧ Fr n0 L ∧ h = h0
set_option maxRecDepth 65536 in
set_option maxHeartbeats 40000000 in
theorem rm1 (l : Launch) (Z : State) (a0 : Array Value) (hw : ∀ d ∈ tables_1, d.before a0 Z = true) (ws : List Jvm.Cond) (p1 : Int32) (p2 : Int32) (h0 : Heap) (n0 : Nat) (Z0 : n0 ≤ h0.size) :
    MetFree l (⟨"java/lang/Math", "max", "(II)I"⟩ : MethodName) (head1 (Jvm.Cond.code (⟨"java/lang/Math", "max", "(II)I"⟩ : MethodName) jdk_29_method_65_code 2 (some .int) :: ws) ({ frames := 0, cells := 0, slots := 0, locals := 0 } : Room)) (fun a U => a = #[(.int p1), (.int p2)] ∧ Z.Warmed39 U.vm ∧ U.heap = h0) (fun _ _ _ _ _ => True) (fun _ U o U' => ∃ v L, o = .returned v ∧ Q1 Z p1 p2 h0 n0 v U'.heap L ∧ FrameEnd U o U' L ({ frames := 0, cells := 0, slots := 0, locals := 0 } : Room).cells ({ frames := 0, cells := 0, slots := 0, locals := 0 } : Room).slots) := by
  refine MetFree.of_bodySF (Jvm.Free.JP.mathPlain rfl (by decide +kernel)) hisR ?_
  intro p e s m args below meth c s₁ Bd hml0 hP hK
  obtain ⟨rfl, hZ, hh⟩ := hP
  have hx := Bd.exec
  have hby := Bd.bytes
  have hml : c.maxLocals = 2 := hml0
  have hown : s.vm.findClass "java/lang/Math" = some m.cls := findClass_of_methodNamed Bd.named
  have hnm := (name_of_methodNamed Bd.named Bd.method).1
  have X0 : Stand p l e ({ frames := 0, cells := 0, slots := 0, locals := 0 } : Room) s m #[(.int p1), (.int p2)] below meth c s₁ [] 0 0 := Stand.of_body Bd
  have e0 : s₁.heap = h0 := by rw [← hh, Bd.state]; rfl
  have N0 := Fr.nil n0
  refine own_start (fun t k => castTop (ef_1 m p1 p2) k) ?_
  show own_G p.tables e below _ (s₁.setTop (mkF m 0 #[.val (.int p1), .val (.int p2)] []))
  refine own_step (fun t k => XS.iloadN X0.here hx rfl (hb hby d1_0) rfl k) ?_
  show own_G p.tables e below _ (s₁.setTop (mkF m 1 #[.val (.int p1), .val (.int p2)] [(.int p1)]))
  refine own_step (fun t k => XS.iloadN X0.here hx rfl (hb hby d1_1) rfl k) ?_
  show own_G p.tables e below _ (s₁.setTop (mkF m 2 #[.val (.int p1), .val (.int p2)] [(.int p2), (.int p1)]))
  by_cases hc1 : p1 < p2
  · skip
    refine own_step (fun t k => XS.icmpYes X0.here hx rfl (pc0 := 2) (pc' := 9) rfl (hb hby d1_2) rfl ((tlt hc1).1) (by decide) (by decide) k) ?_
    show own_G p.tables e below _ (s₁.setTop (mkF m 9 #[.val (.int p1), .val (.int p2)] []))
    refine own_step (fun t k => XS.iloadN X0.here hx rfl (hb hby d1_9) rfl k) ?_
    show own_G p.tables e below _ (s₁.setTop (mkF m 10 #[.val (.int p1), .val (.int p2)] [(.int p2)]))
    obtain ⟨fs, hr, hrun, hended, hW, hsame⟩ := X0.leave (v := some (.int p2)) (fun h => by rw [Bd.returns] at h; cases h)
    refine own_done (retI X0 hx Bd.returns (hb hby d1_10) hr) hrun hended ⟨_, _, rfl, ?_, ⟨_, rfl⟩, hW, hsame.mono (by decide) (by decide)⟩
    show Q1 Z p1 p2 h0 n0 _ s₁.heap _
    rw [e0]
    exact ⟨congrArg (fun z => some (Value.int z)) (show p2 = (own_f1 p1 p2) from by unfold own_f1; simp only [if_pos hc1]), N0, rfl⟩
  · skip
    refine own_step (fun t k => XS.icmpNo X0.here hx rfl (hb hby d1_2) rfl ((flt hc1).1) k) ?_
    show own_G p.tables e below _ (s₁.setTop (mkF m 5 #[.val (.int p1), .val (.int p2)] []))
    refine own_step (fun t k => XS.iloadN X0.here hx rfl (hb hby d1_5) rfl k) ?_
    show own_G p.tables e below _ (s₁.setTop (mkF m 6 #[.val (.int p1), .val (.int p2)] [(.int p1)]))
    refine own_step (fun t k => XS.goto X0.here hx rfl (pc0 := 6) (pc' := 10) rfl (hb hby d1_6) (by decide) (by decide) k) ?_
    show own_G p.tables e below _ (s₁.setTop (mkF m 10 #[.val (.int p1), .val (.int p2)] [(.int p1)]))
    obtain ⟨fs, hr, hrun, hended, hW, hsame⟩ := X0.leave (v := some (.int p1)) (fun h => by rw [Bd.returns] at h; cases h)
    refine own_done (retI X0 hx Bd.returns (hb hby d1_10) hr) hrun hended ⟨_, _, rfl, ?_, ⟨_, rfl⟩, hW, hsame.mono (by decide) (by decide)⟩
    show Q1 Z p1 p2 h0 n0 _ s₁.heap _
    rw [e0]
    exact ⟨congrArg (fun z => some (Value.int z)) (show p1 = (own_f1 p1 p2) from by unfold own_f1; simp only [if_neg hc1]), N0, rfl⟩
theorem d2_0 : decode prog_15_method_18_code 0 = .ok (.aload_n 1, 1) := by decide +kernel
theorem d2_1 : decode prog_15_method_18_code 1 = .ok (.arraylength, 1) := by decide +kernel
theorem d2_2 : decode prog_15_method_18_code 2 = .ok (.istore_n 2, 1) := by decide +kernel
theorem d2_3 : decode prog_15_method_18_code 3 = .ok (.iload_n 2, 1) := by decide +kernel
theorem d2_4 : decode prog_15_method_18_code 4 = .ok (.newarray .int, 2) := by decide +kernel
theorem d2_6 : decode prog_15_method_18_code 6 = .ok (.astore_n 3, 1) := by decide +kernel
theorem d2_7 : decode prog_15_method_18_code 7 = .ok (.aload_n 0, 1) := by decide +kernel
theorem d2_8 : decode prog_15_method_18_code 8 = .ok (.astore 4, 2) := by decide +kernel
theorem d2_10 : decode prog_15_method_18_code 10 = .ok (.aload 4, 2) := by decide +kernel
theorem d2_12 : decode prog_15_method_18_code 12 = .ok (.arraylength, 1) := by decide +kernel
theorem d2_13 : decode prog_15_method_18_code 13 = .ok (.istore 5, 2) := by decide +kernel
theorem d2_15 : decode prog_15_method_18_code 15 = .ok (.iconst 0, 1) := by decide +kernel
theorem d2_16 : decode prog_15_method_18_code 16 = .ok (.istore 6, 2) := by decide +kernel
theorem d2_18 : decode prog_15_method_18_code 18 = .ok (.iload 6, 2) := by decide +kernel
theorem d2_20 : decode prog_15_method_18_code 20 = .ok (.iload 5, 2) := by decide +kernel
theorem d2_22 : decode prog_15_method_18_code 22 = .ok (.if_icmp .ge 24, 3) := by decide +kernel
theorem d2_25 : decode prog_15_method_18_code 25 = .ok (.aload 4, 2) := by decide +kernel
theorem d2_27 : decode prog_15_method_18_code 27 = .ok (.iload 6, 2) := by decide +kernel
theorem d2_29 : decode prog_15_method_18_code 29 = .ok (.iaload, 1) := by decide +kernel
theorem d2_30 : decode prog_15_method_18_code 30 = .ok (.istore 7, 2) := by decide +kernel
theorem d2_32 : decode prog_15_method_18_code 32 = .ok (.aload_n 3, 1) := by decide +kernel
theorem d2_33 : decode prog_15_method_18_code 33 = .ok (.iload 7, 2) := by decide +kernel
theorem d2_35 : decode prog_15_method_18_code 35 = .ok (.dup2, 1) := by decide +kernel
theorem d2_36 : decode prog_15_method_18_code 36 = .ok (.iaload, 1) := by decide +kernel
theorem d2_37 : decode prog_15_method_18_code 37 = .ok (.iconst 1, 1) := by decide +kernel
theorem d2_38 : decode prog_15_method_18_code 38 = .ok (.iadd, 1) := by decide +kernel
theorem d2_39 : decode prog_15_method_18_code 39 = .ok (.iastore, 1) := by decide +kernel
theorem d2_40 : decode prog_15_method_18_code 40 = .ok (.iinc 6 1, 3) := by decide +kernel
theorem d2_43 : decode prog_15_method_18_code 43 = .ok (.goto (-25), 3) := by decide +kernel
theorem d2_46 : decode prog_15_method_18_code 46 = .ok (.iload_n 2, 1) := by decide +kernel
theorem d2_47 : decode prog_15_method_18_code 47 = .ok (.newarray .int, 2) := by decide +kernel
theorem d2_49 : decode prog_15_method_18_code 49 = .ok (.astore 4, 2) := by decide +kernel
theorem d2_51 : decode prog_15_method_18_code 51 = .ok (.iconst 0, 1) := by decide +kernel
theorem d2_52 : decode prog_15_method_18_code 52 = .ok (.istore 5, 2) := by decide +kernel
theorem d2_54 : decode prog_15_method_18_code 54 = .ok (.iconst 0, 1) := by decide +kernel
theorem d2_55 : decode prog_15_method_18_code 55 = .ok (.istore 6, 2) := by decide +kernel
theorem d2_57 : decode prog_15_method_18_code 57 = .ok (.iload 6, 2) := by decide +kernel
theorem d2_59 : decode prog_15_method_18_code 59 = .ok (.iload_n 2, 1) := by decide +kernel
theorem d2_60 : decode prog_15_method_18_code 60 = .ok (.if_icmp .ge 41, 3) := by decide +kernel
theorem d2_63 : decode prog_15_method_18_code 63 = .ok (.aload 4, 2) := by decide +kernel
theorem d2_65 : decode prog_15_method_18_code 65 = .ok (.iload 6, 2) := by decide +kernel
theorem d2_67 : decode prog_15_method_18_code 67 = .ok (.iload 5, 2) := by decide +kernel
theorem d2_69 : decode prog_15_method_18_code 69 = .ok (.iastore, 1) := by decide +kernel
theorem d2_70 : decode prog_15_method_18_code 70 = .ok (.aload_n 3, 1) := by decide +kernel
theorem d2_71 : decode prog_15_method_18_code 71 = .ok (.iload 6, 2) := by decide +kernel
theorem d2_73 : decode prog_15_method_18_code 73 = .ok (.iaload, 1) := by decide +kernel
theorem d2_74 : decode prog_15_method_18_code 74 = .ok (.ifCond .le 21, 3) := by decide +kernel
theorem d2_77 : decode prog_15_method_18_code 77 = .ok (.iload 5, 2) := by decide +kernel
theorem d2_79 : decode prog_15_method_18_code 79 = .ok (.aload_n 3, 1) := by decide +kernel
theorem d2_80 : decode prog_15_method_18_code 80 = .ok (.iload 6, 2) := by decide +kernel
theorem d2_82 : decode prog_15_method_18_code 82 = .ok (.iaload, 1) := by decide +kernel
theorem d2_83 : decode prog_15_method_18_code 83 = .ok (.iconst 1, 1) := by decide +kernel
theorem d2_84 : decode prog_15_method_18_code 84 = .ok (.isub, 1) := by decide +kernel
theorem d2_85 : decode prog_15_method_18_code 85 = .ok (.aload_n 1, 1) := by decide +kernel
theorem d2_86 : decode prog_15_method_18_code 86 = .ok (.iload 6, 2) := by decide +kernel
theorem d2_88 : decode prog_15_method_18_code 88 = .ok (.iaload, 1) := by decide +kernel
theorem d2_89 : decode prog_15_method_18_code 89 = .ok (.idiv, 1) := by decide +kernel
theorem d2_90 : decode prog_15_method_18_code 90 = .ok (.iconst 1, 1) := by decide +kernel
theorem d2_91 : decode prog_15_method_18_code 91 = .ok (.iadd, 1) := by decide +kernel
theorem d2_92 : decode prog_15_method_18_code 92 = .ok (.iadd, 1) := by decide +kernel
theorem d2_93 : decode prog_15_method_18_code 93 = .ok (.istore 5, 2) := by decide +kernel
theorem d2_95 : decode prog_15_method_18_code 95 = .ok (.iinc 6 1, 3) := by decide +kernel
theorem d2_98 : decode prog_15_method_18_code 98 = .ok (.goto (-41), 3) := by decide +kernel
theorem d2_101 : decode prog_15_method_18_code 101 = .ok (.iload_n 2, 1) := by decide +kernel
theorem d2_102 : decode prog_15_method_18_code 102 = .ok (.newarray .int, 2) := by decide +kernel
theorem d2_104 : decode prog_15_method_18_code 104 = .ok (.astore 6, 2) := by decide +kernel
theorem d2_106 : decode prog_15_method_18_code 106 = .ok (.aload_n 0, 1) := by decide +kernel
theorem d2_107 : decode prog_15_method_18_code 107 = .ok (.arraylength, 1) := by decide +kernel
theorem d2_108 : decode prog_15_method_18_code 108 = .ok (.newarray .int, 2) := by decide +kernel
theorem d2_110 : decode prog_15_method_18_code 110 = .ok (.astore 7, 2) := by decide +kernel
theorem d2_112 : decode prog_15_method_18_code 112 = .ok (.iconst 0, 1) := by decide +kernel
theorem d2_113 : decode prog_15_method_18_code 113 = .ok (.istore 8, 2) := by decide +kernel
theorem d2_115 : decode prog_15_method_18_code 115 = .ok (.iload 8, 2) := by decide +kernel
theorem d2_117 : decode prog_15_method_18_code 117 = .ok (.aload_n 0, 1) := by decide +kernel
theorem d2_118 : decode prog_15_method_18_code 118 = .ok (.arraylength, 1) := by decide +kernel
theorem d2_119 : decode prog_15_method_18_code 119 = .ok (.if_icmp .ge 41, 3) := by decide +kernel
theorem d2_122 : decode prog_15_method_18_code 122 = .ok (.aload_n 0, 1) := by decide +kernel
theorem d2_123 : decode prog_15_method_18_code 123 = .ok (.iload 8, 2) := by decide +kernel
theorem d2_125 : decode prog_15_method_18_code 125 = .ok (.iaload, 1) := by decide +kernel
theorem d2_126 : decode prog_15_method_18_code 126 = .ok (.istore 9, 2) := by decide +kernel
theorem d2_128 : decode prog_15_method_18_code 128 = .ok (.aload 7, 2) := by decide +kernel
theorem d2_130 : decode prog_15_method_18_code 130 = .ok (.iload 8, 2) := by decide +kernel
theorem d2_132 : decode prog_15_method_18_code 132 = .ok (.aload 4, 2) := by decide +kernel
theorem d2_134 : decode prog_15_method_18_code 134 = .ok (.iload 9, 2) := by decide +kernel
theorem d2_136 : decode prog_15_method_18_code 136 = .ok (.iaload, 1) := by decide +kernel
theorem d2_137 : decode prog_15_method_18_code 137 = .ok (.aload 6, 2) := by decide +kernel
theorem d2_139 : decode prog_15_method_18_code 139 = .ok (.iload 9, 2) := by decide +kernel
theorem d2_141 : decode prog_15_method_18_code 141 = .ok (.dup2, 1) := by decide +kernel
theorem d2_142 : decode prog_15_method_18_code 142 = .ok (.iaload, 1) := by decide +kernel
theorem d2_143 : decode prog_15_method_18_code 143 = .ok (.dup_x2, 1) := by decide +kernel
theorem d2_144 : decode prog_15_method_18_code 144 = .ok (.iconst 1, 1) := by decide +kernel
theorem d2_145 : decode prog_15_method_18_code 145 = .ok (.iadd, 1) := by decide +kernel
theorem d2_146 : decode prog_15_method_18_code 146 = .ok (.iastore, 1) := by decide +kernel
theorem d2_147 : decode prog_15_method_18_code 147 = .ok (.aload_n 1, 1) := by decide +kernel
theorem d2_148 : decode prog_15_method_18_code 148 = .ok (.iload 9, 2) := by decide +kernel
theorem d2_150 : decode prog_15_method_18_code 150 = .ok (.iaload, 1) := by decide +kernel
theorem d2_151 : decode prog_15_method_18_code 151 = .ok (.idiv, 1) := by decide +kernel
theorem d2_152 : decode prog_15_method_18_code 152 = .ok (.iadd, 1) := by decide +kernel
theorem d2_153 : decode prog_15_method_18_code 153 = .ok (.iastore, 1) := by decide +kernel
theorem d2_154 : decode prog_15_method_18_code 154 = .ok (.iinc 8 1, 3) := by decide +kernel
theorem d2_157 : decode prog_15_method_18_code 157 = .ok (.goto (-42), 3) := by decide +kernel
theorem d2_160 : decode prog_15_method_18_code 160 = .ok (.aload 7, 2) := by decide +kernel
theorem d2_162 : decode prog_15_method_18_code 162 = .ok (.areturn, 1) := by decide +kernel
theorem pn_2 : plainName "com/example/stevedore/stevedore/MoveGraph" = true := by first | (simp [plainName, overriddenIn]; done) | decide +kernel
theorem ef_2 (m : MethodId) (a1 : Addr) (a2 : Addr) : entryFrame m #[(.ref a1), (.ref a2)] 10 = mkF m 0 #[.val (.ref a1), .val (.ref a2), .unset, .unset, .unset, .unset, .unset, .unset, .unset, .unset] [] := by first | (simp [entryFrame, mkF, argsToLocals, Value.category]; done) | rfl
def Q2 (Z : State) (a1 : Addr) (a2 : Addr) (x0 : Int32) (x1 : Int32) (x2 : Int32) (x3 : Int32) (x4 : Int32) (zz0 : Int32) (zz1 : Int32) (zz2 : Int32) (h0 : Heap) (n0 : Nat) (v : Option Value) (h : Heap) (L : List Loc) : Prop := ∃ (rb : Addr), v = some (.ref rb) ∧ Fr n0 L ∧ Keep h0 h [] ∧ own_Ari Z h rb .int [(([(0 : Int32), (own_blk ((own_cs x0 x1 x2 x3 x4).getD 0 0) zz0 (0 : Int32)), (own_blk ((own_cs x0 x1 x2 x3 x4).getD 1 0) zz1 (own_blk ((own_cs x0 x1 x2 x3 x4).getD 0 0) zz0 (0 : Int32)))].getD x0.toNatClampNeg 0) + (([(0 : Int32), (0 : Int32), (0 : Int32)].getD x0.toNatClampNeg 0) / ([zz0, zz1, zz2].getD x0.toNatClampNeg 0))), (([(0 : Int32), (own_blk ((own_cs x0 x1 x2 x3 x4).getD 0 0) zz0 (0 : Int32)), (own_blk ((own_cs x0 x1 x2 x3 x4).getD 1 0) zz1 (own_blk ((own_cs x0 x1 x2 x3 x4).getD 0 0) zz0 (0 : Int32)))].getD x1.toNatClampNeg 0) + (((own_inc [(0 : Int32), (0 : Int32), (0 : Int32)] x0).getD x1.toNatClampNeg 0) / ([zz0, zz1, zz2].getD x1.toNatClampNeg 0))), (([(0 : Int32), (own_blk ((own_cs x0 x1 x2 x3 x4).getD 0 0) zz0 (0 : Int32)), (own_blk ((own_cs x0 x1 x2 x3 x4).getD 1 0) zz1 (own_blk ((own_cs x0 x1 x2 x3 x4).getD 0 0) zz0 (0 : Int32)))].getD x2.toNatClampNeg 0) + (((own_inc (own_inc [(0 : Int32), (0 : Int32), (0 : Int32)] x0) x1).getD x2.toNatClampNeg 0) / ([zz0, zz1, zz2].getD x2.toNatClampNeg 0))), (([(0 : Int32), (own_blk ((own_cs x0 x1 x2 x3 x4).getD 0 0) zz0 (0 : Int32)), (own_blk ((own_cs x0 x1 x2 x3 x4).getD 1 0) zz1 (own_blk ((own_cs x0 x1 x2 x3 x4).getD 0 0) zz0 (0 : Int32)))].getD x3.toNatClampNeg 0) + (((own_inc (own_inc (own_inc [(0 : Int32), (0 : Int32), (0 : Int32)] x0) x1) x2).getD x3.toNatClampNeg 0) / ([zz0, zz1, zz2].getD x3.toNatClampNeg 0))), (([(0 : Int32), (own_blk ((own_cs x0 x1 x2 x3 x4).getD 0 0) zz0 (0 : Int32)), (own_blk ((own_cs x0 x1 x2 x3 x4).getD 1 0) zz1 (own_blk ((own_cs x0 x1 x2 x3 x4).getD 0 0) zz0 (0 : Int32)))].getD x4.toNatClampNeg 0) + (((own_inc (own_inc (own_inc (own_inc [(0 : Int32), (0 : Int32), (0 : Int32)] x0) x1) x2) x3).getD x4.toNatClampNeg 0) / ([zz0, zz1, zz2].getD x4.toNatClampNeg 0)))] ∧ h0.size ≤ rb
set_option maxRecDepth 65536 in
set_option maxHeartbeats 40000000 in
theorem rm2 (l : Launch) (Z : State) (a0 : Array Value) (hw : ∀ d ∈ tables_1, d.before a0 Z = true) (ws : List Jvm.Cond) (a1 : Addr) (a2 : Addr) (x0 : Int32) (x1 : Int32) (x2 : Int32) (x3 : Int32) (x4 : Int32) (zz0 : Int32) (zz1 : Int32) (zz2 : Int32) (h0 : Heap) (n0 : Nat) (Z0 : n0 ≤ h0.size) (fp0 : own_Ari Z h0 a1 .int [x0, x1, x2, x3, x4]) (fp1 : own_Ari Z h0 a2 .int [zz0, zz1, zz2]) (hx0 : own_3 x0) (hx1 : own_3 x1) (hx2 : own_3 x2) (hx3 : own_3 x3) (hx4 : own_3 x4) (hz0 : zz0 ≠ 0) (hz1 : zz1 ≠ 0) (hz2 : zz2 ≠ 0) :
    MetFree l (⟨"com/example/stevedore/stevedore/MoveGraph", "copies", "([I[I)[I"⟩ : MethodName) (head1 (Jvm.Cond.code (⟨"com/example/stevedore/stevedore/MoveGraph", "copies", "([I[I)[I"⟩ : MethodName) prog_15_method_18_code 10 (some (.array .int)) :: ws) ({ frames := 0, cells := 4, slots := 14, locals := 0 } : Room)) (fun a U => a = #[(.ref a1), (.ref a2)] ∧ Z.Warmed39 U.vm ∧ U.heap = h0) (fun _ _ _ _ _ => True) (fun _ U o U' => ∃ v L, o = .returned v ∧ Q2 Z a1 a2 x0 x1 x2 x3 x4 zz0 zz1 zz2 h0 n0 v U'.heap L ∧ FrameEnd U o U' L ({ frames := 0, cells := 4, slots := 14, locals := 0 } : Room).cells ({ frames := 0, cells := 4, slots := 14, locals := 0 } : Room).slots) := by
  refine MetFree.of_bodySF (plainFor_of_name pn_2) hisR ?_
  intro p e s m args below meth c s₁ Bd hml0 hP hK
  obtain ⟨rfl, hZ, hh⟩ := hP
  have hx := Bd.exec
  have hby := Bd.bytes
  have hml : c.maxLocals = 10 := hml0
  have hown : s.vm.findClass "com/example/stevedore/stevedore/MoveGraph" = some m.cls := findClass_of_methodNamed Bd.named
  have hnm := (name_of_methodNamed Bd.named Bd.method).1
  have X0 : Stand p l e ({ frames := 0, cells := 4, slots := 14, locals := 0 } : Room) s m #[(.ref a1), (.ref a2)] below meth c s₁ [] 0 0 := Stand.of_body Bd
  have e0 : s₁.heap = h0 := by rw [← hh, Bd.state]; rfl
  have N0 := Fr.nil n0
  refine own_start (fun t k => castTop (ef_2 m a1 a2) k) ?_
  show own_G p.tables e below _ (s₁.setTop (mkF m 0 #[.val (.ref a1), .val (.ref a2), .unset, .unset, .unset, .unset, .unset, .unset, .unset, .unset] []))
  refine own_step (fun t k => XS.aloadN X0.here hx rfl (hb hby d2_0) rfl rfl k) ?_
  show own_G p.tables e below _ (s₁.setTop (mkF m 1 #[.val (.ref a1), .val (.ref a2), .unset, .unset, .unset, .unset, .unset, .unset, .unset, .unset] [(.ref a2)]))
  refine own_step (own_lenI X0 hx hZ e0 fp1 (g := (mkF m 1 #[.val (.ref a1), .val (.ref a2), .unset, .unset, .unset, .unset, .unset, .unset, .unset, .unset] [(.ref a2)])) rfl rfl (hb hby d2_1)) ?_
  show own_G p.tables e below _ (s₁.setTop (mkF m 2 #[.val (.ref a1), .val (.ref a2), .unset, .unset, .unset, .unset, .unset, .unset, .unset, .unset] [(.int (3 : Int32))]))
  refine own_step (fun t k => XS.istoreN X0.here hx rfl (hb hby d2_2) rfl (l' := #[.val (.ref a1), .val (.ref a2), .val (.int (3 : Int32)), .unset, .unset, .unset, .unset, .unset, .unset, .unset]) rfl k) ?_
  show own_G p.tables e below _ (s₁.setTop (mkF m 3 #[.val (.ref a1), .val (.ref a2), .val (.int (3 : Int32)), .unset, .unset, .unset, .unset, .unset, .unset, .unset] []))
  refine own_step (fun t k => XS.iloadN X0.here hx rfl (hb hby d2_3) rfl k) ?_
  show own_G p.tables e below _ (s₁.setTop (mkF m 4 #[.val (.ref a1), .val (.ref a2), .val (.int (3 : Int32)), .unset, .unset, .unset, .unset, .unset, .unset, .unset] [(.int (3 : Int32))]))
  obtain ⟨T1, h1, k1, X1, e1, E1, A1, st1⟩ := newP X0 hx hZ (hw _ (List.mem_of_getElem? (i := 1) rfl)) e0 (g := (mkF m 4 #[.val (.ref a1), .val (.ref a2), .val (.int (3 : Int32)), .unset, .unset, .unset, .unset, .unset, .unset, .unset] [(.int (3 : Int32))])) rfl (hb hby d2_4) rfl (by decide) (cap := 3) (by decide) (by decide) (by decide) (by decide)
  obtain ⟨b1, g1⟩ : ∃ z, z = h0.size := ⟨_, rfl⟩
  have ne2 : a1 ≠ b1 := Nat.ne_of_lt (Nat.lt_of_lt_of_le fp0.lt (Nat.le_of_eq g1.symm))
  have ne3 : a2 ≠ b1 := Nat.ne_of_lt (Nat.lt_of_lt_of_le fp1.lt (Nat.le_of_eq g1.symm))
  have sz1 : h0.size ≤ b1 := Nat.le_trans (Keep.refl h0 []).1 (Nat.le_of_eq g1.symm)
  have ge1 : n0 ≤ b1 := Nat.le_trans Z0 sz1
  have c4 : own_Ari Z h1 a1 .int [x0, x1, x2, x3, x4] := fp0.ext E1
  have c5 : own_Ari Z h1 a2 .int [zz0, zz1, zz2] := fp1.ext E1
  have K1 : Keep h0 h1 [] := (Keep.refl h0 []).ext E1
  rw [← g1] at A1 st1
  have c6 : own_Ari Z h1 b1 .int [(0 : Int32), (0 : Int32), (0 : Int32)] := own_Ari_new (ty := .int) A1 (by decide) rfl
  refine own_step st1 ?_
  show own_G p.tables e below _ (T1.setTop (mkF m 6 #[.val (.ref a1), .val (.ref a2), .val (.int (3 : Int32)), .unset, .unset, .unset, .unset, .unset, .unset, .unset] [(.ref b1)]))
  refine own_step (fun t k => XS.astoreN X1.here hx rfl (hb hby d2_6) rfl rfl (l' := #[.val (.ref a1), .val (.ref a2), .val (.int (3 : Int32)), .val (.ref b1), .unset, .unset, .unset, .unset, .unset, .unset]) rfl k) ?_
  show own_G p.tables e below _ (T1.setTop (mkF m 7 #[.val (.ref a1), .val (.ref a2), .val (.int (3 : Int32)), .val (.ref b1), .unset, .unset, .unset, .unset, .unset, .unset] []))
  refine own_step (fun t k => XS.aloadN X1.here hx rfl (hb hby d2_7) rfl rfl k) ?_
  show own_G p.tables e below _ (T1.setTop (mkF m 8 #[.val (.ref a1), .val (.ref a2), .val (.int (3 : Int32)), .val (.ref b1), .unset, .unset, .unset, .unset, .unset, .unset] [(.ref a1)]))
  refine own_step (fun t k => XS.astore X1.here hx rfl (hb hby d2_8) rfl rfl (l' := #[.val (.ref a1), .val (.ref a2), .val (.int (3 : Int32)), .val (.ref b1), .val (.ref a1), .unset, .unset, .unset, .unset, .unset]) rfl k) ?_
  show own_G p.tables e below _ (T1.setTop (mkF m 10 #[.val (.ref a1), .val (.ref a2), .val (.int (3 : Int32)), .val (.ref b1), .val (.ref a1), .unset, .unset, .unset, .unset, .unset] []))
  refine own_step (fun t k => XS.aload X1.here hx rfl (hb hby d2_10) rfl rfl k) ?_
  show own_G p.tables e below _ (T1.setTop (mkF m 12 #[.val (.ref a1), .val (.ref a2), .val (.int (3 : Int32)), .val (.ref b1), .val (.ref a1), .unset, .unset, .unset, .unset, .unset] [(.ref a1)]))
  refine own_step (own_lenI X1 hx hZ e1 c4 (g := (mkF m 12 #[.val (.ref a1), .val (.ref a2), .val (.int (3 : Int32)), .val (.ref b1), .val (.ref a1), .unset, .unset, .unset, .unset, .unset] [(.ref a1)])) rfl rfl (hb hby d2_12)) ?_
  show own_G p.tables e below _ (T1.setTop (mkF m 13 #[.val (.ref a1), .val (.ref a2), .val (.int (3 : Int32)), .val (.ref b1), .val (.ref a1), .unset, .unset, .unset, .unset, .unset] [(.int (5 : Int32))]))
  refine own_step (fun t k => XS.istore X1.here hx rfl (hb hby d2_13) rfl (l' := #[.val (.ref a1), .val (.ref a2), .val (.int (3 : Int32)), .val (.ref b1), .val (.ref a1), .val (.int (5 : Int32)), .unset, .unset, .unset, .unset]) rfl k) ?_
  show own_G p.tables e below _ (T1.setTop (mkF m 15 #[.val (.ref a1), .val (.ref a2), .val (.int (3 : Int32)), .val (.ref b1), .val (.ref a1), .val (.int (5 : Int32)), .unset, .unset, .unset, .unset] []))
  refine own_step (fun t k => XS.iconst X1.here hx rfl (hb hby d2_15) k) ?_
  show own_G p.tables e below _ (T1.setTop (mkF m 16 #[.val (.ref a1), .val (.ref a2), .val (.int (3 : Int32)), .val (.ref b1), .val (.ref a1), .val (.int (5 : Int32)), .unset, .unset, .unset, .unset] [(.int (0 : Int32))]))
  refine own_step (fun t k => XS.istore X1.here hx rfl (hb hby d2_16) rfl (l' := #[.val (.ref a1), .val (.ref a2), .val (.int (3 : Int32)), .val (.ref b1), .val (.ref a1), .val (.int (5 : Int32)), .val (.int (0 : Int32)), .unset, .unset, .unset]) rfl k) ?_
  show own_G p.tables e below _ (T1.setTop (mkF m 18 #[.val (.ref a1), .val (.ref a2), .val (.int (3 : Int32)), .val (.ref b1), .val (.ref a1), .val (.int (5 : Int32)), .val (.int (0 : Int32)), .unset, .unset, .unset] []))
  refine own_step (fun t k => XS.iload X1.here hx rfl (hb hby d2_18) rfl k) ?_
  show own_G p.tables e below _ (T1.setTop (mkF m 20 #[.val (.ref a1), .val (.ref a2), .val (.int (3 : Int32)), .val (.ref b1), .val (.ref a1), .val (.int (5 : Int32)), .val (.int (0 : Int32)), .unset, .unset, .unset] [(.int (0 : Int32))]))
  refine own_step (fun t k => XS.iload X1.here hx rfl (hb hby d2_20) rfl k) ?_
  show own_G p.tables e below _ (T1.setTop (mkF m 22 #[.val (.ref a1), .val (.ref a2), .val (.int (3 : Int32)), .val (.ref b1), .val (.ref a1), .val (.int (5 : Int32)), .val (.int (0 : Int32)), .unset, .unset, .unset] [(.int (5 : Int32)), (.int (0 : Int32))]))
  have hk7 : (0 : Int32) < (5 : Int32) := (by decide)
  refine own_step (fun t k => XS.icmpNo X1.here hx rfl (hb hby d2_22) rfl ((tlt hk7).2.1) k) ?_
  show own_G p.tables e below _ (T1.setTop (mkF m 25 #[.val (.ref a1), .val (.ref a2), .val (.int (3 : Int32)), .val (.ref b1), .val (.ref a1), .val (.int (5 : Int32)), .val (.int (0 : Int32)), .unset, .unset, .unset] []))
  refine own_step (fun t k => XS.aload X1.here hx rfl (hb hby d2_25) rfl rfl k) ?_
  show own_G p.tables e below _ (T1.setTop (mkF m 27 #[.val (.ref a1), .val (.ref a2), .val (.int (3 : Int32)), .val (.ref b1), .val (.ref a1), .val (.int (5 : Int32)), .val (.int (0 : Int32)), .unset, .unset, .unset] [(.ref a1)]))
  refine own_step (fun t k => XS.iload X1.here hx rfl (hb hby d2_27) rfl k) ?_
  show own_G p.tables e below _ (T1.setTop (mkF m 29 #[.val (.ref a1), .val (.ref a2), .val (.int (3 : Int32)), .val (.ref b1), .val (.ref a1), .val (.int (5 : Int32)), .val (.int (0 : Int32)), .unset, .unset, .unset] [(.int (0 : Int32)), (.ref a1)]))
  refine own_step (own_iaload X1 hx hZ e1 c4 (own_inb (by decide) (Nat.le_of_ble_eq_true rfl)) (g := (mkF m 29 #[.val (.ref a1), .val (.ref a2), .val (.int (3 : Int32)), .val (.ref b1), .val (.ref a1), .val (.int (5 : Int32)), .val (.int (0 : Int32)), .unset, .unset, .unset] [(.int (0 : Int32)), (.ref a1)])) rfl rfl (hb hby d2_29)) ?_
  show own_G p.tables e below _ (T1.setTop (mkF m 30 #[.val (.ref a1), .val (.ref a2), .val (.int (3 : Int32)), .val (.ref b1), .val (.ref a1), .val (.int (5 : Int32)), .val (.int (0 : Int32)), .unset, .unset, .unset] [(.int x0)]))
  refine own_step (fun t k => XS.istore X1.here hx rfl (hb hby d2_30) rfl (l' := #[.val (.ref a1), .val (.ref a2), .val (.int (3 : Int32)), .val (.ref b1), .val (.ref a1), .val (.int (5 : Int32)), .val (.int (0 : Int32)), .val (.int x0), .unset, .unset]) rfl k) ?_
  show own_G p.tables e below _ (T1.setTop (mkF m 32 #[.val (.ref a1), .val (.ref a2), .val (.int (3 : Int32)), .val (.ref b1), .val (.ref a1), .val (.int (5 : Int32)), .val (.int (0 : Int32)), .val (.int x0), .unset, .unset] []))
  refine own_step (fun t k => XS.aloadN X1.here hx rfl (hb hby d2_32) rfl rfl k) ?_
  show own_G p.tables e below _ (T1.setTop (mkF m 33 #[.val (.ref a1), .val (.ref a2), .val (.int (3 : Int32)), .val (.ref b1), .val (.ref a1), .val (.int (5 : Int32)), .val (.int (0 : Int32)), .val (.int x0), .unset, .unset] [(.ref b1)]))
  refine own_step (fun t k => XS.iload X1.here hx rfl (hb hby d2_33) rfl k) ?_
  show own_G p.tables e below _ (T1.setTop (mkF m 35 #[.val (.ref a1), .val (.ref a2), .val (.int (3 : Int32)), .val (.ref b1), .val (.ref a1), .val (.int (5 : Int32)), .val (.int (0 : Int32)), .val (.int x0), .unset, .unset] [(.int x0), (.ref b1)]))
  refine own_step (B := T1.setTop (mkF m 36 #[.val (.ref a1), .val (.ref a2), .val (.int (3 : Int32)), .val (.ref b1), .val (.ref a1), .val (.int (5 : Int32)), .val (.int (0 : Int32)), .val (.int x0), .unset, .unset] [(.int x0), (.ref b1), (.int x0), (.ref b1)])) (fun t k => by
    jvm_step X1.here [X1.here.top, hx, (hb hby d2_35), Value.category]
    exact k) ?_
  show own_G p.tables e below _ (T1.setTop (mkF m 36 #[.val (.ref a1), .val (.ref a2), .val (.int (3 : Int32)), .val (.ref b1), .val (.ref a1), .val (.int (5 : Int32)), .val (.int (0 : Int32)), .val (.int x0), .unset, .unset] [(.int x0), (.ref b1), (.int x0), (.ref b1)]))
  refine own_step (own_iaload X1 hx hZ e1 c6 (own_i3 hx0 (by first | rfl | (simp only [own_inc_len]; rfl) | exact own_cs_len _ _ _ _ _)) (g := (mkF m 36 #[.val (.ref a1), .val (.ref a2), .val (.int (3 : Int32)), .val (.ref b1), .val (.ref a1), .val (.int (5 : Int32)), .val (.int (0 : Int32)), .val (.int x0), .unset, .unset] [(.int x0), (.ref b1), (.int x0), (.ref b1)])) rfl rfl (hb hby d2_36)) ?_
  show own_G p.tables e below _ (T1.setTop (mkF m 37 #[.val (.ref a1), .val (.ref a2), .val (.int (3 : Int32)), .val (.ref b1), .val (.ref a1), .val (.int (5 : Int32)), .val (.int (0 : Int32)), .val (.int x0), .unset, .unset] [(.int ([(0 : Int32), (0 : Int32), (0 : Int32)].getD x0.toNatClampNeg 0)), (.int x0), (.ref b1)]))
  refine own_step (fun t k => XS.iconst X1.here hx rfl (hb hby d2_37) k) ?_
  show own_G p.tables e below _ (T1.setTop (mkF m 38 #[.val (.ref a1), .val (.ref a2), .val (.int (3 : Int32)), .val (.ref b1), .val (.ref a1), .val (.int (5 : Int32)), .val (.int (0 : Int32)), .val (.int x0), .unset, .unset] [(.int (1 : Int32)), (.int ([(0 : Int32), (0 : Int32), (0 : Int32)].getD x0.toNatClampNeg 0)), (.int x0), (.ref b1)]))
  refine own_step (fun t k => XS.iadd X1.here hx rfl (hb hby d2_38) rfl k) ?_
  show own_G p.tables e below _ (T1.setTop (mkF m 39 #[.val (.ref a1), .val (.ref a2), .val (.int (3 : Int32)), .val (.ref b1), .val (.ref a1), .val (.int (5 : Int32)), .val (.int (0 : Int32)), .val (.int x0), .unset, .unset] [(.int (([(0 : Int32), (0 : Int32), (0 : Int32)].getD x0.toNatClampNeg 0) + (1 : Int32))), (.int x0), (.ref b1)]))
  obtain ⟨T8, h8, X8, e8, W8, c8, st8⟩ := own_iastore X1 hx hZ e1 c6 (own_i3 hx0 (by first | rfl | (simp only [own_inc_len]; rfl) | exact own_cs_len _ _ _ _ _)) (g := (mkF m 39 #[.val (.ref a1), .val (.ref a2), .val (.int (3 : Int32)), .val (.ref b1), .val (.ref a1), .val (.int (5 : Int32)), .val (.int (0 : Int32)), .val (.int x0), .unset, .unset] [(.int (([(0 : Int32), (0 : Int32), (0 : Int32)].getD x0.toNatClampNeg 0) + (1 : Int32))), (.int x0), (.ref b1)])) rfl rfl (hb hby d2_39)
  have N8 := Fr.snoc X8 N0 ge1
  have c9 : own_Ari Z h8 b1 .int ([(0 : Int32), (0 : Int32), (0 : Int32)].set x0.toNatClampNeg (([(0 : Int32), (0 : Int32), (0 : Int32)].getD x0.toNatClampNeg 0) + (1 : Int32))) := c8
  have c10 : own_Ari Z h8 a1 .int [x0, x1, x2, x3, x4] := c4.other W8 ne2
  have c11 : own_Ari Z h8 a2 .int [zz0, zz1, zz2] := c5.other W8 ne3
  have K8 : Keep h0 h8 [] := K1.wr W8 (Or.inr sz1)
  refine own_step st8 ?_
  clear A1 E1 K1 W8 X1 c4 c5 c6 c8 e1 g1 hk7 st1 st8
  show own_G p.tables e below _ (T8.setTop (mkF m 40 #[.val (.ref a1), .val (.ref a2), .val (.int (3 : Int32)), .val (.ref b1), .val (.ref a1), .val (.int (5 : Int32)), .val (.int (0 : Int32)), .val (.int x0), .unset, .unset] []))
  have c13 : own_Ari Z h8 b1 .int (own_inc [(0 : Int32), (0 : Int32), (0 : Int32)] x0) := c9
  refine own_step (fun t k => XS.iinc X8.here hx rfl (hb hby d2_40) rfl (l' := #[.val (.ref a1), .val (.ref a2), .val (.int (3 : Int32)), .val (.ref b1), .val (.ref a1), .val (.int (5 : Int32)), .val (.int (1 : Int32)), .val (.int x0), .unset, .unset]) rfl k) ?_
  show own_G p.tables e below _ (T8.setTop (mkF m 43 #[.val (.ref a1), .val (.ref a2), .val (.int (3 : Int32)), .val (.ref b1), .val (.ref a1), .val (.int (5 : Int32)), .val (.int (1 : Int32)), .val (.int x0), .unset, .unset] []))
  refine own_step (fun t k => XS.goto X8.here hx rfl (pc0 := 43) (pc' := 18) rfl (hb hby d2_43) (by decide) (by decide) k) ?_
  show own_G p.tables e below _ (T8.setTop (mkF m 18 #[.val (.ref a1), .val (.ref a2), .val (.int (3 : Int32)), .val (.ref b1), .val (.ref a1), .val (.int (5 : Int32)), .val (.int (1 : Int32)), .val (.int x0), .unset, .unset] []))
  refine own_step (fun t k => XS.iload X8.here hx rfl (hb hby d2_18) rfl k) ?_
  show own_G p.tables e below _ (T8.setTop (mkF m 20 #[.val (.ref a1), .val (.ref a2), .val (.int (3 : Int32)), .val (.ref b1), .val (.ref a1), .val (.int (5 : Int32)), .val (.int (1 : Int32)), .val (.int x0), .unset, .unset] [(.int (1 : Int32))]))
  refine own_step (fun t k => XS.iload X8.here hx rfl (hb hby d2_20) rfl k) ?_
  show own_G p.tables e below _ (T8.setTop (mkF m 22 #[.val (.ref a1), .val (.ref a2), .val (.int (3 : Int32)), .val (.ref b1), .val (.ref a1), .val (.int (5 : Int32)), .val (.int (1 : Int32)), .val (.int x0), .unset, .unset] [(.int (5 : Int32)), (.int (1 : Int32))]))
  have hk14 : (1 : Int32) < (5 : Int32) := (by decide)
  refine own_step (fun t k => XS.icmpNo X8.here hx rfl (hb hby d2_22) rfl ((tlt hk14).2.1) k) ?_
  show own_G p.tables e below _ (T8.setTop (mkF m 25 #[.val (.ref a1), .val (.ref a2), .val (.int (3 : Int32)), .val (.ref b1), .val (.ref a1), .val (.int (5 : Int32)), .val (.int (1 : Int32)), .val (.int x0), .unset, .unset] []))
  refine own_step (fun t k => XS.aload X8.here hx rfl (hb hby d2_25) rfl rfl k) ?_
  show own_G p.tables e below _ (T8.setTop (mkF m 27 #[.val (.ref a1), .val (.ref a2), .val (.int (3 : Int32)), .val (.ref b1), .val (.ref a1), .val (.int (5 : Int32)), .val (.int (1 : Int32)), .val (.int x0), .unset, .unset] [(.ref a1)]))
  refine own_step (fun t k => XS.iload X8.here hx rfl (hb hby d2_27) rfl k) ?_
  show own_G p.tables e below _ (T8.setTop (mkF m 29 #[.val (.ref a1), .val (.ref a2), .val (.int (3 : Int32)), .val (.ref b1), .val (.ref a1), .val (.int (5 : Int32)), .val (.int (1 : Int32)), .val (.int x0), .unset, .unset] [(.int (1 : Int32)), (.ref a1)]))
  refine own_step (own_iaload X8 hx hZ e8 c10 (own_inb (by decide) (Nat.le_of_ble_eq_true rfl)) (g := (mkF m 29 #[.val (.ref a1), .val (.ref a2), .val (.int (3 : Int32)), .val (.ref b1), .val (.ref a1), .val (.int (5 : Int32)), .val (.int (1 : Int32)), .val (.int x0), .unset, .unset] [(.int (1 : Int32)), (.ref a1)])) rfl rfl (hb hby d2_29)) ?_
  show own_G p.tables e below _ (T8.setTop (mkF m 30 #[.val (.ref a1), .val (.ref a2), .val (.int (3 : Int32)), .val (.ref b1), .val (.ref a1), .val (.int (5 : Int32)), .val (.int (1 : Int32)), .val (.int x0), .unset, .unset] [(.int x1)]))
  refine own_step (fun t k => XS.istore X8.here hx rfl (hb hby d2_30) rfl (l' := #[.val (.ref a1), .val (.ref a2), .val (.int (3 : Int32)), .val (.ref b1), .val (.ref a1), .val (.int (5 : Int32)), .val (.int (1 : Int32)), .val (.int x1), .unset, .unset]) rfl k) ?_
  show own_G p.tables e below _ (T8.setTop (mkF m 32 #[.val (.ref a1), .val (.ref a2), .val (.int (3 : Int32)), .val (.ref b1), .val (.ref a1), .val (.int (5 : Int32)), .val (.int (1 : Int32)), .val (.int x1), .unset, .unset] []))
  refine own_step (fun t k => XS.aloadN X8.here hx rfl (hb hby d2_32) rfl rfl k) ?_
  show own_G p.tables e below _ (T8.setTop (mkF m 33 #[.val (.ref a1), .val (.ref a2), .val (.int (3 : Int32)), .val (.ref b1), .val (.ref a1), .val (.int (5 : Int32)), .val (.int (1 : Int32)), .val (.int x1), .unset, .unset] [(.ref b1)]))
  refine own_step (fun t k => XS.iload X8.here hx rfl (hb hby d2_33) rfl k) ?_
  show own_G p.tables e below _ (T8.setTop (mkF m 35 #[.val (.ref a1), .val (.ref a2), .val (.int (3 : Int32)), .val (.ref b1), .val (.ref a1), .val (.int (5 : Int32)), .val (.int (1 : Int32)), .val (.int x1), .unset, .unset] [(.int x1), (.ref b1)]))
  refine own_step (B := T8.setTop (mkF m 36 #[.val (.ref a1), .val (.ref a2), .val (.int (3 : Int32)), .val (.ref b1), .val (.ref a1), .val (.int (5 : Int32)), .val (.int (1 : Int32)), .val (.int x1), .unset, .unset] [(.int x1), (.ref b1), (.int x1), (.ref b1)])) (fun t k => by
    jvm_step X8.here [X8.here.top, hx, (hb hby d2_35), Value.category]
    exact k) ?_
  show own_G p.tables e below _ (T8.setTop (mkF m 36 #[.val (.ref a1), .val (.ref a2), .val (.int (3 : Int32)), .val (.ref b1), .val (.ref a1), .val (.int (5 : Int32)), .val (.int (1 : Int32)), .val (.int x1), .unset, .unset] [(.int x1), (.ref b1), (.int x1), (.ref b1)]))
  refine own_step (own_iaload X8 hx hZ e8 c13 (own_i3 hx1 (by first | rfl | (simp only [own_inc_len]; rfl) | exact own_cs_len _ _ _ _ _)) (g := (mkF m 36 #[.val (.ref a1), .val (.ref a2), .val (.int (3 : Int32)), .val (.ref b1), .val (.ref a1), .val (.int (5 : Int32)), .val (.int (1 : Int32)), .val (.int x1), .unset, .unset] [(.int x1), (.ref b1), (.int x1), (.ref b1)])) rfl rfl (hb hby d2_36)) ?_
  show own_G p.tables e below _ (T8.setTop (mkF m 37 #[.val (.ref a1), .val (.ref a2), .val (.int (3 : Int32)), .val (.ref b1), .val (.ref a1), .val (.int (5 : Int32)), .val (.int (1 : Int32)), .val (.int x1), .unset, .unset] [(.int ((own_inc [(0 : Int32), (0 : Int32), (0 : Int32)] x0).getD x1.toNatClampNeg 0)), (.int x1), (.ref b1)]))
  refine own_step (fun t k => XS.iconst X8.here hx rfl (hb hby d2_37) k) ?_
  show own_G p.tables e below _ (T8.setTop (mkF m 38 #[.val (.ref a1), .val (.ref a2), .val (.int (3 : Int32)), .val (.ref b1), .val (.ref a1), .val (.int (5 : Int32)), .val (.int (1 : Int32)), .val (.int x1), .unset, .unset] [(.int (1 : Int32)), (.int ((own_inc [(0 : Int32), (0 : Int32), (0 : Int32)] x0).getD x1.toNatClampNeg 0)), (.int x1), (.ref b1)]))
  refine own_step (fun t k => XS.iadd X8.here hx rfl (hb hby d2_38) rfl k) ?_
  show own_G p.tables e below _ (T8.setTop (mkF m 39 #[.val (.ref a1), .val (.ref a2), .val (.int (3 : Int32)), .val (.ref b1), .val (.ref a1), .val (.int (5 : Int32)), .val (.int (1 : Int32)), .val (.int x1), .unset, .unset] [(.int (((own_inc [(0 : Int32), (0 : Int32), (0 : Int32)] x0).getD x1.toNatClampNeg 0) + (1 : Int32))), (.int x1), (.ref b1)]))
  obtain ⟨T15, h15, X15, e15, W15, c15, st15⟩ := own_iastore X8 hx hZ e8 c13 (own_i3 hx1 (by first | rfl | (simp only [own_inc_len]; rfl) | exact own_cs_len _ _ _ _ _)) (g := (mkF m 39 #[.val (.ref a1), .val (.ref a2), .val (.int (3 : Int32)), .val (.ref b1), .val (.ref a1), .val (.int (5 : Int32)), .val (.int (1 : Int32)), .val (.int x1), .unset, .unset] [(.int (((own_inc [(0 : Int32), (0 : Int32), (0 : Int32)] x0).getD x1.toNatClampNeg 0) + (1 : Int32))), (.int x1), (.ref b1)])) rfl rfl (hb hby d2_39)
  have N15 := Fr.snoc X15 N8 ge1
  have c16 : own_Ari Z h15 b1 .int ((own_inc [(0 : Int32), (0 : Int32), (0 : Int32)] x0).set x1.toNatClampNeg (((own_inc [(0 : Int32), (0 : Int32), (0 : Int32)] x0).getD x1.toNatClampNeg 0) + (1 : Int32))) := c15
  have c17 : own_Ari Z h15 a1 .int [x0, x1, x2, x3, x4] := c10.other W15 ne2
  have c18 : own_Ari Z h15 a2 .int [zz0, zz1, zz2] := c11.other W15 ne3
  have K15 : Keep h0 h15 [] := K8.wr W15 (Or.inr sz1)
  refine own_step st15 ?_
  clear K8 N8 W15 X8 c10 c11 c13 c15 c9 e8 hk14 st15
  show own_G p.tables e below _ (T15.setTop (mkF m 40 #[.val (.ref a1), .val (.ref a2), .val (.int (3 : Int32)), .val (.ref b1), .val (.ref a1), .val (.int (5 : Int32)), .val (.int (1 : Int32)), .val (.int x1), .unset, .unset] []))
  have c20 : own_Ari Z h15 b1 .int (own_inc (own_inc [(0 : Int32), (0 : Int32), (0 : Int32)] x0) x1) := c16
  refine own_step (fun t k => XS.iinc X15.here hx rfl (hb hby d2_40) rfl (l' := #[.val (.ref a1), .val (.ref a2), .val (.int (3 : Int32)), .val (.ref b1), .val (.ref a1), .val (.int (5 : Int32)), .val (.int (2 : Int32)), .val (.int x1), .unset, .unset]) rfl k) ?_
  show own_G p.tables e below _ (T15.setTop (mkF m 43 #[.val (.ref a1), .val (.ref a2), .val (.int (3 : Int32)), .val (.ref b1), .val (.ref a1), .val (.int (5 : Int32)), .val (.int (2 : Int32)), .val (.int x1), .unset, .unset] []))
  refine own_step (fun t k => XS.goto X15.here hx rfl (pc0 := 43) (pc' := 18) rfl (hb hby d2_43) (by decide) (by decide) k) ?_
  show own_G p.tables e below _ (T15.setTop (mkF m 18 #[.val (.ref a1), .val (.ref a2), .val (.int (3 : Int32)), .val (.ref b1), .val (.ref a1), .val (.int (5 : Int32)), .val (.int (2 : Int32)), .val (.int x1), .unset, .unset] []))
  refine own_step (fun t k => XS.iload X15.here hx rfl (hb hby d2_18) rfl k) ?_
  show own_G p.tables e below _ (T15.setTop (mkF m 20 #[.val (.ref a1), .val (.ref a2), .val (.int (3 : Int32)), .val (.ref b1), .val (.ref a1), .val (.int (5 : Int32)), .val (.int (2 : Int32)), .val (.int x1), .unset, .unset] [(.int (2 : Int32))]))
  refine own_step (fun t k => XS.iload X15.here hx rfl (hb hby d2_20) rfl k) ?_
  show own_G p.tables e below _ (T15.setTop (mkF m 22 #[.val (.ref a1), .val (.ref a2), .val (.int (3 : Int32)), .val (.ref b1), .val (.ref a1), .val (.int (5 : Int32)), .val (.int (2 : Int32)), .val (.int x1), .unset, .unset] [(.int (5 : Int32)), (.int (2 : Int32))]))
  have hk21 : (2 : Int32) < (5 : Int32) := (by decide)
  refine own_step (fun t k => XS.icmpNo X15.here hx rfl (hb hby d2_22) rfl ((tlt hk21).2.1) k) ?_
  show own_G p.tables e below _ (T15.setTop (mkF m 25 #[.val (.ref a1), .val (.ref a2), .val (.int (3 : Int32)), .val (.ref b1), .val (.ref a1), .val (.int (5 : Int32)), .val (.int (2 : Int32)), .val (.int x1), .unset, .unset] []))
  refine own_step (fun t k => XS.aload X15.here hx rfl (hb hby d2_25) rfl rfl k) ?_
  show own_G p.tables e below _ (T15.setTop (mkF m 27 #[.val (.ref a1), .val (.ref a2), .val (.int (3 : Int32)), .val (.ref b1), .val (.ref a1), .val (.int (5 : Int32)), .val (.int (2 : Int32)), .val (.int x1), .unset, .unset] [(.ref a1)]))
  refine own_step (fun t k => XS.iload X15.here hx rfl (hb hby d2_27) rfl k) ?_
  show own_G p.tables e below _ (T15.setTop (mkF m 29 #[.val (.ref a1), .val (.ref a2), .val (.int (3 : Int32)), .val (.ref b1), .val (.ref a1), .val (.int (5 : Int32)), .val (.int (2 : Int32)), .val (.int x1), .unset, .unset] [(.int (2 : Int32)), (.ref a1)]))
  refine own_step (own_iaload X15 hx hZ e15 c17 (own_inb (by decide) (Nat.le_of_ble_eq_true rfl)) (g := (mkF m 29 #[.val (.ref a1), .val (.ref a2), .val (.int (3 : Int32)), .val (.ref b1), .val (.ref a1), .val (.int (5 : Int32)), .val (.int (2 : Int32)), .val (.int x1), .unset, .unset] [(.int (2 : Int32)), (.ref a1)])) rfl rfl (hb hby d2_29)) ?_
  show own_G p.tables e below _ (T15.setTop (mkF m 30 #[.val (.ref a1), .val (.ref a2), .val (.int (3 : Int32)), .val (.ref b1), .val (.ref a1), .val (.int (5 : Int32)), .val (.int (2 : Int32)), .val (.int x1), .unset, .unset] [(.int x2)]))
  refine own_step (fun t k => XS.istore X15.here hx rfl (hb hby d2_30) rfl (l' := #[.val (.ref a1), .val (.ref a2), .val (.int (3 : Int32)), .val (.ref b1), .val (.ref a1), .val (.int (5 : Int32)), .val (.int (2 : Int32)), .val (.int x2), .unset, .unset]) rfl k) ?_
  show own_G p.tables e below _ (T15.setTop (mkF m 32 #[.val (.ref a1), .val (.ref a2), .val (.int (3 : Int32)), .val (.ref b1), .val (.ref a1), .val (.int (5 : Int32)), .val (.int (2 : Int32)), .val (.int x2), .unset, .unset] []))
  refine own_step (fun t k => XS.aloadN X15.here hx rfl (hb hby d2_32) rfl rfl k) ?_
  show own_G p.tables e below _ (T15.setTop (mkF m 33 #[.val (.ref a1), .val (.ref a2), .val (.int (3 : Int32)), .val (.ref b1), .val (.ref a1), .val (.int (5 : Int32)), .val (.int (2 : Int32)), .val (.int x2), .unset, .unset] [(.ref b1)]))
  refine own_step (fun t k => XS.iload X15.here hx rfl (hb hby d2_33) rfl k) ?_
  show own_G p.tables e below _ (T15.setTop (mkF m 35 #[.val (.ref a1), .val (.ref a2), .val (.int (3 : Int32)), .val (.ref b1), .val (.ref a1), .val (.int (5 : Int32)), .val (.int (2 : Int32)), .val (.int x2), .unset, .unset] [(.int x2), (.ref b1)]))
  refine own_step (B := T15.setTop (mkF m 36 #[.val (.ref a1), .val (.ref a2), .val (.int (3 : Int32)), .val (.ref b1), .val (.ref a1), .val (.int (5 : Int32)), .val (.int (2 : Int32)), .val (.int x2), .unset, .unset] [(.int x2), (.ref b1), (.int x2), (.ref b1)])) (fun t k => by
    jvm_step X15.here [X15.here.top, hx, (hb hby d2_35), Value.category]
    exact k) ?_
  show own_G p.tables e below _ (T15.setTop (mkF m 36 #[.val (.ref a1), .val (.ref a2), .val (.int (3 : Int32)), .val (.ref b1), .val (.ref a1), .val (.int (5 : Int32)), .val (.int (2 : Int32)), .val (.int x2), .unset, .unset] [(.int x2), (.ref b1), (.int x2), (.ref b1)]))
  refine own_step (own_iaload X15 hx hZ e15 c20 (own_i3 hx2 (by first | rfl | (simp only [own_inc_len]; rfl) | exact own_cs_len _ _ _ _ _)) (g := (mkF m 36 #[.val (.ref a1), .val (.ref a2), .val (.int (3 : Int32)), .val (.ref b1), .val (.ref a1), .val (.int (5 : Int32)), .val (.int (2 : Int32)), .val (.int x2), .unset, .unset] [(.int x2), (.ref b1), (.int x2), (.ref b1)])) rfl rfl (hb hby d2_36)) ?_
  show own_G p.tables e below _ (T15.setTop (mkF m 37 #[.val (.ref a1), .val (.ref a2), .val (.int (3 : Int32)), .val (.ref b1), .val (.ref a1), .val (.int (5 : Int32)), .val (.int (2 : Int32)), .val (.int x2), .unset, .unset] [(.int ((own_inc (own_inc [(0 : Int32), (0 : Int32), (0 : Int32)] x0) x1).getD x2.toNatClampNeg 0)), (.int x2), (.ref b1)]))
  refine own_step (fun t k => XS.iconst X15.here hx rfl (hb hby d2_37) k) ?_
  show own_G p.tables e below _ (T15.setTop (mkF m 38 #[.val (.ref a1), .val (.ref a2), .val (.int (3 : Int32)), .val (.ref b1), .val (.ref a1), .val (.int (5 : Int32)), .val (.int (2 : Int32)), .val (.int x2), .unset, .unset] [(.int (1 : Int32)), (.int ((own_inc (own_inc [(0 : Int32), (0 : Int32), (0 : Int32)] x0) x1).getD x2.toNatClampNeg 0)), (.int x2), (.ref b1)]))
  refine own_step (fun t k => XS.iadd X15.here hx rfl (hb hby d2_38) rfl k) ?_
  show own_G p.tables e below _ (T15.setTop (mkF m 39 #[.val (.ref a1), .val (.ref a2), .val (.int (3 : Int32)), .val (.ref b1), .val (.ref a1), .val (.int (5 : Int32)), .val (.int (2 : Int32)), .val (.int x2), .unset, .unset] [(.int (((own_inc (own_inc [(0 : Int32), (0 : Int32), (0 : Int32)] x0) x1).getD x2.toNatClampNeg 0) + (1 : Int32))), (.int x2), (.ref b1)]))
  obtain ⟨T22, h22, X22, e22, W22, c22, st22⟩ := own_iastore X15 hx hZ e15 c20 (own_i3 hx2 (by first | rfl | (simp only [own_inc_len]; rfl) | exact own_cs_len _ _ _ _ _)) (g := (mkF m 39 #[.val (.ref a1), .val (.ref a2), .val (.int (3 : Int32)), .val (.ref b1), .val (.ref a1), .val (.int (5 : Int32)), .val (.int (2 : Int32)), .val (.int x2), .unset, .unset] [(.int (((own_inc (own_inc [(0 : Int32), (0 : Int32), (0 : Int32)] x0) x1).getD x2.toNatClampNeg 0) + (1 : Int32))), (.int x2), (.ref b1)])) rfl rfl (hb hby d2_39)
  have N22 := Fr.snoc X22 N15 ge1
  have c23 : own_Ari Z h22 b1 .int ((own_inc (own_inc [(0 : Int32), (0 : Int32), (0 : Int32)] x0) x1).set x2.toNatClampNeg (((own_inc (own_inc [(0 : Int32), (0 : Int32), (0 : Int32)] x0) x1).getD x2.toNatClampNeg 0) + (1 : Int32))) := c22
  have c24 : own_Ari Z h22 a1 .int [x0, x1, x2, x3, x4] := c17.other W22 ne2
  have c25 : own_Ari Z h22 a2 .int [zz0, zz1, zz2] := c18.other W22 ne3
  have K22 : Keep h0 h22 [] := K15.wr W22 (Or.inr sz1)
  refine own_step st22 ?_
  clear K15 N15 W22 X15 c16 c17 c18 c20 c22 e15 hk21 st22
  show own_G p.tables e below _ (T22.setTop (mkF m 40 #[.val (.ref a1), .val (.ref a2), .val (.int (3 : Int32)), .val (.ref b1), .val (.ref a1), .val (.int (5 : Int32)), .val (.int (2 : Int32)), .val (.int x2), .unset, .unset] []))
  have c27 : own_Ari Z h22 b1 .int (own_inc (own_inc (own_inc [(0 : Int32), (0 : Int32), (0 : Int32)] x0) x1) x2) := c23
  refine own_step (fun t k => XS.iinc X22.here hx rfl (hb hby d2_40) rfl (l' := #[.val (.ref a1), .val (.ref a2), .val (.int (3 : Int32)), .val (.ref b1), .val (.ref a1), .val (.int (5 : Int32)), .val (.int (3 : Int32)), .val (.int x2), .unset, .unset]) rfl k) ?_
  show own_G p.tables e below _ (T22.setTop (mkF m 43 #[.val (.ref a1), .val (.ref a2), .val (.int (3 : Int32)), .val (.ref b1), .val (.ref a1), .val (.int (5 : Int32)), .val (.int (3 : Int32)), .val (.int x2), .unset, .unset] []))
  refine own_step (fun t k => XS.goto X22.here hx rfl (pc0 := 43) (pc' := 18) rfl (hb hby d2_43) (by decide) (by decide) k) ?_
  show own_G p.tables e below _ (T22.setTop (mkF m 18 #[.val (.ref a1), .val (.ref a2), .val (.int (3 : Int32)), .val (.ref b1), .val (.ref a1), .val (.int (5 : Int32)), .val (.int (3 : Int32)), .val (.int x2), .unset, .unset] []))
  refine own_step (fun t k => XS.iload X22.here hx rfl (hb hby d2_18) rfl k) ?_
  show own_G p.tables e below _ (T22.setTop (mkF m 20 #[.val (.ref a1), .val (.ref a2), .val (.int (3 : Int32)), .val (.ref b1), .val (.ref a1), .val (.int (5 : Int32)), .val (.int (3 : Int32)), .val (.int x2), .unset, .unset] [(.int (3 : Int32))]))
  refine own_step (fun t k => XS.iload X22.here hx rfl (hb hby d2_20) rfl k) ?_
  show own_G p.tables e below _ (T22.setTop (mkF m 22 #[.val (.ref a1), .val (.ref a2), .val (.int (3 : Int32)), .val (.ref b1), .val (.ref a1), .val (.int (5 : Int32)), .val (.int (3 : Int32)), .val (.int x2), .unset, .unset] [(.int (5 : Int32)), (.int (3 : Int32))]))
  have hk28 : (3 : Int32) < (5 : Int32) := (by decide)
  refine own_step (fun t k => XS.icmpNo X22.here hx rfl (hb hby d2_22) rfl ((tlt hk28).2.1) k) ?_
  show own_G p.tables e below _ (T22.setTop (mkF m 25 #[.val (.ref a1), .val (.ref a2), .val (.int (3 : Int32)), .val (.ref b1), .val (.ref a1), .val (.int (5 : Int32)), .val (.int (3 : Int32)), .val (.int x2), .unset, .unset] []))
  refine own_step (fun t k => XS.aload X22.here hx rfl (hb hby d2_25) rfl rfl k) ?_
  show own_G p.tables e below _ (T22.setTop (mkF m 27 #[.val (.ref a1), .val (.ref a2), .val (.int (3 : Int32)), .val (.ref b1), .val (.ref a1), .val (.int (5 : Int32)), .val (.int (3 : Int32)), .val (.int x2), .unset, .unset] [(.ref a1)]))
  refine own_step (fun t k => XS.iload X22.here hx rfl (hb hby d2_27) rfl k) ?_
  show own_G p.tables e below _ (T22.setTop (mkF m 29 #[.val (.ref a1), .val (.ref a2), .val (.int (3 : Int32)), .val (.ref b1), .val (.ref a1), .val (.int (5 : Int32)), .val (.int (3 : Int32)), .val (.int x2), .unset, .unset] [(.int (3 : Int32)), (.ref a1)]))
  refine own_step (own_iaload X22 hx hZ e22 c24 (own_inb (by decide) (Nat.le_of_ble_eq_true rfl)) (g := (mkF m 29 #[.val (.ref a1), .val (.ref a2), .val (.int (3 : Int32)), .val (.ref b1), .val (.ref a1), .val (.int (5 : Int32)), .val (.int (3 : Int32)), .val (.int x2), .unset, .unset] [(.int (3 : Int32)), (.ref a1)])) rfl rfl (hb hby d2_29)) ?_
  show own_G p.tables e below _ (T22.setTop (mkF m 30 #[.val (.ref a1), .val (.ref a2), .val (.int (3 : Int32)), .val (.ref b1), .val (.ref a1), .val (.int (5 : Int32)), .val (.int (3 : Int32)), .val (.int x2), .unset, .unset] [(.int x3)]))
  refine own_step (fun t k => XS.istore X22.here hx rfl (hb hby d2_30) rfl (l' := #[.val (.ref a1), .val (.ref a2), .val (.int (3 : Int32)), .val (.ref b1), .val (.ref a1), .val (.int (5 : Int32)), .val (.int (3 : Int32)), .val (.int x3), .unset, .unset]) rfl k) ?_
  show own_G p.tables e below _ (T22.setTop (mkF m 32 #[.val (.ref a1), .val (.ref a2), .val (.int (3 : Int32)), .val (.ref b1), .val (.ref a1), .val (.int (5 : Int32)), .val (.int (3 : Int32)), .val (.int x3), .unset, .unset] []))
  refine own_step (fun t k => XS.aloadN X22.here hx rfl (hb hby d2_32) rfl rfl k) ?_
  show own_G p.tables e below _ (T22.setTop (mkF m 33 #[.val (.ref a1), .val (.ref a2), .val (.int (3 : Int32)), .val (.ref b1), .val (.ref a1), .val (.int (5 : Int32)), .val (.int (3 : Int32)), .val (.int x3), .unset, .unset] [(.ref b1)]))
  refine own_step (fun t k => XS.iload X22.here hx rfl (hb hby d2_33) rfl k) ?_
  show own_G p.tables e below _ (T22.setTop (mkF m 35 #[.val (.ref a1), .val (.ref a2), .val (.int (3 : Int32)), .val (.ref b1), .val (.ref a1), .val (.int (5 : Int32)), .val (.int (3 : Int32)), .val (.int x3), .unset, .unset] [(.int x3), (.ref b1)]))
  refine own_step (B := T22.setTop (mkF m 36 #[.val (.ref a1), .val (.ref a2), .val (.int (3 : Int32)), .val (.ref b1), .val (.ref a1), .val (.int (5 : Int32)), .val (.int (3 : Int32)), .val (.int x3), .unset, .unset] [(.int x3), (.ref b1), (.int x3), (.ref b1)])) (fun t k => by
    jvm_step X22.here [X22.here.top, hx, (hb hby d2_35), Value.category]
    exact k) ?_
  show own_G p.tables e below _ (T22.setTop (mkF m 36 #[.val (.ref a1), .val (.ref a2), .val (.int (3 : Int32)), .val (.ref b1), .val (.ref a1), .val (.int (5 : Int32)), .val (.int (3 : Int32)), .val (.int x3), .unset, .unset] [(.int x3), (.ref b1), (.int x3), (.ref b1)]))
  refine own_step (own_iaload X22 hx hZ e22 c27 (own_i3 hx3 (by first | rfl | (simp only [own_inc_len]; rfl) | exact own_cs_len _ _ _ _ _)) (g := (mkF m 36 #[.val (.ref a1), .val (.ref a2), .val (.int (3 : Int32)), .val (.ref b1), .val (.ref a1), .val (.int (5 : Int32)), .val (.int (3 : Int32)), .val (.int x3), .unset, .unset] [(.int x3), (.ref b1), (.int x3), (.ref b1)])) rfl rfl (hb hby d2_36)) ?_
  show own_G p.tables e below _ (T22.setTop (mkF m 37 #[.val (.ref a1), .val (.ref a2), .val (.int (3 : Int32)), .val (.ref b1), .val (.ref a1), .val (.int (5 : Int32)), .val (.int (3 : Int32)), .val (.int x3), .unset, .unset] [(.int ((own_inc (own_inc (own_inc [(0 : Int32), (0 : Int32), (0 : Int32)] x0) x1) x2).getD x3.toNatClampNeg 0)), (.int x3), (.ref b1)]))
  refine own_step (fun t k => XS.iconst X22.here hx rfl (hb hby d2_37) k) ?_
  show own_G p.tables e below _ (T22.setTop (mkF m 38 #[.val (.ref a1), .val (.ref a2), .val (.int (3 : Int32)), .val (.ref b1), .val (.ref a1), .val (.int (5 : Int32)), .val (.int (3 : Int32)), .val (.int x3), .unset, .unset] [(.int (1 : Int32)), (.int ((own_inc (own_inc (own_inc [(0 : Int32), (0 : Int32), (0 : Int32)] x0) x1) x2).getD x3.toNatClampNeg 0)), (.int x3), (.ref b1)]))
  refine own_step (fun t k => XS.iadd X22.here hx rfl (hb hby d2_38) rfl k) ?_
  show own_G p.tables e below _ (T22.setTop (mkF m 39 #[.val (.ref a1), .val (.ref a2), .val (.int (3 : Int32)), .val (.ref b1), .val (.ref a1), .val (.int (5 : Int32)), .val (.int (3 : Int32)), .val (.int x3), .unset, .unset] [(.int (((own_inc (own_inc (own_inc [(0 : Int32), (0 : Int32), (0 : Int32)] x0) x1) x2).getD x3.toNatClampNeg 0) + (1 : Int32))), (.int x3), (.ref b1)]))
  obtain ⟨T29, h29, X29, e29, W29, c29, st29⟩ := own_iastore X22 hx hZ e22 c27 (own_i3 hx3 (by first | rfl | (simp only [own_inc_len]; rfl) | exact own_cs_len _ _ _ _ _)) (g := (mkF m 39 #[.val (.ref a1), .val (.ref a2), .val (.int (3 : Int32)), .val (.ref b1), .val (.ref a1), .val (.int (5 : Int32)), .val (.int (3 : Int32)), .val (.int x3), .unset, .unset] [(.int (((own_inc (own_inc (own_inc [(0 : Int32), (0 : Int32), (0 : Int32)] x0) x1) x2).getD x3.toNatClampNeg 0) + (1 : Int32))), (.int x3), (.ref b1)])) rfl rfl (hb hby d2_39)
  have N29 := Fr.snoc X29 N22 ge1
  have c30 : own_Ari Z h29 b1 .int ((own_inc (own_inc (own_inc [(0 : Int32), (0 : Int32), (0 : Int32)] x0) x1) x2).set x3.toNatClampNeg (((own_inc (own_inc (own_inc [(0 : Int32), (0 : Int32), (0 : Int32)] x0) x1) x2).getD x3.toNatClampNeg 0) + (1 : Int32))) := c29
  have c31 : own_Ari Z h29 a1 .int [x0, x1, x2, x3, x4] := c24.other W29 ne2
  have c32 : own_Ari Z h29 a2 .int [zz0, zz1, zz2] := c25.other W29 ne3
  have K29 : Keep h0 h29 [] := K22.wr W29 (Or.inr sz1)
  refine own_step st29 ?_
  clear K22 N22 W29 X22 c23 c24 c25 c27 c29 e22 hk28 st29
  show own_G p.tables e below _ (T29.setTop (mkF m 40 #[.val (.ref a1), .val (.ref a2), .val (.int (3 : Int32)), .val (.ref b1), .val (.ref a1), .val (.int (5 : Int32)), .val (.int (3 : Int32)), .val (.int x3), .unset, .unset] []))
  have c34 : own_Ari Z h29 b1 .int (own_inc (own_inc (own_inc (own_inc [(0 : Int32), (0 : Int32), (0 : Int32)] x0) x1) x2) x3) := c30
  refine own_step (fun t k => XS.iinc X29.here hx rfl (hb hby d2_40) rfl (l' := #[.val (.ref a1), .val (.ref a2), .val (.int (3 : Int32)), .val (.ref b1), .val (.ref a1), .val (.int (5 : Int32)), .val (.int (4 : Int32)), .val (.int x3), .unset, .unset]) rfl k) ?_
  show own_G p.tables e below _ (T29.setTop (mkF m 43 #[.val (.ref a1), .val (.ref a2), .val (.int (3 : Int32)), .val (.ref b1), .val (.ref a1), .val (.int (5 : Int32)), .val (.int (4 : Int32)), .val (.int x3), .unset, .unset] []))
  refine own_step (fun t k => XS.goto X29.here hx rfl (pc0 := 43) (pc' := 18) rfl (hb hby d2_43) (by decide) (by decide) k) ?_
  show own_G p.tables e below _ (T29.setTop (mkF m 18 #[.val (.ref a1), .val (.ref a2), .val (.int (3 : Int32)), .val (.ref b1), .val (.ref a1), .val (.int (5 : Int32)), .val (.int (4 : Int32)), .val (.int x3), .unset, .unset] []))
  refine own_step (fun t k => XS.iload X29.here hx rfl (hb hby d2_18) rfl k) ?_
  show own_G p.tables e below _ (T29.setTop (mkF m 20 #[.val (.ref a1), .val (.ref a2), .val (.int (3 : Int32)), .val (.ref b1), .val (.ref a1), .val (.int (5 : Int32)), .val (.int (4 : Int32)), .val (.int x3), .unset, .unset] [(.int (4 : Int32))]))
  refine own_step (fun t k => XS.iload X29.here hx rfl (hb hby d2_20) rfl k) ?_
  show own_G p.tables e below _ (T29.setTop (mkF m 22 #[.val (.ref a1), .val (.ref a2), .val (.int (3 : Int32)), .val (.ref b1), .val (.ref a1), .val (.int (5 : Int32)), .val (.int (4 : Int32)), .val (.int x3), .unset, .unset] [(.int (5 : Int32)), (.int (4 : Int32))]))
  have hk35 : (4 : Int32) < (5 : Int32) := (by decide)
  refine own_step (fun t k => XS.icmpNo X29.here hx rfl (hb hby d2_22) rfl ((tlt hk35).2.1) k) ?_
  show own_G p.tables e below _ (T29.setTop (mkF m 25 #[.val (.ref a1), .val (.ref a2), .val (.int (3 : Int32)), .val (.ref b1), .val (.ref a1), .val (.int (5 : Int32)), .val (.int (4 : Int32)), .val (.int x3), .unset, .unset] []))
  refine own_step (fun t k => XS.aload X29.here hx rfl (hb hby d2_25) rfl rfl k) ?_
  show own_G p.tables e below _ (T29.setTop (mkF m 27 #[.val (.ref a1), .val (.ref a2), .val (.int (3 : Int32)), .val (.ref b1), .val (.ref a1), .val (.int (5 : Int32)), .val (.int (4 : Int32)), .val (.int x3), .unset, .unset] [(.ref a1)]))
  refine own_step (fun t k => XS.iload X29.here hx rfl (hb hby d2_27) rfl k) ?_
  show own_G p.tables e below _ (T29.setTop (mkF m 29 #[.val (.ref a1), .val (.ref a2), .val (.int (3 : Int32)), .val (.ref b1), .val (.ref a1), .val (.int (5 : Int32)), .val (.int (4 : Int32)), .val (.int x3), .unset, .unset] [(.int (4 : Int32)), (.ref a1)]))
  refine own_step (own_iaload X29 hx hZ e29 c31 (own_inb (by decide) (Nat.le_of_ble_eq_true rfl)) (g := (mkF m 29 #[.val (.ref a1), .val (.ref a2), .val (.int (3 : Int32)), .val (.ref b1), .val (.ref a1), .val (.int (5 : Int32)), .val (.int (4 : Int32)), .val (.int x3), .unset, .unset] [(.int (4 : Int32)), (.ref a1)])) rfl rfl (hb hby d2_29)) ?_
  show own_G p.tables e below _ (T29.setTop (mkF m 30 #[.val (.ref a1), .val (.ref a2), .val (.int (3 : Int32)), .val (.ref b1), .val (.ref a1), .val (.int (5 : Int32)), .val (.int (4 : Int32)), .val (.int x3), .unset, .unset] [(.int x4)]))
  refine own_step (fun t k => XS.istore X29.here hx rfl (hb hby d2_30) rfl (l' := #[.val (.ref a1), .val (.ref a2), .val (.int (3 : Int32)), .val (.ref b1), .val (.ref a1), .val (.int (5 : Int32)), .val (.int (4 : Int32)), .val (.int x4), .unset, .unset]) rfl k) ?_
  show own_G p.tables e below _ (T29.setTop (mkF m 32 #[.val (.ref a1), .val (.ref a2), .val (.int (3 : Int32)), .val (.ref b1), .val (.ref a1), .val (.int (5 : Int32)), .val (.int (4 : Int32)), .val (.int x4), .unset, .unset] []))
  refine own_step (fun t k => XS.aloadN X29.here hx rfl (hb hby d2_32) rfl rfl k) ?_
  show own_G p.tables e below _ (T29.setTop (mkF m 33 #[.val (.ref a1), .val (.ref a2), .val (.int (3 : Int32)), .val (.ref b1), .val (.ref a1), .val (.int (5 : Int32)), .val (.int (4 : Int32)), .val (.int x4), .unset, .unset] [(.ref b1)]))
  refine own_step (fun t k => XS.iload X29.here hx rfl (hb hby d2_33) rfl k) ?_
  show own_G p.tables e below _ (T29.setTop (mkF m 35 #[.val (.ref a1), .val (.ref a2), .val (.int (3 : Int32)), .val (.ref b1), .val (.ref a1), .val (.int (5 : Int32)), .val (.int (4 : Int32)), .val (.int x4), .unset, .unset] [(.int x4), (.ref b1)]))
  refine own_step (B := T29.setTop (mkF m 36 #[.val (.ref a1), .val (.ref a2), .val (.int (3 : Int32)), .val (.ref b1), .val (.ref a1), .val (.int (5 : Int32)), .val (.int (4 : Int32)), .val (.int x4), .unset, .unset] [(.int x4), (.ref b1), (.int x4), (.ref b1)])) (fun t k => by
    jvm_step X29.here [X29.here.top, hx, (hb hby d2_35), Value.category]
    exact k) ?_
  show own_G p.tables e below _ (T29.setTop (mkF m 36 #[.val (.ref a1), .val (.ref a2), .val (.int (3 : Int32)), .val (.ref b1), .val (.ref a1), .val (.int (5 : Int32)), .val (.int (4 : Int32)), .val (.int x4), .unset, .unset] [(.int x4), (.ref b1), (.int x4), (.ref b1)]))
  refine own_step (own_iaload X29 hx hZ e29 c34 (own_i3 hx4 (by first | rfl | (simp only [own_inc_len]; rfl) | exact own_cs_len _ _ _ _ _)) (g := (mkF m 36 #[.val (.ref a1), .val (.ref a2), .val (.int (3 : Int32)), .val (.ref b1), .val (.ref a1), .val (.int (5 : Int32)), .val (.int (4 : Int32)), .val (.int x4), .unset, .unset] [(.int x4), (.ref b1), (.int x4), (.ref b1)])) rfl rfl (hb hby d2_36)) ?_
  show own_G p.tables e below _ (T29.setTop (mkF m 37 #[.val (.ref a1), .val (.ref a2), .val (.int (3 : Int32)), .val (.ref b1), .val (.ref a1), .val (.int (5 : Int32)), .val (.int (4 : Int32)), .val (.int x4), .unset, .unset] [(.int ((own_inc (own_inc (own_inc (own_inc [(0 : Int32), (0 : Int32), (0 : Int32)] x0) x1) x2) x3).getD x4.toNatClampNeg 0)), (.int x4), (.ref b1)]))
  refine own_step (fun t k => XS.iconst X29.here hx rfl (hb hby d2_37) k) ?_
  show own_G p.tables e below _ (T29.setTop (mkF m 38 #[.val (.ref a1), .val (.ref a2), .val (.int (3 : Int32)), .val (.ref b1), .val (.ref a1), .val (.int (5 : Int32)), .val (.int (4 : Int32)), .val (.int x4), .unset, .unset] [(.int (1 : Int32)), (.int ((own_inc (own_inc (own_inc (own_inc [(0 : Int32), (0 : Int32), (0 : Int32)] x0) x1) x2) x3).getD x4.toNatClampNeg 0)), (.int x4), (.ref b1)]))
  refine own_step (fun t k => XS.iadd X29.here hx rfl (hb hby d2_38) rfl k) ?_
  show own_G p.tables e below _ (T29.setTop (mkF m 39 #[.val (.ref a1), .val (.ref a2), .val (.int (3 : Int32)), .val (.ref b1), .val (.ref a1), .val (.int (5 : Int32)), .val (.int (4 : Int32)), .val (.int x4), .unset, .unset] [(.int (((own_inc (own_inc (own_inc (own_inc [(0 : Int32), (0 : Int32), (0 : Int32)] x0) x1) x2) x3).getD x4.toNatClampNeg 0) + (1 : Int32))), (.int x4), (.ref b1)]))
  obtain ⟨T36, h36, X36, e36, W36, c36, st36⟩ := own_iastore X29 hx hZ e29 c34 (own_i3 hx4 (by first | rfl | (simp only [own_inc_len]; rfl) | exact own_cs_len _ _ _ _ _)) (g := (mkF m 39 #[.val (.ref a1), .val (.ref a2), .val (.int (3 : Int32)), .val (.ref b1), .val (.ref a1), .val (.int (5 : Int32)), .val (.int (4 : Int32)), .val (.int x4), .unset, .unset] [(.int (((own_inc (own_inc (own_inc (own_inc [(0 : Int32), (0 : Int32), (0 : Int32)] x0) x1) x2) x3).getD x4.toNatClampNeg 0) + (1 : Int32))), (.int x4), (.ref b1)])) rfl rfl (hb hby d2_39)
  have N36 := Fr.snoc X36 N29 ge1
  have c37 : own_Ari Z h36 b1 .int ((own_inc (own_inc (own_inc (own_inc [(0 : Int32), (0 : Int32), (0 : Int32)] x0) x1) x2) x3).set x4.toNatClampNeg (((own_inc (own_inc (own_inc (own_inc [(0 : Int32), (0 : Int32), (0 : Int32)] x0) x1) x2) x3).getD x4.toNatClampNeg 0) + (1 : Int32))) := c36
  have c38 : own_Ari Z h36 a1 .int [x0, x1, x2, x3, x4] := c31.other W36 ne2
  have c39 : own_Ari Z h36 a2 .int [zz0, zz1, zz2] := c32.other W36 ne3
  have K36 : Keep h0 h36 [] := K29.wr W36 (Or.inr sz1)
  refine own_step st36 ?_
  clear K29 N29 W36 X29 c30 c31 c32 c34 c36 e29 hk35 st36
  show own_G p.tables e below _ (T36.setTop (mkF m 40 #[.val (.ref a1), .val (.ref a2), .val (.int (3 : Int32)), .val (.ref b1), .val (.ref a1), .val (.int (5 : Int32)), .val (.int (4 : Int32)), .val (.int x4), .unset, .unset] []))
  have c41 : own_Ari Z h36 b1 .int (own_inc (own_inc (own_inc (own_inc (own_inc [(0 : Int32), (0 : Int32), (0 : Int32)] x0) x1) x2) x3) x4) := c37
  refine own_step (fun t k => XS.iinc X36.here hx rfl (hb hby d2_40) rfl (l' := #[.val (.ref a1), .val (.ref a2), .val (.int (3 : Int32)), .val (.ref b1), .val (.ref a1), .val (.int (5 : Int32)), .val (.int (5 : Int32)), .val (.int x4), .unset, .unset]) rfl k) ?_
  show own_G p.tables e below _ (T36.setTop (mkF m 43 #[.val (.ref a1), .val (.ref a2), .val (.int (3 : Int32)), .val (.ref b1), .val (.ref a1), .val (.int (5 : Int32)), .val (.int (5 : Int32)), .val (.int x4), .unset, .unset] []))
  refine own_step (fun t k => XS.goto X36.here hx rfl (pc0 := 43) (pc' := 18) rfl (hb hby d2_43) (by decide) (by decide) k) ?_
  show own_G p.tables e below _ (T36.setTop (mkF m 18 #[.val (.ref a1), .val (.ref a2), .val (.int (3 : Int32)), .val (.ref b1), .val (.ref a1), .val (.int (5 : Int32)), .val (.int (5 : Int32)), .val (.int x4), .unset, .unset] []))
  refine own_step (fun t k => XS.iload X36.here hx rfl (hb hby d2_18) rfl k) ?_
  show own_G p.tables e below _ (T36.setTop (mkF m 20 #[.val (.ref a1), .val (.ref a2), .val (.int (3 : Int32)), .val (.ref b1), .val (.ref a1), .val (.int (5 : Int32)), .val (.int (5 : Int32)), .val (.int x4), .unset, .unset] [(.int (5 : Int32))]))
  refine own_step (fun t k => XS.iload X36.here hx rfl (hb hby d2_20) rfl k) ?_
  show own_G p.tables e below _ (T36.setTop (mkF m 22 #[.val (.ref a1), .val (.ref a2), .val (.int (3 : Int32)), .val (.ref b1), .val (.ref a1), .val (.int (5 : Int32)), .val (.int (5 : Int32)), .val (.int x4), .unset, .unset] [(.int (5 : Int32)), (.int (5 : Int32))]))
  have hk42 : ¬ ((5 : Int32) < (5 : Int32)) := (by decide)
  refine own_step (fun t k => XS.icmpYes X36.here hx rfl (pc0 := 22) (pc' := 46) rfl (hb hby d2_22) rfl ((flt hk42).2.1) (by decide) (by decide) k) ?_
  show own_G p.tables e below _ (T36.setTop (mkF m 46 #[.val (.ref a1), .val (.ref a2), .val (.int (3 : Int32)), .val (.ref b1), .val (.ref a1), .val (.int (5 : Int32)), .val (.int (5 : Int32)), .val (.int x4), .unset, .unset] []))
  have c43 : own_Ari Z h36 b1 .int (own_cs x0 x1 x2 x3 x4) := c41
  refine own_step (fun t k => XS.iloadN X36.here hx rfl (hb hby d2_46) rfl k) ?_
  show own_G p.tables e below _ (T36.setTop (mkF m 47 #[.val (.ref a1), .val (.ref a2), .val (.int (3 : Int32)), .val (.ref b1), .val (.ref a1), .val (.int (5 : Int32)), .val (.int (5 : Int32)), .val (.int x4), .unset, .unset] [(.int (3 : Int32))]))
  obtain ⟨T44, h44, k44, X44, e44, E44, A44, st44⟩ := newP X36 hx hZ (hw _ (List.mem_of_getElem? (i := 1) rfl)) e36 (g := (mkF m 47 #[.val (.ref a1), .val (.ref a2), .val (.int (3 : Int32)), .val (.ref b1), .val (.ref a1), .val (.int (5 : Int32)), .val (.int (5 : Int32)), .val (.int x4), .unset, .unset] [(.int (3 : Int32))])) rfl (hb hby d2_47) rfl (by decide) (cap := 3) (by decide) (by decide) (by decide) (by decide)
  obtain ⟨b44, g44⟩ : ∃ z, z = h36.size := ⟨_, rfl⟩
  have ne45 : a1 ≠ b44 := Nat.ne_of_lt (Nat.lt_of_lt_of_le c38.lt (Nat.le_of_eq g44.symm))
  have ne46 : a2 ≠ b44 := Nat.ne_of_lt (Nat.lt_of_lt_of_le c39.lt (Nat.le_of_eq g44.symm))
  have ne47 : b1 ≠ b44 := Nat.ne_of_lt (Nat.lt_of_lt_of_le c43.lt (Nat.le_of_eq g44.symm))
  have sz44 : h0.size ≤ b44 := Nat.le_trans K36.1 (Nat.le_of_eq g44.symm)
  have ge44 : n0 ≤ b44 := Nat.le_trans Z0 sz44
  have c48 : own_Ari Z h44 a1 .int [x0, x1, x2, x3, x4] := c38.ext E44
  have c49 : own_Ari Z h44 a2 .int [zz0, zz1, zz2] := c39.ext E44
  have c50 : own_Ari Z h44 b1 .int (own_cs x0 x1 x2 x3 x4) := c43.ext E44
  have K44 : Keep h0 h44 [] := K36.ext E44
  rw [← g44] at A44 st44
  have c51 : own_Ari Z h44 b44 .int [(0 : Int32), (0 : Int32), (0 : Int32)] := own_Ari_new (ty := .int) A44 (by decide) rfl
  refine own_step st44 ?_
  clear A44 E44 K36 X36 c37 c38 c39 c41 c43 e36 g44 hk42 st44
  show own_G p.tables e below _ (T44.setTop (mkF m 49 #[.val (.ref a1), .val (.ref a2), .val (.int (3 : Int32)), .val (.ref b1), .val (.ref a1), .val (.int (5 : Int32)), .val (.int (5 : Int32)), .val (.int x4), .unset, .unset] [(.ref b44)]))
  refine own_step (fun t k => XS.astore X44.here hx rfl (hb hby d2_49) rfl rfl (l' := #[.val (.ref a1), .val (.ref a2), .val (.int (3 : Int32)), .val (.ref b1), .val (.ref b44), .val (.int (5 : Int32)), .val (.int (5 : Int32)), .val (.int x4), .unset, .unset]) rfl k) ?_
  show own_G p.tables e below _ (T44.setTop (mkF m 51 #[.val (.ref a1), .val (.ref a2), .val (.int (3 : Int32)), .val (.ref b1), .val (.ref b44), .val (.int (5 : Int32)), .val (.int (5 : Int32)), .val (.int x4), .unset, .unset] []))
  refine own_step (fun t k => XS.iconst X44.here hx rfl (hb hby d2_51) k) ?_
  show own_G p.tables e below _ (T44.setTop (mkF m 52 #[.val (.ref a1), .val (.ref a2), .val (.int (3 : Int32)), .val (.ref b1), .val (.ref b44), .val (.int (5 : Int32)), .val (.int (5 : Int32)), .val (.int x4), .unset, .unset] [(.int (0 : Int32))]))
  refine own_step (fun t k => XS.istore X44.here hx rfl (hb hby d2_52) rfl (l' := #[.val (.ref a1), .val (.ref a2), .val (.int (3 : Int32)), .val (.ref b1), .val (.ref b44), .val (.int (0 : Int32)), .val (.int (5 : Int32)), .val (.int x4), .unset, .unset]) rfl k) ?_
  show own_G p.tables e below _ (T44.setTop (mkF m 54 #[.val (.ref a1), .val (.ref a2), .val (.int (3 : Int32)), .val (.ref b1), .val (.ref b44), .val (.int (0 : Int32)), .val (.int (5 : Int32)), .val (.int x4), .unset, .unset] []))
  refine own_step (fun t k => XS.iconst X44.here hx rfl (hb hby d2_54) k) ?_
  show own_G p.tables e below _ (T44.setTop (mkF m 55 #[.val (.ref a1), .val (.ref a2), .val (.int (3 : Int32)), .val (.ref b1), .val (.ref b44), .val (.int (0 : Int32)), .val (.int (5 : Int32)), .val (.int x4), .unset, .unset] [(.int (0 : Int32))]))
  refine own_step (fun t k => XS.istore X44.here hx rfl (hb hby d2_55) rfl (l' := #[.val (.ref a1), .val (.ref a2), .val (.int (3 : Int32)), .val (.ref b1), .val (.ref b44), .val (.int (0 : Int32)), .val (.int (0 : Int32)), .val (.int x4), .unset, .unset]) rfl k) ?_
  show own_G p.tables e below _ (T44.setTop (mkF m 57 #[.val (.ref a1), .val (.ref a2), .val (.int (3 : Int32)), .val (.ref b1), .val (.ref b44), .val (.int (0 : Int32)), .val (.int (0 : Int32)), .val (.int x4), .unset, .unset] []))
  refine own_step (fun t k => XS.iload X44.here hx rfl (hb hby d2_57) rfl k) ?_
  show own_G p.tables e below _ (T44.setTop (mkF m 59 #[.val (.ref a1), .val (.ref a2), .val (.int (3 : Int32)), .val (.ref b1), .val (.ref b44), .val (.int (0 : Int32)), .val (.int (0 : Int32)), .val (.int x4), .unset, .unset] [(.int (0 : Int32))]))
  refine own_step (fun t k => XS.iloadN X44.here hx rfl (hb hby d2_59) rfl k) ?_
  show own_G p.tables e below _ (T44.setTop (mkF m 60 #[.val (.ref a1), .val (.ref a2), .val (.int (3 : Int32)), .val (.ref b1), .val (.ref b44), .val (.int (0 : Int32)), .val (.int (0 : Int32)), .val (.int x4), .unset, .unset] [(.int (3 : Int32)), (.int (0 : Int32))]))
  have hk52 : (0 : Int32) < (3 : Int32) := (by decide)
  refine own_step (fun t k => XS.icmpNo X44.here hx rfl (hb hby d2_60) rfl ((tlt hk52).2.1) k) ?_
  show own_G p.tables e below _ (T44.setTop (mkF m 63 #[.val (.ref a1), .val (.ref a2), .val (.int (3 : Int32)), .val (.ref b1), .val (.ref b44), .val (.int (0 : Int32)), .val (.int (0 : Int32)), .val (.int x4), .unset, .unset] []))
  refine own_step (fun t k => XS.aload X44.here hx rfl (hb hby d2_63) rfl rfl k) ?_
  show own_G p.tables e below _ (T44.setTop (mkF m 65 #[.val (.ref a1), .val (.ref a2), .val (.int (3 : Int32)), .val (.ref b1), .val (.ref b44), .val (.int (0 : Int32)), .val (.int (0 : Int32)), .val (.int x4), .unset, .unset] [(.ref b44)]))
  refine own_step (fun t k => XS.iload X44.here hx rfl (hb hby d2_65) rfl k) ?_
  show own_G p.tables e below _ (T44.setTop (mkF m 67 #[.val (.ref a1), .val (.ref a2), .val (.int (3 : Int32)), .val (.ref b1), .val (.ref b44), .val (.int (0 : Int32)), .val (.int (0 : Int32)), .val (.int x4), .unset, .unset] [(.int (0 : Int32)), (.ref b44)]))
  refine own_step (fun t k => XS.iload X44.here hx rfl (hb hby d2_67) rfl k) ?_
  show own_G p.tables e below _ (T44.setTop (mkF m 69 #[.val (.ref a1), .val (.ref a2), .val (.int (3 : Int32)), .val (.ref b1), .val (.ref b44), .val (.int (0 : Int32)), .val (.int (0 : Int32)), .val (.int x4), .unset, .unset] [(.int (0 : Int32)), (.int (0 : Int32)), (.ref b44)]))
  obtain ⟨T53, h53, X53, e53, W53, c53, st53⟩ := own_iastore X44 hx hZ e44 c51 (own_inb (by decide) (Nat.le_of_ble_eq_true rfl)) (g := (mkF m 69 #[.val (.ref a1), .val (.ref a2), .val (.int (3 : Int32)), .val (.ref b1), .val (.ref b44), .val (.int (0 : Int32)), .val (.int (0 : Int32)), .val (.int x4), .unset, .unset] [(.int (0 : Int32)), (.int (0 : Int32)), (.ref b44)])) rfl rfl (hb hby d2_69)
  have N53 := Fr.snoc X53 N36 ge44
  have c54 : own_Ari Z h53 b44 .int [(0 : Int32), (0 : Int32), (0 : Int32)] := c53
  have c55 : own_Ari Z h53 a1 .int [x0, x1, x2, x3, x4] := c48.other W53 ne45
  have c56 : own_Ari Z h53 a2 .int [zz0, zz1, zz2] := c49.other W53 ne46
  have c57 : own_Ari Z h53 b1 .int (own_cs x0 x1 x2 x3 x4) := c50.other W53 ne47
  have K53 : Keep h0 h53 [] := K44.wr W53 (Or.inr sz44)
  refine own_step st53 ?_
  clear K44 N36 W53 X44 c48 c49 c50 c51 c53 e44 hk52 st53
  show own_G p.tables e below _ (T53.setTop (mkF m 70 #[.val (.ref a1), .val (.ref a2), .val (.int (3 : Int32)), .val (.ref b1), .val (.ref b44), .val (.int (0 : Int32)), .val (.int (0 : Int32)), .val (.int x4), .unset, .unset] []))
  refine own_step (fun t k => XS.aloadN X53.here hx rfl (hb hby d2_70) rfl rfl k) ?_
  show own_G p.tables e below _ (T53.setTop (mkF m 71 #[.val (.ref a1), .val (.ref a2), .val (.int (3 : Int32)), .val (.ref b1), .val (.ref b44), .val (.int (0 : Int32)), .val (.int (0 : Int32)), .val (.int x4), .unset, .unset] [(.ref b1)]))
  refine own_step (fun t k => XS.iload X53.here hx rfl (hb hby d2_71) rfl k) ?_
  show own_G p.tables e below _ (T53.setTop (mkF m 73 #[.val (.ref a1), .val (.ref a2), .val (.int (3 : Int32)), .val (.ref b1), .val (.ref b44), .val (.int (0 : Int32)), .val (.int (0 : Int32)), .val (.int x4), .unset, .unset] [(.int (0 : Int32)), (.ref b1)]))
  refine own_step (own_iaload X53 hx hZ e53 c57 (own_inb (by decide) (by rw [own_cs_len]; decide)) (g := (mkF m 73 #[.val (.ref a1), .val (.ref a2), .val (.int (3 : Int32)), .val (.ref b1), .val (.ref b44), .val (.int (0 : Int32)), .val (.int (0 : Int32)), .val (.int x4), .unset, .unset] [(.int (0 : Int32)), (.ref b1)])) rfl rfl (hb hby d2_73)) ?_
  show own_G p.tables e below _ (T53.setTop (mkF m 74 #[.val (.ref a1), .val (.ref a2), .val (.int (3 : Int32)), .val (.ref b1), .val (.ref b44), .val (.int (0 : Int32)), .val (.int (0 : Int32)), .val (.int x4), .unset, .unset] [(.int ((own_cs x0 x1 x2 x3 x4).getD 0 0))]))
  refine own_imp (B := T53.setTop (mkF m 95 #[.val (.ref a1), .val (.ref a2), .val (.int (3 : Int32)), .val (.ref b1), .val (.ref b44), .val (.int (if (0 : Int32) < ((own_cs x0 x1 x2 x3 x4).getD 0 0) then ((0 : Int32) + (((((own_cs x0 x1 x2 x3 x4).getD 0 0) - (1 : Int32)) / zz0) + (1 : Int32))) else (0 : Int32))), .val (.int (0 : Int32)), .val (.int x4), .unset, .unset] [])) (fun k0 => ?_) ?_
  · by_cases hc59 : (0 : Int32) < ((own_cs x0 x1 x2 x3 x4).getD 0 0)
    · simp only [if_pos hc59] at k0
      refine own_step (fun t k => XS.ifNo X53.here hx rfl (hb hby d2_74) rfl ((if0 _ _).trans (tlt hc59).2.2.2) k) ?_
      show own_G p.tables e below _ (T53.setTop (mkF m 77 #[.val (.ref a1), .val (.ref a2), .val (.int (3 : Int32)), .val (.ref b1), .val (.ref b44), .val (.int (0 : Int32)), .val (.int (0 : Int32)), .val (.int x4), .unset, .unset] []))
      refine own_step (fun t k => XS.iload X53.here hx rfl (hb hby d2_77) rfl k) ?_
      show own_G p.tables e below _ (T53.setTop (mkF m 79 #[.val (.ref a1), .val (.ref a2), .val (.int (3 : Int32)), .val (.ref b1), .val (.ref b44), .val (.int (0 : Int32)), .val (.int (0 : Int32)), .val (.int x4), .unset, .unset] [(.int (0 : Int32))]))
      refine own_step (fun t k => XS.aloadN X53.here hx rfl (hb hby d2_79) rfl rfl k) ?_
      show own_G p.tables e below _ (T53.setTop (mkF m 80 #[.val (.ref a1), .val (.ref a2), .val (.int (3 : Int32)), .val (.ref b1), .val (.ref b44), .val (.int (0 : Int32)), .val (.int (0 : Int32)), .val (.int x4), .unset, .unset] [(.ref b1), (.int (0 : Int32))]))
      refine own_step (fun t k => XS.iload X53.here hx rfl (hb hby d2_80) rfl k) ?_
      show own_G p.tables e below _ (T53.setTop (mkF m 82 #[.val (.ref a1), .val (.ref a2), .val (.int (3 : Int32)), .val (.ref b1), .val (.ref b44), .val (.int (0 : Int32)), .val (.int (0 : Int32)), .val (.int x4), .unset, .unset] [(.int (0 : Int32)), (.ref b1), (.int (0 : Int32))]))
      refine own_step (own_iaload X53 hx hZ e53 c57 (own_inb (by decide) (by rw [own_cs_len]; decide)) (g := (mkF m 82 #[.val (.ref a1), .val (.ref a2), .val (.int (3 : Int32)), .val (.ref b1), .val (.ref b44), .val (.int (0 : Int32)), .val (.int (0 : Int32)), .val (.int x4), .unset, .unset] [(.int (0 : Int32)), (.ref b1), (.int (0 : Int32))])) rfl rfl (hb hby d2_82)) ?_
      show own_G p.tables e below _ (T53.setTop (mkF m 83 #[.val (.ref a1), .val (.ref a2), .val (.int (3 : Int32)), .val (.ref b1), .val (.ref b44), .val (.int (0 : Int32)), .val (.int (0 : Int32)), .val (.int x4), .unset, .unset] [(.int ((own_cs x0 x1 x2 x3 x4).getD 0 0)), (.int (0 : Int32))]))
      refine own_step (fun t k => XS.iconst X53.here hx rfl (hb hby d2_83) k) ?_
      show own_G p.tables e below _ (T53.setTop (mkF m 84 #[.val (.ref a1), .val (.ref a2), .val (.int (3 : Int32)), .val (.ref b1), .val (.ref b44), .val (.int (0 : Int32)), .val (.int (0 : Int32)), .val (.int x4), .unset, .unset] [(.int (1 : Int32)), (.int ((own_cs x0 x1 x2 x3 x4).getD 0 0)), (.int (0 : Int32))]))
      refine own_step (fun t k => XS.isub X53.here hx rfl (hb hby d2_84) rfl k) ?_
      show own_G p.tables e below _ (T53.setTop (mkF m 85 #[.val (.ref a1), .val (.ref a2), .val (.int (3 : Int32)), .val (.ref b1), .val (.ref b44), .val (.int (0 : Int32)), .val (.int (0 : Int32)), .val (.int x4), .unset, .unset] [(.int (((own_cs x0 x1 x2 x3 x4).getD 0 0) - (1 : Int32))), (.int (0 : Int32))]))
      refine own_step (fun t k => XS.aloadN X53.here hx rfl (hb hby d2_85) rfl rfl k) ?_
      show own_G p.tables e below _ (T53.setTop (mkF m 86 #[.val (.ref a1), .val (.ref a2), .val (.int (3 : Int32)), .val (.ref b1), .val (.ref b44), .val (.int (0 : Int32)), .val (.int (0 : Int32)), .val (.int x4), .unset, .unset] [(.ref a2), (.int (((own_cs x0 x1 x2 x3 x4).getD 0 0) - (1 : Int32))), (.int (0 : Int32))]))
      refine own_step (fun t k => XS.iload X53.here hx rfl (hb hby d2_86) rfl k) ?_
      show own_G p.tables e below _ (T53.setTop (mkF m 88 #[.val (.ref a1), .val (.ref a2), .val (.int (3 : Int32)), .val (.ref b1), .val (.ref b44), .val (.int (0 : Int32)), .val (.int (0 : Int32)), .val (.int x4), .unset, .unset] [(.int (0 : Int32)), (.ref a2), (.int (((own_cs x0 x1 x2 x3 x4).getD 0 0) - (1 : Int32))), (.int (0 : Int32))]))
      refine own_step (own_iaload X53 hx hZ e53 c56 (own_inb (by decide) (Nat.le_of_ble_eq_true rfl)) (g := (mkF m 88 #[.val (.ref a1), .val (.ref a2), .val (.int (3 : Int32)), .val (.ref b1), .val (.ref b44), .val (.int (0 : Int32)), .val (.int (0 : Int32)), .val (.int x4), .unset, .unset] [(.int (0 : Int32)), (.ref a2), (.int (((own_cs x0 x1 x2 x3 x4).getD 0 0) - (1 : Int32))), (.int (0 : Int32))])) rfl rfl (hb hby d2_88)) ?_
      show own_G p.tables e below _ (T53.setTop (mkF m 89 #[.val (.ref a1), .val (.ref a2), .val (.int (3 : Int32)), .val (.ref b1), .val (.ref b44), .val (.int (0 : Int32)), .val (.int (0 : Int32)), .val (.int x4), .unset, .unset] [(.int zz0), (.int (((own_cs x0 x1 x2 x3 x4).getD 0 0) - (1 : Int32))), (.int (0 : Int32))]))
      refine own_step (fun t k => XS.idiv X53.here hx rfl (hb hby d2_89) rfl hz0 k) ?_
      show own_G p.tables e below _ (T53.setTop (mkF m 90 #[.val (.ref a1), .val (.ref a2), .val (.int (3 : Int32)), .val (.ref b1), .val (.ref b44), .val (.int (0 : Int32)), .val (.int (0 : Int32)), .val (.int x4), .unset, .unset] [(.int ((((own_cs x0 x1 x2 x3 x4).getD 0 0) - (1 : Int32)) / zz0)), (.int (0 : Int32))]))
      refine own_step (fun t k => XS.iconst X53.here hx rfl (hb hby d2_90) k) ?_
      show own_G p.tables e below _ (T53.setTop (mkF m 91 #[.val (.ref a1), .val (.ref a2), .val (.int (3 : Int32)), .val (.ref b1), .val (.ref b44), .val (.int (0 : Int32)), .val (.int (0 : Int32)), .val (.int x4), .unset, .unset] [(.int (1 : Int32)), (.int ((((own_cs x0 x1 x2 x3 x4).getD 0 0) - (1 : Int32)) / zz0)), (.int (0 : Int32))]))
      refine own_step (fun t k => XS.iadd X53.here hx rfl (hb hby d2_91) rfl k) ?_
      show own_G p.tables e below _ (T53.setTop (mkF m 92 #[.val (.ref a1), .val (.ref a2), .val (.int (3 : Int32)), .val (.ref b1), .val (.ref b44), .val (.int (0 : Int32)), .val (.int (0 : Int32)), .val (.int x4), .unset, .unset] [(.int (((((own_cs x0 x1 x2 x3 x4).getD 0 0) - (1 : Int32)) / zz0) + (1 : Int32))), (.int (0 : Int32))]))
      refine own_step (fun t k => XS.iadd X53.here hx rfl (hb hby d2_92) rfl k) ?_
      show own_G p.tables e below _ (T53.setTop (mkF m 93 #[.val (.ref a1), .val (.ref a2), .val (.int (3 : Int32)), .val (.ref b1), .val (.ref b44), .val (.int (0 : Int32)), .val (.int (0 : Int32)), .val (.int x4), .unset, .unset] [(.int ((0 : Int32) + (((((own_cs x0 x1 x2 x3 x4).getD 0 0) - (1 : Int32)) / zz0) + (1 : Int32))))]))
      refine own_step (fun t k => XS.istore X53.here hx rfl (hb hby d2_93) rfl (l' := #[.val (.ref a1), .val (.ref a2), .val (.int (3 : Int32)), .val (.ref b1), .val (.ref b44), .val (.int ((0 : Int32) + (((((own_cs x0 x1 x2 x3 x4).getD 0 0) - (1 : Int32)) / zz0) + (1 : Int32)))), .val (.int (0 : Int32)), .val (.int x4), .unset, .unset]) rfl k) ?_
      show own_G p.tables e below _ (T53.setTop (mkF m 95 #[.val (.ref a1), .val (.ref a2), .val (.int (3 : Int32)), .val (.ref b1), .val (.ref b44), .val (.int ((0 : Int32) + (((((own_cs x0 x1 x2 x3 x4).getD 0 0) - (1 : Int32)) / zz0) + (1 : Int32)))), .val (.int (0 : Int32)), .val (.int x4), .unset, .unset] []))
      exact k0
    · simp only [if_neg hc59] at k0
      refine own_step (fun t k => XS.ifYes X53.here hx rfl (pc0 := 74) (pc' := 95) rfl (hb hby d2_74) rfl ((if0 _ _).trans (flt hc59).2.2.2) (by decide) (by decide) k) ?_
      show own_G p.tables e below _ (T53.setTop (mkF m 95 #[.val (.ref a1), .val (.ref a2), .val (.int (3 : Int32)), .val (.ref b1), .val (.ref b44), .val (.int (0 : Int32)), .val (.int (0 : Int32)), .val (.int x4), .unset, .unset] []))
      exact k0
  show own_G p.tables e below _ (T53.setTop (mkF m 95 #[.val (.ref a1), .val (.ref a2), .val (.int (3 : Int32)), .val (.ref b1), .val (.ref b44), .val (.int (if (0 : Int32) < ((own_cs x0 x1 x2 x3 x4).getD 0 0) then ((0 : Int32) + (((((own_cs x0 x1 x2 x3 x4).getD 0 0) - (1 : Int32)) / zz0) + (1 : Int32))) else (0 : Int32))), .val (.int (0 : Int32)), .val (.int x4), .unset, .unset] []))
  show own_G p.tables e below _ (T53.setTop (mkF m 95 #[.val (.ref a1), .val (.ref a2), .val (.int (3 : Int32)), .val (.ref b1), .val (.ref b44), .val (.int (own_blk ((own_cs x0 x1 x2 x3 x4).getD 0 0) zz0 (0 : Int32))), .val (.int (0 : Int32)), .val (.int x4), .unset, .unset] []))
  refine own_step (fun t k => XS.iinc X53.here hx rfl (hb hby d2_95) rfl (l' := #[.val (.ref a1), .val (.ref a2), .val (.int (3 : Int32)), .val (.ref b1), .val (.ref b44), .val (.int (own_blk ((own_cs x0 x1 x2 x3 x4).getD 0 0) zz0 (0 : Int32))), .val (.int (1 : Int32)), .val (.int x4), .unset, .unset]) rfl k) ?_
  show own_G p.tables e below _ (T53.setTop (mkF m 98 #[.val (.ref a1), .val (.ref a2), .val (.int (3 : Int32)), .val (.ref b1), .val (.ref b44), .val (.int (own_blk ((own_cs x0 x1 x2 x3 x4).getD 0 0) zz0 (0 : Int32))), .val (.int (1 : Int32)), .val (.int x4), .unset, .unset] []))
  refine own_step (fun t k => XS.goto X53.here hx rfl (pc0 := 98) (pc' := 57) rfl (hb hby d2_98) (by decide) (by decide) k) ?_
  show own_G p.tables e below _ (T53.setTop (mkF m 57 #[.val (.ref a1), .val (.ref a2), .val (.int (3 : Int32)), .val (.ref b1), .val (.ref b44), .val (.int (own_blk ((own_cs x0 x1 x2 x3 x4).getD 0 0) zz0 (0 : Int32))), .val (.int (1 : Int32)), .val (.int x4), .unset, .unset] []))
  refine own_step (fun t k => XS.iload X53.here hx rfl (hb hby d2_57) rfl k) ?_
  show own_G p.tables e below _ (T53.setTop (mkF m 59 #[.val (.ref a1), .val (.ref a2), .val (.int (3 : Int32)), .val (.ref b1), .val (.ref b44), .val (.int (own_blk ((own_cs x0 x1 x2 x3 x4).getD 0 0) zz0 (0 : Int32))), .val (.int (1 : Int32)), .val (.int x4), .unset, .unset] [(.int (1 : Int32))]))
  refine own_step (fun t k => XS.iloadN X53.here hx rfl (hb hby d2_59) rfl k) ?_
  show own_G p.tables e below _ (T53.setTop (mkF m 60 #[.val (.ref a1), .val (.ref a2), .val (.int (3 : Int32)), .val (.ref b1), .val (.ref b44), .val (.int (own_blk ((own_cs x0 x1 x2 x3 x4).getD 0 0) zz0 (0 : Int32))), .val (.int (1 : Int32)), .val (.int x4), .unset, .unset] [(.int (3 : Int32)), (.int (1 : Int32))]))
  have hk60 : (1 : Int32) < (3 : Int32) := (by decide)
  refine own_step (fun t k => XS.icmpNo X53.here hx rfl (hb hby d2_60) rfl ((tlt hk60).2.1) k) ?_
  show own_G p.tables e below _ (T53.setTop (mkF m 63 #[.val (.ref a1), .val (.ref a2), .val (.int (3 : Int32)), .val (.ref b1), .val (.ref b44), .val (.int (own_blk ((own_cs x0 x1 x2 x3 x4).getD 0 0) zz0 (0 : Int32))), .val (.int (1 : Int32)), .val (.int x4), .unset, .unset] []))
  refine own_step (fun t k => XS.aload X53.here hx rfl (hb hby d2_63) rfl rfl k) ?_
  show own_G p.tables e below _ (T53.setTop (mkF m 65 #[.val (.ref a1), .val (.ref a2), .val (.int (3 : Int32)), .val (.ref b1), .val (.ref b44), .val (.int (own_blk ((own_cs x0 x1 x2 x3 x4).getD 0 0) zz0 (0 : Int32))), .val (.int (1 : Int32)), .val (.int x4), .unset, .unset] [(.ref b44)]))
  refine own_step (fun t k => XS.iload X53.here hx rfl (hb hby d2_65) rfl k) ?_
  show own_G p.tables e below _ (T53.setTop (mkF m 67 #[.val (.ref a1), .val (.ref a2), .val (.int (3 : Int32)), .val (.ref b1), .val (.ref b44), .val (.int (own_blk ((own_cs x0 x1 x2 x3 x4).getD 0 0) zz0 (0 : Int32))), .val (.int (1 : Int32)), .val (.int x4), .unset, .unset] [(.int (1 : Int32)), (.ref b44)]))
  refine own_step (fun t k => XS.iload X53.here hx rfl (hb hby d2_67) rfl k) ?_
  show own_G p.tables e below _ (T53.setTop (mkF m 69 #[.val (.ref a1), .val (.ref a2), .val (.int (3 : Int32)), .val (.ref b1), .val (.ref b44), .val (.int (own_blk ((own_cs x0 x1 x2 x3 x4).getD 0 0) zz0 (0 : Int32))), .val (.int (1 : Int32)), .val (.int x4), .unset, .unset] [(.int (own_blk ((own_cs x0 x1 x2 x3 x4).getD 0 0) zz0 (0 : Int32))), (.int (1 : Int32)), (.ref b44)]))
  obtain ⟨T61, h61, X61, e61, W61, c61, st61⟩ := own_iastore X53 hx hZ e53 c54 (own_inb (by decide) (Nat.le_of_ble_eq_true rfl)) (g := (mkF m 69 #[.val (.ref a1), .val (.ref a2), .val (.int (3 : Int32)), .val (.ref b1), .val (.ref b44), .val (.int (own_blk ((own_cs x0 x1 x2 x3 x4).getD 0 0) zz0 (0 : Int32))), .val (.int (1 : Int32)), .val (.int x4), .unset, .unset] [(.int (own_blk ((own_cs x0 x1 x2 x3 x4).getD 0 0) zz0 (0 : Int32))), (.int (1 : Int32)), (.ref b44)])) rfl rfl (hb hby d2_69)
  have N61 := Fr.snoc X61 N53 ge44
  have c62 : own_Ari Z h61 b44 .int [(0 : Int32), (own_blk ((own_cs x0 x1 x2 x3 x4).getD 0 0) zz0 (0 : Int32)), (0 : Int32)] := c61
  have c63 : own_Ari Z h61 a1 .int [x0, x1, x2, x3, x4] := c55.other W61 ne45
  have c64 : own_Ari Z h61 a2 .int [zz0, zz1, zz2] := c56.other W61 ne46
  have c65 : own_Ari Z h61 b1 .int (own_cs x0 x1 x2 x3 x4) := c57.other W61 ne47
  have K61 : Keep h0 h61 [] := K53.wr W61 (Or.inr sz44)
  refine own_step st61 ?_
  clear K53 N53 W61 X53 c54 c55 c56 c57 c61 e53 hk60 st61
  show own_G p.tables e below _ (T61.setTop (mkF m 70 #[.val (.ref a1), .val (.ref a2), .val (.int (3 : Int32)), .val (.ref b1), .val (.ref b44), .val (.int (own_blk ((own_cs x0 x1 x2 x3 x4).getD 0 0) zz0 (0 : Int32))), .val (.int (1 : Int32)), .val (.int x4), .unset, .unset] []))
  refine own_step (fun t k => XS.aloadN X61.here hx rfl (hb hby d2_70) rfl rfl k) ?_
  show own_G p.tables e below _ (T61.setTop (mkF m 71 #[.val (.ref a1), .val (.ref a2), .val (.int (3 : Int32)), .val (.ref b1), .val (.ref b44), .val (.int (own_blk ((own_cs x0 x1 x2 x3 x4).getD 0 0) zz0 (0 : Int32))), .val (.int (1 : Int32)), .val (.int x4), .unset, .unset] [(.ref b1)]))
  refine own_step (fun t k => XS.iload X61.here hx rfl (hb hby d2_71) rfl k) ?_
  show own_G p.tables e below _ (T61.setTop (mkF m 73 #[.val (.ref a1), .val (.ref a2), .val (.int (3 : Int32)), .val (.ref b1), .val (.ref b44), .val (.int (own_blk ((own_cs x0 x1 x2 x3 x4).getD 0 0) zz0 (0 : Int32))), .val (.int (1 : Int32)), .val (.int x4), .unset, .unset] [(.int (1 : Int32)), (.ref b1)]))
  refine own_step (own_iaload X61 hx hZ e61 c65 (own_inb (by decide) (by rw [own_cs_len]; decide)) (g := (mkF m 73 #[.val (.ref a1), .val (.ref a2), .val (.int (3 : Int32)), .val (.ref b1), .val (.ref b44), .val (.int (own_blk ((own_cs x0 x1 x2 x3 x4).getD 0 0) zz0 (0 : Int32))), .val (.int (1 : Int32)), .val (.int x4), .unset, .unset] [(.int (1 : Int32)), (.ref b1)])) rfl rfl (hb hby d2_73)) ?_
  show own_G p.tables e below _ (T61.setTop (mkF m 74 #[.val (.ref a1), .val (.ref a2), .val (.int (3 : Int32)), .val (.ref b1), .val (.ref b44), .val (.int (own_blk ((own_cs x0 x1 x2 x3 x4).getD 0 0) zz0 (0 : Int32))), .val (.int (1 : Int32)), .val (.int x4), .unset, .unset] [(.int ((own_cs x0 x1 x2 x3 x4).getD 1 0))]))
  refine own_imp (B := T61.setTop (mkF m 95 #[.val (.ref a1), .val (.ref a2), .val (.int (3 : Int32)), .val (.ref b1), .val (.ref b44), .val (.int (if (0 : Int32) < ((own_cs x0 x1 x2 x3 x4).getD 1 0) then ((own_blk ((own_cs x0 x1 x2 x3 x4).getD 0 0) zz0 (0 : Int32)) + (((((own_cs x0 x1 x2 x3 x4).getD 1 0) - (1 : Int32)) / zz1) + (1 : Int32))) else (own_blk ((own_cs x0 x1 x2 x3 x4).getD 0 0) zz0 (0 : Int32)))), .val (.int (1 : Int32)), .val (.int x4), .unset, .unset] [])) (fun k0 => ?_) ?_
  · by_cases hc67 : (0 : Int32) < ((own_cs x0 x1 x2 x3 x4).getD 1 0)
    · simp only [if_pos hc67] at k0
      refine own_step (fun t k => XS.ifNo X61.here hx rfl (hb hby d2_74) rfl ((if0 _ _).trans (tlt hc67).2.2.2) k) ?_
      show own_G p.tables e below _ (T61.setTop (mkF m 77 #[.val (.ref a1), .val (.ref a2), .val (.int (3 : Int32)), .val (.ref b1), .val (.ref b44), .val (.int (own_blk ((own_cs x0 x1 x2 x3 x4).getD 0 0) zz0 (0 : Int32))), .val (.int (1 : Int32)), .val (.int x4), .unset, .unset] []))
      refine own_step (fun t k => XS.iload X61.here hx rfl (hb hby d2_77) rfl k) ?_
      show own_G p.tables e below _ (T61.setTop (mkF m 79 #[.val (.ref a1), .val (.ref a2), .val (.int (3 : Int32)), .val (.ref b1), .val (.ref b44), .val (.int (own_blk ((own_cs x0 x1 x2 x3 x4).getD 0 0) zz0 (0 : Int32))), .val (.int (1 : Int32)), .val (.int x4), .unset, .unset] [(.int (own_blk ((own_cs x0 x1 x2 x3 x4).getD 0 0) zz0 (0 : Int32)))]))
      refine own_step (fun t k => XS.aloadN X61.here hx rfl (hb hby d2_79) rfl rfl k) ?_
      show own_G p.tables e below _ (T61.setTop (mkF m 80 #[.val (.ref a1), .val (.ref a2), .val (.int (3 : Int32)), .val (.ref b1), .val (.ref b44), .val (.int (own_blk ((own_cs x0 x1 x2 x3 x4).getD 0 0) zz0 (0 : Int32))), .val (.int (1 : Int32)), .val (.int x4), .unset, .unset] [(.ref b1), (.int (own_blk ((own_cs x0 x1 x2 x3 x4).getD 0 0) zz0 (0 : Int32)))]))
      refine own_step (fun t k => XS.iload X61.here hx rfl (hb hby d2_80) rfl k) ?_
      show own_G p.tables e below _ (T61.setTop (mkF m 82 #[.val (.ref a1), .val (.ref a2), .val (.int (3 : Int32)), .val (.ref b1), .val (.ref b44), .val (.int (own_blk ((own_cs x0 x1 x2 x3 x4).getD 0 0) zz0 (0 : Int32))), .val (.int (1 : Int32)), .val (.int x4), .unset, .unset] [(.int (1 : Int32)), (.ref b1), (.int (own_blk ((own_cs x0 x1 x2 x3 x4).getD 0 0) zz0 (0 : Int32)))]))
      refine own_step (own_iaload X61 hx hZ e61 c65 (own_inb (by decide) (by rw [own_cs_len]; decide)) (g := (mkF m 82 #[.val (.ref a1), .val (.ref a2), .val (.int (3 : Int32)), .val (.ref b1), .val (.ref b44), .val (.int (own_blk ((own_cs x0 x1 x2 x3 x4).getD 0 0) zz0 (0 : Int32))), .val (.int (1 : Int32)), .val (.int x4), .unset, .unset] [(.int (1 : Int32)), (.ref b1), (.int (own_blk ((own_cs x0 x1 x2 x3 x4).getD 0 0) zz0 (0 : Int32)))])) rfl rfl (hb hby d2_82)) ?_
      show own_G p.tables e below _ (T61.setTop (mkF m 83 #[.val (.ref a1), .val (.ref a2), .val (.int (3 : Int32)), .val (.ref b1), .val (.ref b44), .val (.int (own_blk ((own_cs x0 x1 x2 x3 x4).getD 0 0) zz0 (0 : Int32))), .val (.int (1 : Int32)), .val (.int x4), .unset, .unset] [(.int ((own_cs x0 x1 x2 x3 x4).getD 1 0)), (.int (own_blk ((own_cs x0 x1 x2 x3 x4).getD 0 0) zz0 (0 : Int32)))]))
      refine own_step (fun t k => XS.iconst X61.here hx rfl (hb hby d2_83) k) ?_
      show own_G p.tables e below _ (T61.setTop (mkF m 84 #[.val (.ref a1), .val (.ref a2), .val (.int (3 : Int32)), .val (.ref b1), .val (.ref b44), .val (.int (own_blk ((own_cs x0 x1 x2 x3 x4).getD 0 0) zz0 (0 : Int32))), .val (.int (1 : Int32)), .val (.int x4), .unset, .unset] [(.int (1 : Int32)), (.int ((own_cs x0 x1 x2 x3 x4).getD 1 0)), (.int (own_blk ((own_cs x0 x1 x2 x3 x4).getD 0 0) zz0 (0 : Int32)))]))
      refine own_step (fun t k => XS.isub X61.here hx rfl (hb hby d2_84) rfl k) ?_
      show own_G p.tables e below _ (T61.setTop (mkF m 85 #[.val (.ref a1), .val (.ref a2), .val (.int (3 : Int32)), .val (.ref b1), .val (.ref b44), .val (.int (own_blk ((own_cs x0 x1 x2 x3 x4).getD 0 0) zz0 (0 : Int32))), .val (.int (1 : Int32)), .val (.int x4), .unset, .unset] [(.int (((own_cs x0 x1 x2 x3 x4).getD 1 0) - (1 : Int32))), (.int (own_blk ((own_cs x0 x1 x2 x3 x4).getD 0 0) zz0 (0 : Int32)))]))
      refine own_step (fun t k => XS.aloadN X61.here hx rfl (hb hby d2_85) rfl rfl k) ?_
      show own_G p.tables e below _ (T61.setTop (mkF m 86 #[.val (.ref a1), .val (.ref a2), .val (.int (3 : Int32)), .val (.ref b1), .val (.ref b44), .val (.int (own_blk ((own_cs x0 x1 x2 x3 x4).getD 0 0) zz0 (0 : Int32))), .val (.int (1 : Int32)), .val (.int x4), .unset, .unset] [(.ref a2), (.int (((own_cs x0 x1 x2 x3 x4).getD 1 0) - (1 : Int32))), (.int (own_blk ((own_cs x0 x1 x2 x3 x4).getD 0 0) zz0 (0 : Int32)))]))
      refine own_step (fun t k => XS.iload X61.here hx rfl (hb hby d2_86) rfl k) ?_
      show own_G p.tables e below _ (T61.setTop (mkF m 88 #[.val (.ref a1), .val (.ref a2), .val (.int (3 : Int32)), .val (.ref b1), .val (.ref b44), .val (.int (own_blk ((own_cs x0 x1 x2 x3 x4).getD 0 0) zz0 (0 : Int32))), .val (.int (1 : Int32)), .val (.int x4), .unset, .unset] [(.int (1 : Int32)), (.ref a2), (.int (((own_cs x0 x1 x2 x3 x4).getD 1 0) - (1 : Int32))), (.int (own_blk ((own_cs x0 x1 x2 x3 x4).getD 0 0) zz0 (0 : Int32)))]))
      refine own_step (own_iaload X61 hx hZ e61 c64 (own_inb (by decide) (Nat.le_of_ble_eq_true rfl)) (g := (mkF m 88 #[.val (.ref a1), .val (.ref a2), .val (.int (3 : Int32)), .val (.ref b1), .val (.ref b44), .val (.int (own_blk ((own_cs x0 x1 x2 x3 x4).getD 0 0) zz0 (0 : Int32))), .val (.int (1 : Int32)), .val (.int x4), .unset, .unset] [(.int (1 : Int32)), (.ref a2), (.int (((own_cs x0 x1 x2 x3 x4).getD 1 0) - (1 : Int32))), (.int (own_blk ((own_cs x0 x1 x2 x3 x4).getD 0 0) zz0 (0 : Int32)))])) rfl rfl (hb hby d2_88)) ?_
      show own_G p.tables e below _ (T61.setTop (mkF m 89 #[.val (.ref a1), .val (.ref a2), .val (.int (3 : Int32)), .val (.ref b1), .val (.ref b44), .val (.int (own_blk ((own_cs x0 x1 x2 x3 x4).getD 0 0) zz0 (0 : Int32))), .val (.int (1 : Int32)), .val (.int x4), .unset, .unset] [(.int zz1), (.int (((own_cs x0 x1 x2 x3 x4).getD 1 0) - (1 : Int32))), (.int (own_blk ((own_cs x0 x1 x2 x3 x4).getD 0 0) zz0 (0 : Int32)))]))
      refine own_step (fun t k => XS.idiv X61.here hx rfl (hb hby d2_89) rfl hz1 k) ?_
      show own_G p.tables e below _ (T61.setTop (mkF m 90 #[.val (.ref a1), .val (.ref a2), .val (.int (3 : Int32)), .val (.ref b1), .val (.ref b44), .val (.int (own_blk ((own_cs x0 x1 x2 x3 x4).getD 0 0) zz0 (0 : Int32))), .val (.int (1 : Int32)), .val (.int x4), .unset, .unset] [(.int ((((own_cs x0 x1 x2 x3 x4).getD 1 0) - (1 : Int32)) / zz1)), (.int (own_blk ((own_cs x0 x1 x2 x3 x4).getD 0 0) zz0 (0 : Int32)))]))
      refine own_step (fun t k => XS.iconst X61.here hx rfl (hb hby d2_90) k) ?_
      show own_G p.tables e below _ (T61.setTop (mkF m 91 #[.val (.ref a1), .val (.ref a2), .val (.int (3 : Int32)), .val (.ref b1), .val (.ref b44), .val (.int (own_blk ((own_cs x0 x1 x2 x3 x4).getD 0 0) zz0 (0 : Int32))), .val (.int (1 : Int32)), .val (.int x4), .unset, .unset] [(.int (1 : Int32)), (.int ((((own_cs x0 x1 x2 x3 x4).getD 1 0) - (1 : Int32)) / zz1)), (.int (own_blk ((own_cs x0 x1 x2 x3 x4).getD 0 0) zz0 (0 : Int32)))]))
      refine own_step (fun t k => XS.iadd X61.here hx rfl (hb hby d2_91) rfl k) ?_
      show own_G p.tables e below _ (T61.setTop (mkF m 92 #[.val (.ref a1), .val (.ref a2), .val (.int (3 : Int32)), .val (.ref b1), .val (.ref b44), .val (.int (own_blk ((own_cs x0 x1 x2 x3 x4).getD 0 0) zz0 (0 : Int32))), .val (.int (1 : Int32)), .val (.int x4), .unset, .unset] [(.int (((((own_cs x0 x1 x2 x3 x4).getD 1 0) - (1 : Int32)) / zz1) + (1 : Int32))), (.int (own_blk ((own_cs x0 x1 x2 x3 x4).getD 0 0) zz0 (0 : Int32)))]))
      refine own_step (fun t k => XS.iadd X61.here hx rfl (hb hby d2_92) rfl k) ?_
      show own_G p.tables e below _ (T61.setTop (mkF m 93 #[.val (.ref a1), .val (.ref a2), .val (.int (3 : Int32)), .val (.ref b1), .val (.ref b44), .val (.int (own_blk ((own_cs x0 x1 x2 x3 x4).getD 0 0) zz0 (0 : Int32))), .val (.int (1 : Int32)), .val (.int x4), .unset, .unset] [(.int ((own_blk ((own_cs x0 x1 x2 x3 x4).getD 0 0) zz0 (0 : Int32)) + (((((own_cs x0 x1 x2 x3 x4).getD 1 0) - (1 : Int32)) / zz1) + (1 : Int32))))]))
      refine own_step (fun t k => XS.istore X61.here hx rfl (hb hby d2_93) rfl (l' := #[.val (.ref a1), .val (.ref a2), .val (.int (3 : Int32)), .val (.ref b1), .val (.ref b44), .val (.int ((own_blk ((own_cs x0 x1 x2 x3 x4).getD 0 0) zz0 (0 : Int32)) + (((((own_cs x0 x1 x2 x3 x4).getD 1 0) - (1 : Int32)) / zz1) + (1 : Int32)))), .val (.int (1 : Int32)), .val (.int x4), .unset, .unset]) rfl k) ?_
      show own_G p.tables e below _ (T61.setTop (mkF m 95 #[.val (.ref a1), .val (.ref a2), .val (.int (3 : Int32)), .val (.ref b1), .val (.ref b44), .val (.int ((own_blk ((own_cs x0 x1 x2 x3 x4).getD 0 0) zz0 (0 : Int32)) + (((((own_cs x0 x1 x2 x3 x4).getD 1 0) - (1 : Int32)) / zz1) + (1 : Int32)))), .val (.int (1 : Int32)), .val (.int x4), .unset, .unset] []))
      exact k0
    · simp only [if_neg hc67] at k0
      refine own_step (fun t k => XS.ifYes X61.here hx rfl (pc0 := 74) (pc' := 95) rfl (hb hby d2_74) rfl ((if0 _ _).trans (flt hc67).2.2.2) (by decide) (by decide) k) ?_
      show own_G p.tables e below _ (T61.setTop (mkF m 95 #[.val (.ref a1), .val (.ref a2), .val (.int (3 : Int32)), .val (.ref b1), .val (.ref b44), .val (.int (own_blk ((own_cs x0 x1 x2 x3 x4).getD 0 0) zz0 (0 : Int32))), .val (.int (1 : Int32)), .val (.int x4), .unset, .unset] []))
      exact k0
  show own_G p.tables e below _ (T61.setTop (mkF m 95 #[.val (.ref a1), .val (.ref a2), .val (.int (3 : Int32)), .val (.ref b1), .val (.ref b44), .val (.int (if (0 : Int32) < ((own_cs x0 x1 x2 x3 x4).getD 1 0) then ((own_blk ((own_cs x0 x1 x2 x3 x4).getD 0 0) zz0 (0 : Int32)) + (((((own_cs x0 x1 x2 x3 x4).getD 1 0) - (1 : Int32)) / zz1) + (1 : Int32))) else (own_blk ((own_cs x0 x1 x2 x3 x4).getD 0 0) zz0 (0 : Int32)))), .val (.int (1 : Int32)), .val (.int x4), .unset, .unset] []))
  show own_G p.tables e below _ (T61.setTop (mkF m 95 #[.val (.ref a1), .val (.ref a2), .val (.int (3 : Int32)), .val (.ref b1), .val (.ref b44), .val (.int (own_blk ((own_cs x0 x1 x2 x3 x4).getD 1 0) zz1 (own_blk ((own_cs x0 x1 x2 x3 x4).getD 0 0) zz0 (0 : Int32)))), .val (.int (1 : Int32)), .val (.int x4), .unset, .unset] []))
  refine own_step (fun t k => XS.iinc X61.here hx rfl (hb hby d2_95) rfl (l' := #[.val (.ref a1), .val (.ref a2), .val (.int (3 : Int32)), .val (.ref b1), .val (.ref b44), .val (.int (own_blk ((own_cs x0 x1 x2 x3 x4).getD 1 0) zz1 (own_blk ((own_cs x0 x1 x2 x3 x4).getD 0 0) zz0 (0 : Int32)))), .val (.int (2 : Int32)), .val (.int x4), .unset, .unset]) rfl k) ?_
  show own_G p.tables e below _ (T61.setTop (mkF m 98 #[.val (.ref a1), .val (.ref a2), .val (.int (3 : Int32)), .val (.ref b1), .val (.ref b44), .val (.int (own_blk ((own_cs x0 x1 x2 x3 x4).getD 1 0) zz1 (own_blk ((own_cs x0 x1 x2 x3 x4).getD 0 0) zz0 (0 : Int32)))), .val (.int (2 : Int32)), .val (.int x4), .unset, .unset] []))
  refine own_step (fun t k => XS.goto X61.here hx rfl (pc0 := 98) (pc' := 57) rfl (hb hby d2_98) (by decide) (by decide) k) ?_
  show own_G p.tables e below _ (T61.setTop (mkF m 57 #[.val (.ref a1), .val (.ref a2), .val (.int (3 : Int32)), .val (.ref b1), .val (.ref b44), .val (.int (own_blk ((own_cs x0 x1 x2 x3 x4).getD 1 0) zz1 (own_blk ((own_cs x0 x1 x2 x3 x4).getD 0 0) zz0 (0 : Int32)))), .val (.int (2 : Int32)), .val (.int x4), .unset, .unset] []))
  refine own_step (fun t k => XS.iload X61.here hx rfl (hb hby d2_57) rfl k) ?_
  show own_G p.tables e below _ (T61.setTop (mkF m 59 #[.val (.ref a1), .val (.ref a2), .val (.int (3 : Int32)), .val (.ref b1), .val (.ref b44), .val (.int (own_blk ((own_cs x0 x1 x2 x3 x4).getD 1 0) zz1 (own_blk ((own_cs x0 x1 x2 x3 x4).getD 0 0) zz0 (0 : Int32)))), .val (.int (2 : Int32)), .val (.int x4), .unset, .unset] [(.int (2 : Int32))]))
  refine own_step (fun t k => XS.iloadN X61.here hx rfl (hb hby d2_59) rfl k) ?_
  show own_G p.tables e below _ (T61.setTop (mkF m 60 #[.val (.ref a1), .val (.ref a2), .val (.int (3 : Int32)), .val (.ref b1), .val (.ref b44), .val (.int (own_blk ((own_cs x0 x1 x2 x3 x4).getD 1 0) zz1 (own_blk ((own_cs x0 x1 x2 x3 x4).getD 0 0) zz0 (0 : Int32)))), .val (.int (2 : Int32)), .val (.int x4), .unset, .unset] [(.int (3 : Int32)), (.int (2 : Int32))]))
  have hk68 : (2 : Int32) < (3 : Int32) := (by decide)
  refine own_step (fun t k => XS.icmpNo X61.here hx rfl (hb hby d2_60) rfl ((tlt hk68).2.1) k) ?_
  show own_G p.tables e below _ (T61.setTop (mkF m 63 #[.val (.ref a1), .val (.ref a2), .val (.int (3 : Int32)), .val (.ref b1), .val (.ref b44), .val (.int (own_blk ((own_cs x0 x1 x2 x3 x4).getD 1 0) zz1 (own_blk ((own_cs x0 x1 x2 x3 x4).getD 0 0) zz0 (0 : Int32)))), .val (.int (2 : Int32)), .val (.int x4), .unset, .unset] []))
  refine own_step (fun t k => XS.aload X61.here hx rfl (hb hby d2_63) rfl rfl k) ?_
  show own_G p.tables e below _ (T61.setTop (mkF m 65 #[.val (.ref a1), .val (.ref a2), .val (.int (3 : Int32)), .val (.ref b1), .val (.ref b44), .val (.int (own_blk ((own_cs x0 x1 x2 x3 x4).getD 1 0) zz1 (own_blk ((own_cs x0 x1 x2 x3 x4).getD 0 0) zz0 (0 : Int32)))), .val (.int (2 : Int32)), .val (.int x4), .unset, .unset] [(.ref b44)]))
  refine own_step (fun t k => XS.iload X61.here hx rfl (hb hby d2_65) rfl k) ?_
  show own_G p.tables e below _ (T61.setTop (mkF m 67 #[.val (.ref a1), .val (.ref a2), .val (.int (3 : Int32)), .val (.ref b1), .val (.ref b44), .val (.int (own_blk ((own_cs x0 x1 x2 x3 x4).getD 1 0) zz1 (own_blk ((own_cs x0 x1 x2 x3 x4).getD 0 0) zz0 (0 : Int32)))), .val (.int (2 : Int32)), .val (.int x4), .unset, .unset] [(.int (2 : Int32)), (.ref b44)]))
  refine own_step (fun t k => XS.iload X61.here hx rfl (hb hby d2_67) rfl k) ?_
  show own_G p.tables e below _ (T61.setTop (mkF m 69 #[.val (.ref a1), .val (.ref a2), .val (.int (3 : Int32)), .val (.ref b1), .val (.ref b44), .val (.int (own_blk ((own_cs x0 x1 x2 x3 x4).getD 1 0) zz1 (own_blk ((own_cs x0 x1 x2 x3 x4).getD 0 0) zz0 (0 : Int32)))), .val (.int (2 : Int32)), .val (.int x4), .unset, .unset] [(.int (own_blk ((own_cs x0 x1 x2 x3 x4).getD 1 0) zz1 (own_blk ((own_cs x0 x1 x2 x3 x4).getD 0 0) zz0 (0 : Int32)))), (.int (2 : Int32)), (.ref b44)]))
  obtain ⟨T69, h69, X69, e69, W69, c69, st69⟩ := own_iastore X61 hx hZ e61 c62 (own_inb (by decide) (Nat.le_of_ble_eq_true rfl)) (g := (mkF m 69 #[.val (.ref a1), .val (.ref a2), .val (.int (3 : Int32)), .val (.ref b1), .val (.ref b44), .val (.int (own_blk ((own_cs x0 x1 x2 x3 x4).getD 1 0) zz1 (own_blk ((own_cs x0 x1 x2 x3 x4).getD 0 0) zz0 (0 : Int32)))), .val (.int (2 : Int32)), .val (.int x4), .unset, .unset] [(.int (own_blk ((own_cs x0 x1 x2 x3 x4).getD 1 0) zz1 (own_blk ((own_cs x0 x1 x2 x3 x4).getD 0 0) zz0 (0 : Int32)))), (.int (2 : Int32)), (.ref b44)])) rfl rfl (hb hby d2_69)
  have N69 := Fr.snoc X69 N61 ge44
  have c70 : own_Ari Z h69 b44 .int [(0 : Int32), (own_blk ((own_cs x0 x1 x2 x3 x4).getD 0 0) zz0 (0 : Int32)), (own_blk ((own_cs x0 x1 x2 x3 x4).getD 1 0) zz1 (own_blk ((own_cs x0 x1 x2 x3 x4).getD 0 0) zz0 (0 : Int32)))] := c69
  have c71 : own_Ari Z h69 a1 .int [x0, x1, x2, x3, x4] := c63.other W69 ne45
  have c72 : own_Ari Z h69 a2 .int [zz0, zz1, zz2] := c64.other W69 ne46
  have c73 : own_Ari Z h69 b1 .int (own_cs x0 x1 x2 x3 x4) := c65.other W69 ne47
  have K69 : Keep h0 h69 [] := K61.wr W69 (Or.inr sz44)
  refine own_step st69 ?_
  clear K61 N61 W69 X61 c62 c63 c64 c65 c69 e61 hk68 st69
  show own_G p.tables e below _ (T69.setTop (mkF m 70 #[.val (.ref a1), .val (.ref a2), .val (.int (3 : Int32)), .val (.ref b1), .val (.ref b44), .val (.int (own_blk ((own_cs x0 x1 x2 x3 x4).getD 1 0) zz1 (own_blk ((own_cs x0 x1 x2 x3 x4).getD 0 0) zz0 (0 : Int32)))), .val (.int (2 : Int32)), .val (.int x4), .unset, .unset] []))
  refine own_step (fun t k => XS.aloadN X69.here hx rfl (hb hby d2_70) rfl rfl k) ?_
  show own_G p.tables e below _ (T69.setTop (mkF m 71 #[.val (.ref a1), .val (.ref a2), .val (.int (3 : Int32)), .val (.ref b1), .val (.ref b44), .val (.int (own_blk ((own_cs x0 x1 x2 x3 x4).getD 1 0) zz1 (own_blk ((own_cs x0 x1 x2 x3 x4).getD 0 0) zz0 (0 : Int32)))), .val (.int (2 : Int32)), .val (.int x4), .unset, .unset] [(.ref b1)]))
  refine own_step (fun t k => XS.iload X69.here hx rfl (hb hby d2_71) rfl k) ?_
  show own_G p.tables e below _ (T69.setTop (mkF m 73 #[.val (.ref a1), .val (.ref a2), .val (.int (3 : Int32)), .val (.ref b1), .val (.ref b44), .val (.int (own_blk ((own_cs x0 x1 x2 x3 x4).getD 1 0) zz1 (own_blk ((own_cs x0 x1 x2 x3 x4).getD 0 0) zz0 (0 : Int32)))), .val (.int (2 : Int32)), .val (.int x4), .unset, .unset] [(.int (2 : Int32)), (.ref b1)]))
  refine own_step (own_iaload X69 hx hZ e69 c73 (own_inb (by decide) (by rw [own_cs_len]; decide)) (g := (mkF m 73 #[.val (.ref a1), .val (.ref a2), .val (.int (3 : Int32)), .val (.ref b1), .val (.ref b44), .val (.int (own_blk ((own_cs x0 x1 x2 x3 x4).getD 1 0) zz1 (own_blk ((own_cs x0 x1 x2 x3 x4).getD 0 0) zz0 (0 : Int32)))), .val (.int (2 : Int32)), .val (.int x4), .unset, .unset] [(.int (2 : Int32)), (.ref b1)])) rfl rfl (hb hby d2_73)) ?_
  show own_G p.tables e below _ (T69.setTop (mkF m 74 #[.val (.ref a1), .val (.ref a2), .val (.int (3 : Int32)), .val (.ref b1), .val (.ref b44), .val (.int (own_blk ((own_cs x0 x1 x2 x3 x4).getD 1 0) zz1 (own_blk ((own_cs x0 x1 x2 x3 x4).getD 0 0) zz0 (0 : Int32)))), .val (.int (2 : Int32)), .val (.int x4), .unset, .unset] [(.int ((own_cs x0 x1 x2 x3 x4).getD 2 0))]))
  refine own_imp (B := T69.setTop (mkF m 95 #[.val (.ref a1), .val (.ref a2), .val (.int (3 : Int32)), .val (.ref b1), .val (.ref b44), .val (.int (if (0 : Int32) < ((own_cs x0 x1 x2 x3 x4).getD 2 0) then ((own_blk ((own_cs x0 x1 x2 x3 x4).getD 1 0) zz1 (own_blk ((own_cs x0 x1 x2 x3 x4).getD 0 0) zz0 (0 : Int32))) + (((((own_cs x0 x1 x2 x3 x4).getD 2 0) - (1 : Int32)) / zz2) + (1 : Int32))) else (own_blk ((own_cs x0 x1 x2 x3 x4).getD 1 0) zz1 (own_blk ((own_cs x0 x1 x2 x3 x4).getD 0 0) zz0 (0 : Int32))))), .val (.int (2 : Int32)), .val (.int x4), .unset, .unset] [])) (fun k0 => ?_) ?_
  · by_cases hc75 : (0 : Int32) < ((own_cs x0 x1 x2 x3 x4).getD 2 0)
    · simp only [if_pos hc75] at k0
      refine own_step (fun t k => XS.ifNo X69.here hx rfl (hb hby d2_74) rfl ((if0 _ _).trans (tlt hc75).2.2.2) k) ?_
      show own_G p.tables e below _ (T69.setTop (mkF m 77 #[.val (.ref a1), .val (.ref a2), .val (.int (3 : Int32)), .val (.ref b1), .val (.ref b44), .val (.int (own_blk ((own_cs x0 x1 x2 x3 x4).getD 1 0) zz1 (own_blk ((own_cs x0 x1 x2 x3 x4).getD 0 0) zz0 (0 : Int32)))), .val (.int (2 : Int32)), .val (.int x4), .unset, .unset] []))
      refine own_step (fun t k => XS.iload X69.here hx rfl (hb hby d2_77) rfl k) ?_
      show own_G p.tables e below _ (T69.setTop (mkF m 79 #[.val (.ref a1), .val (.ref a2), .val (.int (3 : Int32)), .val (.ref b1), .val (.ref b44), .val (.int (own_blk ((own_cs x0 x1 x2 x3 x4).getD 1 0) zz1 (own_blk ((own_cs x0 x1 x2 x3 x4).getD 0 0) zz0 (0 : Int32)))), .val (.int (2 : Int32)), .val (.int x4), .unset, .unset] [(.int (own_blk ((own_cs x0 x1 x2 x3 x4).getD 1 0) zz1 (own_blk ((own_cs x0 x1 x2 x3 x4).getD 0 0) zz0 (0 : Int32))))]))
      refine own_step (fun t k => XS.aloadN X69.here hx rfl (hb hby d2_79) rfl rfl k) ?_
      show own_G p.tables e below _ (T69.setTop (mkF m 80 #[.val (.ref a1), .val (.ref a2), .val (.int (3 : Int32)), .val (.ref b1), .val (.ref b44), .val (.int (own_blk ((own_cs x0 x1 x2 x3 x4).getD 1 0) zz1 (own_blk ((own_cs x0 x1 x2 x3 x4).getD 0 0) zz0 (0 : Int32)))), .val (.int (2 : Int32)), .val (.int x4), .unset, .unset] [(.ref b1), (.int (own_blk ((own_cs x0 x1 x2 x3 x4).getD 1 0) zz1 (own_blk ((own_cs x0 x1 x2 x3 x4).getD 0 0) zz0 (0 : Int32))))]))
      refine own_step (fun t k => XS.iload X69.here hx rfl (hb hby d2_80) rfl k) ?_
      show own_G p.tables e below _ (T69.setTop (mkF m 82 #[.val (.ref a1), .val (.ref a2), .val (.int (3 : Int32)), .val (.ref b1), .val (.ref b44), .val (.int (own_blk ((own_cs x0 x1 x2 x3 x4).getD 1 0) zz1 (own_blk ((own_cs x0 x1 x2 x3 x4).getD 0 0) zz0 (0 : Int32)))), .val (.int (2 : Int32)), .val (.int x4), .unset, .unset] [(.int (2 : Int32)), (.ref b1), (.int (own_blk ((own_cs x0 x1 x2 x3 x4).getD 1 0) zz1 (own_blk ((own_cs x0 x1 x2 x3 x4).getD 0 0) zz0 (0 : Int32))))]))
      refine own_step (own_iaload X69 hx hZ e69 c73 (own_inb (by decide) (by rw [own_cs_len]; decide)) (g := (mkF m 82 #[.val (.ref a1), .val (.ref a2), .val (.int (3 : Int32)), .val (.ref b1), .val (.ref b44), .val (.int (own_blk ((own_cs x0 x1 x2 x3 x4).getD 1 0) zz1 (own_blk ((own_cs x0 x1 x2 x3 x4).getD 0 0) zz0 (0 : Int32)))), .val (.int (2 : Int32)), .val (.int x4), .unset, .unset] [(.int (2 : Int32)), (.ref b1), (.int (own_blk ((own_cs x0 x1 x2 x3 x4).getD 1 0) zz1 (own_blk ((own_cs x0 x1 x2 x3 x4).getD 0 0) zz0 (0 : Int32))))])) rfl rfl (hb hby d2_82)) ?_
      show own_G p.tables e below _ (T69.setTop (mkF m 83 #[.val (.ref a1), .val (.ref a2), .val (.int (3 : Int32)), .val (.ref b1), .val (.ref b44), .val (.int (own_blk ((own_cs x0 x1 x2 x3 x4).getD 1 0) zz1 (own_blk ((own_cs x0 x1 x2 x3 x4).getD 0 0) zz0 (0 : Int32)))), .val (.int (2 : Int32)), .val (.int x4), .unset, .unset] [(.int ((own_cs x0 x1 x2 x3 x4).getD 2 0)), (.int (own_blk ((own_cs x0 x1 x2 x3 x4).getD 1 0) zz1 (own_blk ((own_cs x0 x1 x2 x3 x4).getD 0 0) zz0 (0 : Int32))))]))
      refine own_step (fun t k => XS.iconst X69.here hx rfl (hb hby d2_83) k) ?_
      show own_G p.tables e below _ (T69.setTop (mkF m 84 #[.val (.ref a1), .val (.ref a2), .val (.int (3 : Int32)), .val (.ref b1), .val (.ref b44), .val (.int (own_blk ((own_cs x0 x1 x2 x3 x4).getD 1 0) zz1 (own_blk ((own_cs x0 x1 x2 x3 x4).getD 0 0) zz0 (0 : Int32)))), .val (.int (2 : Int32)), .val (.int x4), .unset, .unset] [(.int (1 : Int32)), (.int ((own_cs x0 x1 x2 x3 x4).getD 2 0)), (.int (own_blk ((own_cs x0 x1 x2 x3 x4).getD 1 0) zz1 (own_blk ((own_cs x0 x1 x2 x3 x4).getD 0 0) zz0 (0 : Int32))))]))
      refine own_step (fun t k => XS.isub X69.here hx rfl (hb hby d2_84) rfl k) ?_
      show own_G p.tables e below _ (T69.setTop (mkF m 85 #[.val (.ref a1), .val (.ref a2), .val (.int (3 : Int32)), .val (.ref b1), .val (.ref b44), .val (.int (own_blk ((own_cs x0 x1 x2 x3 x4).getD 1 0) zz1 (own_blk ((own_cs x0 x1 x2 x3 x4).getD 0 0) zz0 (0 : Int32)))), .val (.int (2 : Int32)), .val (.int x4), .unset, .unset] [(.int (((own_cs x0 x1 x2 x3 x4).getD 2 0) - (1 : Int32))), (.int (own_blk ((own_cs x0 x1 x2 x3 x4).getD 1 0) zz1 (own_blk ((own_cs x0 x1 x2 x3 x4).getD 0 0) zz0 (0 : Int32))))]))
      refine own_step (fun t k => XS.aloadN X69.here hx rfl (hb hby d2_85) rfl rfl k) ?_
      show own_G p.tables e below _ (T69.setTop (mkF m 86 #[.val (.ref a1), .val (.ref a2), .val (.int (3 : Int32)), .val (.ref b1), .val (.ref b44), .val (.int (own_blk ((own_cs x0 x1 x2 x3 x4).getD 1 0) zz1 (own_blk ((own_cs x0 x1 x2 x3 x4).getD 0 0) zz0 (0 : Int32)))), .val (.int (2 : Int32)), .val (.int x4), .unset, .unset] [(.ref a2), (.int (((own_cs x0 x1 x2 x3 x4).getD 2 0) - (1 : Int32))), (.int (own_blk ((own_cs x0 x1 x2 x3 x4).getD 1 0) zz1 (own_blk ((own_cs x0 x1 x2 x3 x4).getD 0 0) zz0 (0 : Int32))))]))
      refine own_step (fun t k => XS.iload X69.here hx rfl (hb hby d2_86) rfl k) ?_
      show own_G p.tables e below _ (T69.setTop (mkF m 88 #[.val (.ref a1), .val (.ref a2), .val (.int (3 : Int32)), .val (.ref b1), .val (.ref b44), .val (.int (own_blk ((own_cs x0 x1 x2 x3 x4).getD 1 0) zz1 (own_blk ((own_cs x0 x1 x2 x3 x4).getD 0 0) zz0 (0 : Int32)))), .val (.int (2 : Int32)), .val (.int x4), .unset, .unset] [(.int (2 : Int32)), (.ref a2), (.int (((own_cs x0 x1 x2 x3 x4).getD 2 0) - (1 : Int32))), (.int (own_blk ((own_cs x0 x1 x2 x3 x4).getD 1 0) zz1 (own_blk ((own_cs x0 x1 x2 x3 x4).getD 0 0) zz0 (0 : Int32))))]))
      refine own_step (own_iaload X69 hx hZ e69 c72 (own_inb (by decide) (Nat.le_of_ble_eq_true rfl)) (g := (mkF m 88 #[.val (.ref a1), .val (.ref a2), .val (.int (3 : Int32)), .val (.ref b1), .val (.ref b44), .val (.int (own_blk ((own_cs x0 x1 x2 x3 x4).getD 1 0) zz1 (own_blk ((own_cs x0 x1 x2 x3 x4).getD 0 0) zz0 (0 : Int32)))), .val (.int (2 : Int32)), .val (.int x4), .unset, .unset] [(.int (2 : Int32)), (.ref a2), (.int (((own_cs x0 x1 x2 x3 x4).getD 2 0) - (1 : Int32))), (.int (own_blk ((own_cs x0 x1 x2 x3 x4).getD 1 0) zz1 (own_blk ((own_cs x0 x1 x2 x3 x4).getD 0 0) zz0 (0 : Int32))))])) rfl rfl (hb hby d2_88)) ?_
      show own_G p.tables e below _ (T69.setTop (mkF m 89 #[.val (.ref a1), .val (.ref a2), .val (.int (3 : Int32)), .val (.ref b1), .val (.ref b44), .val (.int (own_blk ((own_cs x0 x1 x2 x3 x4).getD 1 0) zz1 (own_blk ((own_cs x0 x1 x2 x3 x4).getD 0 0) zz0 (0 : Int32)))), .val (.int (2 : Int32)), .val (.int x4), .unset, .unset] [(.int zz2), (.int (((own_cs x0 x1 x2 x3 x4).getD 2 0) - (1 : Int32))), (.int (own_blk ((own_cs x0 x1 x2 x3 x4).getD 1 0) zz1 (own_blk ((own_cs x0 x1 x2 x3 x4).getD 0 0) zz0 (0 : Int32))))]))
      refine own_step (fun t k => XS.idiv X69.here hx rfl (hb hby d2_89) rfl hz2 k) ?_
      show own_G p.tables e below _ (T69.setTop (mkF m 90 #[.val (.ref a1), .val (.ref a2), .val (.int (3 : Int32)), .val (.ref b1), .val (.ref b44), .val (.int (own_blk ((own_cs x0 x1 x2 x3 x4).getD 1 0) zz1 (own_blk ((own_cs x0 x1 x2 x3 x4).getD 0 0) zz0 (0 : Int32)))), .val (.int (2 : Int32)), .val (.int x4), .unset, .unset] [(.int ((((own_cs x0 x1 x2 x3 x4).getD 2 0) - (1 : Int32)) / zz2)), (.int (own_blk ((own_cs x0 x1 x2 x3 x4).getD 1 0) zz1 (own_blk ((own_cs x0 x1 x2 x3 x4).getD 0 0) zz0 (0 : Int32))))]))
      refine own_step (fun t k => XS.iconst X69.here hx rfl (hb hby d2_90) k) ?_
      show own_G p.tables e below _ (T69.setTop (mkF m 91 #[.val (.ref a1), .val (.ref a2), .val (.int (3 : Int32)), .val (.ref b1), .val (.ref b44), .val (.int (own_blk ((own_cs x0 x1 x2 x3 x4).getD 1 0) zz1 (own_blk ((own_cs x0 x1 x2 x3 x4).getD 0 0) zz0 (0 : Int32)))), .val (.int (2 : Int32)), .val (.int x4), .unset, .unset] [(.int (1 : Int32)), (.int ((((own_cs x0 x1 x2 x3 x4).getD 2 0) - (1 : Int32)) / zz2)), (.int (own_blk ((own_cs x0 x1 x2 x3 x4).getD 1 0) zz1 (own_blk ((own_cs x0 x1 x2 x3 x4).getD 0 0) zz0 (0 : Int32))))]))
      refine own_step (fun t k => XS.iadd X69.here hx rfl (hb hby d2_91) rfl k) ?_
      show own_G p.tables e below _ (T69.setTop (mkF m 92 #[.val (.ref a1), .val (.ref a2), .val (.int (3 : Int32)), .val (.ref b1), .val (.ref b44), .val (.int (own_blk ((own_cs x0 x1 x2 x3 x4).getD 1 0) zz1 (own_blk ((own_cs x0 x1 x2 x3 x4).getD 0 0) zz0 (0 : Int32)))), .val (.int (2 : Int32)), .val (.int x4), .unset, .unset] [(.int (((((own_cs x0 x1 x2 x3 x4).getD 2 0) - (1 : Int32)) / zz2) + (1 : Int32))), (.int (own_blk ((own_cs x0 x1 x2 x3 x4).getD 1 0) zz1 (own_blk ((own_cs x0 x1 x2 x3 x4).getD 0 0) zz0 (0 : Int32))))]))
      refine own_step (fun t k => XS.iadd X69.here hx rfl (hb hby d2_92) rfl k) ?_
      show own_G p.tables e below _ (T69.setTop (mkF m 93 #[.val (.ref a1), .val (.ref a2), .val (.int (3 : Int32)), .val (.ref b1), .val (.ref b44), .val (.int (own_blk ((own_cs x0 x1 x2 x3 x4).getD 1 0) zz1 (own_blk ((own_cs x0 x1 x2 x3 x4).getD 0 0) zz0 (0 : Int32)))), .val (.int (2 : Int32)), .val (.int x4), .unset, .unset] [(.int ((own_blk ((own_cs x0 x1 x2 x3 x4).getD 1 0) zz1 (own_blk ((own_cs x0 x1 x2 x3 x4).getD 0 0) zz0 (0 : Int32))) + (((((own_cs x0 x1 x2 x3 x4).getD 2 0) - (1 : Int32)) / zz2) + (1 : Int32))))]))
      refine own_step (fun t k => XS.istore X69.here hx rfl (hb hby d2_93) rfl (l' := #[.val (.ref a1), .val (.ref a2), .val (.int (3 : Int32)), .val (.ref b1), .val (.ref b44), .val (.int ((own_blk ((own_cs x0 x1 x2 x3 x4).getD 1 0) zz1 (own_blk ((own_cs x0 x1 x2 x3 x4).getD 0 0) zz0 (0 : Int32))) + (((((own_cs x0 x1 x2 x3 x4).getD 2 0) - (1 : Int32)) / zz2) + (1 : Int32)))), .val (.int (2 : Int32)), .val (.int x4), .unset, .unset]) rfl k) ?_
      show own_G p.tables e below _ (T69.setTop (mkF m 95 #[.val (.ref a1), .val (.ref a2), .val (.int (3 : Int32)), .val (.ref b1), .val (.ref b44), .val (.int ((own_blk ((own_cs x0 x1 x2 x3 x4).getD 1 0) zz1 (own_blk ((own_cs x0 x1 x2 x3 x4).getD 0 0) zz0 (0 : Int32))) + (((((own_cs x0 x1 x2 x3 x4).getD 2 0) - (1 : Int32)) / zz2) + (1 : Int32)))), .val (.int (2 : Int32)), .val (.int x4), .unset, .unset] []))
      exact k0
    · simp only [if_neg hc75] at k0
      refine own_step (fun t k => XS.ifYes X69.here hx rfl (pc0 := 74) (pc' := 95) rfl (hb hby d2_74) rfl ((if0 _ _).trans (flt hc75).2.2.2) (by decide) (by decide) k) ?_
      show own_G p.tables e below _ (T69.setTop (mkF m 95 #[.val (.ref a1), .val (.ref a2), .val (.int (3 : Int32)), .val (.ref b1), .val (.ref b44), .val (.int (own_blk ((own_cs x0 x1 x2 x3 x4).getD 1 0) zz1 (own_blk ((own_cs x0 x1 x2 x3 x4).getD 0 0) zz0 (0 : Int32)))), .val (.int (2 : Int32)), .val (.int x4), .unset, .unset] []))
      exact k0
  show own_G p.tables e below _ (T69.setTop (mkF m 95 #[.val (.ref a1), .val (.ref a2), .val (.int (3 : Int32)), .val (.ref b1), .val (.ref b44), .val (.int (if (0 : Int32) < ((own_cs x0 x1 x2 x3 x4).getD 2 0) then ((own_blk ((own_cs x0 x1 x2 x3 x4).getD 1 0) zz1 (own_blk ((own_cs x0 x1 x2 x3 x4).getD 0 0) zz0 (0 : Int32))) + (((((own_cs x0 x1 x2 x3 x4).getD 2 0) - (1 : Int32)) / zz2) + (1 : Int32))) else (own_blk ((own_cs x0 x1 x2 x3 x4).getD 1 0) zz1 (own_blk ((own_cs x0 x1 x2 x3 x4).getD 0 0) zz0 (0 : Int32))))), .val (.int (2 : Int32)), .val (.int x4), .unset, .unset] []))
  show own_G p.tables e below _ (T69.setTop (mkF m 95 #[.val (.ref a1), .val (.ref a2), .val (.int (3 : Int32)), .val (.ref b1), .val (.ref b44), .val (.int (own_blk ((own_cs x0 x1 x2 x3 x4).getD 2 0) zz2 (own_blk ((own_cs x0 x1 x2 x3 x4).getD 1 0) zz1 (own_blk ((own_cs x0 x1 x2 x3 x4).getD 0 0) zz0 (0 : Int32))))), .val (.int (2 : Int32)), .val (.int x4), .unset, .unset] []))
  refine own_step (fun t k => XS.iinc X69.here hx rfl (hb hby d2_95) rfl (l' := #[.val (.ref a1), .val (.ref a2), .val (.int (3 : Int32)), .val (.ref b1), .val (.ref b44), .val (.int (own_blk ((own_cs x0 x1 x2 x3 x4).getD 2 0) zz2 (own_blk ((own_cs x0 x1 x2 x3 x4).getD 1 0) zz1 (own_blk ((own_cs x0 x1 x2 x3 x4).getD 0 0) zz0 (0 : Int32))))), .val (.int (3 : Int32)), .val (.int x4), .unset, .unset]) rfl k) ?_
  show own_G p.tables e below _ (T69.setTop (mkF m 98 #[.val (.ref a1), .val (.ref a2), .val (.int (3 : Int32)), .val (.ref b1), .val (.ref b44), .val (.int (own_blk ((own_cs x0 x1 x2 x3 x4).getD 2 0) zz2 (own_blk ((own_cs x0 x1 x2 x3 x4).getD 1 0) zz1 (own_blk ((own_cs x0 x1 x2 x3 x4).getD 0 0) zz0 (0 : Int32))))), .val (.int (3 : Int32)), .val (.int x4), .unset, .unset] []))
  refine own_step (fun t k => XS.goto X69.here hx rfl (pc0 := 98) (pc' := 57) rfl (hb hby d2_98) (by decide) (by decide) k) ?_
  show own_G p.tables e below _ (T69.setTop (mkF m 57 #[.val (.ref a1), .val (.ref a2), .val (.int (3 : Int32)), .val (.ref b1), .val (.ref b44), .val (.int (own_blk ((own_cs x0 x1 x2 x3 x4).getD 2 0) zz2 (own_blk ((own_cs x0 x1 x2 x3 x4).getD 1 0) zz1 (own_blk ((own_cs x0 x1 x2 x3 x4).getD 0 0) zz0 (0 : Int32))))), .val (.int (3 : Int32)), .val (.int x4), .unset, .unset] []))
  refine own_step (fun t k => XS.iload X69.here hx rfl (hb hby d2_57) rfl k) ?_
  show own_G p.tables e below _ (T69.setTop (mkF m 59 #[.val (.ref a1), .val (.ref a2), .val (.int (3 : Int32)), .val (.ref b1), .val (.ref b44), .val (.int (own_blk ((own_cs x0 x1 x2 x3 x4).getD 2 0) zz2 (own_blk ((own_cs x0 x1 x2 x3 x4).getD 1 0) zz1 (own_blk ((own_cs x0 x1 x2 x3 x4).getD 0 0) zz0 (0 : Int32))))), .val (.int (3 : Int32)), .val (.int x4), .unset, .unset] [(.int (3 : Int32))]))
  refine own_step (fun t k => XS.iloadN X69.here hx rfl (hb hby d2_59) rfl k) ?_
  show own_G p.tables e below _ (T69.setTop (mkF m 60 #[.val (.ref a1), .val (.ref a2), .val (.int (3 : Int32)), .val (.ref b1), .val (.ref b44), .val (.int (own_blk ((own_cs x0 x1 x2 x3 x4).getD 2 0) zz2 (own_blk ((own_cs x0 x1 x2 x3 x4).getD 1 0) zz1 (own_blk ((own_cs x0 x1 x2 x3 x4).getD 0 0) zz0 (0 : Int32))))), .val (.int (3 : Int32)), .val (.int x4), .unset, .unset] [(.int (3 : Int32)), (.int (3 : Int32))]))
  have hk76 : ¬ ((3 : Int32) < (3 : Int32)) := (by decide)
  refine own_step (fun t k => XS.icmpYes X69.here hx rfl (pc0 := 60) (pc' := 101) rfl (hb hby d2_60) rfl ((flt hk76).2.1) (by decide) (by decide) k) ?_
  show own_G p.tables e below _ (T69.setTop (mkF m 101 #[.val (.ref a1), .val (.ref a2), .val (.int (3 : Int32)), .val (.ref b1), .val (.ref b44), .val (.int (own_blk ((own_cs x0 x1 x2 x3 x4).getD 2 0) zz2 (own_blk ((own_cs x0 x1 x2 x3 x4).getD 1 0) zz1 (own_blk ((own_cs x0 x1 x2 x3 x4).getD 0 0) zz0 (0 : Int32))))), .val (.int (3 : Int32)), .val (.int x4), .unset, .unset] []))
  refine own_step (fun t k => XS.iloadN X69.here hx rfl (hb hby d2_101) rfl k) ?_
  show own_G p.tables e below _ (T69.setTop (mkF m 102 #[.val (.ref a1), .val (.ref a2), .val (.int (3 : Int32)), .val (.ref b1), .val (.ref b44), .val (.int (own_blk ((own_cs x0 x1 x2 x3 x4).getD 2 0) zz2 (own_blk ((own_cs x0 x1 x2 x3 x4).getD 1 0) zz1 (own_blk ((own_cs x0 x1 x2 x3 x4).getD 0 0) zz0 (0 : Int32))))), .val (.int (3 : Int32)), .val (.int x4), .unset, .unset] [(.int (3 : Int32))]))
  obtain ⟨T77, h77, k77, X77, e77, E77, A77, st77⟩ := newP X69 hx hZ (hw _ (List.mem_of_getElem? (i := 1) rfl)) e69 (g := (mkF m 102 #[.val (.ref a1), .val (.ref a2), .val (.int (3 : Int32)), .val (.ref b1), .val (.ref b44), .val (.int (own_blk ((own_cs x0 x1 x2 x3 x4).getD 2 0) zz2 (own_blk ((own_cs x0 x1 x2 x3 x4).getD 1 0) zz1 (own_blk ((own_cs x0 x1 x2 x3 x4).getD 0 0) zz0 (0 : Int32))))), .val (.int (3 : Int32)), .val (.int x4), .unset, .unset] [(.int (3 : Int32))])) rfl (hb hby d2_102) rfl (by decide) (cap := 3) (by decide) (by decide) (by decide) (by decide)
  obtain ⟨b77, g77⟩ : ∃ z, z = h69.size := ⟨_, rfl⟩
  have ne78 : a1 ≠ b77 := Nat.ne_of_lt (Nat.lt_of_lt_of_le c71.lt (Nat.le_of_eq g77.symm))
  have ne79 : a2 ≠ b77 := Nat.ne_of_lt (Nat.lt_of_lt_of_le c72.lt (Nat.le_of_eq g77.symm))
  have ne80 : b1 ≠ b77 := Nat.ne_of_lt (Nat.lt_of_lt_of_le c73.lt (Nat.le_of_eq g77.symm))
  have ne81 : b44 ≠ b77 := Nat.ne_of_lt (Nat.lt_of_lt_of_le c70.lt (Nat.le_of_eq g77.symm))
  have sz77 : h0.size ≤ b77 := Nat.le_trans K69.1 (Nat.le_of_eq g77.symm)
  have ge77 : n0 ≤ b77 := Nat.le_trans Z0 sz77
  have c82 : own_Ari Z h77 a1 .int [x0, x1, x2, x3, x4] := c71.ext E77
  have c83 : own_Ari Z h77 a2 .int [zz0, zz1, zz2] := c72.ext E77
  have c84 : own_Ari Z h77 b1 .int (own_cs x0 x1 x2 x3 x4) := c73.ext E77
  have c85 : own_Ari Z h77 b44 .int [(0 : Int32), (own_blk ((own_cs x0 x1 x2 x3 x4).getD 0 0) zz0 (0 : Int32)), (own_blk ((own_cs x0 x1 x2 x3 x4).getD 1 0) zz1 (own_blk ((own_cs x0 x1 x2 x3 x4).getD 0 0) zz0 (0 : Int32)))] := c70.ext E77
  have K77 : Keep h0 h77 [] := K69.ext E77
  rw [← g77] at A77 st77
  have c86 : own_Ari Z h77 b77 .int [(0 : Int32), (0 : Int32), (0 : Int32)] := own_Ari_new (ty := .int) A77 (by decide) rfl
  refine own_step st77 ?_
  clear A77 E77 K69 X69 c70 c71 c72 c73 e69 g77 hk76 st77
  show own_G p.tables e below _ (T77.setTop (mkF m 104 #[.val (.ref a1), .val (.ref a2), .val (.int (3 : Int32)), .val (.ref b1), .val (.ref b44), .val (.int (own_blk ((own_cs x0 x1 x2 x3 x4).getD 2 0) zz2 (own_blk ((own_cs x0 x1 x2 x3 x4).getD 1 0) zz1 (own_blk ((own_cs x0 x1 x2 x3 x4).getD 0 0) zz0 (0 : Int32))))), .val (.int (3 : Int32)), .val (.int x4), .unset, .unset] [(.ref b77)]))
  refine own_step (fun t k => XS.astore X77.here hx rfl (hb hby d2_104) rfl rfl (l' := #[.val (.ref a1), .val (.ref a2), .val (.int (3 : Int32)), .val (.ref b1), .val (.ref b44), .val (.int (own_blk ((own_cs x0 x1 x2 x3 x4).getD 2 0) zz2 (own_blk ((own_cs x0 x1 x2 x3 x4).getD 1 0) zz1 (own_blk ((own_cs x0 x1 x2 x3 x4).getD 0 0) zz0 (0 : Int32))))), .val (.ref b77), .val (.int x4), .unset, .unset]) rfl k) ?_
  show own_G p.tables e below _ (T77.setTop (mkF m 106 #[.val (.ref a1), .val (.ref a2), .val (.int (3 : Int32)), .val (.ref b1), .val (.ref b44), .val (.int (own_blk ((own_cs x0 x1 x2 x3 x4).getD 2 0) zz2 (own_blk ((own_cs x0 x1 x2 x3 x4).getD 1 0) zz1 (own_blk ((own_cs x0 x1 x2 x3 x4).getD 0 0) zz0 (0 : Int32))))), .val (.ref b77), .val (.int x4), .unset, .unset] []))
  refine own_step (fun t k => XS.aloadN X77.here hx rfl (hb hby d2_106) rfl rfl k) ?_
  show own_G p.tables e below _ (T77.setTop (mkF m 107 #[.val (.ref a1), .val (.ref a2), .val (.int (3 : Int32)), .val (.ref b1), .val (.ref b44), .val (.int (own_blk ((own_cs x0 x1 x2 x3 x4).getD 2 0) zz2 (own_blk ((own_cs x0 x1 x2 x3 x4).getD 1 0) zz1 (own_blk ((own_cs x0 x1 x2 x3 x4).getD 0 0) zz0 (0 : Int32))))), .val (.ref b77), .val (.int x4), .unset, .unset] [(.ref a1)]))
  refine own_step (own_lenI X77 hx hZ e77 c82 (g := (mkF m 107 #[.val (.ref a1), .val (.ref a2), .val (.int (3 : Int32)), .val (.ref b1), .val (.ref b44), .val (.int (own_blk ((own_cs x0 x1 x2 x3 x4).getD 2 0) zz2 (own_blk ((own_cs x0 x1 x2 x3 x4).getD 1 0) zz1 (own_blk ((own_cs x0 x1 x2 x3 x4).getD 0 0) zz0 (0 : Int32))))), .val (.ref b77), .val (.int x4), .unset, .unset] [(.ref a1)])) rfl rfl (hb hby d2_107)) ?_
  show own_G p.tables e below _ (T77.setTop (mkF m 108 #[.val (.ref a1), .val (.ref a2), .val (.int (3 : Int32)), .val (.ref b1), .val (.ref b44), .val (.int (own_blk ((own_cs x0 x1 x2 x3 x4).getD 2 0) zz2 (own_blk ((own_cs x0 x1 x2 x3 x4).getD 1 0) zz1 (own_blk ((own_cs x0 x1 x2 x3 x4).getD 0 0) zz0 (0 : Int32))))), .val (.ref b77), .val (.int x4), .unset, .unset] [(.int (5 : Int32))]))
  obtain ⟨T87, h87, k87, X87, e87, E87, A87, st87⟩ := newP X77 hx hZ (hw _ (List.mem_of_getElem? (i := 1) rfl)) e77 (g := (mkF m 108 #[.val (.ref a1), .val (.ref a2), .val (.int (3 : Int32)), .val (.ref b1), .val (.ref b44), .val (.int (own_blk ((own_cs x0 x1 x2 x3 x4).getD 2 0) zz2 (own_blk ((own_cs x0 x1 x2 x3 x4).getD 1 0) zz1 (own_blk ((own_cs x0 x1 x2 x3 x4).getD 0 0) zz0 (0 : Int32))))), .val (.ref b77), .val (.int x4), .unset, .unset] [(.int (5 : Int32))])) rfl (hb hby d2_108) rfl (by decide) (cap := 5) (by decide) (by decide) (by decide) (by decide)
  obtain ⟨b87, g87⟩ : ∃ z, z = h77.size := ⟨_, rfl⟩
  have ne88 : a1 ≠ b87 := Nat.ne_of_lt (Nat.lt_of_lt_of_le c82.lt (Nat.le_of_eq g87.symm))
  have ne89 : a2 ≠ b87 := Nat.ne_of_lt (Nat.lt_of_lt_of_le c83.lt (Nat.le_of_eq g87.symm))
  have ne90 : b1 ≠ b87 := Nat.ne_of_lt (Nat.lt_of_lt_of_le c84.lt (Nat.le_of_eq g87.symm))
  have ne91 : b44 ≠ b87 := Nat.ne_of_lt (Nat.lt_of_lt_of_le c85.lt (Nat.le_of_eq g87.symm))
  have ne92 : b77 ≠ b87 := Nat.ne_of_lt (Nat.lt_of_lt_of_le c86.lt (Nat.le_of_eq g87.symm))
  have sz87 : h0.size ≤ b87 := Nat.le_trans K77.1 (Nat.le_of_eq g87.symm)
  have ge87 : n0 ≤ b87 := Nat.le_trans Z0 sz87
  have c93 : own_Ari Z h87 a1 .int [x0, x1, x2, x3, x4] := c82.ext E87
  have c94 : own_Ari Z h87 a2 .int [zz0, zz1, zz2] := c83.ext E87
  have c95 : own_Ari Z h87 b1 .int (own_cs x0 x1 x2 x3 x4) := c84.ext E87
  have c96 : own_Ari Z h87 b44 .int [(0 : Int32), (own_blk ((own_cs x0 x1 x2 x3 x4).getD 0 0) zz0 (0 : Int32)), (own_blk ((own_cs x0 x1 x2 x3 x4).getD 1 0) zz1 (own_blk ((own_cs x0 x1 x2 x3 x4).getD 0 0) zz0 (0 : Int32)))] := c85.ext E87
  have c97 : own_Ari Z h87 b77 .int [(0 : Int32), (0 : Int32), (0 : Int32)] := c86.ext E87
  have K87 : Keep h0 h87 [] := K77.ext E87
  rw [← g87] at A87 st87
  have c98 : own_Ari Z h87 b87 .int [(0 : Int32), (0 : Int32), (0 : Int32), (0 : Int32), (0 : Int32)] := own_Ari_new (ty := .int) A87 (by decide) rfl
  refine own_step st87 ?_
  clear A87 E87 K77 X77 c82 c83 c84 c85 c86 e77 g87 st87
  show own_G p.tables e below _ (T87.setTop (mkF m 110 #[.val (.ref a1), .val (.ref a2), .val (.int (3 : Int32)), .val (.ref b1), .val (.ref b44), .val (.int (own_blk ((own_cs x0 x1 x2 x3 x4).getD 2 0) zz2 (own_blk ((own_cs x0 x1 x2 x3 x4).getD 1 0) zz1 (own_blk ((own_cs x0 x1 x2 x3 x4).getD 0 0) zz0 (0 : Int32))))), .val (.ref b77), .val (.int x4), .unset, .unset] [(.ref b87)]))
  refine own_step (fun t k => XS.astore X87.here hx rfl (hb hby d2_110) rfl rfl (l' := #[.val (.ref a1), .val (.ref a2), .val (.int (3 : Int32)), .val (.ref b1), .val (.ref b44), .val (.int (own_blk ((own_cs x0 x1 x2 x3 x4).getD 2 0) zz2 (own_blk ((own_cs x0 x1 x2 x3 x4).getD 1 0) zz1 (own_blk ((own_cs x0 x1 x2 x3 x4).getD 0 0) zz0 (0 : Int32))))), .val (.ref b77), .val (.ref b87), .unset, .unset]) rfl k) ?_
  show own_G p.tables e below _ (T87.setTop (mkF m 112 #[.val (.ref a1), .val (.ref a2), .val (.int (3 : Int32)), .val (.ref b1), .val (.ref b44), .val (.int (own_blk ((own_cs x0 x1 x2 x3 x4).getD 2 0) zz2 (own_blk ((own_cs x0 x1 x2 x3 x4).getD 1 0) zz1 (own_blk ((own_cs x0 x1 x2 x3 x4).getD 0 0) zz0 (0 : Int32))))), .val (.ref b77), .val (.ref b87), .unset, .unset] []))
  refine own_step (fun t k => XS.iconst X87.here hx rfl (hb hby d2_112) k) ?_
  show own_G p.tables e below _ (T87.setTop (mkF m 113 #[.val (.ref a1), .val (.ref a2), .val (.int (3 : Int32)), .val (.ref b1), .val (.ref b44), .val (.int (own_blk ((own_cs x0 x1 x2 x3 x4).getD 2 0) zz2 (own_blk ((own_cs x0 x1 x2 x3 x4).getD 1 0) zz1 (own_blk ((own_cs x0 x1 x2 x3 x4).getD 0 0) zz0 (0 : Int32))))), .val (.ref b77), .val (.ref b87), .unset, .unset] [(.int (0 : Int32))]))
  refine own_step (fun t k => XS.istore X87.here hx rfl (hb hby d2_113) rfl (l' := #[.val (.ref a1), .val (.ref a2), .val (.int (3 : Int32)), .val (.ref b1), .val (.ref b44), .val (.int (own_blk ((own_cs x0 x1 x2 x3 x4).getD 2 0) zz2 (own_blk ((own_cs x0 x1 x2 x3 x4).getD 1 0) zz1 (own_blk ((own_cs x0 x1 x2 x3 x4).getD 0 0) zz0 (0 : Int32))))), .val (.ref b77), .val (.ref b87), .val (.int (0 : Int32)), .unset]) rfl k) ?_
  show own_G p.tables e below _ (T87.setTop (mkF m 115 #[.val (.ref a1), .val (.ref a2), .val (.int (3 : Int32)), .val (.ref b1), .val (.ref b44), .val (.int (own_blk ((own_cs x0 x1 x2 x3 x4).getD 2 0) zz2 (own_blk ((own_cs x0 x1 x2 x3 x4).getD 1 0) zz1 (own_blk ((own_cs x0 x1 x2 x3 x4).getD 0 0) zz0 (0 : Int32))))), .val (.ref b77), .val (.ref b87), .val (.int (0 : Int32)), .unset] []))
  refine own_step (fun t k => XS.iload X87.here hx rfl (hb hby d2_115) rfl k) ?_
  show own_G p.tables e below _ (T87.setTop (mkF m 117 #[.val (.ref a1), .val (.ref a2), .val (.int (3 : Int32)), .val (.ref b1), .val (.ref b44), .val (.int (own_blk ((own_cs x0 x1 x2 x3 x4).getD 2 0) zz2 (own_blk ((own_cs x0 x1 x2 x3 x4).getD 1 0) zz1 (own_blk ((own_cs x0 x1 x2 x3 x4).getD 0 0) zz0 (0 : Int32))))), .val (.ref b77), .val (.ref b87), .val (.int (0 : Int32)), .unset] [(.int (0 : Int32))]))
  refine own_step (fun t k => XS.aloadN X87.here hx rfl (hb hby d2_117) rfl rfl k) ?_
  show own_G p.tables e below _ (T87.setTop (mkF m 118 #[.val (.ref a1), .val (.ref a2), .val (.int (3 : Int32)), .val (.ref b1), .val (.ref b44), .val (.int (own_blk ((own_cs x0 x1 x2 x3 x4).getD 2 0) zz2 (own_blk ((own_cs x0 x1 x2 x3 x4).getD 1 0) zz1 (own_blk ((own_cs x0 x1 x2 x3 x4).getD 0 0) zz0 (0 : Int32))))), .val (.ref b77), .val (.ref b87), .val (.int (0 : Int32)), .unset] [(.ref a1), (.int (0 : Int32))]))
  refine own_step (own_lenI X87 hx hZ e87 c93 (g := (mkF m 118 #[.val (.ref a1), .val (.ref a2), .val (.int (3 : Int32)), .val (.ref b1), .val (.ref b44), .val (.int (own_blk ((own_cs x0 x1 x2 x3 x4).getD 2 0) zz2 (own_blk ((own_cs x0 x1 x2 x3 x4).getD 1 0) zz1 (own_blk ((own_cs x0 x1 x2 x3 x4).getD 0 0) zz0 (0 : Int32))))), .val (.ref b77), .val (.ref b87), .val (.int (0 : Int32)), .unset] [(.ref a1), (.int (0 : Int32))])) rfl rfl (hb hby d2_118)) ?_
  show own_G p.tables e below _ (T87.setTop (mkF m 119 #[.val (.ref a1), .val (.ref a2), .val (.int (3 : Int32)), .val (.ref b1), .val (.ref b44), .val (.int (own_blk ((own_cs x0 x1 x2 x3 x4).getD 2 0) zz2 (own_blk ((own_cs x0 x1 x2 x3 x4).getD 1 0) zz1 (own_blk ((own_cs x0 x1 x2 x3 x4).getD 0 0) zz0 (0 : Int32))))), .val (.ref b77), .val (.ref b87), .val (.int (0 : Int32)), .unset] [(.int (5 : Int32)), (.int (0 : Int32))]))
  have hk99 : (0 : Int32) < (5 : Int32) := (by decide)
  refine own_step (fun t k => XS.icmpNo X87.here hx rfl (hb hby d2_119) rfl ((tlt hk99).2.1) k) ?_
  show own_G p.tables e below _ (T87.setTop (mkF m 122 #[.val (.ref a1), .val (.ref a2), .val (.int (3 : Int32)), .val (.ref b1), .val (.ref b44), .val (.int (own_blk ((own_cs x0 x1 x2 x3 x4).getD 2 0) zz2 (own_blk ((own_cs x0 x1 x2 x3 x4).getD 1 0) zz1 (own_blk ((own_cs x0 x1 x2 x3 x4).getD 0 0) zz0 (0 : Int32))))), .val (.ref b77), .val (.ref b87), .val (.int (0 : Int32)), .unset] []))
  refine own_step (fun t k => XS.aloadN X87.here hx rfl (hb hby d2_122) rfl rfl k) ?_
  show own_G p.tables e below _ (T87.setTop (mkF m 123 #[.val (.ref a1), .val (.ref a2), .val (.int (3 : Int32)), .val (.ref b1), .val (.ref b44), .val (.int (own_blk ((own_cs x0 x1 x2 x3 x4).getD 2 0) zz2 (own_blk ((own_cs x0 x1 x2 x3 x4).getD 1 0) zz1 (own_blk ((own_cs x0 x1 x2 x3 x4).getD 0 0) zz0 (0 : Int32))))), .val (.ref b77), .val (.ref b87), .val (.int (0 : Int32)), .unset] [(.ref a1)]))
  refine own_step (fun t k => XS.iload X87.here hx rfl (hb hby d2_123) rfl k) ?_
  show own_G p.tables e below _ (T87.setTop (mkF m 125 #[.val (.ref a1), .val (.ref a2), .val (.int (3 : Int32)), .val (.ref b1), .val (.ref b44), .val (.int (own_blk ((own_cs x0 x1 x2 x3 x4).getD 2 0) zz2 (own_blk ((own_cs x0 x1 x2 x3 x4).getD 1 0) zz1 (own_blk ((own_cs x0 x1 x2 x3 x4).getD 0 0) zz0 (0 : Int32))))), .val (.ref b77), .val (.ref b87), .val (.int (0 : Int32)), .unset] [(.int (0 : Int32)), (.ref a1)]))
  refine own_step (own_iaload X87 hx hZ e87 c93 (own_inb (by decide) (Nat.le_of_ble_eq_true rfl)) (g := (mkF m 125 #[.val (.ref a1), .val (.ref a2), .val (.int (3 : Int32)), .val (.ref b1), .val (.ref b44), .val (.int (own_blk ((own_cs x0 x1 x2 x3 x4).getD 2 0) zz2 (own_blk ((own_cs x0 x1 x2 x3 x4).getD 1 0) zz1 (own_blk ((own_cs x0 x1 x2 x3 x4).getD 0 0) zz0 (0 : Int32))))), .val (.ref b77), .val (.ref b87), .val (.int (0 : Int32)), .unset] [(.int (0 : Int32)), (.ref a1)])) rfl rfl (hb hby d2_125)) ?_
  show own_G p.tables e below _ (T87.setTop (mkF m 126 #[.val (.ref a1), .val (.ref a2), .val (.int (3 : Int32)), .val (.ref b1), .val (.ref b44), .val (.int (own_blk ((own_cs x0 x1 x2 x3 x4).getD 2 0) zz2 (own_blk ((own_cs x0 x1 x2 x3 x4).getD 1 0) zz1 (own_blk ((own_cs x0 x1 x2 x3 x4).getD 0 0) zz0 (0 : Int32))))), .val (.ref b77), .val (.ref b87), .val (.int (0 : Int32)), .unset] [(.int x0)]))
  refine own_step (fun t k => XS.istore X87.here hx rfl (hb hby d2_126) rfl (l' := #[.val (.ref a1), .val (.ref a2), .val (.int (3 : Int32)), .val (.ref b1), .val (.ref b44), .val (.int (own_blk ((own_cs x0 x1 x2 x3 x4).getD 2 0) zz2 (own_blk ((own_cs x0 x1 x2 x3 x4).getD 1 0) zz1 (own_blk ((own_cs x0 x1 x2 x3 x4).getD 0 0) zz0 (0 : Int32))))), .val (.ref b77), .val (.ref b87), .val (.int (0 : Int32)), .val (.int x0)]) rfl k) ?_
  show own_G p.tables e below _ (T87.setTop (mkF m 128 #[.val (.ref a1), .val (.ref a2), .val (.int (3 : Int32)), .val (.ref b1), .val (.ref b44), .val (.int (own_blk ((own_cs x0 x1 x2 x3 x4).getD 2 0) zz2 (own_blk ((own_cs x0 x1 x2 x3 x4).getD 1 0) zz1 (own_blk ((own_cs x0 x1 x2 x3 x4).getD 0 0) zz0 (0 : Int32))))), .val (.ref b77), .val (.ref b87), .val (.int (0 : Int32)), .val (.int x0)] []))
  refine own_step (fun t k => XS.aload X87.here hx rfl (hb hby d2_128) rfl rfl k) ?_
  show own_G p.tables e below _ (T87.setTop (mkF m 130 #[.val (.ref a1), .val (.ref a2), .val (.int (3 : Int32)), .val (.ref b1), .val (.ref b44), .val (.int (own_blk ((own_cs x0 x1 x2 x3 x4).getD 2 0) zz2 (own_blk ((own_cs x0 x1 x2 x3 x4).getD 1 0) zz1 (own_blk ((own_cs x0 x1 x2 x3 x4).getD 0 0) zz0 (0 : Int32))))), .val (.ref b77), .val (.ref b87), .val (.int (0 : Int32)), .val (.int x0)] [(.ref b87)]))
  refine own_step (fun t k => XS.iload X87.here hx rfl (hb hby d2_130) rfl k) ?_
  show own_G p.tables e below _ (T87.setTop (mkF m 132 #[.val (.ref a1), .val (.ref a2), .val (.int (3 : Int32)), .val (.ref b1), .val (.ref b44), .val (.int (own_blk ((own_cs x0 x1 x2 x3 x4).getD 2 0) zz2 (own_blk ((own_cs x0 x1 x2 x3 x4).getD 1 0) zz1 (own_blk ((own_cs x0 x1 x2 x3 x4).getD 0 0) zz0 (0 : Int32))))), .val (.ref b77), .val (.ref b87), .val (.int (0 : Int32)), .val (.int x0)] [(.int (0 : Int32)), (.ref b87)]))
  refine own_step (fun t k => XS.aload X87.here hx rfl (hb hby d2_132) rfl rfl k) ?_
  show own_G p.tables e below _ (T87.setTop (mkF m 134 #[.val (.ref a1), .val (.ref a2), .val (.int (3 : Int32)), .val (.ref b1), .val (.ref b44), .val (.int (own_blk ((own_cs x0 x1 x2 x3 x4).getD 2 0) zz2 (own_blk ((own_cs x0 x1 x2 x3 x4).getD 1 0) zz1 (own_blk ((own_cs x0 x1 x2 x3 x4).getD 0 0) zz0 (0 : Int32))))), .val (.ref b77), .val (.ref b87), .val (.int (0 : Int32)), .val (.int x0)] [(.ref b44), (.int (0 : Int32)), (.ref b87)]))
  refine own_step (fun t k => XS.iload X87.here hx rfl (hb hby d2_134) rfl k) ?_
  show own_G p.tables e below _ (T87.setTop (mkF m 136 #[.val (.ref a1), .val (.ref a2), .val (.int (3 : Int32)), .val (.ref b1), .val (.ref b44), .val (.int (own_blk ((own_cs x0 x1 x2 x3 x4).getD 2 0) zz2 (own_blk ((own_cs x0 x1 x2 x3 x4).getD 1 0) zz1 (own_blk ((own_cs x0 x1 x2 x3 x4).getD 0 0) zz0 (0 : Int32))))), .val (.ref b77), .val (.ref b87), .val (.int (0 : Int32)), .val (.int x0)] [(.int x0), (.ref b44), (.int (0 : Int32)), (.ref b87)]))
  refine own_step (own_iaload X87 hx hZ e87 c96 (own_i3 hx0 (by first | rfl | (simp only [own_inc_len]; rfl) | exact own_cs_len _ _ _ _ _)) (g := (mkF m 136 #[.val (.ref a1), .val (.ref a2), .val (.int (3 : Int32)), .val (.ref b1), .val (.ref b44), .val (.int (own_blk ((own_cs x0 x1 x2 x3 x4).getD 2 0) zz2 (own_blk ((own_cs x0 x1 x2 x3 x4).getD 1 0) zz1 (own_blk ((own_cs x0 x1 x2 x3 x4).getD 0 0) zz0 (0 : Int32))))), .val (.ref b77), .val (.ref b87), .val (.int (0 : Int32)), .val (.int x0)] [(.int x0), (.ref b44), (.int (0 : Int32)), (.ref b87)])) rfl rfl (hb hby d2_136)) ?_
  show own_G p.tables e below _ (T87.setTop (mkF m 137 #[.val (.ref a1), .val (.ref a2), .val (.int (3 : Int32)), .val (.ref b1), .val (.ref b44), .val (.int (own_blk ((own_cs x0 x1 x2 x3 x4).getD 2 0) zz2 (own_blk ((own_cs x0 x1 x2 x3 x4).getD 1 0) zz1 (own_blk ((own_cs x0 x1 x2 x3 x4).getD 0 0) zz0 (0 : Int32))))), .val (.ref b77), .val (.ref b87), .val (.int (0 : Int32)), .val (.int x0)] [(.int ([(0 : Int32), (own_blk ((own_cs x0 x1 x2 x3 x4).getD 0 0) zz0 (0 : Int32)), (own_blk ((own_cs x0 x1 x2 x3 x4).getD 1 0) zz1 (own_blk ((own_cs x0 x1 x2 x3 x4).getD 0 0) zz0 (0 : Int32)))].getD x0.toNatClampNeg 0)), (.int (0 : Int32)), (.ref b87)]))
  refine own_step (fun t k => XS.aload X87.here hx rfl (hb hby d2_137) rfl rfl k) ?_
  show own_G p.tables e below _ (T87.setTop (mkF m 139 #[.val (.ref a1), .val (.ref a2), .val (.int (3 : Int32)), .val (.ref b1), .val (.ref b44), .val (.int (own_blk ((own_cs x0 x1 x2 x3 x4).getD 2 0) zz2 (own_blk ((own_cs x0 x1 x2 x3 x4).getD 1 0) zz1 (own_blk ((own_cs x0 x1 x2 x3 x4).getD 0 0) zz0 (0 : Int32))))), .val (.ref b77), .val (.ref b87), .val (.int (0 : Int32)), .val (.int x0)] [(.ref b77), (.int ([(0 : Int32), (own_blk ((own_cs x0 x1 x2 x3 x4).getD 0 0) zz0 (0 : Int32)), (own_blk ((own_cs x0 x1 x2 x3 x4).getD 1 0) zz1 (own_blk ((own_cs x0 x1 x2 x3 x4).getD 0 0) zz0 (0 : Int32)))].getD x0.toNatClampNeg 0)), (.int (0 : Int32)), (.ref b87)]))
  refine own_step (fun t k => XS.iload X87.here hx rfl (hb hby d2_139) rfl k) ?_
  show own_G p.tables e below _ (T87.setTop (mkF m 141 #[.val (.ref a1), .val (.ref a2), .val (.int (3 : Int32)), .val (.ref b1), .val (.ref b44), .val (.int (own_blk ((own_cs x0 x1 x2 x3 x4).getD 2 0) zz2 (own_blk ((own_cs x0 x1 x2 x3 x4).getD 1 0) zz1 (own_blk ((own_cs x0 x1 x2 x3 x4).getD 0 0) zz0 (0 : Int32))))), .val (.ref b77), .val (.ref b87), .val (.int (0 : Int32)), .val (.int x0)] [(.int x0), (.ref b77), (.int ([(0 : Int32), (own_blk ((own_cs x0 x1 x2 x3 x4).getD 0 0) zz0 (0 : Int32)), (own_blk ((own_cs x0 x1 x2 x3 x4).getD 1 0) zz1 (own_blk ((own_cs x0 x1 x2 x3 x4).getD 0 0) zz0 (0 : Int32)))].getD x0.toNatClampNeg 0)), (.int (0 : Int32)), (.ref b87)]))
  refine own_step (B := T87.setTop (mkF m 142 #[.val (.ref a1), .val (.ref a2), .val (.int (3 : Int32)), .val (.ref b1), .val (.ref b44), .val (.int (own_blk ((own_cs x0 x1 x2 x3 x4).getD 2 0) zz2 (own_blk ((own_cs x0 x1 x2 x3 x4).getD 1 0) zz1 (own_blk ((own_cs x0 x1 x2 x3 x4).getD 0 0) zz0 (0 : Int32))))), .val (.ref b77), .val (.ref b87), .val (.int (0 : Int32)), .val (.int x0)] [(.int x0), (.ref b77), (.int x0), (.ref b77), (.int ([(0 : Int32), (own_blk ((own_cs x0 x1 x2 x3 x4).getD 0 0) zz0 (0 : Int32)), (own_blk ((own_cs x0 x1 x2 x3 x4).getD 1 0) zz1 (own_blk ((own_cs x0 x1 x2 x3 x4).getD 0 0) zz0 (0 : Int32)))].getD x0.toNatClampNeg 0)), (.int (0 : Int32)), (.ref b87)])) (fun t k => by
    jvm_step X87.here [X87.here.top, hx, (hb hby d2_141), Value.category]
    exact k) ?_
  show own_G p.tables e below _ (T87.setTop (mkF m 142 #[.val (.ref a1), .val (.ref a2), .val (.int (3 : Int32)), .val (.ref b1), .val (.ref b44), .val (.int (own_blk ((own_cs x0 x1 x2 x3 x4).getD 2 0) zz2 (own_blk ((own_cs x0 x1 x2 x3 x4).getD 1 0) zz1 (own_blk ((own_cs x0 x1 x2 x3 x4).getD 0 0) zz0 (0 : Int32))))), .val (.ref b77), .val (.ref b87), .val (.int (0 : Int32)), .val (.int x0)] [(.int x0), (.ref b77), (.int x0), (.ref b77), (.int ([(0 : Int32), (own_blk ((own_cs x0 x1 x2 x3 x4).getD 0 0) zz0 (0 : Int32)), (own_blk ((own_cs x0 x1 x2 x3 x4).getD 1 0) zz1 (own_blk ((own_cs x0 x1 x2 x3 x4).getD 0 0) zz0 (0 : Int32)))].getD x0.toNatClampNeg 0)), (.int (0 : Int32)), (.ref b87)]))
  refine own_step (own_iaload X87 hx hZ e87 c97 (own_i3 hx0 (by first | rfl | (simp only [own_inc_len]; rfl) | exact own_cs_len _ _ _ _ _)) (g := (mkF m 142 #[.val (.ref a1), .val (.ref a2), .val (.int (3 : Int32)), .val (.ref b1), .val (.ref b44), .val (.int (own_blk ((own_cs x0 x1 x2 x3 x4).getD 2 0) zz2 (own_blk ((own_cs x0 x1 x2 x3 x4).getD 1 0) zz1 (own_blk ((own_cs x0 x1 x2 x3 x4).getD 0 0) zz0 (0 : Int32))))), .val (.ref b77), .val (.ref b87), .val (.int (0 : Int32)), .val (.int x0)] [(.int x0), (.ref b77), (.int x0), (.ref b77), (.int ([(0 : Int32), (own_blk ((own_cs x0 x1 x2 x3 x4).getD 0 0) zz0 (0 : Int32)), (own_blk ((own_cs x0 x1 x2 x3 x4).getD 1 0) zz1 (own_blk ((own_cs x0 x1 x2 x3 x4).getD 0 0) zz0 (0 : Int32)))].getD x0.toNatClampNeg 0)), (.int (0 : Int32)), (.ref b87)])) rfl rfl (hb hby d2_142)) ?_
  show own_G p.tables e below _ (T87.setTop (mkF m 143 #[.val (.ref a1), .val (.ref a2), .val (.int (3 : Int32)), .val (.ref b1), .val (.ref b44), .val (.int (own_blk ((own_cs x0 x1 x2 x3 x4).getD 2 0) zz2 (own_blk ((own_cs x0 x1 x2 x3 x4).getD 1 0) zz1 (own_blk ((own_cs x0 x1 x2 x3 x4).getD 0 0) zz0 (0 : Int32))))), .val (.ref b77), .val (.ref b87), .val (.int (0 : Int32)), .val (.int x0)] [(.int ([(0 : Int32), (0 : Int32), (0 : Int32)].getD x0.toNatClampNeg 0)), (.int x0), (.ref b77), (.int ([(0 : Int32), (own_blk ((own_cs x0 x1 x2 x3 x4).getD 0 0) zz0 (0 : Int32)), (own_blk ((own_cs x0 x1 x2 x3 x4).getD 1 0) zz1 (own_blk ((own_cs x0 x1 x2 x3 x4).getD 0 0) zz0 (0 : Int32)))].getD x0.toNatClampNeg 0)), (.int (0 : Int32)), (.ref b87)]))
  refine own_step (B := T87.setTop (mkF m 144 #[.val (.ref a1), .val (.ref a2), .val (.int (3 : Int32)), .val (.ref b1), .val (.ref b44), .val (.int (own_blk ((own_cs x0 x1 x2 x3 x4).getD 2 0) zz2 (own_blk ((own_cs x0 x1 x2 x3 x4).getD 1 0) zz1 (own_blk ((own_cs x0 x1 x2 x3 x4).getD 0 0) zz0 (0 : Int32))))), .val (.ref b77), .val (.ref b87), .val (.int (0 : Int32)), .val (.int x0)] [(.int ([(0 : Int32), (0 : Int32), (0 : Int32)].getD x0.toNatClampNeg 0)), (.int x0), (.ref b77), (.int ([(0 : Int32), (0 : Int32), (0 : Int32)].getD x0.toNatClampNeg 0)), (.int ([(0 : Int32), (own_blk ((own_cs x0 x1 x2 x3 x4).getD 0 0) zz0 (0 : Int32)), (own_blk ((own_cs x0 x1 x2 x3 x4).getD 1 0) zz1 (own_blk ((own_cs x0 x1 x2 x3 x4).getD 0 0) zz0 (0 : Int32)))].getD x0.toNatClampNeg 0)), (.int (0 : Int32)), (.ref b87)])) (fun t k => by
    jvm_step X87.here [X87.here.top, hx, (hb hby d2_143), Value.category]
    exact k) ?_
  show own_G p.tables e below _ (T87.setTop (mkF m 144 #[.val (.ref a1), .val (.ref a2), .val (.int (3 : Int32)), .val (.ref b1), .val (.ref b44), .val (.int (own_blk ((own_cs x0 x1 x2 x3 x4).getD 2 0) zz2 (own_blk ((own_cs x0 x1 x2 x3 x4).getD 1 0) zz1 (own_blk ((own_cs x0 x1 x2 x3 x4).getD 0 0) zz0 (0 : Int32))))), .val (.ref b77), .val (.ref b87), .val (.int (0 : Int32)), .val (.int x0)] [(.int ([(0 : Int32), (0 : Int32), (0 : Int32)].getD x0.toNatClampNeg 0)), (.int x0), (.ref b77), (.int ([(0 : Int32), (0 : Int32), (0 : Int32)].getD x0.toNatClampNeg 0)), (.int ([(0 : Int32), (own_blk ((own_cs x0 x1 x2 x3 x4).getD 0 0) zz0 (0 : Int32)), (own_blk ((own_cs x0 x1 x2 x3 x4).getD 1 0) zz1 (own_blk ((own_cs x0 x1 x2 x3 x4).getD 0 0) zz0 (0 : Int32)))].getD x0.toNatClampNeg 0)), (.int (0 : Int32)), (.ref b87)]))
  refine own_step (fun t k => XS.iconst X87.here hx rfl (hb hby d2_144) k) ?_
  show own_G p.tables e below _ (T87.setTop (mkF m 145 #[.val (.ref a1), .val (.ref a2), .val (.int (3 : Int32)), .val (.ref b1), .val (.ref b44), .val (.int (own_blk ((own_cs x0 x1 x2 x3 x4).getD 2 0) zz2 (own_blk ((own_cs x0 x1 x2 x3 x4).getD 1 0) zz1 (own_blk ((own_cs x0 x1 x2 x3 x4).getD 0 0) zz0 (0 : Int32))))), .val (.ref b77), .val (.ref b87), .val (.int (0 : Int32)), .val (.int x0)] [(.int (1 : Int32)), (.int ([(0 : Int32), (0 : Int32), (0 : Int32)].getD x0.toNatClampNeg 0)), (.int x0), (.ref b77), (.int ([(0 : Int32), (0 : Int32), (0 : Int32)].getD x0.toNatClampNeg 0)), (.int ([(0 : Int32), (own_blk ((own_cs x0 x1 x2 x3 x4).getD 0 0) zz0 (0 : Int32)), (own_blk ((own_cs x0 x1 x2 x3 x4).getD 1 0) zz1 (own_blk ((own_cs x0 x1 x2 x3 x4).getD 0 0) zz0 (0 : Int32)))].getD x0.toNatClampNeg 0)), (.int (0 : Int32)), (.ref b87)]))
  refine own_step (fun t k => XS.iadd X87.here hx rfl (hb hby d2_145) rfl k) ?_
  show own_G p.tables e below _ (T87.setTop (mkF m 146 #[.val (.ref a1), .val (.ref a2), .val (.int (3 : Int32)), .val (.ref b1), .val (.ref b44), .val (.int (own_blk ((own_cs x0 x1 x2 x3 x4).getD 2 0) zz2 (own_blk ((own_cs x0 x1 x2 x3 x4).getD 1 0) zz1 (own_blk ((own_cs x0 x1 x2 x3 x4).getD 0 0) zz0 (0 : Int32))))), .val (.ref b77), .val (.ref b87), .val (.int (0 : Int32)), .val (.int x0)] [(.int (([(0 : Int32), (0 : Int32), (0 : Int32)].getD x0.toNatClampNeg 0) + (1 : Int32))), (.int x0), (.ref b77), (.int ([(0 : Int32), (0 : Int32), (0 : Int32)].getD x0.toNatClampNeg 0)), (.int ([(0 : Int32), (own_blk ((own_cs x0 x1 x2 x3 x4).getD 0 0) zz0 (0 : Int32)), (own_blk ((own_cs x0 x1 x2 x3 x4).getD 1 0) zz1 (own_blk ((own_cs x0 x1 x2 x3 x4).getD 0 0) zz0 (0 : Int32)))].getD x0.toNatClampNeg 0)), (.int (0 : Int32)), (.ref b87)]))
  obtain ⟨T100, h100, X100, e100, W100, c100, st100⟩ := own_iastore X87 hx hZ e87 c97 (own_i3 hx0 (by first | rfl | (simp only [own_inc_len]; rfl) | exact own_cs_len _ _ _ _ _)) (g := (mkF m 146 #[.val (.ref a1), .val (.ref a2), .val (.int (3 : Int32)), .val (.ref b1), .val (.ref b44), .val (.int (own_blk ((own_cs x0 x1 x2 x3 x4).getD 2 0) zz2 (own_blk ((own_cs x0 x1 x2 x3 x4).getD 1 0) zz1 (own_blk ((own_cs x0 x1 x2 x3 x4).getD 0 0) zz0 (0 : Int32))))), .val (.ref b77), .val (.ref b87), .val (.int (0 : Int32)), .val (.int x0)] [(.int (([(0 : Int32), (0 : Int32), (0 : Int32)].getD x0.toNatClampNeg 0) + (1 : Int32))), (.int x0), (.ref b77), (.int ([(0 : Int32), (0 : Int32), (0 : Int32)].getD x0.toNatClampNeg 0)), (.int ([(0 : Int32), (own_blk ((own_cs x0 x1 x2 x3 x4).getD 0 0) zz0 (0 : Int32)), (own_blk ((own_cs x0 x1 x2 x3 x4).getD 1 0) zz1 (own_blk ((own_cs x0 x1 x2 x3 x4).getD 0 0) zz0 (0 : Int32)))].getD x0.toNatClampNeg 0)), (.int (0 : Int32)), (.ref b87)])) rfl rfl (hb hby d2_146)
  have N100 := Fr.snoc X100 N69 ge77
  have c101 : own_Ari Z h100 b77 .int ([(0 : Int32), (0 : Int32), (0 : Int32)].set x0.toNatClampNeg (([(0 : Int32), (0 : Int32), (0 : Int32)].getD x0.toNatClampNeg 0) + (1 : Int32))) := c100
  have c102 : own_Ari Z h100 a1 .int [x0, x1, x2, x3, x4] := c93.other W100 ne78
  have c103 : own_Ari Z h100 a2 .int [zz0, zz1, zz2] := c94.other W100 ne79
  have c104 : own_Ari Z h100 b1 .int (own_cs x0 x1 x2 x3 x4) := c95.other W100 ne80
  have c105 : own_Ari Z h100 b44 .int [(0 : Int32), (own_blk ((own_cs x0 x1 x2 x3 x4).getD 0 0) zz0 (0 : Int32)), (own_blk ((own_cs x0 x1 x2 x3 x4).getD 1 0) zz1 (own_blk ((own_cs x0 x1 x2 x3 x4).getD 0 0) zz0 (0 : Int32)))] := c96.other W100 ne81
  have c107 : own_Ari Z h100 b87 .int [(0 : Int32), (0 : Int32), (0 : Int32), (0 : Int32), (0 : Int32)] := c98.other W100 (Ne.symm ne92)
  have K100 : Keep h0 h100 [] := K87.wr W100 (Or.inr sz77)
  refine own_step st100 ?_
  clear K87 N69 W100 X87 c100 c93 c94 c95 c96 c97 c98 e87 hk99 st100
  show own_G p.tables e below _ (T100.setTop (mkF m 147 #[.val (.ref a1), .val (.ref a2), .val (.int (3 : Int32)), .val (.ref b1), .val (.ref b44), .val (.int (own_blk ((own_cs x0 x1 x2 x3 x4).getD 2 0) zz2 (own_blk ((own_cs x0 x1 x2 x3 x4).getD 1 0) zz1 (own_blk ((own_cs x0 x1 x2 x3 x4).getD 0 0) zz0 (0 : Int32))))), .val (.ref b77), .val (.ref b87), .val (.int (0 : Int32)), .val (.int x0)] [(.int ([(0 : Int32), (0 : Int32), (0 : Int32)].getD x0.toNatClampNeg 0)), (.int ([(0 : Int32), (own_blk ((own_cs x0 x1 x2 x3 x4).getD 0 0) zz0 (0 : Int32)), (own_blk ((own_cs x0 x1 x2 x3 x4).getD 1 0) zz1 (own_blk ((own_cs x0 x1 x2 x3 x4).getD 0 0) zz0 (0 : Int32)))].getD x0.toNatClampNeg 0)), (.int (0 : Int32)), (.ref b87)]))
  have c108 : own_Ari Z h100 b77 .int (own_inc [(0 : Int32), (0 : Int32), (0 : Int32)] x0) := c101
  refine own_step (fun t k => XS.aloadN X100.here hx rfl (hb hby d2_147) rfl rfl k) ?_
  show own_G p.tables e below _ (T100.setTop (mkF m 148 #[.val (.ref a1), .val (.ref a2), .val (.int (3 : Int32)), .val (.ref b1), .val (.ref b44), .val (.int (own_blk ((own_cs x0 x1 x2 x3 x4).getD 2 0) zz2 (own_blk ((own_cs x0 x1 x2 x3 x4).getD 1 0) zz1 (own_blk ((own_cs x0 x1 x2 x3 x4).getD 0 0) zz0 (0 : Int32))))), .val (.ref b77), .val (.ref b87), .val (.int (0 : Int32)), .val (.int x0)] [(.ref a2), (.int ([(0 : Int32), (0 : Int32), (0 : Int32)].getD x0.toNatClampNeg 0)), (.int ([(0 : Int32), (own_blk ((own_cs x0 x1 x2 x3 x4).getD 0 0) zz0 (0 : Int32)), (own_blk ((own_cs x0 x1 x2 x3 x4).getD 1 0) zz1 (own_blk ((own_cs x0 x1 x2 x3 x4).getD 0 0) zz0 (0 : Int32)))].getD x0.toNatClampNeg 0)), (.int (0 : Int32)), (.ref b87)]))
  refine own_step (fun t k => XS.iload X100.here hx rfl (hb hby d2_148) rfl k) ?_
  show own_G p.tables e below _ (T100.setTop (mkF m 150 #[.val (.ref a1), .val (.ref a2), .val (.int (3 : Int32)), .val (.ref b1), .val (.ref b44), .val (.int (own_blk ((own_cs x0 x1 x2 x3 x4).getD 2 0) zz2 (own_blk ((own_cs x0 x1 x2 x3 x4).getD 1 0) zz1 (own_blk ((own_cs x0 x1 x2 x3 x4).getD 0 0) zz0 (0 : Int32))))), .val (.ref b77), .val (.ref b87), .val (.int (0 : Int32)), .val (.int x0)] [(.int x0), (.ref a2), (.int ([(0 : Int32), (0 : Int32), (0 : Int32)].getD x0.toNatClampNeg 0)), (.int ([(0 : Int32), (own_blk ((own_cs x0 x1 x2 x3 x4).getD 0 0) zz0 (0 : Int32)), (own_blk ((own_cs x0 x1 x2 x3 x4).getD 1 0) zz1 (own_blk ((own_cs x0 x1 x2 x3 x4).getD 0 0) zz0 (0 : Int32)))].getD x0.toNatClampNeg 0)), (.int (0 : Int32)), (.ref b87)]))
  refine own_step (own_iaload X100 hx hZ e100 c103 (own_i3 hx0 (by first | rfl | (simp only [own_inc_len]; rfl) | exact own_cs_len _ _ _ _ _)) (g := (mkF m 150 #[.val (.ref a1), .val (.ref a2), .val (.int (3 : Int32)), .val (.ref b1), .val (.ref b44), .val (.int (own_blk ((own_cs x0 x1 x2 x3 x4).getD 2 0) zz2 (own_blk ((own_cs x0 x1 x2 x3 x4).getD 1 0) zz1 (own_blk ((own_cs x0 x1 x2 x3 x4).getD 0 0) zz0 (0 : Int32))))), .val (.ref b77), .val (.ref b87), .val (.int (0 : Int32)), .val (.int x0)] [(.int x0), (.ref a2), (.int ([(0 : Int32), (0 : Int32), (0 : Int32)].getD x0.toNatClampNeg 0)), (.int ([(0 : Int32), (own_blk ((own_cs x0 x1 x2 x3 x4).getD 0 0) zz0 (0 : Int32)), (own_blk ((own_cs x0 x1 x2 x3 x4).getD 1 0) zz1 (own_blk ((own_cs x0 x1 x2 x3 x4).getD 0 0) zz0 (0 : Int32)))].getD x0.toNatClampNeg 0)), (.int (0 : Int32)), (.ref b87)])) rfl rfl (hb hby d2_150)) ?_
  show own_G p.tables e below _ (T100.setTop (mkF m 151 #[.val (.ref a1), .val (.ref a2), .val (.int (3 : Int32)), .val (.ref b1), .val (.ref b44), .val (.int (own_blk ((own_cs x0 x1 x2 x3 x4).getD 2 0) zz2 (own_blk ((own_cs x0 x1 x2 x3 x4).getD 1 0) zz1 (own_blk ((own_cs x0 x1 x2 x3 x4).getD 0 0) zz0 (0 : Int32))))), .val (.ref b77), .val (.ref b87), .val (.int (0 : Int32)), .val (.int x0)] [(.int ([zz0, zz1, zz2].getD x0.toNatClampNeg 0)), (.int ([(0 : Int32), (0 : Int32), (0 : Int32)].getD x0.toNatClampNeg 0)), (.int ([(0 : Int32), (own_blk ((own_cs x0 x1 x2 x3 x4).getD 0 0) zz0 (0 : Int32)), (own_blk ((own_cs x0 x1 x2 x3 x4).getD 1 0) zz1 (own_blk ((own_cs x0 x1 x2 x3 x4).getD 0 0) zz0 (0 : Int32)))].getD x0.toNatClampNeg 0)), (.int (0 : Int32)), (.ref b87)]))
  refine own_step (fun t k => XS.idiv X100.here hx rfl (hb hby d2_151) rfl (own_nz3 hx0 hz0 hz1 hz2) k) ?_
  show own_G p.tables e below _ (T100.setTop (mkF m 152 #[.val (.ref a1), .val (.ref a2), .val (.int (3 : Int32)), .val (.ref b1), .val (.ref b44), .val (.int (own_blk ((own_cs x0 x1 x2 x3 x4).getD 2 0) zz2 (own_blk ((own_cs x0 x1 x2 x3 x4).getD 1 0) zz1 (own_blk ((own_cs x0 x1 x2 x3 x4).getD 0 0) zz0 (0 : Int32))))), .val (.ref b77), .val (.ref b87), .val (.int (0 : Int32)), .val (.int x0)] [(.int (([(0 : Int32), (0 : Int32), (0 : Int32)].getD x0.toNatClampNeg 0) / ([zz0, zz1, zz2].getD x0.toNatClampNeg 0))), (.int ([(0 : Int32), (own_blk ((own_cs x0 x1 x2 x3 x4).getD 0 0) zz0 (0 : Int32)), (own_blk ((own_cs x0 x1 x2 x3 x4).getD 1 0) zz1 (own_blk ((own_cs x0 x1 x2 x3 x4).getD 0 0) zz0 (0 : Int32)))].getD x0.toNatClampNeg 0)), (.int (0 : Int32)), (.ref b87)]))
  refine own_step (fun t k => XS.iadd X100.here hx rfl (hb hby d2_152) rfl k) ?_
  show own_G p.tables e below _ (T100.setTop (mkF m 153 #[.val (.ref a1), .val (.ref a2), .val (.int (3 : Int32)), .val (.ref b1), .val (.ref b44), .val (.int (own_blk ((own_cs x0 x1 x2 x3 x4).getD 2 0) zz2 (own_blk ((own_cs x0 x1 x2 x3 x4).getD 1 0) zz1 (own_blk ((own_cs x0 x1 x2 x3 x4).getD 0 0) zz0 (0 : Int32))))), .val (.ref b77), .val (.ref b87), .val (.int (0 : Int32)), .val (.int x0)] [(.int (([(0 : Int32), (own_blk ((own_cs x0 x1 x2 x3 x4).getD 0 0) zz0 (0 : Int32)), (own_blk ((own_cs x0 x1 x2 x3 x4).getD 1 0) zz1 (own_blk ((own_cs x0 x1 x2 x3 x4).getD 0 0) zz0 (0 : Int32)))].getD x0.toNatClampNeg 0) + (([(0 : Int32), (0 : Int32), (0 : Int32)].getD x0.toNatClampNeg 0) / ([zz0, zz1, zz2].getD x0.toNatClampNeg 0)))), (.int (0 : Int32)), (.ref b87)]))
  obtain ⟨T109, h109, X109, e109, W109, c109, st109⟩ := own_iastore X100 hx hZ e100 c107 (own_inb (by decide) (Nat.le_of_ble_eq_true rfl)) (g := (mkF m 153 #[.val (.ref a1), .val (.ref a2), .val (.int (3 : Int32)), .val (.ref b1), .val (.ref b44), .val (.int (own_blk ((own_cs x0 x1 x2 x3 x4).getD 2 0) zz2 (own_blk ((own_cs x0 x1 x2 x3 x4).getD 1 0) zz1 (own_blk ((own_cs x0 x1 x2 x3 x4).getD 0 0) zz0 (0 : Int32))))), .val (.ref b77), .val (.ref b87), .val (.int (0 : Int32)), .val (.int x0)] [(.int (([(0 : Int32), (own_blk ((own_cs x0 x1 x2 x3 x4).getD 0 0) zz0 (0 : Int32)), (own_blk ((own_cs x0 x1 x2 x3 x4).getD 1 0) zz1 (own_blk ((own_cs x0 x1 x2 x3 x4).getD 0 0) zz0 (0 : Int32)))].getD x0.toNatClampNeg 0) + (([(0 : Int32), (0 : Int32), (0 : Int32)].getD x0.toNatClampNeg 0) / ([zz0, zz1, zz2].getD x0.toNatClampNeg 0)))), (.int (0 : Int32)), (.ref b87)])) rfl rfl (hb hby d2_153)
  have N109 := Fr.snoc X109 N100 ge87
  have c110 : own_Ari Z h109 b87 .int [(([(0 : Int32), (own_blk ((own_cs x0 x1 x2 x3 x4).getD 0 0) zz0 (0 : Int32)), (own_blk ((own_cs x0 x1 x2 x3 x4).getD 1 0) zz1 (own_blk ((own_cs x0 x1 x2 x3 x4).getD 0 0) zz0 (0 : Int32)))].getD x0.toNatClampNeg 0) + (([(0 : Int32), (0 : Int32), (0 : Int32)].getD x0.toNatClampNeg 0) / ([zz0, zz1, zz2].getD x0.toNatClampNeg 0))), (0 : Int32), (0 : Int32), (0 : Int32), (0 : Int32)] := c109
  have c111 : own_Ari Z h109 a1 .int [x0, x1, x2, x3, x4] := c102.other W109 ne88
  have c112 : own_Ari Z h109 a2 .int [zz0, zz1, zz2] := c103.other W109 ne89
  have c113 : own_Ari Z h109 b1 .int (own_cs x0 x1 x2 x3 x4) := c104.other W109 ne90
  have c114 : own_Ari Z h109 b44 .int [(0 : Int32), (own_blk ((own_cs x0 x1 x2 x3 x4).getD 0 0) zz0 (0 : Int32)), (own_blk ((own_cs x0 x1 x2 x3 x4).getD 1 0) zz1 (own_blk ((own_cs x0 x1 x2 x3 x4).getD 0 0) zz0 (0 : Int32)))] := c105.other W109 ne91
  have c115 : own_Ari Z h109 b77 .int (own_inc [(0 : Int32), (0 : Int32), (0 : Int32)] x0) := c108.other W109 ne92
  have K109 : Keep h0 h109 [] := K100.wr W109 (Or.inr sz87)
  refine own_step st109 ?_
  clear K100 N100 W109 X100 c101 c102 c103 c104 c105 c107 c108 c109 e100 st109
  show own_G p.tables e below _ (T109.setTop (mkF m 154 #[.val (.ref a1), .val (.ref a2), .val (.int (3 : Int32)), .val (.ref b1), .val (.ref b44), .val (.int (own_blk ((own_cs x0 x1 x2 x3 x4).getD 2 0) zz2 (own_blk ((own_cs x0 x1 x2 x3 x4).getD 1 0) zz1 (own_blk ((own_cs x0 x1 x2 x3 x4).getD 0 0) zz0 (0 : Int32))))), .val (.ref b77), .val (.ref b87), .val (.int (0 : Int32)), .val (.int x0)] []))
  refine own_step (fun t k => XS.iinc X109.here hx rfl (hb hby d2_154) rfl (l' := #[.val (.ref a1), .val (.ref a2), .val (.int (3 : Int32)), .val (.ref b1), .val (.ref b44), .val (.int (own_blk ((own_cs x0 x1 x2 x3 x4).getD 2 0) zz2 (own_blk ((own_cs x0 x1 x2 x3 x4).getD 1 0) zz1 (own_blk ((own_cs x0 x1 x2 x3 x4).getD 0 0) zz0 (0 : Int32))))), .val (.ref b77), .val (.ref b87), .val (.int (1 : Int32)), .val (.int x0)]) rfl k) ?_
  show own_G p.tables e below _ (T109.setTop (mkF m 157 #[.val (.ref a1), .val (.ref a2), .val (.int (3 : Int32)), .val (.ref b1), .val (.ref b44), .val (.int (own_blk ((own_cs x0 x1 x2 x3 x4).getD 2 0) zz2 (own_blk ((own_cs x0 x1 x2 x3 x4).getD 1 0) zz1 (own_blk ((own_cs x0 x1 x2 x3 x4).getD 0 0) zz0 (0 : Int32))))), .val (.ref b77), .val (.ref b87), .val (.int (1 : Int32)), .val (.int x0)] []))
  refine own_step (fun t k => XS.goto X109.here hx rfl (pc0 := 157) (pc' := 115) rfl (hb hby d2_157) (by decide) (by decide) k) ?_
  show own_G p.tables e below _ (T109.setTop (mkF m 115 #[.val (.ref a1), .val (.ref a2), .val (.int (3 : Int32)), .val (.ref b1), .val (.ref b44), .val (.int (own_blk ((own_cs x0 x1 x2 x3 x4).getD 2 0) zz2 (own_blk ((own_cs x0 x1 x2 x3 x4).getD 1 0) zz1 (own_blk ((own_cs x0 x1 x2 x3 x4).getD 0 0) zz0 (0 : Int32))))), .val (.ref b77), .val (.ref b87), .val (.int (1 : Int32)), .val (.int x0)] []))
  refine own_step (fun t k => XS.iload X109.here hx rfl (hb hby d2_115) rfl k) ?_
  show own_G p.tables e below _ (T109.setTop (mkF m 117 #[.val (.ref a1), .val (.ref a2), .val (.int (3 : Int32)), .val (.ref b1), .val (.ref b44), .val (.int (own_blk ((own_cs x0 x1 x2 x3 x4).getD 2 0) zz2 (own_blk ((own_cs x0 x1 x2 x3 x4).getD 1 0) zz1 (own_blk ((own_cs x0 x1 x2 x3 x4).getD 0 0) zz0 (0 : Int32))))), .val (.ref b77), .val (.ref b87), .val (.int (1 : Int32)), .val (.int x0)] [(.int (1 : Int32))]))
  refine own_step (fun t k => XS.aloadN X109.here hx rfl (hb hby d2_117) rfl rfl k) ?_
  show own_G p.tables e below _ (T109.setTop (mkF m 118 #[.val (.ref a1), .val (.ref a2), .val (.int (3 : Int32)), .val (.ref b1), .val (.ref b44), .val (.int (own_blk ((own_cs x0 x1 x2 x3 x4).getD 2 0) zz2 (own_blk ((own_cs x0 x1 x2 x3 x4).getD 1 0) zz1 (own_blk ((own_cs x0 x1 x2 x3 x4).getD 0 0) zz0 (0 : Int32))))), .val (.ref b77), .val (.ref b87), .val (.int (1 : Int32)), .val (.int x0)] [(.ref a1), (.int (1 : Int32))]))
  refine own_step (own_lenI X109 hx hZ e109 c111 (g := (mkF m 118 #[.val (.ref a1), .val (.ref a2), .val (.int (3 : Int32)), .val (.ref b1), .val (.ref b44), .val (.int (own_blk ((own_cs x0 x1 x2 x3 x4).getD 2 0) zz2 (own_blk ((own_cs x0 x1 x2 x3 x4).getD 1 0) zz1 (own_blk ((own_cs x0 x1 x2 x3 x4).getD 0 0) zz0 (0 : Int32))))), .val (.ref b77), .val (.ref b87), .val (.int (1 : Int32)), .val (.int x0)] [(.ref a1), (.int (1 : Int32))])) rfl rfl (hb hby d2_118)) ?_
  show own_G p.tables e below _ (T109.setTop (mkF m 119 #[.val (.ref a1), .val (.ref a2), .val (.int (3 : Int32)), .val (.ref b1), .val (.ref b44), .val (.int (own_blk ((own_cs x0 x1 x2 x3 x4).getD 2 0) zz2 (own_blk ((own_cs x0 x1 x2 x3 x4).getD 1 0) zz1 (own_blk ((own_cs x0 x1 x2 x3 x4).getD 0 0) zz0 (0 : Int32))))), .val (.ref b77), .val (.ref b87), .val (.int (1 : Int32)), .val (.int x0)] [(.int (5 : Int32)), (.int (1 : Int32))]))
  have hk117 : (1 : Int32) < (5 : Int32) := (by decide)
  refine own_step (fun t k => XS.icmpNo X109.here hx rfl (hb hby d2_119) rfl ((tlt hk117).2.1) k) ?_
  show own_G p.tables e below _ (T109.setTop (mkF m 122 #[.val (.ref a1), .val (.ref a2), .val (.int (3 : Int32)), .val (.ref b1), .val (.ref b44), .val (.int (own_blk ((own_cs x0 x1 x2 x3 x4).getD 2 0) zz2 (own_blk ((own_cs x0 x1 x2 x3 x4).getD 1 0) zz1 (own_blk ((own_cs x0 x1 x2 x3 x4).getD 0 0) zz0 (0 : Int32))))), .val (.ref b77), .val (.ref b87), .val (.int (1 : Int32)), .val (.int x0)] []))
  refine own_step (fun t k => XS.aloadN X109.here hx rfl (hb hby d2_122) rfl rfl k) ?_
  show own_G p.tables e below _ (T109.setTop (mkF m 123 #[.val (.ref a1), .val (.ref a2), .val (.int (3 : Int32)), .val (.ref b1), .val (.ref b44), .val (.int (own_blk ((own_cs x0 x1 x2 x3 x4).getD 2 0) zz2 (own_blk ((own_cs x0 x1 x2 x3 x4).getD 1 0) zz1 (own_blk ((own_cs x0 x1 x2 x3 x4).getD 0 0) zz0 (0 : Int32))))), .val (.ref b77), .val (.ref b87), .val (.int (1 : Int32)), .val (.int x0)] [(.ref a1)]))
  refine own_step (fun t k => XS.iload X109.here hx rfl (hb hby d2_123) rfl k) ?_
  show own_G p.tables e below _ (T109.setTop (mkF m 125 #[.val (.ref a1), .val (.ref a2), .val (.int (3 : Int32)), .val (.ref b1), .val (.ref b44), .val (.int (own_blk ((own_cs x0 x1 x2 x3 x4).getD 2 0) zz2 (own_blk ((own_cs x0 x1 x2 x3 x4).getD 1 0) zz1 (own_blk ((own_cs x0 x1 x2 x3 x4).getD 0 0) zz0 (0 : Int32))))), .val (.ref b77), .val (.ref b87), .val (.int (1 : Int32)), .val (.int x0)] [(.int (1 : Int32)), (.ref a1)]))
  refine own_step (own_iaload X109 hx hZ e109 c111 (own_inb (by decide) (Nat.le_of_ble_eq_true rfl)) (g := (mkF m 125 #[.val (.ref a1), .val (.ref a2), .val (.int (3 : Int32)), .val (.ref b1), .val (.ref b44), .val (.int (own_blk ((own_cs x0 x1 x2 x3 x4).getD 2 0) zz2 (own_blk ((own_cs x0 x1 x2 x3 x4).getD 1 0) zz1 (own_blk ((own_cs x0 x1 x2 x3 x4).getD 0 0) zz0 (0 : Int32))))), .val (.ref b77), .val (.ref b87), .val (.int (1 : Int32)), .val (.int x0)] [(.int (1 : Int32)), (.ref a1)])) rfl rfl (hb hby d2_125)) ?_
  show own_G p.tables e below _ (T109.setTop (mkF m 126 #[.val (.ref a1), .val (.ref a2), .val (.int (3 : Int32)), .val (.ref b1), .val (.ref b44), .val (.int (own_blk ((own_cs x0 x1 x2 x3 x4).getD 2 0) zz2 (own_blk ((own_cs x0 x1 x2 x3 x4).getD 1 0) zz1 (own_blk ((own_cs x0 x1 x2 x3 x4).getD 0 0) zz0 (0 : Int32))))), .val (.ref b77), .val (.ref b87), .val (.int (1 : Int32)), .val (.int x0)] [(.int x1)]))
  refine own_step (fun t k => XS.istore X109.here hx rfl (hb hby d2_126) rfl (l' := #[.val (.ref a1), .val (.ref a2), .val (.int (3 : Int32)), .val (.ref b1), .val (.ref b44), .val (.int (own_blk ((own_cs x0 x1 x2 x3 x4).getD 2 0) zz2 (own_blk ((own_cs x0 x1 x2 x3 x4).getD 1 0) zz1 (own_blk ((own_cs x0 x1 x2 x3 x4).getD 0 0) zz0 (0 : Int32))))), .val (.ref b77), .val (.ref b87), .val (.int (1 : Int32)), .val (.int x1)]) rfl k) ?_
  show own_G p.tables e below _ (T109.setTop (mkF m 128 #[.val (.ref a1), .val (.ref a2), .val (.int (3 : Int32)), .val (.ref b1), .val (.ref b44), .val (.int (own_blk ((own_cs x0 x1 x2 x3 x4).getD 2 0) zz2 (own_blk ((own_cs x0 x1 x2 x3 x4).getD 1 0) zz1 (own_blk ((own_cs x0 x1 x2 x3 x4).getD 0 0) zz0 (0 : Int32))))), .val (.ref b77), .val (.ref b87), .val (.int (1 : Int32)), .val (.int x1)] []))
  refine own_step (fun t k => XS.aload X109.here hx rfl (hb hby d2_128) rfl rfl k) ?_
  show own_G p.tables e below _ (T109.setTop (mkF m 130 #[.val (.ref a1), .val (.ref a2), .val (.int (3 : Int32)), .val (.ref b1), .val (.ref b44), .val (.int (own_blk ((own_cs x0 x1 x2 x3 x4).getD 2 0) zz2 (own_blk ((own_cs x0 x1 x2 x3 x4).getD 1 0) zz1 (own_blk ((own_cs x0 x1 x2 x3 x4).getD 0 0) zz0 (0 : Int32))))), .val (.ref b77), .val (.ref b87), .val (.int (1 : Int32)), .val (.int x1)] [(.ref b87)]))
  refine own_step (fun t k => XS.iload X109.here hx rfl (hb hby d2_130) rfl k) ?_
  show own_G p.tables e below _ (T109.setTop (mkF m 132 #[.val (.ref a1), .val (.ref a2), .val (.int (3 : Int32)), .val (.ref b1), .val (.ref b44), .val (.int (own_blk ((own_cs x0 x1 x2 x3 x4).getD 2 0) zz2 (own_blk ((own_cs x0 x1 x2 x3 x4).getD 1 0) zz1 (own_blk ((own_cs x0 x1 x2 x3 x4).getD 0 0) zz0 (0 : Int32))))), .val (.ref b77), .val (.ref b87), .val (.int (1 : Int32)), .val (.int x1)] [(.int (1 : Int32)), (.ref b87)]))
  refine own_step (fun t k => XS.aload X109.here hx rfl (hb hby d2_132) rfl rfl k) ?_
  show own_G p.tables e below _ (T109.setTop (mkF m 134 #[.val (.ref a1), .val (.ref a2), .val (.int (3 : Int32)), .val (.ref b1), .val (.ref b44), .val (.int (own_blk ((own_cs x0 x1 x2 x3 x4).getD 2 0) zz2 (own_blk ((own_cs x0 x1 x2 x3 x4).getD 1 0) zz1 (own_blk ((own_cs x0 x1 x2 x3 x4).getD 0 0) zz0 (0 : Int32))))), .val (.ref b77), .val (.ref b87), .val (.int (1 : Int32)), .val (.int x1)] [(.ref b44), (.int (1 : Int32)), (.ref b87)]))
  refine own_step (fun t k => XS.iload X109.here hx rfl (hb hby d2_134) rfl k) ?_
  show own_G p.tables e below _ (T109.setTop (mkF m 136 #[.val (.ref a1), .val (.ref a2), .val (.int (3 : Int32)), .val (.ref b1), .val (.ref b44), .val (.int (own_blk ((own_cs x0 x1 x2 x3 x4).getD 2 0) zz2 (own_blk ((own_cs x0 x1 x2 x3 x4).getD 1 0) zz1 (own_blk ((own_cs x0 x1 x2 x3 x4).getD 0 0) zz0 (0 : Int32))))), .val (.ref b77), .val (.ref b87), .val (.int (1 : Int32)), .val (.int x1)] [(.int x1), (.ref b44), (.int (1 : Int32)), (.ref b87)]))
  refine own_step (own_iaload X109 hx hZ e109 c114 (own_i3 hx1 (by first | rfl | (simp only [own_inc_len]; rfl) | exact own_cs_len _ _ _ _ _)) (g := (mkF m 136 #[.val (.ref a1), .val (.ref a2), .val (.int (3 : Int32)), .val (.ref b1), .val (.ref b44), .val (.int (own_blk ((own_cs x0 x1 x2 x3 x4).getD 2 0) zz2 (own_blk ((own_cs x0 x1 x2 x3 x4).getD 1 0) zz1 (own_blk ((own_cs x0 x1 x2 x3 x4).getD 0 0) zz0 (0 : Int32))))), .val (.ref b77), .val (.ref b87), .val (.int (1 : Int32)), .val (.int x1)] [(.int x1), (.ref b44), (.int (1 : Int32)), (.ref b87)])) rfl rfl (hb hby d2_136)) ?_
  show own_G p.tables e below _ (T109.setTop (mkF m 137 #[.val (.ref a1), .val (.ref a2), .val (.int (3 : Int32)), .val (.ref b1), .val (.ref b44), .val (.int (own_blk ((own_cs x0 x1 x2 x3 x4).getD 2 0) zz2 (own_blk ((own_cs x0 x1 x2 x3 x4).getD 1 0) zz1 (own_blk ((own_cs x0 x1 x2 x3 x4).getD 0 0) zz0 (0 : Int32))))), .val (.ref b77), .val (.ref b87), .val (.int (1 : Int32)), .val (.int x1)] [(.int ([(0 : Int32), (own_blk ((own_cs x0 x1 x2 x3 x4).getD 0 0) zz0 (0 : Int32)), (own_blk ((own_cs x0 x1 x2 x3 x4).getD 1 0) zz1 (own_blk ((own_cs x0 x1 x2 x3 x4).getD 0 0) zz0 (0 : Int32)))].getD x1.toNatClampNeg 0)), (.int (1 : Int32)), (.ref b87)]))
  refine own_step (fun t k => XS.aload X109.here hx rfl (hb hby d2_137) rfl rfl k) ?_
  show own_G p.tables e below _ (T109.setTop (mkF m 139 #[.val (.ref a1), .val (.ref a2), .val (.int (3 : Int32)), .val (.ref b1), .val (.ref b44), .val (.int (own_blk ((own_cs x0 x1 x2 x3 x4).getD 2 0) zz2 (own_blk ((own_cs x0 x1 x2 x3 x4).getD 1 0) zz1 (own_blk ((own_cs x0 x1 x2 x3 x4).getD 0 0) zz0 (0 : Int32))))), .val (.ref b77), .val (.ref b87), .val (.int (1 : Int32)), .val (.int x1)] [(.ref b77), (.int ([(0 : Int32), (own_blk ((own_cs x0 x1 x2 x3 x4).getD 0 0) zz0 (0 : Int32)), (own_blk ((own_cs x0 x1 x2 x3 x4).getD 1 0) zz1 (own_blk ((own_cs x0 x1 x2 x3 x4).getD 0 0) zz0 (0 : Int32)))].getD x1.toNatClampNeg 0)), (.int (1 : Int32)), (.ref b87)]))
  refine own_step (fun t k => XS.iload X109.here hx rfl (hb hby d2_139) rfl k) ?_
  show own_G p.tables e below _ (T109.setTop (mkF m 141 #[.val (.ref a1), .val (.ref a2), .val (.int (3 : Int32)), .val (.ref b1), .val (.ref b44), .val (.int (own_blk ((own_cs x0 x1 x2 x3 x4).getD 2 0) zz2 (own_blk ((own_cs x0 x1 x2 x3 x4).getD 1 0) zz1 (own_blk ((own_cs x0 x1 x2 x3 x4).getD 0 0) zz0 (0 : Int32))))), .val (.ref b77), .val (.ref b87), .val (.int (1 : Int32)), .val (.int x1)] [(.int x1), (.ref b77), (.int ([(0 : Int32), (own_blk ((own_cs x0 x1 x2 x3 x4).getD 0 0) zz0 (0 : Int32)), (own_blk ((own_cs x0 x1 x2 x3 x4).getD 1 0) zz1 (own_blk ((own_cs x0 x1 x2 x3 x4).getD 0 0) zz0 (0 : Int32)))].getD x1.toNatClampNeg 0)), (.int (1 : Int32)), (.ref b87)]))
  refine own_step (B := T109.setTop (mkF m 142 #[.val (.ref a1), .val (.ref a2), .val (.int (3 : Int32)), .val (.ref b1), .val (.ref b44), .val (.int (own_blk ((own_cs x0 x1 x2 x3 x4).getD 2 0) zz2 (own_blk ((own_cs x0 x1 x2 x3 x4).getD 1 0) zz1 (own_blk ((own_cs x0 x1 x2 x3 x4).getD 0 0) zz0 (0 : Int32))))), .val (.ref b77), .val (.ref b87), .val (.int (1 : Int32)), .val (.int x1)] [(.int x1), (.ref b77), (.int x1), (.ref b77), (.int ([(0 : Int32), (own_blk ((own_cs x0 x1 x2 x3 x4).getD 0 0) zz0 (0 : Int32)), (own_blk ((own_cs x0 x1 x2 x3 x4).getD 1 0) zz1 (own_blk ((own_cs x0 x1 x2 x3 x4).getD 0 0) zz0 (0 : Int32)))].getD x1.toNatClampNeg 0)), (.int (1 : Int32)), (.ref b87)])) (fun t k => by
    jvm_step X109.here [X109.here.top, hx, (hb hby d2_141), Value.category]
    exact k) ?_
  show own_G p.tables e below _ (T109.setTop (mkF m 142 #[.val (.ref a1), .val (.ref a2), .val (.int (3 : Int32)), .val (.ref b1), .val (.ref b44), .val (.int (own_blk ((own_cs x0 x1 x2 x3 x4).getD 2 0) zz2 (own_blk ((own_cs x0 x1 x2 x3 x4).getD 1 0) zz1 (own_blk ((own_cs x0 x1 x2 x3 x4).getD 0 0) zz0 (0 : Int32))))), .val (.ref b77), .val (.ref b87), .val (.int (1 : Int32)), .val (.int x1)] [(.int x1), (.ref b77), (.int x1), (.ref b77), (.int ([(0 : Int32), (own_blk ((own_cs x0 x1 x2 x3 x4).getD 0 0) zz0 (0 : Int32)), (own_blk ((own_cs x0 x1 x2 x3 x4).getD 1 0) zz1 (own_blk ((own_cs x0 x1 x2 x3 x4).getD 0 0) zz0 (0 : Int32)))].getD x1.toNatClampNeg 0)), (.int (1 : Int32)), (.ref b87)]))
  refine own_step (own_iaload X109 hx hZ e109 c115 (own_i3 hx1 (by first | rfl | (simp only [own_inc_len]; rfl) | exact own_cs_len _ _ _ _ _)) (g := (mkF m 142 #[.val (.ref a1), .val (.ref a2), .val (.int (3 : Int32)), .val (.ref b1), .val (.ref b44), .val (.int (own_blk ((own_cs x0 x1 x2 x3 x4).getD 2 0) zz2 (own_blk ((own_cs x0 x1 x2 x3 x4).getD 1 0) zz1 (own_blk ((own_cs x0 x1 x2 x3 x4).getD 0 0) zz0 (0 : Int32))))), .val (.ref b77), .val (.ref b87), .val (.int (1 : Int32)), .val (.int x1)] [(.int x1), (.ref b77), (.int x1), (.ref b77), (.int ([(0 : Int32), (own_blk ((own_cs x0 x1 x2 x3 x4).getD 0 0) zz0 (0 : Int32)), (own_blk ((own_cs x0 x1 x2 x3 x4).getD 1 0) zz1 (own_blk ((own_cs x0 x1 x2 x3 x4).getD 0 0) zz0 (0 : Int32)))].getD x1.toNatClampNeg 0)), (.int (1 : Int32)), (.ref b87)])) rfl rfl (hb hby d2_142)) ?_
  show own_G p.tables e below _ (T109.setTop (mkF m 143 #[.val (.ref a1), .val (.ref a2), .val (.int (3 : Int32)), .val (.ref b1), .val (.ref b44), .val (.int (own_blk ((own_cs x0 x1 x2 x3 x4).getD 2 0) zz2 (own_blk ((own_cs x0 x1 x2 x3 x4).getD 1 0) zz1 (own_blk ((own_cs x0 x1 x2 x3 x4).getD 0 0) zz0 (0 : Int32))))), .val (.ref b77), .val (.ref b87), .val (.int (1 : Int32)), .val (.int x1)] [(.int ((own_inc [(0 : Int32), (0 : Int32), (0 : Int32)] x0).getD x1.toNatClampNeg 0)), (.int x1), (.ref b77), (.int ([(0 : Int32), (own_blk ((own_cs x0 x1 x2 x3 x4).getD 0 0) zz0 (0 : Int32)), (own_blk ((own_cs x0 x1 x2 x3 x4).getD 1 0) zz1 (own_blk ((own_cs x0 x1 x2 x3 x4).getD 0 0) zz0 (0 : Int32)))].getD x1.toNatClampNeg 0)), (.int (1 : Int32)), (.ref b87)]))
  refine own_step (B := T109.setTop (mkF m 144 #[.val (.ref a1), .val (.ref a2), .val (.int (3 : Int32)), .val (.ref b1), .val (.ref b44), .val (.int (own_blk ((own_cs x0 x1 x2 x3 x4).getD 2 0) zz2 (own_blk ((own_cs x0 x1 x2 x3 x4).getD 1 0) zz1 (own_blk ((own_cs x0 x1 x2 x3 x4).getD 0 0) zz0 (0 : Int32))))), .val (.ref b77), .val (.ref b87), .val (.int (1 : Int32)), .val (.int x1)] [(.int ((own_inc [(0 : Int32), (0 : Int32), (0 : Int32)] x0).getD x1.toNatClampNeg 0)), (.int x1), (.ref b77), (.int ((own_inc [(0 : Int32), (0 : Int32), (0 : Int32)] x0).getD x1.toNatClampNeg 0)), (.int ([(0 : Int32), (own_blk ((own_cs x0 x1 x2 x3 x4).getD 0 0) zz0 (0 : Int32)), (own_blk ((own_cs x0 x1 x2 x3 x4).getD 1 0) zz1 (own_blk ((own_cs x0 x1 x2 x3 x4).getD 0 0) zz0 (0 : Int32)))].getD x1.toNatClampNeg 0)), (.int (1 : Int32)), (.ref b87)])) (fun t k => by
    jvm_step X109.here [X109.here.top, hx, (hb hby d2_143), Value.category]
    exact k) ?_
  show own_G p.tables e below _ (T109.setTop (mkF m 144 #[.val (.ref a1), .val (.ref a2), .val (.int (3 : Int32)), .val (.ref b1), .val (.ref b44), .val (.int (own_blk ((own_cs x0 x1 x2 x3 x4).getD 2 0) zz2 (own_blk ((own_cs x0 x1 x2 x3 x4).getD 1 0) zz1 (own_blk ((own_cs x0 x1 x2 x3 x4).getD 0 0) zz0 (0 : Int32))))), .val (.ref b77), .val (.ref b87), .val (.int (1 : Int32)), .val (.int x1)] [(.int ((own_inc [(0 : Int32), (0 : Int32), (0 : Int32)] x0).getD x1.toNatClampNeg 0)), (.int x1), (.ref b77), (.int ((own_inc [(0 : Int32), (0 : Int32), (0 : Int32)] x0).getD x1.toNatClampNeg 0)), (.int ([(0 : Int32), (own_blk ((own_cs x0 x1 x2 x3 x4).getD 0 0) zz0 (0 : Int32)), (own_blk ((own_cs x0 x1 x2 x3 x4).getD 1 0) zz1 (own_blk ((own_cs x0 x1 x2 x3 x4).getD 0 0) zz0 (0 : Int32)))].getD x1.toNatClampNeg 0)), (.int (1 : Int32)), (.ref b87)]))
  refine own_step (fun t k => XS.iconst X109.here hx rfl (hb hby d2_144) k) ?_
  show own_G p.tables e below _ (T109.setTop (mkF m 145 #[.val (.ref a1), .val (.ref a2), .val (.int (3 : Int32)), .val (.ref b1), .val (.ref b44), .val (.int (own_blk ((own_cs x0 x1 x2 x3 x4).getD 2 0) zz2 (own_blk ((own_cs x0 x1 x2 x3 x4).getD 1 0) zz1 (own_blk ((own_cs x0 x1 x2 x3 x4).getD 0 0) zz0 (0 : Int32))))), .val (.ref b77), .val (.ref b87), .val (.int (1 : Int32)), .val (.int x1)] [(.int (1 : Int32)), (.int ((own_inc [(0 : Int32), (0 : Int32), (0 : Int32)] x0).getD x1.toNatClampNeg 0)), (.int x1), (.ref b77), (.int ((own_inc [(0 : Int32), (0 : Int32), (0 : Int32)] x0).getD x1.toNatClampNeg 0)), (.int ([(0 : Int32), (own_blk ((own_cs x0 x1 x2 x3 x4).getD 0 0) zz0 (0 : Int32)), (own_blk ((own_cs x0 x1 x2 x3 x4).getD 1 0) zz1 (own_blk ((own_cs x0 x1 x2 x3 x4).getD 0 0) zz0 (0 : Int32)))].getD x1.toNatClampNeg 0)), (.int (1 : Int32)), (.ref b87)]))
  refine own_step (fun t k => XS.iadd X109.here hx rfl (hb hby d2_145) rfl k) ?_
  show own_G p.tables e below _ (T109.setTop (mkF m 146 #[.val (.ref a1), .val (.ref a2), .val (.int (3 : Int32)), .val (.ref b1), .val (.ref b44), .val (.int (own_blk ((own_cs x0 x1 x2 x3 x4).getD 2 0) zz2 (own_blk ((own_cs x0 x1 x2 x3 x4).getD 1 0) zz1 (own_blk ((own_cs x0 x1 x2 x3 x4).getD 0 0) zz0 (0 : Int32))))), .val (.ref b77), .val (.ref b87), .val (.int (1 : Int32)), .val (.int x1)] [(.int (((own_inc [(0 : Int32), (0 : Int32), (0 : Int32)] x0).getD x1.toNatClampNeg 0) + (1 : Int32))), (.int x1), (.ref b77), (.int ((own_inc [(0 : Int32), (0 : Int32), (0 : Int32)] x0).getD x1.toNatClampNeg 0)), (.int ([(0 : Int32), (own_blk ((own_cs x0 x1 x2 x3 x4).getD 0 0) zz0 (0 : Int32)), (own_blk ((own_cs x0 x1 x2 x3 x4).getD 1 0) zz1 (own_blk ((own_cs x0 x1 x2 x3 x4).getD 0 0) zz0 (0 : Int32)))].getD x1.toNatClampNeg 0)), (.int (1 : Int32)), (.ref b87)]))
  obtain ⟨T118, h118, X118, e118, W118, c118, st118⟩ := own_iastore X109 hx hZ e109 c115 (own_i3 hx1 (by first | rfl | (simp only [own_inc_len]; rfl) | exact own_cs_len _ _ _ _ _)) (g := (mkF m 146 #[.val (.ref a1), .val (.ref a2), .val (.int (3 : Int32)), .val (.ref b1), .val (.ref b44), .val (.int (own_blk ((own_cs x0 x1 x2 x3 x4).getD 2 0) zz2 (own_blk ((own_cs x0 x1 x2 x3 x4).getD 1 0) zz1 (own_blk ((own_cs x0 x1 x2 x3 x4).getD 0 0) zz0 (0 : Int32))))), .val (.ref b77), .val (.ref b87), .val (.int (1 : Int32)), .val (.int x1)] [(.int (((own_inc [(0 : Int32), (0 : Int32), (0 : Int32)] x0).getD x1.toNatClampNeg 0) + (1 : Int32))), (.int x1), (.ref b77), (.int ((own_inc [(0 : Int32), (0 : Int32), (0 : Int32)] x0).getD x1.toNatClampNeg 0)), (.int ([(0 : Int32), (own_blk ((own_cs x0 x1 x2 x3 x4).getD 0 0) zz0 (0 : Int32)), (own_blk ((own_cs x0 x1 x2 x3 x4).getD 1 0) zz1 (own_blk ((own_cs x0 x1 x2 x3 x4).getD 0 0) zz0 (0 : Int32)))].getD x1.toNatClampNeg 0)), (.int (1 : Int32)), (.ref b87)])) rfl rfl (hb hby d2_146)
  have N118 := Fr.snoc X118 N109 ge77
  have c119 : own_Ari Z h118 b77 .int ((own_inc [(0 : Int32), (0 : Int32), (0 : Int32)] x0).set x1.toNatClampNeg (((own_inc [(0 : Int32), (0 : Int32), (0 : Int32)] x0).getD x1.toNatClampNeg 0) + (1 : Int32))) := c118
  have c120 : own_Ari Z h118 a1 .int [x0, x1, x2, x3, x4] := c111.other W118 ne78
  have c121 : own_Ari Z h118 a2 .int [zz0, zz1, zz2] := c112.other W118 ne79
  have c122 : own_Ari Z h118 b1 .int (own_cs x0 x1 x2 x3 x4) := c113.other W118 ne80
  have c123 : own_Ari Z h118 b44 .int [(0 : Int32), (own_blk ((own_cs x0 x1 x2 x3 x4).getD 0 0) zz0 (0 : Int32)), (own_blk ((own_cs x0 x1 x2 x3 x4).getD 1 0) zz1 (own_blk ((own_cs x0 x1 x2 x3 x4).getD 0 0) zz0 (0 : Int32)))] := c114.other W118 ne81
  have c125 : own_Ari Z h118 b87 .int [(([(0 : Int32), (own_blk ((own_cs x0 x1 x2 x3 x4).getD 0 0) zz0 (0 : Int32)), (own_blk ((own_cs x0 x1 x2 x3 x4).getD 1 0) zz1 (own_blk ((own_cs x0 x1 x2 x3 x4).getD 0 0) zz0 (0 : Int32)))].getD x0.toNatClampNeg 0) + (([(0 : Int32), (0 : Int32), (0 : Int32)].getD x0.toNatClampNeg 0) / ([zz0, zz1, zz2].getD x0.toNatClampNeg 0))), (0 : Int32), (0 : Int32), (0 : Int32), (0 : Int32)] := c110.other W118 (Ne.symm ne92)
  have K118 : Keep h0 h118 [] := K109.wr W118 (Or.inr sz77)
  refine own_step st118 ?_
  clear K109 N109 W118 X109 c110 c111 c112 c113 c114 c115 c118 e109 hk117 st118
  show own_G p.tables e below _ (T118.setTop (mkF m 147 #[.val (.ref a1), .val (.ref a2), .val (.int (3 : Int32)), .val (.ref b1), .val (.ref b44), .val (.int (own_blk ((own_cs x0 x1 x2 x3 x4).getD 2 0) zz2 (own_blk ((own_cs x0 x1 x2 x3 x4).getD 1 0) zz1 (own_blk ((own_cs x0 x1 x2 x3 x4).getD 0 0) zz0 (0 : Int32))))), .val (.ref b77), .val (.ref b87), .val (.int (1 : Int32)), .val (.int x1)] [(.int ((own_inc [(0 : Int32), (0 : Int32), (0 : Int32)] x0).getD x1.toNatClampNeg 0)), (.int ([(0 : Int32), (own_blk ((own_cs x0 x1 x2 x3 x4).getD 0 0) zz0 (0 : Int32)), (own_blk ((own_cs x0 x1 x2 x3 x4).getD 1 0) zz1 (own_blk ((own_cs x0 x1 x2 x3 x4).getD 0 0) zz0 (0 : Int32)))].getD x1.toNatClampNeg 0)), (.int (1 : Int32)), (.ref b87)]))
  have c126 : own_Ari Z h118 b77 .int (own_inc (own_inc [(0 : Int32), (0 : Int32), (0 : Int32)] x0) x1) := c119
  refine own_step (fun t k => XS.aloadN X118.here hx rfl (hb hby d2_147) rfl rfl k) ?_
  show own_G p.tables e below _ (T118.setTop (mkF m 148 #[.val (.ref a1), .val (.ref a2), .val (.int (3 : Int32)), .val (.ref b1), .val (.ref b44), .val (.int (own_blk ((own_cs x0 x1 x2 x3 x4).getD 2 0) zz2 (own_blk ((own_cs x0 x1 x2 x3 x4).getD 1 0) zz1 (own_blk ((own_cs x0 x1 x2 x3 x4).getD 0 0) zz0 (0 : Int32))))), .val (.ref b77), .val (.ref b87), .val (.int (1 : Int32)), .val (.int x1)] [(.ref a2), (.int ((own_inc [(0 : Int32), (0 : Int32), (0 : Int32)] x0).getD x1.toNatClampNeg 0)), (.int ([(0 : Int32), (own_blk ((own_cs x0 x1 x2 x3 x4).getD 0 0) zz0 (0 : Int32)), (own_blk ((own_cs x0 x1 x2 x3 x4).getD 1 0) zz1 (own_blk ((own_cs x0 x1 x2 x3 x4).getD 0 0) zz0 (0 : Int32)))].getD x1.toNatClampNeg 0)), (.int (1 : Int32)), (.ref b87)]))
  refine own_step (fun t k => XS.iload X118.here hx rfl (hb hby d2_148) rfl k) ?_
  show own_G p.tables e below _ (T118.setTop (mkF m 150 #[.val (.ref a1), .val (.ref a2), .val (.int (3 : Int32)), .val (.ref b1), .val (.ref b44), .val (.int (own_blk ((own_cs x0 x1 x2 x3 x4).getD 2 0) zz2 (own_blk ((own_cs x0 x1 x2 x3 x4).getD 1 0) zz1 (own_blk ((own_cs x0 x1 x2 x3 x4).getD 0 0) zz0 (0 : Int32))))), .val (.ref b77), .val (.ref b87), .val (.int (1 : Int32)), .val (.int x1)] [(.int x1), (.ref a2), (.int ((own_inc [(0 : Int32), (0 : Int32), (0 : Int32)] x0).getD x1.toNatClampNeg 0)), (.int ([(0 : Int32), (own_blk ((own_cs x0 x1 x2 x3 x4).getD 0 0) zz0 (0 : Int32)), (own_blk ((own_cs x0 x1 x2 x3 x4).getD 1 0) zz1 (own_blk ((own_cs x0 x1 x2 x3 x4).getD 0 0) zz0 (0 : Int32)))].getD x1.toNatClampNeg 0)), (.int (1 : Int32)), (.ref b87)]))
  refine own_step (own_iaload X118 hx hZ e118 c121 (own_i3 hx1 (by first | rfl | (simp only [own_inc_len]; rfl) | exact own_cs_len _ _ _ _ _)) (g := (mkF m 150 #[.val (.ref a1), .val (.ref a2), .val (.int (3 : Int32)), .val (.ref b1), .val (.ref b44), .val (.int (own_blk ((own_cs x0 x1 x2 x3 x4).getD 2 0) zz2 (own_blk ((own_cs x0 x1 x2 x3 x4).getD 1 0) zz1 (own_blk ((own_cs x0 x1 x2 x3 x4).getD 0 0) zz0 (0 : Int32))))), .val (.ref b77), .val (.ref b87), .val (.int (1 : Int32)), .val (.int x1)] [(.int x1), (.ref a2), (.int ((own_inc [(0 : Int32), (0 : Int32), (0 : Int32)] x0).getD x1.toNatClampNeg 0)), (.int ([(0 : Int32), (own_blk ((own_cs x0 x1 x2 x3 x4).getD 0 0) zz0 (0 : Int32)), (own_blk ((own_cs x0 x1 x2 x3 x4).getD 1 0) zz1 (own_blk ((own_cs x0 x1 x2 x3 x4).getD 0 0) zz0 (0 : Int32)))].getD x1.toNatClampNeg 0)), (.int (1 : Int32)), (.ref b87)])) rfl rfl (hb hby d2_150)) ?_
  show own_G p.tables e below _ (T118.setTop (mkF m 151 #[.val (.ref a1), .val (.ref a2), .val (.int (3 : Int32)), .val (.ref b1), .val (.ref b44), .val (.int (own_blk ((own_cs x0 x1 x2 x3 x4).getD 2 0) zz2 (own_blk ((own_cs x0 x1 x2 x3 x4).getD 1 0) zz1 (own_blk ((own_cs x0 x1 x2 x3 x4).getD 0 0) zz0 (0 : Int32))))), .val (.ref b77), .val (.ref b87), .val (.int (1 : Int32)), .val (.int x1)] [(.int ([zz0, zz1, zz2].getD x1.toNatClampNeg 0)), (.int ((own_inc [(0 : Int32), (0 : Int32), (0 : Int32)] x0).getD x1.toNatClampNeg 0)), (.int ([(0 : Int32), (own_blk ((own_cs x0 x1 x2 x3 x4).getD 0 0) zz0 (0 : Int32)), (own_blk ((own_cs x0 x1 x2 x3 x4).getD 1 0) zz1 (own_blk ((own_cs x0 x1 x2 x3 x4).getD 0 0) zz0 (0 : Int32)))].getD x1.toNatClampNeg 0)), (.int (1 : Int32)), (.ref b87)]))
  refine own_step (fun t k => XS.idiv X118.here hx rfl (hb hby d2_151) rfl (own_nz3 hx1 hz0 hz1 hz2) k) ?_
  show own_G p.tables e below _ (T118.setTop (mkF m 152 #[.val (.ref a1), .val (.ref a2), .val (.int (3 : Int32)), .val (.ref b1), .val (.ref b44), .val (.int (own_blk ((own_cs x0 x1 x2 x3 x4).getD 2 0) zz2 (own_blk ((own_cs x0 x1 x2 x3 x4).getD 1 0) zz1 (own_blk ((own_cs x0 x1 x2 x3 x4).getD 0 0) zz0 (0 : Int32))))), .val (.ref b77), .val (.ref b87), .val (.int (1 : Int32)), .val (.int x1)] [(.int (((own_inc [(0 : Int32), (0 : Int32), (0 : Int32)] x0).getD x1.toNatClampNeg 0) / ([zz0, zz1, zz2].getD x1.toNatClampNeg 0))), (.int ([(0 : Int32), (own_blk ((own_cs x0 x1 x2 x3 x4).getD 0 0) zz0 (0 : Int32)), (own_blk ((own_cs x0 x1 x2 x3 x4).getD 1 0) zz1 (own_blk ((own_cs x0 x1 x2 x3 x4).getD 0 0) zz0 (0 : Int32)))].getD x1.toNatClampNeg 0)), (.int (1 : Int32)), (.ref b87)]))
  refine own_step (fun t k => XS.iadd X118.here hx rfl (hb hby d2_152) rfl k) ?_
  show own_G p.tables e below _ (T118.setTop (mkF m 153 #[.val (.ref a1), .val (.ref a2), .val (.int (3 : Int32)), .val (.ref b1), .val (.ref b44), .val (.int (own_blk ((own_cs x0 x1 x2 x3 x4).getD 2 0) zz2 (own_blk ((own_cs x0 x1 x2 x3 x4).getD 1 0) zz1 (own_blk ((own_cs x0 x1 x2 x3 x4).getD 0 0) zz0 (0 : Int32))))), .val (.ref b77), .val (.ref b87), .val (.int (1 : Int32)), .val (.int x1)] [(.int (([(0 : Int32), (own_blk ((own_cs x0 x1 x2 x3 x4).getD 0 0) zz0 (0 : Int32)), (own_blk ((own_cs x0 x1 x2 x3 x4).getD 1 0) zz1 (own_blk ((own_cs x0 x1 x2 x3 x4).getD 0 0) zz0 (0 : Int32)))].getD x1.toNatClampNeg 0) + (((own_inc [(0 : Int32), (0 : Int32), (0 : Int32)] x0).getD x1.toNatClampNeg 0) / ([zz0, zz1, zz2].getD x1.toNatClampNeg 0)))), (.int (1 : Int32)), (.ref b87)]))
  obtain ⟨T127, h127, X127, e127, W127, c127, st127⟩ := own_iastore X118 hx hZ e118 c125 (own_inb (by decide) (Nat.le_of_ble_eq_true rfl)) (g := (mkF m 153 #[.val (.ref a1), .val (.ref a2), .val (.int (3 : Int32)), .val (.ref b1), .val (.ref b44), .val (.int (own_blk ((own_cs x0 x1 x2 x3 x4).getD 2 0) zz2 (own_blk ((own_cs x0 x1 x2 x3 x4).getD 1 0) zz1 (own_blk ((own_cs x0 x1 x2 x3 x4).getD 0 0) zz0 (0 : Int32))))), .val (.ref b77), .val (.ref b87), .val (.int (1 : Int32)), .val (.int x1)] [(.int (([(0 : Int32), (own_blk ((own_cs x0 x1 x2 x3 x4).getD 0 0) zz0 (0 : Int32)), (own_blk ((own_cs x0 x1 x2 x3 x4).getD 1 0) zz1 (own_blk ((own_cs x0 x1 x2 x3 x4).getD 0 0) zz0 (0 : Int32)))].getD x1.toNatClampNeg 0) + (((own_inc [(0 : Int32), (0 : Int32), (0 : Int32)] x0).getD x1.toNatClampNeg 0) / ([zz0, zz1, zz2].getD x1.toNatClampNeg 0)))), (.int (1 : Int32)), (.ref b87)])) rfl rfl (hb hby d2_153)
  have N127 := Fr.snoc X127 N118 ge87
  have c128 : own_Ari Z h127 b87 .int [(([(0 : Int32), (own_blk ((own_cs x0 x1 x2 x3 x4).getD 0 0) zz0 (0 : Int32)), (own_blk ((own_cs x0 x1 x2 x3 x4).getD 1 0) zz1 (own_blk ((own_cs x0 x1 x2 x3 x4).getD 0 0) zz0 (0 : Int32)))].getD x0.toNatClampNeg 0) + (([(0 : Int32), (0 : Int32), (0 : Int32)].getD x0.toNatClampNeg 0) / ([zz0, zz1, zz2].getD x0.toNatClampNeg 0))), (([(0 : Int32), (own_blk ((own_cs x0 x1 x2 x3 x4).getD 0 0) zz0 (0 : Int32)), (own_blk ((own_cs x0 x1 x2 x3 x4).getD 1 0) zz1 (own_blk ((own_cs x0 x1 x2 x3 x4).getD 0 0) zz0 (0 : Int32)))].getD x1.toNatClampNeg 0) + (((own_inc [(0 : Int32), (0 : Int32), (0 : Int32)] x0).getD x1.toNatClampNeg 0) / ([zz0, zz1, zz2].getD x1.toNatClampNeg 0))), (0 : Int32), (0 : Int32), (0 : Int32)] := c127
  have c129 : own_Ari Z h127 a1 .int [x0, x1, x2, x3, x4] := c120.other W127 ne88
  have c130 : own_Ari Z h127 a2 .int [zz0, zz1, zz2] := c121.other W127 ne89
  have c131 : own_Ari Z h127 b1 .int (own_cs x0 x1 x2 x3 x4) := c122.other W127 ne90
  have c132 : own_Ari Z h127 b44 .int [(0 : Int32), (own_blk ((own_cs x0 x1 x2 x3 x4).getD 0 0) zz0 (0 : Int32)), (own_blk ((own_cs x0 x1 x2 x3 x4).getD 1 0) zz1 (own_blk ((own_cs x0 x1 x2 x3 x4).getD 0 0) zz0 (0 : Int32)))] := c123.other W127 ne91
  have c133 : own_Ari Z h127 b77 .int (own_inc (own_inc [(0 : Int32), (0 : Int32), (0 : Int32)] x0) x1) := c126.other W127 ne92
  have K127 : Keep h0 h127 [] := K118.wr W127 (Or.inr sz87)
  refine own_step st127 ?_
  clear K118 N118 W127 X118 c119 c120 c121 c122 c123 c125 c126 c127 e118 st127
  show own_G p.tables e below _ (T127.setTop (mkF m 154 #[.val (.ref a1), .val (.ref a2), .val (.int (3 : Int32)), .val (.ref b1), .val (.ref b44), .val (.int (own_blk ((own_cs x0 x1 x2 x3 x4).getD 2 0) zz2 (own_blk ((own_cs x0 x1 x2 x3 x4).getD 1 0) zz1 (own_blk ((own_cs x0 x1 x2 x3 x4).getD 0 0) zz0 (0 : Int32))))), .val (.ref b77), .val (.ref b87), .val (.int (1 : Int32)), .val (.int x1)] []))
  refine own_step (fun t k => XS.iinc X127.here hx rfl (hb hby d2_154) rfl (l' := #[.val (.ref a1), .val (.ref a2), .val (.int (3 : Int32)), .val (.ref b1), .val (.ref b44), .val (.int (own_blk ((own_cs x0 x1 x2 x3 x4).getD 2 0) zz2 (own_blk ((own_cs x0 x1 x2 x3 x4).getD 1 0) zz1 (own_blk ((own_cs x0 x1 x2 x3 x4).getD 0 0) zz0 (0 : Int32))))), .val (.ref b77), .val (.ref b87), .val (.int (2 : Int32)), .val (.int x1)]) rfl k) ?_
  show own_G p.tables e below _ (T127.setTop (mkF m 157 #[.val (.ref a1), .val (.ref a2), .val (.int (3 : Int32)), .val (.ref b1), .val (.ref b44), .val (.int (own_blk ((own_cs x0 x1 x2 x3 x4).getD 2 0) zz2 (own_blk ((own_cs x0 x1 x2 x3 x4).getD 1 0) zz1 (own_blk ((own_cs x0 x1 x2 x3 x4).getD 0 0) zz0 (0 : Int32))))), .val (.ref b77), .val (.ref b87), .val (.int (2 : Int32)), .val (.int x1)] []))
  refine own_step (fun t k => XS.goto X127.here hx rfl (pc0 := 157) (pc' := 115) rfl (hb hby d2_157) (by decide) (by decide) k) ?_
  show own_G p.tables e below _ (T127.setTop (mkF m 115 #[.val (.ref a1), .val (.ref a2), .val (.int (3 : Int32)), .val (.ref b1), .val (.ref b44), .val (.int (own_blk ((own_cs x0 x1 x2 x3 x4).getD 2 0) zz2 (own_blk ((own_cs x0 x1 x2 x3 x4).getD 1 0) zz1 (own_blk ((own_cs x0 x1 x2 x3 x4).getD 0 0) zz0 (0 : Int32))))), .val (.ref b77), .val (.ref b87), .val (.int (2 : Int32)), .val (.int x1)] []))
  refine own_step (fun t k => XS.iload X127.here hx rfl (hb hby d2_115) rfl k) ?_
  show own_G p.tables e below _ (T127.setTop (mkF m 117 #[.val (.ref a1), .val (.ref a2), .val (.int (3 : Int32)), .val (.ref b1), .val (.ref b44), .val (.int (own_blk ((own_cs x0 x1 x2 x3 x4).getD 2 0) zz2 (own_blk ((own_cs x0 x1 x2 x3 x4).getD 1 0) zz1 (own_blk ((own_cs x0 x1 x2 x3 x4).getD 0 0) zz0 (0 : Int32))))), .val (.ref b77), .val (.ref b87), .val (.int (2 : Int32)), .val (.int x1)] [(.int (2 : Int32))]))
  refine own_step (fun t k => XS.aloadN X127.here hx rfl (hb hby d2_117) rfl rfl k) ?_
  show own_G p.tables e below _ (T127.setTop (mkF m 118 #[.val (.ref a1), .val (.ref a2), .val (.int (3 : Int32)), .val (.ref b1), .val (.ref b44), .val (.int (own_blk ((own_cs x0 x1 x2 x3 x4).getD 2 0) zz2 (own_blk ((own_cs x0 x1 x2 x3 x4).getD 1 0) zz1 (own_blk ((own_cs x0 x1 x2 x3 x4).getD 0 0) zz0 (0 : Int32))))), .val (.ref b77), .val (.ref b87), .val (.int (2 : Int32)), .val (.int x1)] [(.ref a1), (.int (2 : Int32))]))
  refine own_step (own_lenI X127 hx hZ e127 c129 (g := (mkF m 118 #[.val (.ref a1), .val (.ref a2), .val (.int (3 : Int32)), .val (.ref b1), .val (.ref b44), .val (.int (own_blk ((own_cs x0 x1 x2 x3 x4).getD 2 0) zz2 (own_blk ((own_cs x0 x1 x2 x3 x4).getD 1 0) zz1 (own_blk ((own_cs x0 x1 x2 x3 x4).getD 0 0) zz0 (0 : Int32))))), .val (.ref b77), .val (.ref b87), .val (.int (2 : Int32)), .val (.int x1)] [(.ref a1), (.int (2 : Int32))])) rfl rfl (hb hby d2_118)) ?_
  show own_G p.tables e below _ (T127.setTop (mkF m 119 #[.val (.ref a1), .val (.ref a2), .val (.int (3 : Int32)), .val (.ref b1), .val (.ref b44), .val (.int (own_blk ((own_cs x0 x1 x2 x3 x4).getD 2 0) zz2 (own_blk ((own_cs x0 x1 x2 x3 x4).getD 1 0) zz1 (own_blk ((own_cs x0 x1 x2 x3 x4).getD 0 0) zz0 (0 : Int32))))), .val (.ref b77), .val (.ref b87), .val (.int (2 : Int32)), .val (.int x1)] [(.int (5 : Int32)), (.int (2 : Int32))]))
  have hk135 : (2 : Int32) < (5 : Int32) := (by decide)
  refine own_step (fun t k => XS.icmpNo X127.here hx rfl (hb hby d2_119) rfl ((tlt hk135).2.1) k) ?_
  show own_G p.tables e below _ (T127.setTop (mkF m 122 #[.val (.ref a1), .val (.ref a2), .val (.int (3 : Int32)), .val (.ref b1), .val (.ref b44), .val (.int (own_blk ((own_cs x0 x1 x2 x3 x4).getD 2 0) zz2 (own_blk ((own_cs x0 x1 x2 x3 x4).getD 1 0) zz1 (own_blk ((own_cs x0 x1 x2 x3 x4).getD 0 0) zz0 (0 : Int32))))), .val (.ref b77), .val (.ref b87), .val (.int (2 : Int32)), .val (.int x1)] []))
  refine own_step (fun t k => XS.aloadN X127.here hx rfl (hb hby d2_122) rfl rfl k) ?_
  show own_G p.tables e below _ (T127.setTop (mkF m 123 #[.val (.ref a1), .val (.ref a2), .val (.int (3 : Int32)), .val (.ref b1), .val (.ref b44), .val (.int (own_blk ((own_cs x0 x1 x2 x3 x4).getD 2 0) zz2 (own_blk ((own_cs x0 x1 x2 x3 x4).getD 1 0) zz1 (own_blk ((own_cs x0 x1 x2 x3 x4).getD 0 0) zz0 (0 : Int32))))), .val (.ref b77), .val (.ref b87), .val (.int (2 : Int32)), .val (.int x1)] [(.ref a1)]))
  refine own_step (fun t k => XS.iload X127.here hx rfl (hb hby d2_123) rfl k) ?_
  show own_G p.tables e below _ (T127.setTop (mkF m 125 #[.val (.ref a1), .val (.ref a2), .val (.int (3 : Int32)), .val (.ref b1), .val (.ref b44), .val (.int (own_blk ((own_cs x0 x1 x2 x3 x4).getD 2 0) zz2 (own_blk ((own_cs x0 x1 x2 x3 x4).getD 1 0) zz1 (own_blk ((own_cs x0 x1 x2 x3 x4).getD 0 0) zz0 (0 : Int32))))), .val (.ref b77), .val (.ref b87), .val (.int (2 : Int32)), .val (.int x1)] [(.int (2 : Int32)), (.ref a1)]))
  refine own_step (own_iaload X127 hx hZ e127 c129 (own_inb (by decide) (Nat.le_of_ble_eq_true rfl)) (g := (mkF m 125 #[.val (.ref a1), .val (.ref a2), .val (.int (3 : Int32)), .val (.ref b1), .val (.ref b44), .val (.int (own_blk ((own_cs x0 x1 x2 x3 x4).getD 2 0) zz2 (own_blk ((own_cs x0 x1 x2 x3 x4).getD 1 0) zz1 (own_blk ((own_cs x0 x1 x2 x3 x4).getD 0 0) zz0 (0 : Int32))))), .val (.ref b77), .val (.ref b87), .val (.int (2 : Int32)), .val (.int x1)] [(.int (2 : Int32)), (.ref a1)])) rfl rfl (hb hby d2_125)) ?_
  show own_G p.tables e below _ (T127.setTop (mkF m 126 #[.val (.ref a1), .val (.ref a2), .val (.int (3 : Int32)), .val (.ref b1), .val (.ref b44), .val (.int (own_blk ((own_cs x0 x1 x2 x3 x4).getD 2 0) zz2 (own_blk ((own_cs x0 x1 x2 x3 x4).getD 1 0) zz1 (own_blk ((own_cs x0 x1 x2 x3 x4).getD 0 0) zz0 (0 : Int32))))), .val (.ref b77), .val (.ref b87), .val (.int (2 : Int32)), .val (.int x1)] [(.int x2)]))
  refine own_step (fun t k => XS.istore X127.here hx rfl (hb hby d2_126) rfl (l' := #[.val (.ref a1), .val (.ref a2), .val (.int (3 : Int32)), .val (.ref b1), .val (.ref b44), .val (.int (own_blk ((own_cs x0 x1 x2 x3 x4).getD 2 0) zz2 (own_blk ((own_cs x0 x1 x2 x3 x4).getD 1 0) zz1 (own_blk ((own_cs x0 x1 x2 x3 x4).getD 0 0) zz0 (0 : Int32))))), .val (.ref b77), .val (.ref b87), .val (.int (2 : Int32)), .val (.int x2)]) rfl k) ?_
  show own_G p.tables e below _ (T127.setTop (mkF m 128 #[.val (.ref a1), .val (.ref a2), .val (.int (3 : Int32)), .val (.ref b1), .val (.ref b44), .val (.int (own_blk ((own_cs x0 x1 x2 x3 x4).getD 2 0) zz2 (own_blk ((own_cs x0 x1 x2 x3 x4).getD 1 0) zz1 (own_blk ((own_cs x0 x1 x2 x3 x4).getD 0 0) zz0 (0 : Int32))))), .val (.ref b77), .val (.ref b87), .val (.int (2 : Int32)), .val (.int x2)] []))
  refine own_step (fun t k => XS.aload X127.here hx rfl (hb hby d2_128) rfl rfl k) ?_
  show own_G p.tables e below _ (T127.setTop (mkF m 130 #[.val (.ref a1), .val (.ref a2), .val (.int (3 : Int32)), .val (.ref b1), .val (.ref b44), .val (.int (own_blk ((own_cs x0 x1 x2 x3 x4).getD 2 0) zz2 (own_blk ((own_cs x0 x1 x2 x3 x4).getD 1 0) zz1 (own_blk ((own_cs x0 x1 x2 x3 x4).getD 0 0) zz0 (0 : Int32))))), .val (.ref b77), .val (.ref b87), .val (.int (2 : Int32)), .val (.int x2)] [(.ref b87)]))
  refine own_step (fun t k => XS.iload X127.here hx rfl (hb hby d2_130) rfl k) ?_
  show own_G p.tables e below _ (T127.setTop (mkF m 132 #[.val (.ref a1), .val (.ref a2), .val (.int (3 : Int32)), .val (.ref b1), .val (.ref b44), .val (.int (own_blk ((own_cs x0 x1 x2 x3 x4).getD 2 0) zz2 (own_blk ((own_cs x0 x1 x2 x3 x4).getD 1 0) zz1 (own_blk ((own_cs x0 x1 x2 x3 x4).getD 0 0) zz0 (0 : Int32))))), .val (.ref b77), .val (.ref b87), .val (.int (2 : Int32)), .val (.int x2)] [(.int (2 : Int32)), (.ref b87)]))
  refine own_step (fun t k => XS.aload X127.here hx rfl (hb hby d2_132) rfl rfl k) ?_
  show own_G p.tables e below _ (T127.setTop (mkF m 134 #[.val (.ref a1), .val (.ref a2), .val (.int (3 : Int32)), .val (.ref b1), .val (.ref b44), .val (.int (own_blk ((own_cs x0 x1 x2 x3 x4).getD 2 0) zz2 (own_blk ((own_cs x0 x1 x2 x3 x4).getD 1 0) zz1 (own_blk ((own_cs x0 x1 x2 x3 x4).getD 0 0) zz0 (0 : Int32))))), .val (.ref b77), .val (.ref b87), .val (.int (2 : Int32)), .val (.int x2)] [(.ref b44), (.int (2 : Int32)), (.ref b87)]))
  refine own_step (fun t k => XS.iload X127.here hx rfl (hb hby d2_134) rfl k) ?_
  show own_G p.tables e below _ (T127.setTop (mkF m 136 #[.val (.ref a1), .val (.ref a2), .val (.int (3 : Int32)), .val (.ref b1), .val (.ref b44), .val (.int (own_blk ((own_cs x0 x1 x2 x3 x4).getD 2 0) zz2 (own_blk ((own_cs x0 x1 x2 x3 x4).getD 1 0) zz1 (own_blk ((own_cs x0 x1 x2 x3 x4).getD 0 0) zz0 (0 : Int32))))), .val (.ref b77), .val (.ref b87), .val (.int (2 : Int32)), .val (.int x2)] [(.int x2), (.ref b44), (.int (2 : Int32)), (.ref b87)]))
  refine own_step (own_iaload X127 hx hZ e127 c132 (own_i3 hx2 (by first | rfl | (simp only [own_inc_len]; rfl) | exact own_cs_len _ _ _ _ _)) (g := (mkF m 136 #[.val (.ref a1), .val (.ref a2), .val (.int (3 : Int32)), .val (.ref b1), .val (.ref b44), .val (.int (own_blk ((own_cs x0 x1 x2 x3 x4).getD 2 0) zz2 (own_blk ((own_cs x0 x1 x2 x3 x4).getD 1 0) zz1 (own_blk ((own_cs x0 x1 x2 x3 x4).getD 0 0) zz0 (0 : Int32))))), .val (.ref b77), .val (.ref b87), .val (.int (2 : Int32)), .val (.int x2)] [(.int x2), (.ref b44), (.int (2 : Int32)), (.ref b87)])) rfl rfl (hb hby d2_136)) ?_
  show own_G p.tables e below _ (T127.setTop (mkF m 137 #[.val (.ref a1), .val (.ref a2), .val (.int (3 : Int32)), .val (.ref b1), .val (.ref b44), .val (.int (own_blk ((own_cs x0 x1 x2 x3 x4).getD 2 0) zz2 (own_blk ((own_cs x0 x1 x2 x3 x4).getD 1 0) zz1 (own_blk ((own_cs x0 x1 x2 x3 x4).getD 0 0) zz0 (0 : Int32))))), .val (.ref b77), .val (.ref b87), .val (.int (2 : Int32)), .val (.int x2)] [(.int ([(0 : Int32), (own_blk ((own_cs x0 x1 x2 x3 x4).getD 0 0) zz0 (0 : Int32)), (own_blk ((own_cs x0 x1 x2 x3 x4).getD 1 0) zz1 (own_blk ((own_cs x0 x1 x2 x3 x4).getD 0 0) zz0 (0 : Int32)))].getD x2.toNatClampNeg 0)), (.int (2 : Int32)), (.ref b87)]))
  refine own_step (fun t k => XS.aload X127.here hx rfl (hb hby d2_137) rfl rfl k) ?_
  show own_G p.tables e below _ (T127.setTop (mkF m 139 #[.val (.ref a1), .val (.ref a2), .val (.int (3 : Int32)), .val (.ref b1), .val (.ref b44), .val (.int (own_blk ((own_cs x0 x1 x2 x3 x4).getD 2 0) zz2 (own_blk ((own_cs x0 x1 x2 x3 x4).getD 1 0) zz1 (own_blk ((own_cs x0 x1 x2 x3 x4).getD 0 0) zz0 (0 : Int32))))), .val (.ref b77), .val (.ref b87), .val (.int (2 : Int32)), .val (.int x2)] [(.ref b77), (.int ([(0 : Int32), (own_blk ((own_cs x0 x1 x2 x3 x4).getD 0 0) zz0 (0 : Int32)), (own_blk ((own_cs x0 x1 x2 x3 x4).getD 1 0) zz1 (own_blk ((own_cs x0 x1 x2 x3 x4).getD 0 0) zz0 (0 : Int32)))].getD x2.toNatClampNeg 0)), (.int (2 : Int32)), (.ref b87)]))
  refine own_step (fun t k => XS.iload X127.here hx rfl (hb hby d2_139) rfl k) ?_
  show own_G p.tables e below _ (T127.setTop (mkF m 141 #[.val (.ref a1), .val (.ref a2), .val (.int (3 : Int32)), .val (.ref b1), .val (.ref b44), .val (.int (own_blk ((own_cs x0 x1 x2 x3 x4).getD 2 0) zz2 (own_blk ((own_cs x0 x1 x2 x3 x4).getD 1 0) zz1 (own_blk ((own_cs x0 x1 x2 x3 x4).getD 0 0) zz0 (0 : Int32))))), .val (.ref b77), .val (.ref b87), .val (.int (2 : Int32)), .val (.int x2)] [(.int x2), (.ref b77), (.int ([(0 : Int32), (own_blk ((own_cs x0 x1 x2 x3 x4).getD 0 0) zz0 (0 : Int32)), (own_blk ((own_cs x0 x1 x2 x3 x4).getD 1 0) zz1 (own_blk ((own_cs x0 x1 x2 x3 x4).getD 0 0) zz0 (0 : Int32)))].getD x2.toNatClampNeg 0)), (.int (2 : Int32)), (.ref b87)]))
  refine own_step (B := T127.setTop (mkF m 142 #[.val (.ref a1), .val (.ref a2), .val (.int (3 : Int32)), .val (.ref b1), .val (.ref b44), .val (.int (own_blk ((own_cs x0 x1 x2 x3 x4).getD 2 0) zz2 (own_blk ((own_cs x0 x1 x2 x3 x4).getD 1 0) zz1 (own_blk ((own_cs x0 x1 x2 x3 x4).getD 0 0) zz0 (0 : Int32))))), .val (.ref b77), .val (.ref b87), .val (.int (2 : Int32)), .val (.int x2)] [(.int x2), (.ref b77), (.int x2), (.ref b77), (.int ([(0 : Int32), (own_blk ((own_cs x0 x1 x2 x3 x4).getD 0 0) zz0 (0 : Int32)), (own_blk ((own_cs x0 x1 x2 x3 x4).getD 1 0) zz1 (own_blk ((own_cs x0 x1 x2 x3 x4).getD 0 0) zz0 (0 : Int32)))].getD x2.toNatClampNeg 0)), (.int (2 : Int32)), (.ref b87)])) (fun t k => by
    jvm_step X127.here [X127.here.top, hx, (hb hby d2_141), Value.category]
    exact k) ?_
  show own_G p.tables e below _ (T127.setTop (mkF m 142 #[.val (.ref a1), .val (.ref a2), .val (.int (3 : Int32)), .val (.ref b1), .val (.ref b44), .val (.int (own_blk ((own_cs x0 x1 x2 x3 x4).getD 2 0) zz2 (own_blk ((own_cs x0 x1 x2 x3 x4).getD 1 0) zz1 (own_blk ((own_cs x0 x1 x2 x3 x4).getD 0 0) zz0 (0 : Int32))))), .val (.ref b77), .val (.ref b87), .val (.int (2 : Int32)), .val (.int x2)] [(.int x2), (.ref b77), (.int x2), (.ref b77), (.int ([(0 : Int32), (own_blk ((own_cs x0 x1 x2 x3 x4).getD 0 0) zz0 (0 : Int32)), (own_blk ((own_cs x0 x1 x2 x3 x4).getD 1 0) zz1 (own_blk ((own_cs x0 x1 x2 x3 x4).getD 0 0) zz0 (0 : Int32)))].getD x2.toNatClampNeg 0)), (.int (2 : Int32)), (.ref b87)]))
  refine own_step (own_iaload X127 hx hZ e127 c133 (own_i3 hx2 (by first | rfl | (simp only [own_inc_len]; rfl) | exact own_cs_len _ _ _ _ _)) (g := (mkF m 142 #[.val (.ref a1), .val (.ref a2), .val (.int (3 : Int32)), .val (.ref b1), .val (.ref b44), .val (.int (own_blk ((own_cs x0 x1 x2 x3 x4).getD 2 0) zz2 (own_blk ((own_cs x0 x1 x2 x3 x4).getD 1 0) zz1 (own_blk ((own_cs x0 x1 x2 x3 x4).getD 0 0) zz0 (0 : Int32))))), .val (.ref b77), .val (.ref b87), .val (.int (2 : Int32)), .val (.int x2)] [(.int x2), (.ref b77), (.int x2), (.ref b77), (.int ([(0 : Int32), (own_blk ((own_cs x0 x1 x2 x3 x4).getD 0 0) zz0 (0 : Int32)), (own_blk ((own_cs x0 x1 x2 x3 x4).getD 1 0) zz1 (own_blk ((own_cs x0 x1 x2 x3 x4).getD 0 0) zz0 (0 : Int32)))].getD x2.toNatClampNeg 0)), (.int (2 : Int32)), (.ref b87)])) rfl rfl (hb hby d2_142)) ?_
  show own_G p.tables e below _ (T127.setTop (mkF m 143 #[.val (.ref a1), .val (.ref a2), .val (.int (3 : Int32)), .val (.ref b1), .val (.ref b44), .val (.int (own_blk ((own_cs x0 x1 x2 x3 x4).getD 2 0) zz2 (own_blk ((own_cs x0 x1 x2 x3 x4).getD 1 0) zz1 (own_blk ((own_cs x0 x1 x2 x3 x4).getD 0 0) zz0 (0 : Int32))))), .val (.ref b77), .val (.ref b87), .val (.int (2 : Int32)), .val (.int x2)] [(.int ((own_inc (own_inc [(0 : Int32), (0 : Int32), (0 : Int32)] x0) x1).getD x2.toNatClampNeg 0)), (.int x2), (.ref b77), (.int ([(0 : Int32), (own_blk ((own_cs x0 x1 x2 x3 x4).getD 0 0) zz0 (0 : Int32)), (own_blk ((own_cs x0 x1 x2 x3 x4).getD 1 0) zz1 (own_blk ((own_cs x0 x1 x2 x3 x4).getD 0 0) zz0 (0 : Int32)))].getD x2.toNatClampNeg 0)), (.int (2 : Int32)), (.ref b87)]))
  refine own_step (B := T127.setTop (mkF m 144 #[.val (.ref a1), .val (.ref a2), .val (.int (3 : Int32)), .val (.ref b1), .val (.ref b44), .val (.int (own_blk ((own_cs x0 x1 x2 x3 x4).getD 2 0) zz2 (own_blk ((own_cs x0 x1 x2 x3 x4).getD 1 0) zz1 (own_blk ((own_cs x0 x1 x2 x3 x4).getD 0 0) zz0 (0 : Int32))))), .val (.ref b77), .val (.ref b87), .val (.int (2 : Int32)), .val (.int x2)] [(.int ((own_inc (own_inc [(0 : Int32), (0 : Int32), (0 : Int32)] x0) x1).getD x2.toNatClampNeg 0)), (.int x2), (.ref b77), (.int ((own_inc (own_inc [(0 : Int32), (0 : Int32), (0 : Int32)] x0) x1).getD x2.toNatClampNeg 0)), (.int ([(0 : Int32), (own_blk ((own_cs x0 x1 x2 x3 x4).getD 0 0) zz0 (0 : Int32)), (own_blk ((own_cs x0 x1 x2 x3 x4).getD 1 0) zz1 (own_blk ((own_cs x0 x1 x2 x3 x4).getD 0 0) zz0 (0 : Int32)))].getD x2.toNatClampNeg 0)), (.int (2 : Int32)), (.ref b87)])) (fun t k => by
    jvm_step X127.here [X127.here.top, hx, (hb hby d2_143), Value.category]
    exact k) ?_
  show own_G p.tables e below _ (T127.setTop (mkF m 144 #[.val (.ref a1), .val (.ref a2), .val (.int (3 : Int32)), .val (.ref b1), .val (.ref b44), .val (.int (own_blk ((own_cs x0 x1 x2 x3 x4).getD 2 0) zz2 (own_blk ((own_cs x0 x1 x2 x3 x4).getD 1 0) zz1 (own_blk ((own_cs x0 x1 x2 x3 x4).getD 0 0) zz0 (0 : Int32))))), .val (.ref b77), .val (.ref b87), .val (.int (2 : Int32)), .val (.int x2)] [(.int ((own_inc (own_inc [(0 : Int32), (0 : Int32), (0 : Int32)] x0) x1).getD x2.toNatClampNeg 0)), (.int x2), (.ref b77), (.int ((own_inc (own_inc [(0 : Int32), (0 : Int32), (0 : Int32)] x0) x1).getD x2.toNatClampNeg 0)), (.int ([(0 : Int32), (own_blk ((own_cs x0 x1 x2 x3 x4).getD 0 0) zz0 (0 : Int32)), (own_blk ((own_cs x0 x1 x2 x3 x4).getD 1 0) zz1 (own_blk ((own_cs x0 x1 x2 x3 x4).getD 0 0) zz0 (0 : Int32)))].getD x2.toNatClampNeg 0)), (.int (2 : Int32)), (.ref b87)]))
  refine own_step (fun t k => XS.iconst X127.here hx rfl (hb hby d2_144) k) ?_
  show own_G p.tables e below _ (T127.setTop (mkF m 145 #[.val (.ref a1), .val (.ref a2), .val (.int (3 : Int32)), .val (.ref b1), .val (.ref b44), .val (.int (own_blk ((own_cs x0 x1 x2 x3 x4).getD 2 0) zz2 (own_blk ((own_cs x0 x1 x2 x3 x4).getD 1 0) zz1 (own_blk ((own_cs x0 x1 x2 x3 x4).getD 0 0) zz0 (0 : Int32))))), .val (.ref b77), .val (.ref b87), .val (.int (2 : Int32)), .val (.int x2)] [(.int (1 : Int32)), (.int ((own_inc (own_inc [(0 : Int32), (0 : Int32), (0 : Int32)] x0) x1).getD x2.toNatClampNeg 0)), (.int x2), (.ref b77), (.int ((own_inc (own_inc [(0 : Int32), (0 : Int32), (0 : Int32)] x0) x1).getD x2.toNatClampNeg 0)), (.int ([(0 : Int32), (own_blk ((own_cs x0 x1 x2 x3 x4).getD 0 0) zz0 (0 : Int32)), (own_blk ((own_cs x0 x1 x2 x3 x4).getD 1 0) zz1 (own_blk ((own_cs x0 x1 x2 x3 x4).getD 0 0) zz0 (0 : Int32)))].getD x2.toNatClampNeg 0)), (.int (2 : Int32)), (.ref b87)]))
  refine own_step (fun t k => XS.iadd X127.here hx rfl (hb hby d2_145) rfl k) ?_
  show own_G p.tables e below _ (T127.setTop (mkF m 146 #[.val (.ref a1), .val (.ref a2), .val (.int (3 : Int32)), .val (.ref b1), .val (.ref b44), .val (.int (own_blk ((own_cs x0 x1 x2 x3 x4).getD 2 0) zz2 (own_blk ((own_cs x0 x1 x2 x3 x4).getD 1 0) zz1 (own_blk ((own_cs x0 x1 x2 x3 x4).getD 0 0) zz0 (0 : Int32))))), .val (.ref b77), .val (.ref b87), .val (.int (2 : Int32)), .val (.int x2)] [(.int (((own_inc (own_inc [(0 : Int32), (0 : Int32), (0 : Int32)] x0) x1).getD x2.toNatClampNeg 0) + (1 : Int32))), (.int x2), (.ref b77), (.int ((own_inc (own_inc [(0 : Int32), (0 : Int32), (0 : Int32)] x0) x1).getD x2.toNatClampNeg 0)), (.int ([(0 : Int32), (own_blk ((own_cs x0 x1 x2 x3 x4).getD 0 0) zz0 (0 : Int32)), (own_blk ((own_cs x0 x1 x2 x3 x4).getD 1 0) zz1 (own_blk ((own_cs x0 x1 x2 x3 x4).getD 0 0) zz0 (0 : Int32)))].getD x2.toNatClampNeg 0)), (.int (2 : Int32)), (.ref b87)]))
  obtain ⟨T136, h136, X136, e136, W136, c136, st136⟩ := own_iastore X127 hx hZ e127 c133 (own_i3 hx2 (by first | rfl | (simp only [own_inc_len]; rfl) | exact own_cs_len _ _ _ _ _)) (g := (mkF m 146 #[.val (.ref a1), .val (.ref a2), .val (.int (3 : Int32)), .val (.ref b1), .val (.ref b44), .val (.int (own_blk ((own_cs x0 x1 x2 x3 x4).getD 2 0) zz2 (own_blk ((own_cs x0 x1 x2 x3 x4).getD 1 0) zz1 (own_blk ((own_cs x0 x1 x2 x3 x4).getD 0 0) zz0 (0 : Int32))))), .val (.ref b77), .val (.ref b87), .val (.int (2 : Int32)), .val (.int x2)] [(.int (((own_inc (own_inc [(0 : Int32), (0 : Int32), (0 : Int32)] x0) x1).getD x2.toNatClampNeg 0) + (1 : Int32))), (.int x2), (.ref b77), (.int ((own_inc (own_inc [(0 : Int32), (0 : Int32), (0 : Int32)] x0) x1).getD x2.toNatClampNeg 0)), (.int ([(0 : Int32), (own_blk ((own_cs x0 x1 x2 x3 x4).getD 0 0) zz0 (0 : Int32)), (own_blk ((own_cs x0 x1 x2 x3 x4).getD 1 0) zz1 (own_blk ((own_cs x0 x1 x2 x3 x4).getD 0 0) zz0 (0 : Int32)))].getD x2.toNatClampNeg 0)), (.int (2 : Int32)), (.ref b87)])) rfl rfl (hb hby d2_146)
  have N136 := Fr.snoc X136 N127 ge77
  have c137 : own_Ari Z h136 b77 .int ((own_inc (own_inc [(0 : Int32), (0 : Int32), (0 : Int32)] x0) x1).set x2.toNatClampNeg (((own_inc (own_inc [(0 : Int32), (0 : Int32), (0 : Int32)] x0) x1).getD x2.toNatClampNeg 0) + (1 : Int32))) := c136
  have c138 : own_Ari Z h136 a1 .int [x0, x1, x2, x3, x4] := c129.other W136 ne78
  have c139 : own_Ari Z h136 a2 .int [zz0, zz1, zz2] := c130.other W136 ne79
  have c140 : own_Ari Z h136 b1 .int (own_cs x0 x1 x2 x3 x4) := c131.other W136 ne80
  have c141 : own_Ari Z h136 b44 .int [(0 : Int32), (own_blk ((own_cs x0 x1 x2 x3 x4).getD 0 0) zz0 (0 : Int32)), (own_blk ((own_cs x0 x1 x2 x3 x4).getD 1 0) zz1 (own_blk ((own_cs x0 x1 x2 x3 x4).getD 0 0) zz0 (0 : Int32)))] := c132.other W136 ne81
  have c143 : own_Ari Z h136 b87 .int [(([(0 : Int32), (own_blk ((own_cs x0 x1 x2 x3 x4).getD 0 0) zz0 (0 : Int32)), (own_blk ((own_cs x0 x1 x2 x3 x4).getD 1 0) zz1 (own_blk ((own_cs x0 x1 x2 x3 x4).getD 0 0) zz0 (0 : Int32)))].getD x0.toNatClampNeg 0) + (([(0 : Int32), (0 : Int32), (0 : Int32)].getD x0.toNatClampNeg 0) / ([zz0, zz1, zz2].getD x0.toNatClampNeg 0))), (([(0 : Int32), (own_blk ((own_cs x0 x1 x2 x3 x4).getD 0 0) zz0 (0 : Int32)), (own_blk ((own_cs x0 x1 x2 x3 x4).getD 1 0) zz1 (own_blk ((own_cs x0 x1 x2 x3 x4).getD 0 0) zz0 (0 : Int32)))].getD x1.toNatClampNeg 0) + (((own_inc [(0 : Int32), (0 : Int32), (0 : Int32)] x0).getD x1.toNatClampNeg 0) / ([zz0, zz1, zz2].getD x1.toNatClampNeg 0))), (0 : Int32), (0 : Int32), (0 : Int32)] := c128.other W136 (Ne.symm ne92)
  have K136 : Keep h0 h136 [] := K127.wr W136 (Or.inr sz77)
  refine own_step st136 ?_
  clear K127 N127 W136 X127 c128 c129 c130 c131 c132 c133 c136 e127 hk135 st136
  show own_G p.tables e below _ (T136.setTop (mkF m 147 #[.val (.ref a1), .val (.ref a2), .val (.int (3 : Int32)), .val (.ref b1), .val (.ref b44), .val (.int (own_blk ((own_cs x0 x1 x2 x3 x4).getD 2 0) zz2 (own_blk ((own_cs x0 x1 x2 x3 x4).getD 1 0) zz1 (own_blk ((own_cs x0 x1 x2 x3 x4).getD 0 0) zz0 (0 : Int32))))), .val (.ref b77), .val (.ref b87), .val (.int (2 : Int32)), .val (.int x2)] [(.int ((own_inc (own_inc [(0 : Int32), (0 : Int32), (0 : Int32)] x0) x1).getD x2.toNatClampNeg 0)), (.int ([(0 : Int32), (own_blk ((own_cs x0 x1 x2 x3 x4).getD 0 0) zz0 (0 : Int32)), (own_blk ((own_cs x0 x1 x2 x3 x4).getD 1 0) zz1 (own_blk ((own_cs x0 x1 x2 x3 x4).getD 0 0) zz0 (0 : Int32)))].getD x2.toNatClampNeg 0)), (.int (2 : Int32)), (.ref b87)]))
  have c144 : own_Ari Z h136 b77 .int (own_inc (own_inc (own_inc [(0 : Int32), (0 : Int32), (0 : Int32)] x0) x1) x2) := c137
  refine own_step (fun t k => XS.aloadN X136.here hx rfl (hb hby d2_147) rfl rfl k) ?_
  show own_G p.tables e below _ (T136.setTop (mkF m 148 #[.val (.ref a1), .val (.ref a2), .val (.int (3 : Int32)), .val (.ref b1), .val (.ref b44), .val (.int (own_blk ((own_cs x0 x1 x2 x3 x4).getD 2 0) zz2 (own_blk ((own_cs x0 x1 x2 x3 x4).getD 1 0) zz1 (own_blk ((own_cs x0 x1 x2 x3 x4).getD 0 0) zz0 (0 : Int32))))), .val (.ref b77), .val (.ref b87), .val (.int (2 : Int32)), .val (.int x2)] [(.ref a2), (.int ((own_inc (own_inc [(0 : Int32), (0 : Int32), (0 : Int32)] x0) x1).getD x2.toNatClampNeg 0)), (.int ([(0 : Int32), (own_blk ((own_cs x0 x1 x2 x3 x4).getD 0 0) zz0 (0 : Int32)), (own_blk ((own_cs x0 x1 x2 x3 x4).getD 1 0) zz1 (own_blk ((own_cs x0 x1 x2 x3 x4).getD 0 0) zz0 (0 : Int32)))].getD x2.toNatClampNeg 0)), (.int (2 : Int32)), (.ref b87)]))
  refine own_step (fun t k => XS.iload X136.here hx rfl (hb hby d2_148) rfl k) ?_
  show own_G p.tables e below _ (T136.setTop (mkF m 150 #[.val (.ref a1), .val (.ref a2), .val (.int (3 : Int32)), .val (.ref b1), .val (.ref b44), .val (.int (own_blk ((own_cs x0 x1 x2 x3 x4).getD 2 0) zz2 (own_blk ((own_cs x0 x1 x2 x3 x4).getD 1 0) zz1 (own_blk ((own_cs x0 x1 x2 x3 x4).getD 0 0) zz0 (0 : Int32))))), .val (.ref b77), .val (.ref b87), .val (.int (2 : Int32)), .val (.int x2)] [(.int x2), (.ref a2), (.int ((own_inc (own_inc [(0 : Int32), (0 : Int32), (0 : Int32)] x0) x1).getD x2.toNatClampNeg 0)), (.int ([(0 : Int32), (own_blk ((own_cs x0 x1 x2 x3 x4).getD 0 0) zz0 (0 : Int32)), (own_blk ((own_cs x0 x1 x2 x3 x4).getD 1 0) zz1 (own_blk ((own_cs x0 x1 x2 x3 x4).getD 0 0) zz0 (0 : Int32)))].getD x2.toNatClampNeg 0)), (.int (2 : Int32)), (.ref b87)]))
  refine own_step (own_iaload X136 hx hZ e136 c139 (own_i3 hx2 (by first | rfl | (simp only [own_inc_len]; rfl) | exact own_cs_len _ _ _ _ _)) (g := (mkF m 150 #[.val (.ref a1), .val (.ref a2), .val (.int (3 : Int32)), .val (.ref b1), .val (.ref b44), .val (.int (own_blk ((own_cs x0 x1 x2 x3 x4).getD 2 0) zz2 (own_blk ((own_cs x0 x1 x2 x3 x4).getD 1 0) zz1 (own_blk ((own_cs x0 x1 x2 x3 x4).getD 0 0) zz0 (0 : Int32))))), .val (.ref b77), .val (.ref b87), .val (.int (2 : Int32)), .val (.int x2)] [(.int x2), (.ref a2), (.int ((own_inc (own_inc [(0 : Int32), (0 : Int32), (0 : Int32)] x0) x1).getD x2.toNatClampNeg 0)), (.int ([(0 : Int32), (own_blk ((own_cs x0 x1 x2 x3 x4).getD 0 0) zz0 (0 : Int32)), (own_blk ((own_cs x0 x1 x2 x3 x4).getD 1 0) zz1 (own_blk ((own_cs x0 x1 x2 x3 x4).getD 0 0) zz0 (0 : Int32)))].getD x2.toNatClampNeg 0)), (.int (2 : Int32)), (.ref b87)])) rfl rfl (hb hby d2_150)) ?_
  show own_G p.tables e below _ (T136.setTop (mkF m 151 #[.val (.ref a1), .val (.ref a2), .val (.int (3 : Int32)), .val (.ref b1), .val (.ref b44), .val (.int (own_blk ((own_cs x0 x1 x2 x3 x4).getD 2 0) zz2 (own_blk ((own_cs x0 x1 x2 x3 x4).getD 1 0) zz1 (own_blk ((own_cs x0 x1 x2 x3 x4).getD 0 0) zz0 (0 : Int32))))), .val (.ref b77), .val (.ref b87), .val (.int (2 : Int32)), .val (.int x2)] [(.int ([zz0, zz1, zz2].getD x2.toNatClampNeg 0)), (.int ((own_inc (own_inc [(0 : Int32), (0 : Int32), (0 : Int32)] x0) x1).getD x2.toNatClampNeg 0)), (.int ([(0 : Int32), (own_blk ((own_cs x0 x1 x2 x3 x4).getD 0 0) zz0 (0 : Int32)), (own_blk ((own_cs x0 x1 x2 x3 x4).getD 1 0) zz1 (own_blk ((own_cs x0 x1 x2 x3 x4).getD 0 0) zz0 (0 : Int32)))].getD x2.toNatClampNeg 0)), (.int (2 : Int32)), (.ref b87)]))
  refine own_step (fun t k => XS.idiv X136.here hx rfl (hb hby d2_151) rfl (own_nz3 hx2 hz0 hz1 hz2) k) ?_
  show own_G p.tables e below _ (T136.setTop (mkF m 152 #[.val (.ref a1), .val (.ref a2), .val (.int (3 : Int32)), .val (.ref b1), .val (.ref b44), .val (.int (own_blk ((own_cs x0 x1 x2 x3 x4).getD 2 0) zz2 (own_blk ((own_cs x0 x1 x2 x3 x4).getD 1 0) zz1 (own_blk ((own_cs x0 x1 x2 x3 x4).getD 0 0) zz0 (0 : Int32))))), .val (.ref b77), .val (.ref b87), .val (.int (2 : Int32)), .val (.int x2)] [(.int (((own_inc (own_inc [(0 : Int32), (0 : Int32), (0 : Int32)] x0) x1).getD x2.toNatClampNeg 0) / ([zz0, zz1, zz2].getD x2.toNatClampNeg 0))), (.int ([(0 : Int32), (own_blk ((own_cs x0 x1 x2 x3 x4).getD 0 0) zz0 (0 : Int32)), (own_blk ((own_cs x0 x1 x2 x3 x4).getD 1 0) zz1 (own_blk ((own_cs x0 x1 x2 x3 x4).getD 0 0) zz0 (0 : Int32)))].getD x2.toNatClampNeg 0)), (.int (2 : Int32)), (.ref b87)]))
  refine own_step (fun t k => XS.iadd X136.here hx rfl (hb hby d2_152) rfl k) ?_
  show own_G p.tables e below _ (T136.setTop (mkF m 153 #[.val (.ref a1), .val (.ref a2), .val (.int (3 : Int32)), .val (.ref b1), .val (.ref b44), .val (.int (own_blk ((own_cs x0 x1 x2 x3 x4).getD 2 0) zz2 (own_blk ((own_cs x0 x1 x2 x3 x4).getD 1 0) zz1 (own_blk ((own_cs x0 x1 x2 x3 x4).getD 0 0) zz0 (0 : Int32))))), .val (.ref b77), .val (.ref b87), .val (.int (2 : Int32)), .val (.int x2)] [(.int (([(0 : Int32), (own_blk ((own_cs x0 x1 x2 x3 x4).getD 0 0) zz0 (0 : Int32)), (own_blk ((own_cs x0 x1 x2 x3 x4).getD 1 0) zz1 (own_blk ((own_cs x0 x1 x2 x3 x4).getD 0 0) zz0 (0 : Int32)))].getD x2.toNatClampNeg 0) + (((own_inc (own_inc [(0 : Int32), (0 : Int32), (0 : Int32)] x0) x1).getD x2.toNatClampNeg 0) / ([zz0, zz1, zz2].getD x2.toNatClampNeg 0)))), (.int (2 : Int32)), (.ref b87)]))
  obtain ⟨T145, h145, X145, e145, W145, c145, st145⟩ := own_iastore X136 hx hZ e136 c143 (own_inb (by decide) (Nat.le_of_ble_eq_true rfl)) (g := (mkF m 153 #[.val (.ref a1), .val (.ref a2), .val (.int (3 : Int32)), .val (.ref b1), .val (.ref b44), .val (.int (own_blk ((own_cs x0 x1 x2 x3 x4).getD 2 0) zz2 (own_blk ((own_cs x0 x1 x2 x3 x4).getD 1 0) zz1 (own_blk ((own_cs x0 x1 x2 x3 x4).getD 0 0) zz0 (0 : Int32))))), .val (.ref b77), .val (.ref b87), .val (.int (2 : Int32)), .val (.int x2)] [(.int (([(0 : Int32), (own_blk ((own_cs x0 x1 x2 x3 x4).getD 0 0) zz0 (0 : Int32)), (own_blk ((own_cs x0 x1 x2 x3 x4).getD 1 0) zz1 (own_blk ((own_cs x0 x1 x2 x3 x4).getD 0 0) zz0 (0 : Int32)))].getD x2.toNatClampNeg 0) + (((own_inc (own_inc [(0 : Int32), (0 : Int32), (0 : Int32)] x0) x1).getD x2.toNatClampNeg 0) / ([zz0, zz1, zz2].getD x2.toNatClampNeg 0)))), (.int (2 : Int32)), (.ref b87)])) rfl rfl (hb hby d2_153)
  have N145 := Fr.snoc X145 N136 ge87
  have c146 : own_Ari Z h145 b87 .int [(([(0 : Int32), (own_blk ((own_cs x0 x1 x2 x3 x4).getD 0 0) zz0 (0 : Int32)), (own_blk ((own_cs x0 x1 x2 x3 x4).getD 1 0) zz1 (own_blk ((own_cs x0 x1 x2 x3 x4).getD 0 0) zz0 (0 : Int32)))].getD x0.toNatClampNeg 0) + (([(0 : Int32), (0 : Int32), (0 : Int32)].getD x0.toNatClampNeg 0) / ([zz0, zz1, zz2].getD x0.toNatClampNeg 0))), (([(0 : Int32), (own_blk ((own_cs x0 x1 x2 x3 x4).getD 0 0) zz0 (0 : Int32)), (own_blk ((own_cs x0 x1 x2 x3 x4).getD 1 0) zz1 (own_blk ((own_cs x0 x1 x2 x3 x4).getD 0 0) zz0 (0 : Int32)))].getD x1.toNatClampNeg 0) + (((own_inc [(0 : Int32), (0 : Int32), (0 : Int32)] x0).getD x1.toNatClampNeg 0) / ([zz0, zz1, zz2].getD x1.toNatClampNeg 0))), (([(0 : Int32), (own_blk ((own_cs x0 x1 x2 x3 x4).getD 0 0) zz0 (0 : Int32)), (own_blk ((own_cs x0 x1 x2 x3 x4).getD 1 0) zz1 (own_blk ((own_cs x0 x1 x2 x3 x4).getD 0 0) zz0 (0 : Int32)))].getD x2.toNatClampNeg 0) + (((own_inc (own_inc [(0 : Int32), (0 : Int32), (0 : Int32)] x0) x1).getD x2.toNatClampNeg 0) / ([zz0, zz1, zz2].getD x2.toNatClampNeg 0))), (0 : Int32), (0 : Int32)] := c145
  have c147 : own_Ari Z h145 a1 .int [x0, x1, x2, x3, x4] := c138.other W145 ne88
  have c148 : own_Ari Z h145 a2 .int [zz0, zz1, zz2] := c139.other W145 ne89
  have c149 : own_Ari Z h145 b1 .int (own_cs x0 x1 x2 x3 x4) := c140.other W145 ne90
  have c150 : own_Ari Z h145 b44 .int [(0 : Int32), (own_blk ((own_cs x0 x1 x2 x3 x4).getD 0 0) zz0 (0 : Int32)), (own_blk ((own_cs x0 x1 x2 x3 x4).getD 1 0) zz1 (own_blk ((own_cs x0 x1 x2 x3 x4).getD 0 0) zz0 (0 : Int32)))] := c141.other W145 ne91
  have c151 : own_Ari Z h145 b77 .int (own_inc (own_inc (own_inc [(0 : Int32), (0 : Int32), (0 : Int32)] x0) x1) x2) := c144.other W145 ne92
  have K145 : Keep h0 h145 [] := K136.wr W145 (Or.inr sz87)
  refine own_step st145 ?_
  clear K136 N136 W145 X136 c137 c138 c139 c140 c141 c143 c144 c145 e136 st145
  show own_G p.tables e below _ (T145.setTop (mkF m 154 #[.val (.ref a1), .val (.ref a2), .val (.int (3 : Int32)), .val (.ref b1), .val (.ref b44), .val (.int (own_blk ((own_cs x0 x1 x2 x3 x4).getD 2 0) zz2 (own_blk ((own_cs x0 x1 x2 x3 x4).getD 1 0) zz1 (own_blk ((own_cs x0 x1 x2 x3 x4).getD 0 0) zz0 (0 : Int32))))), .val (.ref b77), .val (.ref b87), .val (.int (2 : Int32)), .val (.int x2)] []))
  refine own_step (fun t k => XS.iinc X145.here hx rfl (hb hby d2_154) rfl (l' := #[.val (.ref a1), .val (.ref a2), .val (.int (3 : Int32)), .val (.ref b1), .val (.ref b44), .val (.int (own_blk ((own_cs x0 x1 x2 x3 x4).getD 2 0) zz2 (own_blk ((own_cs x0 x1 x2 x3 x4).getD 1 0) zz1 (own_blk ((own_cs x0 x1 x2 x3 x4).getD 0 0) zz0 (0 : Int32))))), .val (.ref b77), .val (.ref b87), .val (.int (3 : Int32)), .val (.int x2)]) rfl k) ?_
  show own_G p.tables e below _ (T145.setTop (mkF m 157 #[.val (.ref a1), .val (.ref a2), .val (.int (3 : Int32)), .val (.ref b1), .val (.ref b44), .val (.int (own_blk ((own_cs x0 x1 x2 x3 x4).getD 2 0) zz2 (own_blk ((own_cs x0 x1 x2 x3 x4).getD 1 0) zz1 (own_blk ((own_cs x0 x1 x2 x3 x4).getD 0 0) zz0 (0 : Int32))))), .val (.ref b77), .val (.ref b87), .val (.int (3 : Int32)), .val (.int x2)] []))
  refine own_step (fun t k => XS.goto X145.here hx rfl (pc0 := 157) (pc' := 115) rfl (hb hby d2_157) (by decide) (by decide) k) ?_
  show own_G p.tables e below _ (T145.setTop (mkF m 115 #[.val (.ref a1), .val (.ref a2), .val (.int (3 : Int32)), .val (.ref b1), .val (.ref b44), .val (.int (own_blk ((own_cs x0 x1 x2 x3 x4).getD 2 0) zz2 (own_blk ((own_cs x0 x1 x2 x3 x4).getD 1 0) zz1 (own_blk ((own_cs x0 x1 x2 x3 x4).getD 0 0) zz0 (0 : Int32))))), .val (.ref b77), .val (.ref b87), .val (.int (3 : Int32)), .val (.int x2)] []))
  refine own_step (fun t k => XS.iload X145.here hx rfl (hb hby d2_115) rfl k) ?_
  show own_G p.tables e below _ (T145.setTop (mkF m 117 #[.val (.ref a1), .val (.ref a2), .val (.int (3 : Int32)), .val (.ref b1), .val (.ref b44), .val (.int (own_blk ((own_cs x0 x1 x2 x3 x4).getD 2 0) zz2 (own_blk ((own_cs x0 x1 x2 x3 x4).getD 1 0) zz1 (own_blk ((own_cs x0 x1 x2 x3 x4).getD 0 0) zz0 (0 : Int32))))), .val (.ref b77), .val (.ref b87), .val (.int (3 : Int32)), .val (.int x2)] [(.int (3 : Int32))]))
  refine own_step (fun t k => XS.aloadN X145.here hx rfl (hb hby d2_117) rfl rfl k) ?_
  show own_G p.tables e below _ (T145.setTop (mkF m 118 #[.val (.ref a1), .val (.ref a2), .val (.int (3 : Int32)), .val (.ref b1), .val (.ref b44), .val (.int (own_blk ((own_cs x0 x1 x2 x3 x4).getD 2 0) zz2 (own_blk ((own_cs x0 x1 x2 x3 x4).getD 1 0) zz1 (own_blk ((own_cs x0 x1 x2 x3 x4).getD 0 0) zz0 (0 : Int32))))), .val (.ref b77), .val (.ref b87), .val (.int (3 : Int32)), .val (.int x2)] [(.ref a1), (.int (3 : Int32))]))
  refine own_step (own_lenI X145 hx hZ e145 c147 (g := (mkF m 118 #[.val (.ref a1), .val (.ref a2), .val (.int (3 : Int32)), .val (.ref b1), .val (.ref b44), .val (.int (own_blk ((own_cs x0 x1 x2 x3 x4).getD 2 0) zz2 (own_blk ((own_cs x0 x1 x2 x3 x4).getD 1 0) zz1 (own_blk ((own_cs x0 x1 x2 x3 x4).getD 0 0) zz0 (0 : Int32))))), .val (.ref b77), .val (.ref b87), .val (.int (3 : Int32)), .val (.int x2)] [(.ref a1), (.int (3 : Int32))])) rfl rfl (hb hby d2_118)) ?_
  show own_G p.tables e below _ (T145.setTop (mkF m 119 #[.val (.ref a1), .val (.ref a2), .val (.int (3 : Int32)), .val (.ref b1), .val (.ref b44), .val (.int (own_blk ((own_cs x0 x1 x2 x3 x4).getD 2 0) zz2 (own_blk ((own_cs x0 x1 x2 x3 x4).getD 1 0) zz1 (own_blk ((own_cs x0 x1 x2 x3 x4).getD 0 0) zz0 (0 : Int32))))), .val (.ref b77), .val (.ref b87), .val (.int (3 : Int32)), .val (.int x2)] [(.int (5 : Int32)), (.int (3 : Int32))]))
  have hk153 : (3 : Int32) < (5 : Int32) := (by decide)
  refine own_step (fun t k => XS.icmpNo X145.here hx rfl (hb hby d2_119) rfl ((tlt hk153).2.1) k) ?_
  show own_G p.tables e below _ (T145.setTop (mkF m 122 #[.val (.ref a1), .val (.ref a2), .val (.int (3 : Int32)), .val (.ref b1), .val (.ref b44), .val (.int (own_blk ((own_cs x0 x1 x2 x3 x4).getD 2 0) zz2 (own_blk ((own_cs x0 x1 x2 x3 x4).getD 1 0) zz1 (own_blk ((own_cs x0 x1 x2 x3 x4).getD 0 0) zz0 (0 : Int32))))), .val (.ref b77), .val (.ref b87), .val (.int (3 : Int32)), .val (.int x2)] []))
  refine own_step (fun t k => XS.aloadN X145.here hx rfl (hb hby d2_122) rfl rfl k) ?_
  show own_G p.tables e below _ (T145.setTop (mkF m 123 #[.val (.ref a1), .val (.ref a2), .val (.int (3 : Int32)), .val (.ref b1), .val (.ref b44), .val (.int (own_blk ((own_cs x0 x1 x2 x3 x4).getD 2 0) zz2 (own_blk ((own_cs x0 x1 x2 x3 x4).getD 1 0) zz1 (own_blk ((own_cs x0 x1 x2 x3 x4).getD 0 0) zz0 (0 : Int32))))), .val (.ref b77), .val (.ref b87), .val (.int (3 : Int32)), .val (.int x2)] [(.ref a1)]))
  refine own_step (fun t k => XS.iload X145.here hx rfl (hb hby d2_123) rfl k) ?_
  show own_G p.tables e below _ (T145.setTop (mkF m 125 #[.val (.ref a1), .val (.ref a2), .val (.int (3 : Int32)), .val (.ref b1), .val (.ref b44), .val (.int (own_blk ((own_cs x0 x1 x2 x3 x4).getD 2 0) zz2 (own_blk ((own_cs x0 x1 x2 x3 x4).getD 1 0) zz1 (own_blk ((own_cs x0 x1 x2 x3 x4).getD 0 0) zz0 (0 : Int32))))), .val (.ref b77), .val (.ref b87), .val (.int (3 : Int32)), .val (.int x2)] [(.int (3 : Int32)), (.ref a1)]))
  refine own_step (own_iaload X145 hx hZ e145 c147 (own_inb (by decide) (Nat.le_of_ble_eq_true rfl)) (g := (mkF m 125 #[.val (.ref a1), .val (.ref a2), .val (.int (3 : Int32)), .val (.ref b1), .val (.ref b44), .val (.int (own_blk ((own_cs x0 x1 x2 x3 x4).getD 2 0) zz2 (own_blk ((own_cs x0 x1 x2 x3 x4).getD 1 0) zz1 (own_blk ((own_cs x0 x1 x2 x3 x4).getD 0 0) zz0 (0 : Int32))))), .val (.ref b77), .val (.ref b87), .val (.int (3 : Int32)), .val (.int x2)] [(.int (3 : Int32)), (.ref a1)])) rfl rfl (hb hby d2_125)) ?_
  show own_G p.tables e below _ (T145.setTop (mkF m 126 #[.val (.ref a1), .val (.ref a2), .val (.int (3 : Int32)), .val (.ref b1), .val (.ref b44), .val (.int (own_blk ((own_cs x0 x1 x2 x3 x4).getD 2 0) zz2 (own_blk ((own_cs x0 x1 x2 x3 x4).getD 1 0) zz1 (own_blk ((own_cs x0 x1 x2 x3 x4).getD 0 0) zz0 (0 : Int32))))), .val (.ref b77), .val (.ref b87), .val (.int (3 : Int32)), .val (.int x2)] [(.int x3)]))
  refine own_step (fun t k => XS.istore X145.here hx rfl (hb hby d2_126) rfl (l' := #[.val (.ref a1), .val (.ref a2), .val (.int (3 : Int32)), .val (.ref b1), .val (.ref b44), .val (.int (own_blk ((own_cs x0 x1 x2 x3 x4).getD 2 0) zz2 (own_blk ((own_cs x0 x1 x2 x3 x4).getD 1 0) zz1 (own_blk ((own_cs x0 x1 x2 x3 x4).getD 0 0) zz0 (0 : Int32))))), .val (.ref b77), .val (.ref b87), .val (.int (3 : Int32)), .val (.int x3)]) rfl k) ?_
  show own_G p.tables e below _ (T145.setTop (mkF m 128 #[.val (.ref a1), .val (.ref a2), .val (.int (3 : Int32)), .val (.ref b1), .val (.ref b44), .val (.int (own_blk ((own_cs x0 x1 x2 x3 x4).getD 2 0) zz2 (own_blk ((own_cs x0 x1 x2 x3 x4).getD 1 0) zz1 (own_blk ((own_cs x0 x1 x2 x3 x4).getD 0 0) zz0 (0 : Int32))))), .val (.ref b77), .val (.ref b87), .val (.int (3 : Int32)), .val (.int x3)] []))
  refine own_step (fun t k => XS.aload X145.here hx rfl (hb hby d2_128) rfl rfl k) ?_
  show own_G p.tables e below _ (T145.setTop (mkF m 130 #[.val (.ref a1), .val (.ref a2), .val (.int (3 : Int32)), .val (.ref b1), .val (.ref b44), .val (.int (own_blk ((own_cs x0 x1 x2 x3 x4).getD 2 0) zz2 (own_blk ((own_cs x0 x1 x2 x3 x4).getD 1 0) zz1 (own_blk ((own_cs x0 x1 x2 x3 x4).getD 0 0) zz0 (0 : Int32))))), .val (.ref b77), .val (.ref b87), .val (.int (3 : Int32)), .val (.int x3)] [(.ref b87)]))
  refine own_step (fun t k => XS.iload X145.here hx rfl (hb hby d2_130) rfl k) ?_
  show own_G p.tables e below _ (T145.setTop (mkF m 132 #[.val (.ref a1), .val (.ref a2), .val (.int (3 : Int32)), .val (.ref b1), .val (.ref b44), .val (.int (own_blk ((own_cs x0 x1 x2 x3 x4).getD 2 0) zz2 (own_blk ((own_cs x0 x1 x2 x3 x4).getD 1 0) zz1 (own_blk ((own_cs x0 x1 x2 x3 x4).getD 0 0) zz0 (0 : Int32))))), .val (.ref b77), .val (.ref b87), .val (.int (3 : Int32)), .val (.int x3)] [(.int (3 : Int32)), (.ref b87)]))
  refine own_step (fun t k => XS.aload X145.here hx rfl (hb hby d2_132) rfl rfl k) ?_
  show own_G p.tables e below _ (T145.setTop (mkF m 134 #[.val (.ref a1), .val (.ref a2), .val (.int (3 : Int32)), .val (.ref b1), .val (.ref b44), .val (.int (own_blk ((own_cs x0 x1 x2 x3 x4).getD 2 0) zz2 (own_blk ((own_cs x0 x1 x2 x3 x4).getD 1 0) zz1 (own_blk ((own_cs x0 x1 x2 x3 x4).getD 0 0) zz0 (0 : Int32))))), .val (.ref b77), .val (.ref b87), .val (.int (3 : Int32)), .val (.int x3)] [(.ref b44), (.int (3 : Int32)), (.ref b87)]))
  refine own_step (fun t k => XS.iload X145.here hx rfl (hb hby d2_134) rfl k) ?_
  show own_G p.tables e below _ (T145.setTop (mkF m 136 #[.val (.ref a1), .val (.ref a2), .val (.int (3 : Int32)), .val (.ref b1), .val (.ref b44), .val (.int (own_blk ((own_cs x0 x1 x2 x3 x4).getD 2 0) zz2 (own_blk ((own_cs x0 x1 x2 x3 x4).getD 1 0) zz1 (own_blk ((own_cs x0 x1 x2 x3 x4).getD 0 0) zz0 (0 : Int32))))), .val (.ref b77), .val (.ref b87), .val (.int (3 : Int32)), .val (.int x3)] [(.int x3), (.ref b44), (.int (3 : Int32)), (.ref b87)]))
  refine own_step (own_iaload X145 hx hZ e145 c150 (own_i3 hx3 (by first | rfl | (simp only [own_inc_len]; rfl) | exact own_cs_len _ _ _ _ _)) (g := (mkF m 136 #[.val (.ref a1), .val (.ref a2), .val (.int (3 : Int32)), .val (.ref b1), .val (.ref b44), .val (.int (own_blk ((own_cs x0 x1 x2 x3 x4).getD 2 0) zz2 (own_blk ((own_cs x0 x1 x2 x3 x4).getD 1 0) zz1 (own_blk ((own_cs x0 x1 x2 x3 x4).getD 0 0) zz0 (0 : Int32))))), .val (.ref b77), .val (.ref b87), .val (.int (3 : Int32)), .val (.int x3)] [(.int x3), (.ref b44), (.int (3 : Int32)), (.ref b87)])) rfl rfl (hb hby d2_136)) ?_
  show own_G p.tables e below _ (T145.setTop (mkF m 137 #[.val (.ref a1), .val (.ref a2), .val (.int (3 : Int32)), .val (.ref b1), .val (.ref b44), .val (.int (own_blk ((own_cs x0 x1 x2 x3 x4).getD 2 0) zz2 (own_blk ((own_cs x0 x1 x2 x3 x4).getD 1 0) zz1 (own_blk ((own_cs x0 x1 x2 x3 x4).getD 0 0) zz0 (0 : Int32))))), .val (.ref b77), .val (.ref b87), .val (.int (3 : Int32)), .val (.int x3)] [(.int ([(0 : Int32), (own_blk ((own_cs x0 x1 x2 x3 x4).getD 0 0) zz0 (0 : Int32)), (own_blk ((own_cs x0 x1 x2 x3 x4).getD 1 0) zz1 (own_blk ((own_cs x0 x1 x2 x3 x4).getD 0 0) zz0 (0 : Int32)))].getD x3.toNatClampNeg 0)), (.int (3 : Int32)), (.ref b87)]))
  refine own_step (fun t k => XS.aload X145.here hx rfl (hb hby d2_137) rfl rfl k) ?_
  show own_G p.tables e below _ (T145.setTop (mkF m 139 #[.val (.ref a1), .val (.ref a2), .val (.int (3 : Int32)), .val (.ref b1), .val (.ref b44), .val (.int (own_blk ((own_cs x0 x1 x2 x3 x4).getD 2 0) zz2 (own_blk ((own_cs x0 x1 x2 x3 x4).getD 1 0) zz1 (own_blk ((own_cs x0 x1 x2 x3 x4).getD 0 0) zz0 (0 : Int32))))), .val (.ref b77), .val (.ref b87), .val (.int (3 : Int32)), .val (.int x3)] [(.ref b77), (.int ([(0 : Int32), (own_blk ((own_cs x0 x1 x2 x3 x4).getD 0 0) zz0 (0 : Int32)), (own_blk ((own_cs x0 x1 x2 x3 x4).getD 1 0) zz1 (own_blk ((own_cs x0 x1 x2 x3 x4).getD 0 0) zz0 (0 : Int32)))].getD x3.toNatClampNeg 0)), (.int (3 : Int32)), (.ref b87)]))
  refine own_step (fun t k => XS.iload X145.here hx rfl (hb hby d2_139) rfl k) ?_
  show own_G p.tables e below _ (T145.setTop (mkF m 141 #[.val (.ref a1), .val (.ref a2), .val (.int (3 : Int32)), .val (.ref b1), .val (.ref b44), .val (.int (own_blk ((own_cs x0 x1 x2 x3 x4).getD 2 0) zz2 (own_blk ((own_cs x0 x1 x2 x3 x4).getD 1 0) zz1 (own_blk ((own_cs x0 x1 x2 x3 x4).getD 0 0) zz0 (0 : Int32))))), .val (.ref b77), .val (.ref b87), .val (.int (3 : Int32)), .val (.int x3)] [(.int x3), (.ref b77), (.int ([(0 : Int32), (own_blk ((own_cs x0 x1 x2 x3 x4).getD 0 0) zz0 (0 : Int32)), (own_blk ((own_cs x0 x1 x2 x3 x4).getD 1 0) zz1 (own_blk ((own_cs x0 x1 x2 x3 x4).getD 0 0) zz0 (0 : Int32)))].getD x3.toNatClampNeg 0)), (.int (3 : Int32)), (.ref b87)]))
  refine own_step (B := T145.setTop (mkF m 142 #[.val (.ref a1), .val (.ref a2), .val (.int (3 : Int32)), .val (.ref b1), .val (.ref b44), .val (.int (own_blk ((own_cs x0 x1 x2 x3 x4).getD 2 0) zz2 (own_blk ((own_cs x0 x1 x2 x3 x4).getD 1 0) zz1 (own_blk ((own_cs x0 x1 x2 x3 x4).getD 0 0) zz0 (0 : Int32))))), .val (.ref b77), .val (.ref b87), .val (.int (3 : Int32)), .val (.int x3)] [(.int x3), (.ref b77), (.int x3), (.ref b77), (.int ([(0 : Int32), (own_blk ((own_cs x0 x1 x2 x3 x4).getD 0 0) zz0 (0 : Int32)), (own_blk ((own_cs x0 x1 x2 x3 x4).getD 1 0) zz1 (own_blk ((own_cs x0 x1 x2 x3 x4).getD 0 0) zz0 (0 : Int32)))].getD x3.toNatClampNeg 0)), (.int (3 : Int32)), (.ref b87)])) (fun t k => by
    jvm_step X145.here [X145.here.top, hx, (hb hby d2_141), Value.category]
    exact k) ?_
  show own_G p.tables e below _ (T145.setTop (mkF m 142 #[.val (.ref a1), .val (.ref a2), .val (.int (3 : Int32)), .val (.ref b1), .val (.ref b44), .val (.int (own_blk ((own_cs x0 x1 x2 x3 x4).getD 2 0) zz2 (own_blk ((own_cs x0 x1 x2 x3 x4).getD 1 0) zz1 (own_blk ((own_cs x0 x1 x2 x3 x4).getD 0 0) zz0 (0 : Int32))))), .val (.ref b77), .val (.ref b87), .val (.int (3 : Int32)), .val (.int x3)] [(.int x3), (.ref b77), (.int x3), (.ref b77), (.int ([(0 : Int32), (own_blk ((own_cs x0 x1 x2 x3 x4).getD 0 0) zz0 (0 : Int32)), (own_blk ((own_cs x0 x1 x2 x3 x4).getD 1 0) zz1 (own_blk ((own_cs x0 x1 x2 x3 x4).getD 0 0) zz0 (0 : Int32)))].getD x3.toNatClampNeg 0)), (.int (3 : Int32)), (.ref b87)]))
  refine own_step (own_iaload X145 hx hZ e145 c151 (own_i3 hx3 (by first | rfl | (simp only [own_inc_len]; rfl) | exact own_cs_len _ _ _ _ _)) (g := (mkF m 142 #[.val (.ref a1), .val (.ref a2), .val (.int (3 : Int32)), .val (.ref b1), .val (.ref b44), .val (.int (own_blk ((own_cs x0 x1 x2 x3 x4).getD 2 0) zz2 (own_blk ((own_cs x0 x1 x2 x3 x4).getD 1 0) zz1 (own_blk ((own_cs x0 x1 x2 x3 x4).getD 0 0) zz0 (0 : Int32))))), .val (.ref b77), .val (.ref b87), .val (.int (3 : Int32)), .val (.int x3)] [(.int x3), (.ref b77), (.int x3), (.ref b77), (.int ([(0 : Int32), (own_blk ((own_cs x0 x1 x2 x3 x4).getD 0 0) zz0 (0 : Int32)), (own_blk ((own_cs x0 x1 x2 x3 x4).getD 1 0) zz1 (own_blk ((own_cs x0 x1 x2 x3 x4).getD 0 0) zz0 (0 : Int32)))].getD x3.toNatClampNeg 0)), (.int (3 : Int32)), (.ref b87)])) rfl rfl (hb hby d2_142)) ?_
  show own_G p.tables e below _ (T145.setTop (mkF m 143 #[.val (.ref a1), .val (.ref a2), .val (.int (3 : Int32)), .val (.ref b1), .val (.ref b44), .val (.int (own_blk ((own_cs x0 x1 x2 x3 x4).getD 2 0) zz2 (own_blk ((own_cs x0 x1 x2 x3 x4).getD 1 0) zz1 (own_blk ((own_cs x0 x1 x2 x3 x4).getD 0 0) zz0 (0 : Int32))))), .val (.ref b77), .val (.ref b87), .val (.int (3 : Int32)), .val (.int x3)] [(.int ((own_inc (own_inc (own_inc [(0 : Int32), (0 : Int32), (0 : Int32)] x0) x1) x2).getD x3.toNatClampNeg 0)), (.int x3), (.ref b77), (.int ([(0 : Int32), (own_blk ((own_cs x0 x1 x2 x3 x4).getD 0 0) zz0 (0 : Int32)), (own_blk ((own_cs x0 x1 x2 x3 x4).getD 1 0) zz1 (own_blk ((own_cs x0 x1 x2 x3 x4).getD 0 0) zz0 (0 : Int32)))].getD x3.toNatClampNeg 0)), (.int (3 : Int32)), (.ref b87)]))
  refine own_step (B := T145.setTop (mkF m 144 #[.val (.ref a1), .val (.ref a2), .val (.int (3 : Int32)), .val (.ref b1), .val (.ref b44), .val (.int (own_blk ((own_cs x0 x1 x2 x3 x4).getD 2 0) zz2 (own_blk ((own_cs x0 x1 x2 x3 x4).getD 1 0) zz1 (own_blk ((own_cs x0 x1 x2 x3 x4).getD 0 0) zz0 (0 : Int32))))), .val (.ref b77), .val (.ref b87), .val (.int (3 : Int32)), .val (.int x3)] [(.int ((own_inc (own_inc (own_inc [(0 : Int32), (0 : Int32), (0 : Int32)] x0) x1) x2).getD x3.toNatClampNeg 0)), (.int x3), (.ref b77), (.int ((own_inc (own_inc (own_inc [(0 : Int32), (0 : Int32), (0 : Int32)] x0) x1) x2).getD x3.toNatClampNeg 0)), (.int ([(0 : Int32), (own_blk ((own_cs x0 x1 x2 x3 x4).getD 0 0) zz0 (0 : Int32)), (own_blk ((own_cs x0 x1 x2 x3 x4).getD 1 0) zz1 (own_blk ((own_cs x0 x1 x2 x3 x4).getD 0 0) zz0 (0 : Int32)))].getD x3.toNatClampNeg 0)), (.int (3 : Int32)), (.ref b87)])) (fun t k => by
    jvm_step X145.here [X145.here.top, hx, (hb hby d2_143), Value.category]
    exact k) ?_
  show own_G p.tables e below _ (T145.setTop (mkF m 144 #[.val (.ref a1), .val (.ref a2), .val (.int (3 : Int32)), .val (.ref b1), .val (.ref b44), .val (.int (own_blk ((own_cs x0 x1 x2 x3 x4).getD 2 0) zz2 (own_blk ((own_cs x0 x1 x2 x3 x4).getD 1 0) zz1 (own_blk ((own_cs x0 x1 x2 x3 x4).getD 0 0) zz0 (0 : Int32))))), .val (.ref b77), .val (.ref b87), .val (.int (3 : Int32)), .val (.int x3)] [(.int ((own_inc (own_inc (own_inc [(0 : Int32), (0 : Int32), (0 : Int32)] x0) x1) x2).getD x3.toNatClampNeg 0)), (.int x3), (.ref b77), (.int ((own_inc (own_inc (own_inc [(0 : Int32), (0 : Int32), (0 : Int32)] x0) x1) x2).getD x3.toNatClampNeg 0)), (.int ([(0 : Int32), (own_blk ((own_cs x0 x1 x2 x3 x4).getD 0 0) zz0 (0 : Int32)), (own_blk ((own_cs x0 x1 x2 x3 x4).getD 1 0) zz1 (own_blk ((own_cs x0 x1 x2 x3 x4).getD 0 0) zz0 (0 : Int32)))].getD x3.toNatClampNeg 0)), (.int (3 : Int32)), (.ref b87)]))
  refine own_step (fun t k => XS.iconst X145.here hx rfl (hb hby d2_144) k) ?_
  show own_G p.tables e below _ (T145.setTop (mkF m 145 #[.val (.ref a1), .val (.ref a2), .val (.int (3 : Int32)), .val (.ref b1), .val (.ref b44), .val (.int (own_blk ((own_cs x0 x1 x2 x3 x4).getD 2 0) zz2 (own_blk ((own_cs x0 x1 x2 x3 x4).getD 1 0) zz1 (own_blk ((own_cs x0 x1 x2 x3 x4).getD 0 0) zz0 (0 : Int32))))), .val (.ref b77), .val (.ref b87), .val (.int (3 : Int32)), .val (.int x3)] [(.int (1 : Int32)), (.int ((own_inc (own_inc (own_inc [(0 : Int32), (0 : Int32), (0 : Int32)] x0) x1) x2).getD x3.toNatClampNeg 0)), (.int x3), (.ref b77), (.int ((own_inc (own_inc (own_inc [(0 : Int32), (0 : Int32), (0 : Int32)] x0) x1) x2).getD x3.toNatClampNeg 0)), (.int ([(0 : Int32), (own_blk ((own_cs x0 x1 x2 x3 x4).getD 0 0) zz0 (0 : Int32)), (own_blk ((own_cs x0 x1 x2 x3 x4).getD 1 0) zz1 (own_blk ((own_cs x0 x1 x2 x3 x4).getD 0 0) zz0 (0 : Int32)))].getD x3.toNatClampNeg 0)), (.int (3 : Int32)), (.ref b87)]))
  refine own_step (fun t k => XS.iadd X145.here hx rfl (hb hby d2_145) rfl k) ?_
  show own_G p.tables e below _ (T145.setTop (mkF m 146 #[.val (.ref a1), .val (.ref a2), .val (.int (3 : Int32)), .val (.ref b1), .val (.ref b44), .val (.int (own_blk ((own_cs x0 x1 x2 x3 x4).getD 2 0) zz2 (own_blk ((own_cs x0 x1 x2 x3 x4).getD 1 0) zz1 (own_blk ((own_cs x0 x1 x2 x3 x4).getD 0 0) zz0 (0 : Int32))))), .val (.ref b77), .val (.ref b87), .val (.int (3 : Int32)), .val (.int x3)] [(.int (((own_inc (own_inc (own_inc [(0 : Int32), (0 : Int32), (0 : Int32)] x0) x1) x2).getD x3.toNatClampNeg 0) + (1 : Int32))), (.int x3), (.ref b77), (.int ((own_inc (own_inc (own_inc [(0 : Int32), (0 : Int32), (0 : Int32)] x0) x1) x2).getD x3.toNatClampNeg 0)), (.int ([(0 : Int32), (own_blk ((own_cs x0 x1 x2 x3 x4).getD 0 0) zz0 (0 : Int32)), (own_blk ((own_cs x0 x1 x2 x3 x4).getD 1 0) zz1 (own_blk ((own_cs x0 x1 x2 x3 x4).getD 0 0) zz0 (0 : Int32)))].getD x3.toNatClampNeg 0)), (.int (3 : Int32)), (.ref b87)]))
  obtain ⟨T154, h154, X154, e154, W154, c154, st154⟩ := own_iastore X145 hx hZ e145 c151 (own_i3 hx3 (by first | rfl | (simp only [own_inc_len]; rfl) | exact own_cs_len _ _ _ _ _)) (g := (mkF m 146 #[.val (.ref a1), .val (.ref a2), .val (.int (3 : Int32)), .val (.ref b1), .val (.ref b44), .val (.int (own_blk ((own_cs x0 x1 x2 x3 x4).getD 2 0) zz2 (own_blk ((own_cs x0 x1 x2 x3 x4).getD 1 0) zz1 (own_blk ((own_cs x0 x1 x2 x3 x4).getD 0 0) zz0 (0 : Int32))))), .val (.ref b77), .val (.ref b87), .val (.int (3 : Int32)), .val (.int x3)] [(.int (((own_inc (own_inc (own_inc [(0 : Int32), (0 : Int32), (0 : Int32)] x0) x1) x2).getD x3.toNatClampNeg 0) + (1 : Int32))), (.int x3), (.ref b77), (.int ((own_inc (own_inc (own_inc [(0 : Int32), (0 : Int32), (0 : Int32)] x0) x1) x2).getD x3.toNatClampNeg 0)), (.int ([(0 : Int32), (own_blk ((own_cs x0 x1 x2 x3 x4).getD 0 0) zz0 (0 : Int32)), (own_blk ((own_cs x0 x1 x2 x3 x4).getD 1 0) zz1 (own_blk ((own_cs x0 x1 x2 x3 x4).getD 0 0) zz0 (0 : Int32)))].getD x3.toNatClampNeg 0)), (.int (3 : Int32)), (.ref b87)])) rfl rfl (hb hby d2_146)
  have N154 := Fr.snoc X154 N145 ge77
  have c155 : own_Ari Z h154 b77 .int ((own_inc (own_inc (own_inc [(0 : Int32), (0 : Int32), (0 : Int32)] x0) x1) x2).set x3.toNatClampNeg (((own_inc (own_inc (own_inc [(0 : Int32), (0 : Int32), (0 : Int32)] x0) x1) x2).getD x3.toNatClampNeg 0) + (1 : Int32))) := c154
  have c156 : own_Ari Z h154 a1 .int [x0, x1, x2, x3, x4] := c147.other W154 ne78
  have c157 : own_Ari Z h154 a2 .int [zz0, zz1, zz2] := c148.other W154 ne79
  have c158 : own_Ari Z h154 b1 .int (own_cs x0 x1 x2 x3 x4) := c149.other W154 ne80
  have c159 : own_Ari Z h154 b44 .int [(0 : Int32), (own_blk ((own_cs x0 x1 x2 x3 x4).getD 0 0) zz0 (0 : Int32)), (own_blk ((own_cs x0 x1 x2 x3 x4).getD 1 0) zz1 (own_blk ((own_cs x0 x1 x2 x3 x4).getD 0 0) zz0 (0 : Int32)))] := c150.other W154 ne81
  have c161 : own_Ari Z h154 b87 .int [(([(0 : Int32), (own_blk ((own_cs x0 x1 x2 x3 x4).getD 0 0) zz0 (0 : Int32)), (own_blk ((own_cs x0 x1 x2 x3 x4).getD 1 0) zz1 (own_blk ((own_cs x0 x1 x2 x3 x4).getD 0 0) zz0 (0 : Int32)))].getD x0.toNatClampNeg 0) + (([(0 : Int32), (0 : Int32), (0 : Int32)].getD x0.toNatClampNeg 0) / ([zz0, zz1, zz2].getD x0.toNatClampNeg 0))), (([(0 : Int32), (own_blk ((own_cs x0 x1 x2 x3 x4).getD 0 0) zz0 (0 : Int32)), (own_blk ((own_cs x0 x1 x2 x3 x4).getD 1 0) zz1 (own_blk ((own_cs x0 x1 x2 x3 x4).getD 0 0) zz0 (0 : Int32)))].getD x1.toNatClampNeg 0) + (((own_inc [(0 : Int32), (0 : Int32), (0 : Int32)] x0).getD x1.toNatClampNeg 0) / ([zz0, zz1, zz2].getD x1.toNatClampNeg 0))), (([(0 : Int32), (own_blk ((own_cs x0 x1 x2 x3 x4).getD 0 0) zz0 (0 : Int32)), (own_blk ((own_cs x0 x1 x2 x3 x4).getD 1 0) zz1 (own_blk ((own_cs x0 x1 x2 x3 x4).getD 0 0) zz0 (0 : Int32)))].getD x2.toNatClampNeg 0) + (((own_inc (own_inc [(0 : Int32), (0 : Int32), (0 : Int32)] x0) x1).getD x2.toNatClampNeg 0) / ([zz0, zz1, zz2].getD x2.toNatClampNeg 0))), (0 : Int32), (0 : Int32)] := c146.other W154 (Ne.symm ne92)
  have K154 : Keep h0 h154 [] := K145.wr W154 (Or.inr sz77)
  refine own_step st154 ?_
  clear K145 N145 W154 X145 c146 c147 c148 c149 c150 c151 c154 e145 hk153 st154
  show own_G p.tables e below _ (T154.setTop (mkF m 147 #[.val (.ref a1), .val (.ref a2), .val (.int (3 : Int32)), .val (.ref b1), .val (.ref b44), .val (.int (own_blk ((own_cs x0 x1 x2 x3 x4).getD 2 0) zz2 (own_blk ((own_cs x0 x1 x2 x3 x4).getD 1 0) zz1 (own_blk ((own_cs x0 x1 x2 x3 x4).getD 0 0) zz0 (0 : Int32))))), .val (.ref b77), .val (.ref b87), .val (.int (3 : Int32)), .val (.int x3)] [(.int ((own_inc (own_inc (own_inc [(0 : Int32), (0 : Int32), (0 : Int32)] x0) x1) x2).getD x3.toNatClampNeg 0)), (.int ([(0 : Int32), (own_blk ((own_cs x0 x1 x2 x3 x4).getD 0 0) zz0 (0 : Int32)), (own_blk ((own_cs x0 x1 x2 x3 x4).getD 1 0) zz1 (own_blk ((own_cs x0 x1 x2 x3 x4).getD 0 0) zz0 (0 : Int32)))].getD x3.toNatClampNeg 0)), (.int (3 : Int32)), (.ref b87)]))
  have c162 : own_Ari Z h154 b77 .int (own_inc (own_inc (own_inc (own_inc [(0 : Int32), (0 : Int32), (0 : Int32)] x0) x1) x2) x3) := c155
  refine own_step (fun t k => XS.aloadN X154.here hx rfl (hb hby d2_147) rfl rfl k) ?_
  show own_G p.tables e below _ (T154.setTop (mkF m 148 #[.val (.ref a1), .val (.ref a2), .val (.int (3 : Int32)), .val (.ref b1), .val (.ref b44), .val (.int (own_blk ((own_cs x0 x1 x2 x3 x4).getD 2 0) zz2 (own_blk ((own_cs x0 x1 x2 x3 x4).getD 1 0) zz1 (own_blk ((own_cs x0 x1 x2 x3 x4).getD 0 0) zz0 (0 : Int32))))), .val (.ref b77), .val (.ref b87), .val (.int (3 : Int32)), .val (.int x3)] [(.ref a2), (.int ((own_inc (own_inc (own_inc [(0 : Int32), (0 : Int32), (0 : Int32)] x0) x1) x2).getD x3.toNatClampNeg 0)), (.int ([(0 : Int32), (own_blk ((own_cs x0 x1 x2 x3 x4).getD 0 0) zz0 (0 : Int32)), (own_blk ((own_cs x0 x1 x2 x3 x4).getD 1 0) zz1 (own_blk ((own_cs x0 x1 x2 x3 x4).getD 0 0) zz0 (0 : Int32)))].getD x3.toNatClampNeg 0)), (.int (3 : Int32)), (.ref b87)]))
  refine own_step (fun t k => XS.iload X154.here hx rfl (hb hby d2_148) rfl k) ?_
  show own_G p.tables e below _ (T154.setTop (mkF m 150 #[.val (.ref a1), .val (.ref a2), .val (.int (3 : Int32)), .val (.ref b1), .val (.ref b44), .val (.int (own_blk ((own_cs x0 x1 x2 x3 x4).getD 2 0) zz2 (own_blk ((own_cs x0 x1 x2 x3 x4).getD 1 0) zz1 (own_blk ((own_cs x0 x1 x2 x3 x4).getD 0 0) zz0 (0 : Int32))))), .val (.ref b77), .val (.ref b87), .val (.int (3 : Int32)), .val (.int x3)] [(.int x3), (.ref a2), (.int ((own_inc (own_inc (own_inc [(0 : Int32), (0 : Int32), (0 : Int32)] x0) x1) x2).getD x3.toNatClampNeg 0)), (.int ([(0 : Int32), (own_blk ((own_cs x0 x1 x2 x3 x4).getD 0 0) zz0 (0 : Int32)), (own_blk ((own_cs x0 x1 x2 x3 x4).getD 1 0) zz1 (own_blk ((own_cs x0 x1 x2 x3 x4).getD 0 0) zz0 (0 : Int32)))].getD x3.toNatClampNeg 0)), (.int (3 : Int32)), (.ref b87)]))
  refine own_step (own_iaload X154 hx hZ e154 c157 (own_i3 hx3 (by first | rfl | (simp only [own_inc_len]; rfl) | exact own_cs_len _ _ _ _ _)) (g := (mkF m 150 #[.val (.ref a1), .val (.ref a2), .val (.int (3 : Int32)), .val (.ref b1), .val (.ref b44), .val (.int (own_blk ((own_cs x0 x1 x2 x3 x4).getD 2 0) zz2 (own_blk ((own_cs x0 x1 x2 x3 x4).getD 1 0) zz1 (own_blk ((own_cs x0 x1 x2 x3 x4).getD 0 0) zz0 (0 : Int32))))), .val (.ref b77), .val (.ref b87), .val (.int (3 : Int32)), .val (.int x3)] [(.int x3), (.ref a2), (.int ((own_inc (own_inc (own_inc [(0 : Int32), (0 : Int32), (0 : Int32)] x0) x1) x2).getD x3.toNatClampNeg 0)), (.int ([(0 : Int32), (own_blk ((own_cs x0 x1 x2 x3 x4).getD 0 0) zz0 (0 : Int32)), (own_blk ((own_cs x0 x1 x2 x3 x4).getD 1 0) zz1 (own_blk ((own_cs x0 x1 x2 x3 x4).getD 0 0) zz0 (0 : Int32)))].getD x3.toNatClampNeg 0)), (.int (3 : Int32)), (.ref b87)])) rfl rfl (hb hby d2_150)) ?_
  show own_G p.tables e below _ (T154.setTop (mkF m 151 #[.val (.ref a1), .val (.ref a2), .val (.int (3 : Int32)), .val (.ref b1), .val (.ref b44), .val (.int (own_blk ((own_cs x0 x1 x2 x3 x4).getD 2 0) zz2 (own_blk ((own_cs x0 x1 x2 x3 x4).getD 1 0) zz1 (own_blk ((own_cs x0 x1 x2 x3 x4).getD 0 0) zz0 (0 : Int32))))), .val (.ref b77), .val (.ref b87), .val (.int (3 : Int32)), .val (.int x3)] [(.int ([zz0, zz1, zz2].getD x3.toNatClampNeg 0)), (.int ((own_inc (own_inc (own_inc [(0 : Int32), (0 : Int32), (0 : Int32)] x0) x1) x2).getD x3.toNatClampNeg 0)), (.int ([(0 : Int32), (own_blk ((own_cs x0 x1 x2 x3 x4).getD 0 0) zz0 (0 : Int32)), (own_blk ((own_cs x0 x1 x2 x3 x4).getD 1 0) zz1 (own_blk ((own_cs x0 x1 x2 x3 x4).getD 0 0) zz0 (0 : Int32)))].getD x3.toNatClampNeg 0)), (.int (3 : Int32)), (.ref b87)]))
  refine own_step (fun t k => XS.idiv X154.here hx rfl (hb hby d2_151) rfl (own_nz3 hx3 hz0 hz1 hz2) k) ?_
  show own_G p.tables e below _ (T154.setTop (mkF m 152 #[.val (.ref a1), .val (.ref a2), .val (.int (3 : Int32)), .val (.ref b1), .val (.ref b44), .val (.int (own_blk ((own_cs x0 x1 x2 x3 x4).getD 2 0) zz2 (own_blk ((own_cs x0 x1 x2 x3 x4).getD 1 0) zz1 (own_blk ((own_cs x0 x1 x2 x3 x4).getD 0 0) zz0 (0 : Int32))))), .val (.ref b77), .val (.ref b87), .val (.int (3 : Int32)), .val (.int x3)] [(.int (((own_inc (own_inc (own_inc [(0 : Int32), (0 : Int32), (0 : Int32)] x0) x1) x2).getD x3.toNatClampNeg 0) / ([zz0, zz1, zz2].getD x3.toNatClampNeg 0))), (.int ([(0 : Int32), (own_blk ((own_cs x0 x1 x2 x3 x4).getD 0 0) zz0 (0 : Int32)), (own_blk ((own_cs x0 x1 x2 x3 x4).getD 1 0) zz1 (own_blk ((own_cs x0 x1 x2 x3 x4).getD 0 0) zz0 (0 : Int32)))].getD x3.toNatClampNeg 0)), (.int (3 : Int32)), (.ref b87)]))
  refine own_step (fun t k => XS.iadd X154.here hx rfl (hb hby d2_152) rfl k) ?_
  show own_G p.tables e below _ (T154.setTop (mkF m 153 #[.val (.ref a1), .val (.ref a2), .val (.int (3 : Int32)), .val (.ref b1), .val (.ref b44), .val (.int (own_blk ((own_cs x0 x1 x2 x3 x4).getD 2 0) zz2 (own_blk ((own_cs x0 x1 x2 x3 x4).getD 1 0) zz1 (own_blk ((own_cs x0 x1 x2 x3 x4).getD 0 0) zz0 (0 : Int32))))), .val (.ref b77), .val (.ref b87), .val (.int (3 : Int32)), .val (.int x3)] [(.int (([(0 : Int32), (own_blk ((own_cs x0 x1 x2 x3 x4).getD 0 0) zz0 (0 : Int32)), (own_blk ((own_cs x0 x1 x2 x3 x4).getD 1 0) zz1 (own_blk ((own_cs x0 x1 x2 x3 x4).getD 0 0) zz0 (0 : Int32)))].getD x3.toNatClampNeg 0) + (((own_inc (own_inc (own_inc [(0 : Int32), (0 : Int32), (0 : Int32)] x0) x1) x2).getD x3.toNatClampNeg 0) / ([zz0, zz1, zz2].getD x3.toNatClampNeg 0)))), (.int (3 : Int32)), (.ref b87)]))
  obtain ⟨T163, h163, X163, e163, W163, c163, st163⟩ := own_iastore X154 hx hZ e154 c161 (own_inb (by decide) (Nat.le_of_ble_eq_true rfl)) (g := (mkF m 153 #[.val (.ref a1), .val (.ref a2), .val (.int (3 : Int32)), .val (.ref b1), .val (.ref b44), .val (.int (own_blk ((own_cs x0 x1 x2 x3 x4).getD 2 0) zz2 (own_blk ((own_cs x0 x1 x2 x3 x4).getD 1 0) zz1 (own_blk ((own_cs x0 x1 x2 x3 x4).getD 0 0) zz0 (0 : Int32))))), .val (.ref b77), .val (.ref b87), .val (.int (3 : Int32)), .val (.int x3)] [(.int (([(0 : Int32), (own_blk ((own_cs x0 x1 x2 x3 x4).getD 0 0) zz0 (0 : Int32)), (own_blk ((own_cs x0 x1 x2 x3 x4).getD 1 0) zz1 (own_blk ((own_cs x0 x1 x2 x3 x4).getD 0 0) zz0 (0 : Int32)))].getD x3.toNatClampNeg 0) + (((own_inc (own_inc (own_inc [(0 : Int32), (0 : Int32), (0 : Int32)] x0) x1) x2).getD x3.toNatClampNeg 0) / ([zz0, zz1, zz2].getD x3.toNatClampNeg 0)))), (.int (3 : Int32)), (.ref b87)])) rfl rfl (hb hby d2_153)
  have N163 := Fr.snoc X163 N154 ge87
  have c164 : own_Ari Z h163 b87 .int [(([(0 : Int32), (own_blk ((own_cs x0 x1 x2 x3 x4).getD 0 0) zz0 (0 : Int32)), (own_blk ((own_cs x0 x1 x2 x3 x4).getD 1 0) zz1 (own_blk ((own_cs x0 x1 x2 x3 x4).getD 0 0) zz0 (0 : Int32)))].getD x0.toNatClampNeg 0) + (([(0 : Int32), (0 : Int32), (0 : Int32)].getD x0.toNatClampNeg 0) / ([zz0, zz1, zz2].getD x0.toNatClampNeg 0))), (([(0 : Int32), (own_blk ((own_cs x0 x1 x2 x3 x4).getD 0 0) zz0 (0 : Int32)), (own_blk ((own_cs x0 x1 x2 x3 x4).getD 1 0) zz1 (own_blk ((own_cs x0 x1 x2 x3 x4).getD 0 0) zz0 (0 : Int32)))].getD x1.toNatClampNeg 0) + (((own_inc [(0 : Int32), (0 : Int32), (0 : Int32)] x0).getD x1.toNatClampNeg 0) / ([zz0, zz1, zz2].getD x1.toNatClampNeg 0))), (([(0 : Int32), (own_blk ((own_cs x0 x1 x2 x3 x4).getD 0 0) zz0 (0 : Int32)), (own_blk ((own_cs x0 x1 x2 x3 x4).getD 1 0) zz1 (own_blk ((own_cs x0 x1 x2 x3 x4).getD 0 0) zz0 (0 : Int32)))].getD x2.toNatClampNeg 0) + (((own_inc (own_inc [(0 : Int32), (0 : Int32), (0 : Int32)] x0) x1).getD x2.toNatClampNeg 0) / ([zz0, zz1, zz2].getD x2.toNatClampNeg 0))), (([(0 : Int32), (own_blk ((own_cs x0 x1 x2 x3 x4).getD 0 0) zz0 (0 : Int32)), (own_blk ((own_cs x0 x1 x2 x3 x4).getD 1 0) zz1 (own_blk ((own_cs x0 x1 x2 x3 x4).getD 0 0) zz0 (0 : Int32)))].getD x3.toNatClampNeg 0) + (((own_inc (own_inc (own_inc [(0 : Int32), (0 : Int32), (0 : Int32)] x0) x1) x2).getD x3.toNatClampNeg 0) / ([zz0, zz1, zz2].getD x3.toNatClampNeg 0))), (0 : Int32)] := c163
  have c165 : own_Ari Z h163 a1 .int [x0, x1, x2, x3, x4] := c156.other W163 ne88
  have c166 : own_Ari Z h163 a2 .int [zz0, zz1, zz2] := c157.other W163 ne89
  have c167 : own_Ari Z h163 b1 .int (own_cs x0 x1 x2 x3 x4) := c158.other W163 ne90
  have c168 : own_Ari Z h163 b44 .int [(0 : Int32), (own_blk ((own_cs x0 x1 x2 x3 x4).getD 0 0) zz0 (0 : Int32)), (own_blk ((own_cs x0 x1 x2 x3 x4).getD 1 0) zz1 (own_blk ((own_cs x0 x1 x2 x3 x4).getD 0 0) zz0 (0 : Int32)))] := c159.other W163 ne91
  have c169 : own_Ari Z h163 b77 .int (own_inc (own_inc (own_inc (own_inc [(0 : Int32), (0 : Int32), (0 : Int32)] x0) x1) x2) x3) := c162.other W163 ne92
  have K163 : Keep h0 h163 [] := K154.wr W163 (Or.inr sz87)
  refine own_step st163 ?_
  clear K154 N154 W163 X154 c155 c156 c157 c158 c159 c161 c162 c163 e154 st163
  show own_G p.tables e below _ (T163.setTop (mkF m 154 #[.val (.ref a1), .val (.ref a2), .val (.int (3 : Int32)), .val (.ref b1), .val (.ref b44), .val (.int (own_blk ((own_cs x0 x1 x2 x3 x4).getD 2 0) zz2 (own_blk ((own_cs x0 x1 x2 x3 x4).getD 1 0) zz1 (own_blk ((own_cs x0 x1 x2 x3 x4).getD 0 0) zz0 (0 : Int32))))), .val (.ref b77), .val (.ref b87), .val (.int (3 : Int32)), .val (.int x3)] []))
  refine own_step (fun t k => XS.iinc X163.here hx rfl (hb hby d2_154) rfl (l' := #[.val (.ref a1), .val (.ref a2), .val (.int (3 : Int32)), .val (.ref b1), .val (.ref b44), .val (.int (own_blk ((own_cs x0 x1 x2 x3 x4).getD 2 0) zz2 (own_blk ((own_cs x0 x1 x2 x3 x4).getD 1 0) zz1 (own_blk ((own_cs x0 x1 x2 x3 x4).getD 0 0) zz0 (0 : Int32))))), .val (.ref b77), .val (.ref b87), .val (.int (4 : Int32)), .val (.int x3)]) rfl k) ?_
  show own_G p.tables e below _ (T163.setTop (mkF m 157 #[.val (.ref a1), .val (.ref a2), .val (.int (3 : Int32)), .val (.ref b1), .val (.ref b44), .val (.int (own_blk ((own_cs x0 x1 x2 x3 x4).getD 2 0) zz2 (own_blk ((own_cs x0 x1 x2 x3 x4).getD 1 0) zz1 (own_blk ((own_cs x0 x1 x2 x3 x4).getD 0 0) zz0 (0 : Int32))))), .val (.ref b77), .val (.ref b87), .val (.int (4 : Int32)), .val (.int x3)] []))
  refine own_step (fun t k => XS.goto X163.here hx rfl (pc0 := 157) (pc' := 115) rfl (hb hby d2_157) (by decide) (by decide) k) ?_
  show own_G p.tables e below _ (T163.setTop (mkF m 115 #[.val (.ref a1), .val (.ref a2), .val (.int (3 : Int32)), .val (.ref b1), .val (.ref b44), .val (.int (own_blk ((own_cs x0 x1 x2 x3 x4).getD 2 0) zz2 (own_blk ((own_cs x0 x1 x2 x3 x4).getD 1 0) zz1 (own_blk ((own_cs x0 x1 x2 x3 x4).getD 0 0) zz0 (0 : Int32))))), .val (.ref b77), .val (.ref b87), .val (.int (4 : Int32)), .val (.int x3)] []))
  refine own_step (fun t k => XS.iload X163.here hx rfl (hb hby d2_115) rfl k) ?_
  show own_G p.tables e below _ (T163.setTop (mkF m 117 #[.val (.ref a1), .val (.ref a2), .val (.int (3 : Int32)), .val (.ref b1), .val (.ref b44), .val (.int (own_blk ((own_cs x0 x1 x2 x3 x4).getD 2 0) zz2 (own_blk ((own_cs x0 x1 x2 x3 x4).getD 1 0) zz1 (own_blk ((own_cs x0 x1 x2 x3 x4).getD 0 0) zz0 (0 : Int32))))), .val (.ref b77), .val (.ref b87), .val (.int (4 : Int32)), .val (.int x3)] [(.int (4 : Int32))]))
  refine own_step (fun t k => XS.aloadN X163.here hx rfl (hb hby d2_117) rfl rfl k) ?_
  show own_G p.tables e below _ (T163.setTop (mkF m 118 #[.val (.ref a1), .val (.ref a2), .val (.int (3 : Int32)), .val (.ref b1), .val (.ref b44), .val (.int (own_blk ((own_cs x0 x1 x2 x3 x4).getD 2 0) zz2 (own_blk ((own_cs x0 x1 x2 x3 x4).getD 1 0) zz1 (own_blk ((own_cs x0 x1 x2 x3 x4).getD 0 0) zz0 (0 : Int32))))), .val (.ref b77), .val (.ref b87), .val (.int (4 : Int32)), .val (.int x3)] [(.ref a1), (.int (4 : Int32))]))
  refine own_step (own_lenI X163 hx hZ e163 c165 (g := (mkF m 118 #[.val (.ref a1), .val (.ref a2), .val (.int (3 : Int32)), .val (.ref b1), .val (.ref b44), .val (.int (own_blk ((own_cs x0 x1 x2 x3 x4).getD 2 0) zz2 (own_blk ((own_cs x0 x1 x2 x3 x4).getD 1 0) zz1 (own_blk ((own_cs x0 x1 x2 x3 x4).getD 0 0) zz0 (0 : Int32))))), .val (.ref b77), .val (.ref b87), .val (.int (4 : Int32)), .val (.int x3)] [(.ref a1), (.int (4 : Int32))])) rfl rfl (hb hby d2_118)) ?_
  show own_G p.tables e below _ (T163.setTop (mkF m 119 #[.val (.ref a1), .val (.ref a2), .val (.int (3 : Int32)), .val (.ref b1), .val (.ref b44), .val (.int (own_blk ((own_cs x0 x1 x2 x3 x4).getD 2 0) zz2 (own_blk ((own_cs x0 x1 x2 x3 x4).getD 1 0) zz1 (own_blk ((own_cs x0 x1 x2 x3 x4).getD 0 0) zz0 (0 : Int32))))), .val (.ref b77), .val (.ref b87), .val (.int (4 : Int32)), .val (.int x3)] [(.int (5 : Int32)), (.int (4 : Int32))]))
  have hk171 : (4 : Int32) < (5 : Int32) := (by decide)
  refine own_step (fun t k => XS.icmpNo X163.here hx rfl (hb hby d2_119) rfl ((tlt hk171).2.1) k) ?_
  show own_G p.tables e below _ (T163.setTop (mkF m 122 #[.val (.ref a1), .val (.ref a2), .val (.int (3 : Int32)), .val (.ref b1), .val (.ref b44), .val (.int (own_blk ((own_cs x0 x1 x2 x3 x4).getD 2 0) zz2 (own_blk ((own_cs x0 x1 x2 x3 x4).getD 1 0) zz1 (own_blk ((own_cs x0 x1 x2 x3 x4).getD 0 0) zz0 (0 : Int32))))), .val (.ref b77), .val (.ref b87), .val (.int (4 : Int32)), .val (.int x3)] []))
  refine own_step (fun t k => XS.aloadN X163.here hx rfl (hb hby d2_122) rfl rfl k) ?_
  show own_G p.tables e below _ (T163.setTop (mkF m 123 #[.val (.ref a1), .val (.ref a2), .val (.int (3 : Int32)), .val (.ref b1), .val (.ref b44), .val (.int (own_blk ((own_cs x0 x1 x2 x3 x4).getD 2 0) zz2 (own_blk ((own_cs x0 x1 x2 x3 x4).getD 1 0) zz1 (own_blk ((own_cs x0 x1 x2 x3 x4).getD 0 0) zz0 (0 : Int32))))), .val (.ref b77), .val (.ref b87), .val (.int (4 : Int32)), .val (.int x3)] [(.ref a1)]))
  refine own_step (fun t k => XS.iload X163.here hx rfl (hb hby d2_123) rfl k) ?_
  show own_G p.tables e below _ (T163.setTop (mkF m 125 #[.val (.ref a1), .val (.ref a2), .val (.int (3 : Int32)), .val (.ref b1), .val (.ref b44), .val (.int (own_blk ((own_cs x0 x1 x2 x3 x4).getD 2 0) zz2 (own_blk ((own_cs x0 x1 x2 x3 x4).getD 1 0) zz1 (own_blk ((own_cs x0 x1 x2 x3 x4).getD 0 0) zz0 (0 : Int32))))), .val (.ref b77), .val (.ref b87), .val (.int (4 : Int32)), .val (.int x3)] [(.int (4 : Int32)), (.ref a1)]))
  refine own_step (own_iaload X163 hx hZ e163 c165 (own_inb (by decide) (Nat.le_of_ble_eq_true rfl)) (g := (mkF m 125 #[.val (.ref a1), .val (.ref a2), .val (.int (3 : Int32)), .val (.ref b1), .val (.ref b44), .val (.int (own_blk ((own_cs x0 x1 x2 x3 x4).getD 2 0) zz2 (own_blk ((own_cs x0 x1 x2 x3 x4).getD 1 0) zz1 (own_blk ((own_cs x0 x1 x2 x3 x4).getD 0 0) zz0 (0 : Int32))))), .val (.ref b77), .val (.ref b87), .val (.int (4 : Int32)), .val (.int x3)] [(.int (4 : Int32)), (.ref a1)])) rfl rfl (hb hby d2_125)) ?_
  show own_G p.tables e below _ (T163.setTop (mkF m 126 #[.val (.ref a1), .val (.ref a2), .val (.int (3 : Int32)), .val (.ref b1), .val (.ref b44), .val (.int (own_blk ((own_cs x0 x1 x2 x3 x4).getD 2 0) zz2 (own_blk ((own_cs x0 x1 x2 x3 x4).getD 1 0) zz1 (own_blk ((own_cs x0 x1 x2 x3 x4).getD 0 0) zz0 (0 : Int32))))), .val (.ref b77), .val (.ref b87), .val (.int (4 : Int32)), .val (.int x3)] [(.int x4)]))
  refine own_step (fun t k => XS.istore X163.here hx rfl (hb hby d2_126) rfl (l' := #[.val (.ref a1), .val (.ref a2), .val (.int (3 : Int32)), .val (.ref b1), .val (.ref b44), .val (.int (own_blk ((own_cs x0 x1 x2 x3 x4).getD 2 0) zz2 (own_blk ((own_cs x0 x1 x2 x3 x4).getD 1 0) zz1 (own_blk ((own_cs x0 x1 x2 x3 x4).getD 0 0) zz0 (0 : Int32))))), .val (.ref b77), .val (.ref b87), .val (.int (4 : Int32)), .val (.int x4)]) rfl k) ?_
  show own_G p.tables e below _ (T163.setTop (mkF m 128 #[.val (.ref a1), .val (.ref a2), .val (.int (3 : Int32)), .val (.ref b1), .val (.ref b44), .val (.int (own_blk ((own_cs x0 x1 x2 x3 x4).getD 2 0) zz2 (own_blk ((own_cs x0 x1 x2 x3 x4).getD 1 0) zz1 (own_blk ((own_cs x0 x1 x2 x3 x4).getD 0 0) zz0 (0 : Int32))))), .val (.ref b77), .val (.ref b87), .val (.int (4 : Int32)), .val (.int x4)] []))
  refine own_step (fun t k => XS.aload X163.here hx rfl (hb hby d2_128) rfl rfl k) ?_
  show own_G p.tables e below _ (T163.setTop (mkF m 130 #[.val (.ref a1), .val (.ref a2), .val (.int (3 : Int32)), .val (.ref b1), .val (.ref b44), .val (.int (own_blk ((own_cs x0 x1 x2 x3 x4).getD 2 0) zz2 (own_blk ((own_cs x0 x1 x2 x3 x4).getD 1 0) zz1 (own_blk ((own_cs x0 x1 x2 x3 x4).getD 0 0) zz0 (0 : Int32))))), .val (.ref b77), .val (.ref b87), .val (.int (4 : Int32)), .val (.int x4)] [(.ref b87)]))
  refine own_step (fun t k => XS.iload X163.here hx rfl (hb hby d2_130) rfl k) ?_
  show own_G p.tables e below _ (T163.setTop (mkF m 132 #[.val (.ref a1), .val (.ref a2), .val (.int (3 : Int32)), .val (.ref b1), .val (.ref b44), .val (.int (own_blk ((own_cs x0 x1 x2 x3 x4).getD 2 0) zz2 (own_blk ((own_cs x0 x1 x2 x3 x4).getD 1 0) zz1 (own_blk ((own_cs x0 x1 x2 x3 x4).getD 0 0) zz0 (0 : Int32))))), .val (.ref b77), .val (.ref b87), .val (.int (4 : Int32)), .val (.int x4)] [(.int (4 : Int32)), (.ref b87)]))
  refine own_step (fun t k => XS.aload X163.here hx rfl (hb hby d2_132) rfl rfl k) ?_
  show own_G p.tables e below _ (T163.setTop (mkF m 134 #[.val (.ref a1), .val (.ref a2), .val (.int (3 : Int32)), .val (.ref b1), .val (.ref b44), .val (.int (own_blk ((own_cs x0 x1 x2 x3 x4).getD 2 0) zz2 (own_blk ((own_cs x0 x1 x2 x3 x4).getD 1 0) zz1 (own_blk ((own_cs x0 x1 x2 x3 x4).getD 0 0) zz0 (0 : Int32))))), .val (.ref b77), .val (.ref b87), .val (.int (4 : Int32)), .val (.int x4)] [(.ref b44), (.int (4 : Int32)), (.ref b87)]))
  refine own_step (fun t k => XS.iload X163.here hx rfl (hb hby d2_134) rfl k) ?_
  show own_G p.tables e below _ (T163.setTop (mkF m 136 #[.val (.ref a1), .val (.ref a2), .val (.int (3 : Int32)), .val (.ref b1), .val (.ref b44), .val (.int (own_blk ((own_cs x0 x1 x2 x3 x4).getD 2 0) zz2 (own_blk ((own_cs x0 x1 x2 x3 x4).getD 1 0) zz1 (own_blk ((own_cs x0 x1 x2 x3 x4).getD 0 0) zz0 (0 : Int32))))), .val (.ref b77), .val (.ref b87), .val (.int (4 : Int32)), .val (.int x4)] [(.int x4), (.ref b44), (.int (4 : Int32)), (.ref b87)]))
  refine own_step (own_iaload X163 hx hZ e163 c168 (own_i3 hx4 (by first | rfl | (simp only [own_inc_len]; rfl) | exact own_cs_len _ _ _ _ _)) (g := (mkF m 136 #[.val (.ref a1), .val (.ref a2), .val (.int (3 : Int32)), .val (.ref b1), .val (.ref b44), .val (.int (own_blk ((own_cs x0 x1 x2 x3 x4).getD 2 0) zz2 (own_blk ((own_cs x0 x1 x2 x3 x4).getD 1 0) zz1 (own_blk ((own_cs x0 x1 x2 x3 x4).getD 0 0) zz0 (0 : Int32))))), .val (.ref b77), .val (.ref b87), .val (.int (4 : Int32)), .val (.int x4)] [(.int x4), (.ref b44), (.int (4 : Int32)), (.ref b87)])) rfl rfl (hb hby d2_136)) ?_
  show own_G p.tables e below _ (T163.setTop (mkF m 137 #[.val (.ref a1), .val (.ref a2), .val (.int (3 : Int32)), .val (.ref b1), .val (.ref b44), .val (.int (own_blk ((own_cs x0 x1 x2 x3 x4).getD 2 0) zz2 (own_blk ((own_cs x0 x1 x2 x3 x4).getD 1 0) zz1 (own_blk ((own_cs x0 x1 x2 x3 x4).getD 0 0) zz0 (0 : Int32))))), .val (.ref b77), .val (.ref b87), .val (.int (4 : Int32)), .val (.int x4)] [(.int ([(0 : Int32), (own_blk ((own_cs x0 x1 x2 x3 x4).getD 0 0) zz0 (0 : Int32)), (own_blk ((own_cs x0 x1 x2 x3 x4).getD 1 0) zz1 (own_blk ((own_cs x0 x1 x2 x3 x4).getD 0 0) zz0 (0 : Int32)))].getD x4.toNatClampNeg 0)), (.int (4 : Int32)), (.ref b87)]))
  refine own_step (fun t k => XS.aload X163.here hx rfl (hb hby d2_137) rfl rfl k) ?_
  show own_G p.tables e below _ (T163.setTop (mkF m 139 #[.val (.ref a1), .val (.ref a2), .val (.int (3 : Int32)), .val (.ref b1), .val (.ref b44), .val (.int (own_blk ((own_cs x0 x1 x2 x3 x4).getD 2 0) zz2 (own_blk ((own_cs x0 x1 x2 x3 x4).getD 1 0) zz1 (own_blk ((own_cs x0 x1 x2 x3 x4).getD 0 0) zz0 (0 : Int32))))), .val (.ref b77), .val (.ref b87), .val (.int (4 : Int32)), .val (.int x4)] [(.ref b77), (.int ([(0 : Int32), (own_blk ((own_cs x0 x1 x2 x3 x4).getD 0 0) zz0 (0 : Int32)), (own_blk ((own_cs x0 x1 x2 x3 x4).getD 1 0) zz1 (own_blk ((own_cs x0 x1 x2 x3 x4).getD 0 0) zz0 (0 : Int32)))].getD x4.toNatClampNeg 0)), (.int (4 : Int32)), (.ref b87)]))
  refine own_step (fun t k => XS.iload X163.here hx rfl (hb hby d2_139) rfl k) ?_
  show own_G p.tables e below _ (T163.setTop (mkF m 141 #[.val (.ref a1), .val (.ref a2), .val (.int (3 : Int32)), .val (.ref b1), .val (.ref b44), .val (.int (own_blk ((own_cs x0 x1 x2 x3 x4).getD 2 0) zz2 (own_blk ((own_cs x0 x1 x2 x3 x4).getD 1 0) zz1 (own_blk ((own_cs x0 x1 x2 x3 x4).getD 0 0) zz0 (0 : Int32))))), .val (.ref b77), .val (.ref b87), .val (.int (4 : Int32)), .val (.int x4)] [(.int x4), (.ref b77), (.int ([(0 : Int32), (own_blk ((own_cs x0 x1 x2 x3 x4).getD 0 0) zz0 (0 : Int32)), (own_blk ((own_cs x0 x1 x2 x3 x4).getD 1 0) zz1 (own_blk ((own_cs x0 x1 x2 x3 x4).getD 0 0) zz0 (0 : Int32)))].getD x4.toNatClampNeg 0)), (.int (4 : Int32)), (.ref b87)]))
  refine own_step (B := T163.setTop (mkF m 142 #[.val (.ref a1), .val (.ref a2), .val (.int (3 : Int32)), .val (.ref b1), .val (.ref b44), .val (.int (own_blk ((own_cs x0 x1 x2 x3 x4).getD 2 0) zz2 (own_blk ((own_cs x0 x1 x2 x3 x4).getD 1 0) zz1 (own_blk ((own_cs x0 x1 x2 x3 x4).getD 0 0) zz0 (0 : Int32))))), .val (.ref b77), .val (.ref b87), .val (.int (4 : Int32)), .val (.int x4)] [(.int x4), (.ref b77), (.int x4), (.ref b77), (.int ([(0 : Int32), (own_blk ((own_cs x0 x1 x2 x3 x4).getD 0 0) zz0 (0 : Int32)), (own_blk ((own_cs x0 x1 x2 x3 x4).getD 1 0) zz1 (own_blk ((own_cs x0 x1 x2 x3 x4).getD 0 0) zz0 (0 : Int32)))].getD x4.toNatClampNeg 0)), (.int (4 : Int32)), (.ref b87)])) (fun t k => by
    jvm_step X163.here [X163.here.top, hx, (hb hby d2_141), Value.category]
    exact k) ?_
  show own_G p.tables e below _ (T163.setTop (mkF m 142 #[.val (.ref a1), .val (.ref a2), .val (.int (3 : Int32)), .val (.ref b1), .val (.ref b44), .val (.int (own_blk ((own_cs x0 x1 x2 x3 x4).getD 2 0) zz2 (own_blk ((own_cs x0 x1 x2 x3 x4).getD 1 0) zz1 (own_blk ((own_cs x0 x1 x2 x3 x4).getD 0 0) zz0 (0 : Int32))))), .val (.ref b77), .val (.ref b87), .val (.int (4 : Int32)), .val (.int x4)] [(.int x4), (.ref b77), (.int x4), (.ref b77), (.int ([(0 : Int32), (own_blk ((own_cs x0 x1 x2 x3 x4).getD 0 0) zz0 (0 : Int32)), (own_blk ((own_cs x0 x1 x2 x3 x4).getD 1 0) zz1 (own_blk ((own_cs x0 x1 x2 x3 x4).getD 0 0) zz0 (0 : Int32)))].getD x4.toNatClampNeg 0)), (.int (4 : Int32)), (.ref b87)]))
  refine own_step (own_iaload X163 hx hZ e163 c169 (own_i3 hx4 (by first | rfl | (simp only [own_inc_len]; rfl) | exact own_cs_len _ _ _ _ _)) (g := (mkF m 142 #[.val (.ref a1), .val (.ref a2), .val (.int (3 : Int32)), .val (.ref b1), .val (.ref b44), .val (.int (own_blk ((own_cs x0 x1 x2 x3 x4).getD 2 0) zz2 (own_blk ((own_cs x0 x1 x2 x3 x4).getD 1 0) zz1 (own_blk ((own_cs x0 x1 x2 x3 x4).getD 0 0) zz0 (0 : Int32))))), .val (.ref b77), .val (.ref b87), .val (.int (4 : Int32)), .val (.int x4)] [(.int x4), (.ref b77), (.int x4), (.ref b77), (.int ([(0 : Int32), (own_blk ((own_cs x0 x1 x2 x3 x4).getD 0 0) zz0 (0 : Int32)), (own_blk ((own_cs x0 x1 x2 x3 x4).getD 1 0) zz1 (own_blk ((own_cs x0 x1 x2 x3 x4).getD 0 0) zz0 (0 : Int32)))].getD x4.toNatClampNeg 0)), (.int (4 : Int32)), (.ref b87)])) rfl rfl (hb hby d2_142)) ?_
  show own_G p.tables e below _ (T163.setTop (mkF m 143 #[.val (.ref a1), .val (.ref a2), .val (.int (3 : Int32)), .val (.ref b1), .val (.ref b44), .val (.int (own_blk ((own_cs x0 x1 x2 x3 x4).getD 2 0) zz2 (own_blk ((own_cs x0 x1 x2 x3 x4).getD 1 0) zz1 (own_blk ((own_cs x0 x1 x2 x3 x4).getD 0 0) zz0 (0 : Int32))))), .val (.ref b77), .val (.ref b87), .val (.int (4 : Int32)), .val (.int x4)] [(.int ((own_inc (own_inc (own_inc (own_inc [(0 : Int32), (0 : Int32), (0 : Int32)] x0) x1) x2) x3).getD x4.toNatClampNeg 0)), (.int x4), (.ref b77), (.int ([(0 : Int32), (own_blk ((own_cs x0 x1 x2 x3 x4).getD 0 0) zz0 (0 : Int32)), (own_blk ((own_cs x0 x1 x2 x3 x4).getD 1 0) zz1 (own_blk ((own_cs x0 x1 x2 x3 x4).getD 0 0) zz0 (0 : Int32)))].getD x4.toNatClampNeg 0)), (.int (4 : Int32)), (.ref b87)]))
  refine own_step (B := T163.setTop (mkF m 144 #[.val (.ref a1), .val (.ref a2), .val (.int (3 : Int32)), .val (.ref b1), .val (.ref b44), .val (.int (own_blk ((own_cs x0 x1 x2 x3 x4).getD 2 0) zz2 (own_blk ((own_cs x0 x1 x2 x3 x4).getD 1 0) zz1 (own_blk ((own_cs x0 x1 x2 x3 x4).getD 0 0) zz0 (0 : Int32))))), .val (.ref b77), .val (.ref b87), .val (.int (4 : Int32)), .val (.int x4)] [(.int ((own_inc (own_inc (own_inc (own_inc [(0 : Int32), (0 : Int32), (0 : Int32)] x0) x1) x2) x3).getD x4.toNatClampNeg 0)), (.int x4), (.ref b77), (.int ((own_inc (own_inc (own_inc (own_inc [(0 : Int32), (0 : Int32), (0 : Int32)] x0) x1) x2) x3).getD x4.toNatClampNeg 0)), (.int ([(0 : Int32), (own_blk ((own_cs x0 x1 x2 x3 x4).getD 0 0) zz0 (0 : Int32)), (own_blk ((own_cs x0 x1 x2 x3 x4).getD 1 0) zz1 (own_blk ((own_cs x0 x1 x2 x3 x4).getD 0 0) zz0 (0 : Int32)))].getD x4.toNatClampNeg 0)), (.int (4 : Int32)), (.ref b87)])) (fun t k => by
    jvm_step X163.here [X163.here.top, hx, (hb hby d2_143), Value.category]
    exact k) ?_
  show own_G p.tables e below _ (T163.setTop (mkF m 144 #[.val (.ref a1), .val (.ref a2), .val (.int (3 : Int32)), .val (.ref b1), .val (.ref b44), .val (.int (own_blk ((own_cs x0 x1 x2 x3 x4).getD 2 0) zz2 (own_blk ((own_cs x0 x1 x2 x3 x4).getD 1 0) zz1 (own_blk ((own_cs x0 x1 x2 x3 x4).getD 0 0) zz0 (0 : Int32))))), .val (.ref b77), .val (.ref b87), .val (.int (4 : Int32)), .val (.int x4)] [(.int ((own_inc (own_inc (own_inc (own_inc [(0 : Int32), (0 : Int32), (0 : Int32)] x0) x1) x2) x3).getD x4.toNatClampNeg 0)), (.int x4), (.ref b77), (.int ((own_inc (own_inc (own_inc (own_inc [(0 : Int32), (0 : Int32), (0 : Int32)] x0) x1) x2) x3).getD x4.toNatClampNeg 0)), (.int ([(0 : Int32), (own_blk ((own_cs x0 x1 x2 x3 x4).getD 0 0) zz0 (0 : Int32)), (own_blk ((own_cs x0 x1 x2 x3 x4).getD 1 0) zz1 (own_blk ((own_cs x0 x1 x2 x3 x4).getD 0 0) zz0 (0 : Int32)))].getD x4.toNatClampNeg 0)), (.int (4 : Int32)), (.ref b87)]))
  refine own_step (fun t k => XS.iconst X163.here hx rfl (hb hby d2_144) k) ?_
  show own_G p.tables e below _ (T163.setTop (mkF m 145 #[.val (.ref a1), .val (.ref a2), .val (.int (3 : Int32)), .val (.ref b1), .val (.ref b44), .val (.int (own_blk ((own_cs x0 x1 x2 x3 x4).getD 2 0) zz2 (own_blk ((own_cs x0 x1 x2 x3 x4).getD 1 0) zz1 (own_blk ((own_cs x0 x1 x2 x3 x4).getD 0 0) zz0 (0 : Int32))))), .val (.ref b77), .val (.ref b87), .val (.int (4 : Int32)), .val (.int x4)] [(.int (1 : Int32)), (.int ((own_inc (own_inc (own_inc (own_inc [(0 : Int32), (0 : Int32), (0 : Int32)] x0) x1) x2) x3).getD x4.toNatClampNeg 0)), (.int x4), (.ref b77), (.int ((own_inc (own_inc (own_inc (own_inc [(0 : Int32), (0 : Int32), (0 : Int32)] x0) x1) x2) x3).getD x4.toNatClampNeg 0)), (.int ([(0 : Int32), (own_blk ((own_cs x0 x1 x2 x3 x4).getD 0 0) zz0 (0 : Int32)), (own_blk ((own_cs x0 x1 x2 x3 x4).getD 1 0) zz1 (own_blk ((own_cs x0 x1 x2 x3 x4).getD 0 0) zz0 (0 : Int32)))].getD x4.toNatClampNeg 0)), (.int (4 : Int32)), (.ref b87)]))
  refine own_step (fun t k => XS.iadd X163.here hx rfl (hb hby d2_145) rfl k) ?_
  show own_G p.tables e below _ (T163.setTop (mkF m 146 #[.val (.ref a1), .val (.ref a2), .val (.int (3 : Int32)), .val (.ref b1), .val (.ref b44), .val (.int (own_blk ((own_cs x0 x1 x2 x3 x4).getD 2 0) zz2 (own_blk ((own_cs x0 x1 x2 x3 x4).getD 1 0) zz1 (own_blk ((own_cs x0 x1 x2 x3 x4).getD 0 0) zz0 (0 : Int32))))), .val (.ref b77), .val (.ref b87), .val (.int (4 : Int32)), .val (.int x4)] [(.int (((own_inc (own_inc (own_inc (own_inc [(0 : Int32), (0 : Int32), (0 : Int32)] x0) x1) x2) x3).getD x4.toNatClampNeg 0) + (1 : Int32))), (.int x4), (.ref b77), (.int ((own_inc (own_inc (own_inc (own_inc [(0 : Int32), (0 : Int32), (0 : Int32)] x0) x1) x2) x3).getD x4.toNatClampNeg 0)), (.int ([(0 : Int32), (own_blk ((own_cs x0 x1 x2 x3 x4).getD 0 0) zz0 (0 : Int32)), (own_blk ((own_cs x0 x1 x2 x3 x4).getD 1 0) zz1 (own_blk ((own_cs x0 x1 x2 x3 x4).getD 0 0) zz0 (0 : Int32)))].getD x4.toNatClampNeg 0)), (.int (4 : Int32)), (.ref b87)]))
  obtain ⟨T172, h172, X172, e172, W172, c172, st172⟩ := own_iastore X163 hx hZ e163 c169 (own_i3 hx4 (by first | rfl | (simp only [own_inc_len]; rfl) | exact own_cs_len _ _ _ _ _)) (g := (mkF m 146 #[.val (.ref a1), .val (.ref a2), .val (.int (3 : Int32)), .val (.ref b1), .val (.ref b44), .val (.int (own_blk ((own_cs x0 x1 x2 x3 x4).getD 2 0) zz2 (own_blk ((own_cs x0 x1 x2 x3 x4).getD 1 0) zz1 (own_blk ((own_cs x0 x1 x2 x3 x4).getD 0 0) zz0 (0 : Int32))))), .val (.ref b77), .val (.ref b87), .val (.int (4 : Int32)), .val (.int x4)] [(.int (((own_inc (own_inc (own_inc (own_inc [(0 : Int32), (0 : Int32), (0 : Int32)] x0) x1) x2) x3).getD x4.toNatClampNeg 0) + (1 : Int32))), (.int x4), (.ref b77), (.int ((own_inc (own_inc (own_inc (own_inc [(0 : Int32), (0 : Int32), (0 : Int32)] x0) x1) x2) x3).getD x4.toNatClampNeg 0)), (.int ([(0 : Int32), (own_blk ((own_cs x0 x1 x2 x3 x4).getD 0 0) zz0 (0 : Int32)), (own_blk ((own_cs x0 x1 x2 x3 x4).getD 1 0) zz1 (own_blk ((own_cs x0 x1 x2 x3 x4).getD 0 0) zz0 (0 : Int32)))].getD x4.toNatClampNeg 0)), (.int (4 : Int32)), (.ref b87)])) rfl rfl (hb hby d2_146)
  have N172 := Fr.snoc X172 N163 ge77
  have c173 : own_Ari Z h172 b77 .int ((own_inc (own_inc (own_inc (own_inc [(0 : Int32), (0 : Int32), (0 : Int32)] x0) x1) x2) x3).set x4.toNatClampNeg (((own_inc (own_inc (own_inc (own_inc [(0 : Int32), (0 : Int32), (0 : Int32)] x0) x1) x2) x3).getD x4.toNatClampNeg 0) + (1 : Int32))) := c172
  have c174 : own_Ari Z h172 a1 .int [x0, x1, x2, x3, x4] := c165.other W172 ne78
  have c175 : own_Ari Z h172 a2 .int [zz0, zz1, zz2] := c166.other W172 ne79
  have c176 : own_Ari Z h172 b1 .int (own_cs x0 x1 x2 x3 x4) := c167.other W172 ne80
  have c177 : own_Ari Z h172 b44 .int [(0 : Int32), (own_blk ((own_cs x0 x1 x2 x3 x4).getD 0 0) zz0 (0 : Int32)), (own_blk ((own_cs x0 x1 x2 x3 x4).getD 1 0) zz1 (own_blk ((own_cs x0 x1 x2 x3 x4).getD 0 0) zz0 (0 : Int32)))] := c168.other W172 ne81
  have c179 : own_Ari Z h172 b87 .int [(([(0 : Int32), (own_blk ((own_cs x0 x1 x2 x3 x4).getD 0 0) zz0 (0 : Int32)), (own_blk ((own_cs x0 x1 x2 x3 x4).getD 1 0) zz1 (own_blk ((own_cs x0 x1 x2 x3 x4).getD 0 0) zz0 (0 : Int32)))].getD x0.toNatClampNeg 0) + (([(0 : Int32), (0 : Int32), (0 : Int32)].getD x0.toNatClampNeg 0) / ([zz0, zz1, zz2].getD x0.toNatClampNeg 0))), (([(0 : Int32), (own_blk ((own_cs x0 x1 x2 x3 x4).getD 0 0) zz0 (0 : Int32)), (own_blk ((own_cs x0 x1 x2 x3 x4).getD 1 0) zz1 (own_blk ((own_cs x0 x1 x2 x3 x4).getD 0 0) zz0 (0 : Int32)))].getD x1.toNatClampNeg 0) + (((own_inc [(0 : Int32), (0 : Int32), (0 : Int32)] x0).getD x1.toNatClampNeg 0) / ([zz0, zz1, zz2].getD x1.toNatClampNeg 0))), (([(0 : Int32), (own_blk ((own_cs x0 x1 x2 x3 x4).getD 0 0) zz0 (0 : Int32)), (own_blk ((own_cs x0 x1 x2 x3 x4).getD 1 0) zz1 (own_blk ((own_cs x0 x1 x2 x3 x4).getD 0 0) zz0 (0 : Int32)))].getD x2.toNatClampNeg 0) + (((own_inc (own_inc [(0 : Int32), (0 : Int32), (0 : Int32)] x0) x1).getD x2.toNatClampNeg 0) / ([zz0, zz1, zz2].getD x2.toNatClampNeg 0))), (([(0 : Int32), (own_blk ((own_cs x0 x1 x2 x3 x4).getD 0 0) zz0 (0 : Int32)), (own_blk ((own_cs x0 x1 x2 x3 x4).getD 1 0) zz1 (own_blk ((own_cs x0 x1 x2 x3 x4).getD 0 0) zz0 (0 : Int32)))].getD x3.toNatClampNeg 0) + (((own_inc (own_inc (own_inc [(0 : Int32), (0 : Int32), (0 : Int32)] x0) x1) x2).getD x3.toNatClampNeg 0) / ([zz0, zz1, zz2].getD x3.toNatClampNeg 0))), (0 : Int32)] := c164.other W172 (Ne.symm ne92)
  have K172 : Keep h0 h172 [] := K163.wr W172 (Or.inr sz77)
  refine own_step st172 ?_
  clear K163 N163 W172 X163 c164 c165 c166 c167 c168 c169 c172 e163 hk171 st172
  show own_G p.tables e below _ (T172.setTop (mkF m 147 #[.val (.ref a1), .val (.ref a2), .val (.int (3 : Int32)), .val (.ref b1), .val (.ref b44), .val (.int (own_blk ((own_cs x0 x1 x2 x3 x4).getD 2 0) zz2 (own_blk ((own_cs x0 x1 x2 x3 x4).getD 1 0) zz1 (own_blk ((own_cs x0 x1 x2 x3 x4).getD 0 0) zz0 (0 : Int32))))), .val (.ref b77), .val (.ref b87), .val (.int (4 : Int32)), .val (.int x4)] [(.int ((own_inc (own_inc (own_inc (own_inc [(0 : Int32), (0 : Int32), (0 : Int32)] x0) x1) x2) x3).getD x4.toNatClampNeg 0)), (.int ([(0 : Int32), (own_blk ((own_cs x0 x1 x2 x3 x4).getD 0 0) zz0 (0 : Int32)), (own_blk ((own_cs x0 x1 x2 x3 x4).getD 1 0) zz1 (own_blk ((own_cs x0 x1 x2 x3 x4).getD 0 0) zz0 (0 : Int32)))].getD x4.toNatClampNeg 0)), (.int (4 : Int32)), (.ref b87)]))
  have c180 : own_Ari Z h172 b77 .int (own_inc (own_inc (own_inc (own_inc (own_inc [(0 : Int32), (0 : Int32), (0 : Int32)] x0) x1) x2) x3) x4) := c173
  refine own_step (fun t k => XS.aloadN X172.here hx rfl (hb hby d2_147) rfl rfl k) ?_
  show own_G p.tables e below _ (T172.setTop (mkF m 148 #[.val (.ref a1), .val (.ref a2), .val (.int (3 : Int32)), .val (.ref b1), .val (.ref b44), .val (.int (own_blk ((own_cs x0 x1 x2 x3 x4).getD 2 0) zz2 (own_blk ((own_cs x0 x1 x2 x3 x4).getD 1 0) zz1 (own_blk ((own_cs x0 x1 x2 x3 x4).getD 0 0) zz0 (0 : Int32))))), .val (.ref b77), .val (.ref b87), .val (.int (4 : Int32)), .val (.int x4)] [(.ref a2), (.int ((own_inc (own_inc (own_inc (own_inc [(0 : Int32), (0 : Int32), (0 : Int32)] x0) x1) x2) x3).getD x4.toNatClampNeg 0)), (.int ([(0 : Int32), (own_blk ((own_cs x0 x1 x2 x3 x4).getD 0 0) zz0 (0 : Int32)), (own_blk ((own_cs x0 x1 x2 x3 x4).getD 1 0) zz1 (own_blk ((own_cs x0 x1 x2 x3 x4).getD 0 0) zz0 (0 : Int32)))].getD x4.toNatClampNeg 0)), (.int (4 : Int32)), (.ref b87)]))
  refine own_step (fun t k => XS.iload X172.here hx rfl (hb hby d2_148) rfl k) ?_
  show own_G p.tables e below _ (T172.setTop (mkF m 150 #[.val (.ref a1), .val (.ref a2), .val (.int (3 : Int32)), .val (.ref b1), .val (.ref b44), .val (.int (own_blk ((own_cs x0 x1 x2 x3 x4).getD 2 0) zz2 (own_blk ((own_cs x0 x1 x2 x3 x4).getD 1 0) zz1 (own_blk ((own_cs x0 x1 x2 x3 x4).getD 0 0) zz0 (0 : Int32))))), .val (.ref b77), .val (.ref b87), .val (.int (4 : Int32)), .val (.int x4)] [(.int x4), (.ref a2), (.int ((own_inc (own_inc (own_inc (own_inc [(0 : Int32), (0 : Int32), (0 : Int32)] x0) x1) x2) x3).getD x4.toNatClampNeg 0)), (.int ([(0 : Int32), (own_blk ((own_cs x0 x1 x2 x3 x4).getD 0 0) zz0 (0 : Int32)), (own_blk ((own_cs x0 x1 x2 x3 x4).getD 1 0) zz1 (own_blk ((own_cs x0 x1 x2 x3 x4).getD 0 0) zz0 (0 : Int32)))].getD x4.toNatClampNeg 0)), (.int (4 : Int32)), (.ref b87)]))
  refine own_step (own_iaload X172 hx hZ e172 c175 (own_i3 hx4 (by first | rfl | (simp only [own_inc_len]; rfl) | exact own_cs_len _ _ _ _ _)) (g := (mkF m 150 #[.val (.ref a1), .val (.ref a2), .val (.int (3 : Int32)), .val (.ref b1), .val (.ref b44), .val (.int (own_blk ((own_cs x0 x1 x2 x3 x4).getD 2 0) zz2 (own_blk ((own_cs x0 x1 x2 x3 x4).getD 1 0) zz1 (own_blk ((own_cs x0 x1 x2 x3 x4).getD 0 0) zz0 (0 : Int32))))), .val (.ref b77), .val (.ref b87), .val (.int (4 : Int32)), .val (.int x4)] [(.int x4), (.ref a2), (.int ((own_inc (own_inc (own_inc (own_inc [(0 : Int32), (0 : Int32), (0 : Int32)] x0) x1) x2) x3).getD x4.toNatClampNeg 0)), (.int ([(0 : Int32), (own_blk ((own_cs x0 x1 x2 x3 x4).getD 0 0) zz0 (0 : Int32)), (own_blk ((own_cs x0 x1 x2 x3 x4).getD 1 0) zz1 (own_blk ((own_cs x0 x1 x2 x3 x4).getD 0 0) zz0 (0 : Int32)))].getD x4.toNatClampNeg 0)), (.int (4 : Int32)), (.ref b87)])) rfl rfl (hb hby d2_150)) ?_
  show own_G p.tables e below _ (T172.setTop (mkF m 151 #[.val (.ref a1), .val (.ref a2), .val (.int (3 : Int32)), .val (.ref b1), .val (.ref b44), .val (.int (own_blk ((own_cs x0 x1 x2 x3 x4).getD 2 0) zz2 (own_blk ((own_cs x0 x1 x2 x3 x4).getD 1 0) zz1 (own_blk ((own_cs x0 x1 x2 x3 x4).getD 0 0) zz0 (0 : Int32))))), .val (.ref b77), .val (.ref b87), .val (.int (4 : Int32)), .val (.int x4)] [(.int ([zz0, zz1, zz2].getD x4.toNatClampNeg 0)), (.int ((own_inc (own_inc (own_inc (own_inc [(0 : Int32), (0 : Int32), (0 : Int32)] x0) x1) x2) x3).getD x4.toNatClampNeg 0)), (.int ([(0 : Int32), (own_blk ((own_cs x0 x1 x2 x3 x4).getD 0 0) zz0 (0 : Int32)), (own_blk ((own_cs x0 x1 x2 x3 x4).getD 1 0) zz1 (own_blk ((own_cs x0 x1 x2 x3 x4).getD 0 0) zz0 (0 : Int32)))].getD x4.toNatClampNeg 0)), (.int (4 : Int32)), (.ref b87)]))
  refine own_step (fun t k => XS.idiv X172.here hx rfl (hb hby d2_151) rfl (own_nz3 hx4 hz0 hz1 hz2) k) ?_
  show own_G p.tables e below _ (T172.setTop (mkF m 152 #[.val (.ref a1), .val (.ref a2), .val (.int (3 : Int32)), .val (.ref b1), .val (.ref b44), .val (.int (own_blk ((own_cs x0 x1 x2 x3 x4).getD 2 0) zz2 (own_blk ((own_cs x0 x1 x2 x3 x4).getD 1 0) zz1 (own_blk ((own_cs x0 x1 x2 x3 x4).getD 0 0) zz0 (0 : Int32))))), .val (.ref b77), .val (.ref b87), .val (.int (4 : Int32)), .val (.int x4)] [(.int (((own_inc (own_inc (own_inc (own_inc [(0 : Int32), (0 : Int32), (0 : Int32)] x0) x1) x2) x3).getD x4.toNatClampNeg 0) / ([zz0, zz1, zz2].getD x4.toNatClampNeg 0))), (.int ([(0 : Int32), (own_blk ((own_cs x0 x1 x2 x3 x4).getD 0 0) zz0 (0 : Int32)), (own_blk ((own_cs x0 x1 x2 x3 x4).getD 1 0) zz1 (own_blk ((own_cs x0 x1 x2 x3 x4).getD 0 0) zz0 (0 : Int32)))].getD x4.toNatClampNeg 0)), (.int (4 : Int32)), (.ref b87)]))
  refine own_step (fun t k => XS.iadd X172.here hx rfl (hb hby d2_152) rfl k) ?_
  show own_G p.tables e below _ (T172.setTop (mkF m 153 #[.val (.ref a1), .val (.ref a2), .val (.int (3 : Int32)), .val (.ref b1), .val (.ref b44), .val (.int (own_blk ((own_cs x0 x1 x2 x3 x4).getD 2 0) zz2 (own_blk ((own_cs x0 x1 x2 x3 x4).getD 1 0) zz1 (own_blk ((own_cs x0 x1 x2 x3 x4).getD 0 0) zz0 (0 : Int32))))), .val (.ref b77), .val (.ref b87), .val (.int (4 : Int32)), .val (.int x4)] [(.int (([(0 : Int32), (own_blk ((own_cs x0 x1 x2 x3 x4).getD 0 0) zz0 (0 : Int32)), (own_blk ((own_cs x0 x1 x2 x3 x4).getD 1 0) zz1 (own_blk ((own_cs x0 x1 x2 x3 x4).getD 0 0) zz0 (0 : Int32)))].getD x4.toNatClampNeg 0) + (((own_inc (own_inc (own_inc (own_inc [(0 : Int32), (0 : Int32), (0 : Int32)] x0) x1) x2) x3).getD x4.toNatClampNeg 0) / ([zz0, zz1, zz2].getD x4.toNatClampNeg 0)))), (.int (4 : Int32)), (.ref b87)]))
  obtain ⟨T181, h181, X181, e181, W181, c181, st181⟩ := own_iastore X172 hx hZ e172 c179 (own_inb (by decide) (Nat.le_of_ble_eq_true rfl)) (g := (mkF m 153 #[.val (.ref a1), .val (.ref a2), .val (.int (3 : Int32)), .val (.ref b1), .val (.ref b44), .val (.int (own_blk ((own_cs x0 x1 x2 x3 x4).getD 2 0) zz2 (own_blk ((own_cs x0 x1 x2 x3 x4).getD 1 0) zz1 (own_blk ((own_cs x0 x1 x2 x3 x4).getD 0 0) zz0 (0 : Int32))))), .val (.ref b77), .val (.ref b87), .val (.int (4 : Int32)), .val (.int x4)] [(.int (([(0 : Int32), (own_blk ((own_cs x0 x1 x2 x3 x4).getD 0 0) zz0 (0 : Int32)), (own_blk ((own_cs x0 x1 x2 x3 x4).getD 1 0) zz1 (own_blk ((own_cs x0 x1 x2 x3 x4).getD 0 0) zz0 (0 : Int32)))].getD x4.toNatClampNeg 0) + (((own_inc (own_inc (own_inc (own_inc [(0 : Int32), (0 : Int32), (0 : Int32)] x0) x1) x2) x3).getD x4.toNatClampNeg 0) / ([zz0, zz1, zz2].getD x4.toNatClampNeg 0)))), (.int (4 : Int32)), (.ref b87)])) rfl rfl (hb hby d2_153)
  have N181 := Fr.snoc X181 N172 ge87
  have c182 : own_Ari Z h181 b87 .int [(([(0 : Int32), (own_blk ((own_cs x0 x1 x2 x3 x4).getD 0 0) zz0 (0 : Int32)), (own_blk ((own_cs x0 x1 x2 x3 x4).getD 1 0) zz1 (own_blk ((own_cs x0 x1 x2 x3 x4).getD 0 0) zz0 (0 : Int32)))].getD x0.toNatClampNeg 0) + (([(0 : Int32), (0 : Int32), (0 : Int32)].getD x0.toNatClampNeg 0) / ([zz0, zz1, zz2].getD x0.toNatClampNeg 0))), (([(0 : Int32), (own_blk ((own_cs x0 x1 x2 x3 x4).getD 0 0) zz0 (0 : Int32)), (own_blk ((own_cs x0 x1 x2 x3 x4).getD 1 0) zz1 (own_blk ((own_cs x0 x1 x2 x3 x4).getD 0 0) zz0 (0 : Int32)))].getD x1.toNatClampNeg 0) + (((own_inc [(0 : Int32), (0 : Int32), (0 : Int32)] x0).getD x1.toNatClampNeg 0) / ([zz0, zz1, zz2].getD x1.toNatClampNeg 0))), (([(0 : Int32), (own_blk ((own_cs x0 x1 x2 x3 x4).getD 0 0) zz0 (0 : Int32)), (own_blk ((own_cs x0 x1 x2 x3 x4).getD 1 0) zz1 (own_blk ((own_cs x0 x1 x2 x3 x4).getD 0 0) zz0 (0 : Int32)))].getD x2.toNatClampNeg 0) + (((own_inc (own_inc [(0 : Int32), (0 : Int32), (0 : Int32)] x0) x1).getD x2.toNatClampNeg 0) / ([zz0, zz1, zz2].getD x2.toNatClampNeg 0))), (([(0 : Int32), (own_blk ((own_cs x0 x1 x2 x3 x4).getD 0 0) zz0 (0 : Int32)), (own_blk ((own_cs x0 x1 x2 x3 x4).getD 1 0) zz1 (own_blk ((own_cs x0 x1 x2 x3 x4).getD 0 0) zz0 (0 : Int32)))].getD x3.toNatClampNeg 0) + (((own_inc (own_inc (own_inc [(0 : Int32), (0 : Int32), (0 : Int32)] x0) x1) x2).getD x3.toNatClampNeg 0) / ([zz0, zz1, zz2].getD x3.toNatClampNeg 0))), (([(0 : Int32), (own_blk ((own_cs x0 x1 x2 x3 x4).getD 0 0) zz0 (0 : Int32)), (own_blk ((own_cs x0 x1 x2 x3 x4).getD 1 0) zz1 (own_blk ((own_cs x0 x1 x2 x3 x4).getD 0 0) zz0 (0 : Int32)))].getD x4.toNatClampNeg 0) + (((own_inc (own_inc (own_inc (own_inc [(0 : Int32), (0 : Int32), (0 : Int32)] x0) x1) x2) x3).getD x4.toNatClampNeg 0) / ([zz0, zz1, zz2].getD x4.toNatClampNeg 0)))] := c181
  have c183 : own_Ari Z h181 a1 .int [x0, x1, x2, x3, x4] := c174.other W181 ne88
  have c184 : own_Ari Z h181 a2 .int [zz0, zz1, zz2] := c175.other W181 ne89
  have c185 : own_Ari Z h181 b1 .int (own_cs x0 x1 x2 x3 x4) := c176.other W181 ne90
  have c186 : own_Ari Z h181 b44 .int [(0 : Int32), (own_blk ((own_cs x0 x1 x2 x3 x4).getD 0 0) zz0 (0 : Int32)), (own_blk ((own_cs x0 x1 x2 x3 x4).getD 1 0) zz1 (own_blk ((own_cs x0 x1 x2 x3 x4).getD 0 0) zz0 (0 : Int32)))] := c177.other W181 ne91
  have c187 : own_Ari Z h181 b77 .int (own_inc (own_inc (own_inc (own_inc (own_inc [(0 : Int32), (0 : Int32), (0 : Int32)] x0) x1) x2) x3) x4) := c180.other W181 ne92
  have K181 : Keep h0 h181 [] := K172.wr W181 (Or.inr sz87)
  refine own_step st181 ?_
  clear K172 N172 W181 X172 c173 c174 c175 c176 c177 c179 c180 c181 e172 st181
  show own_G p.tables e below _ (T181.setTop (mkF m 154 #[.val (.ref a1), .val (.ref a2), .val (.int (3 : Int32)), .val (.ref b1), .val (.ref b44), .val (.int (own_blk ((own_cs x0 x1 x2 x3 x4).getD 2 0) zz2 (own_blk ((own_cs x0 x1 x2 x3 x4).getD 1 0) zz1 (own_blk ((own_cs x0 x1 x2 x3 x4).getD 0 0) zz0 (0 : Int32))))), .val (.ref b77), .val (.ref b87), .val (.int (4 : Int32)), .val (.int x4)] []))
  refine own_step (fun t k => XS.iinc X181.here hx rfl (hb hby d2_154) rfl (l' := #[.val (.ref a1), .val (.ref a2), .val (.int (3 : Int32)), .val (.ref b1), .val (.ref b44), .val (.int (own_blk ((own_cs x0 x1 x2 x3 x4).getD 2 0) zz2 (own_blk ((own_cs x0 x1 x2 x3 x4).getD 1 0) zz1 (own_blk ((own_cs x0 x1 x2 x3 x4).getD 0 0) zz0 (0 : Int32))))), .val (.ref b77), .val (.ref b87), .val (.int (5 : Int32)), .val (.int x4)]) rfl k) ?_
  show own_G p.tables e below _ (T181.setTop (mkF m 157 #[.val (.ref a1), .val (.ref a2), .val (.int (3 : Int32)), .val (.ref b1), .val (.ref b44), .val (.int (own_blk ((own_cs x0 x1 x2 x3 x4).getD 2 0) zz2 (own_blk ((own_cs x0 x1 x2 x3 x4).getD 1 0) zz1 (own_blk ((own_cs x0 x1 x2 x3 x4).getD 0 0) zz0 (0 : Int32))))), .val (.ref b77), .val (.ref b87), .val (.int (5 : Int32)), .val (.int x4)] []))
  refine own_step (fun t k => XS.goto X181.here hx rfl (pc0 := 157) (pc' := 115) rfl (hb hby d2_157) (by decide) (by decide) k) ?_
  show own_G p.tables e below _ (T181.setTop (mkF m 115 #[.val (.ref a1), .val (.ref a2), .val (.int (3 : Int32)), .val (.ref b1), .val (.ref b44), .val (.int (own_blk ((own_cs x0 x1 x2 x3 x4).getD 2 0) zz2 (own_blk ((own_cs x0 x1 x2 x3 x4).getD 1 0) zz1 (own_blk ((own_cs x0 x1 x2 x3 x4).getD 0 0) zz0 (0 : Int32))))), .val (.ref b77), .val (.ref b87), .val (.int (5 : Int32)), .val (.int x4)] []))
  refine own_step (fun t k => XS.iload X181.here hx rfl (hb hby d2_115) rfl k) ?_
  show own_G p.tables e below _ (T181.setTop (mkF m 117 #[.val (.ref a1), .val (.ref a2), .val (.int (3 : Int32)), .val (.ref b1), .val (.ref b44), .val (.int (own_blk ((own_cs x0 x1 x2 x3 x4).getD 2 0) zz2 (own_blk ((own_cs x0 x1 x2 x3 x4).getD 1 0) zz1 (own_blk ((own_cs x0 x1 x2 x3 x4).getD 0 0) zz0 (0 : Int32))))), .val (.ref b77), .val (.ref b87), .val (.int (5 : Int32)), .val (.int x4)] [(.int (5 : Int32))]))
  refine own_step (fun t k => XS.aloadN X181.here hx rfl (hb hby d2_117) rfl rfl k) ?_
  show own_G p.tables e below _ (T181.setTop (mkF m 118 #[.val (.ref a1), .val (.ref a2), .val (.int (3 : Int32)), .val (.ref b1), .val (.ref b44), .val (.int (own_blk ((own_cs x0 x1 x2 x3 x4).getD 2 0) zz2 (own_blk ((own_cs x0 x1 x2 x3 x4).getD 1 0) zz1 (own_blk ((own_cs x0 x1 x2 x3 x4).getD 0 0) zz0 (0 : Int32))))), .val (.ref b77), .val (.ref b87), .val (.int (5 : Int32)), .val (.int x4)] [(.ref a1), (.int (5 : Int32))]))
  refine own_step (own_lenI X181 hx hZ e181 c183 (g := (mkF m 118 #[.val (.ref a1), .val (.ref a2), .val (.int (3 : Int32)), .val (.ref b1), .val (.ref b44), .val (.int (own_blk ((own_cs x0 x1 x2 x3 x4).getD 2 0) zz2 (own_blk ((own_cs x0 x1 x2 x3 x4).getD 1 0) zz1 (own_blk ((own_cs x0 x1 x2 x3 x4).getD 0 0) zz0 (0 : Int32))))), .val (.ref b77), .val (.ref b87), .val (.int (5 : Int32)), .val (.int x4)] [(.ref a1), (.int (5 : Int32))])) rfl rfl (hb hby d2_118)) ?_
  show own_G p.tables e below _ (T181.setTop (mkF m 119 #[.val (.ref a1), .val (.ref a2), .val (.int (3 : Int32)), .val (.ref b1), .val (.ref b44), .val (.int (own_blk ((own_cs x0 x1 x2 x3 x4).getD 2 0) zz2 (own_blk ((own_cs x0 x1 x2 x3 x4).getD 1 0) zz1 (own_blk ((own_cs x0 x1 x2 x3 x4).getD 0 0) zz0 (0 : Int32))))), .val (.ref b77), .val (.ref b87), .val (.int (5 : Int32)), .val (.int x4)] [(.int (5 : Int32)), (.int (5 : Int32))]))
  have hk189 : ¬ ((5 : Int32) < (5 : Int32)) := (by decide)
  refine own_step (fun t k => XS.icmpYes X181.here hx rfl (pc0 := 119) (pc' := 160) rfl (hb hby d2_119) rfl ((flt hk189).2.1) (by decide) (by decide) k) ?_
  show own_G p.tables e below _ (T181.setTop (mkF m 160 #[.val (.ref a1), .val (.ref a2), .val (.int (3 : Int32)), .val (.ref b1), .val (.ref b44), .val (.int (own_blk ((own_cs x0 x1 x2 x3 x4).getD 2 0) zz2 (own_blk ((own_cs x0 x1 x2 x3 x4).getD 1 0) zz1 (own_blk ((own_cs x0 x1 x2 x3 x4).getD 0 0) zz0 (0 : Int32))))), .val (.ref b77), .val (.ref b87), .val (.int (5 : Int32)), .val (.int x4)] []))
  refine own_step (fun t k => XS.aload X181.here hx rfl (hb hby d2_160) rfl rfl k) ?_
  show own_G p.tables e below _ (T181.setTop (mkF m 162 #[.val (.ref a1), .val (.ref a2), .val (.int (3 : Int32)), .val (.ref b1), .val (.ref b44), .val (.int (own_blk ((own_cs x0 x1 x2 x3 x4).getD 2 0) zz2 (own_blk ((own_cs x0 x1 x2 x3 x4).getD 1 0) zz1 (own_blk ((own_cs x0 x1 x2 x3 x4).getD 0 0) zz0 (0 : Int32))))), .val (.ref b77), .val (.ref b87), .val (.int (5 : Int32)), .val (.int x4)] [(.ref b87)]))
  obtain ⟨fs, hr, hrun, hended, hW, hsame⟩ := X181.leave (v := some (.ref b87)) (fun h => by rw [Bd.returns] at h; cases h)
  refine own_done (own_retA X181 hx Bd.returns (by decide) rfl (hb hby d2_162) hr) hrun hended ⟨_, _, rfl, ?_, ⟨_, rfl⟩, hW, hsame.mono (by decide) (by decide)⟩
  show Q2 Z a1 a2 x0 x1 x2 x3 x4 zz0 zz1 zz2 h0 n0 _ T181.heap _
  rw [e181]
  exact ⟨b87, rfl, N181, K181, c182, sz87⟩
theorem d3_0 : decode method_5_code 0 = .ok (.iconst 0, 1) := by decide +kernel
theorem d3_1 : decode method_5_code 1 = .ok (.istore_n 3, 1) := by decide +kernel
theorem d3_2 : decode method_5_code 2 = .ok (.iload_n 1, 1) := by decide +kernel
theorem d3_3 : decode method_5_code 3 = .ok (.ifCond .le 13, 3) := by decide +kernel
theorem d3_6 : decode method_5_code 6 = .ok (.aload_n 0, 1) := by decide +kernel
theorem d3_7 : decode method_5_code 7 = .ok (.iconst 0, 1) := by decide +kernel
theorem d3_8 : decode method_5_code 8 = .ok (.iaload, 1) := by decide +kernel
theorem d3_9 : decode method_5_code 9 = .ok (.iload_n 2, 1) := by decide +kernel
theorem d3_10 : decode method_5_code 10 = .ok (.if_icmp .ne 6, 3) := by decide +kernel
theorem d3_13 : decode method_5_code 13 = .ok (.iinc 3 1, 3) := by decide +kernel
theorem d3_16 : decode method_5_code 16 = .ok (.iload_n 1, 1) := by decide +kernel
theorem d3_17 : decode method_5_code 17 = .ok (.iconst 1, 1) := by decide +kernel
theorem d3_18 : decode method_5_code 18 = .ok (.if_icmp .le 13, 3) := by decide +kernel
theorem d3_21 : decode method_5_code 21 = .ok (.aload_n 0, 1) := by decide +kernel
theorem d3_22 : decode method_5_code 22 = .ok (.iconst 1, 1) := by decide +kernel
theorem d3_23 : decode method_5_code 23 = .ok (.iaload, 1) := by decide +kernel
theorem d3_24 : decode method_5_code 24 = .ok (.iload_n 2, 1) := by decide +kernel
theorem d3_25 : decode method_5_code 25 = .ok (.if_icmp .ne 6, 3) := by decide +kernel
theorem d3_28 : decode method_5_code 28 = .ok (.iinc 3 1, 3) := by decide +kernel
theorem d3_31 : decode method_5_code 31 = .ok (.iload_n 1, 1) := by decide +kernel
theorem d3_32 : decode method_5_code 32 = .ok (.iconst 2, 1) := by decide +kernel
theorem d3_33 : decode method_5_code 33 = .ok (.if_icmp .le 13, 3) := by decide +kernel
theorem d3_36 : decode method_5_code 36 = .ok (.aload_n 0, 1) := by decide +kernel
theorem d3_37 : decode method_5_code 37 = .ok (.iconst 2, 1) := by decide +kernel
theorem d3_38 : decode method_5_code 38 = .ok (.iaload, 1) := by decide +kernel
theorem d3_39 : decode method_5_code 39 = .ok (.iload_n 2, 1) := by decide +kernel
theorem d3_40 : decode method_5_code 40 = .ok (.if_icmp .ne 6, 3) := by decide +kernel
theorem d3_43 : decode method_5_code 43 = .ok (.iinc 3 1, 3) := by decide +kernel
theorem d3_46 : decode method_5_code 46 = .ok (.iload_n 1, 1) := by decide +kernel
theorem d3_47 : decode method_5_code 47 = .ok (.iconst 3, 1) := by decide +kernel
theorem d3_48 : decode method_5_code 48 = .ok (.if_icmp .le 13, 3) := by decide +kernel
theorem d3_51 : decode method_5_code 51 = .ok (.aload_n 0, 1) := by decide +kernel
theorem d3_52 : decode method_5_code 52 = .ok (.iconst 3, 1) := by decide +kernel
theorem d3_53 : decode method_5_code 53 = .ok (.iaload, 1) := by decide +kernel
theorem d3_54 : decode method_5_code 54 = .ok (.iload_n 2, 1) := by decide +kernel
theorem d3_55 : decode method_5_code 55 = .ok (.if_icmp .ne 6, 3) := by decide +kernel
theorem d3_58 : decode method_5_code 58 = .ok (.iinc 3 1, 3) := by decide +kernel
theorem d3_61 : decode method_5_code 61 = .ok (.iload_n 1, 1) := by decide +kernel
theorem d3_62 : decode method_5_code 62 = .ok (.iconst 4, 1) := by decide +kernel
theorem d3_63 : decode method_5_code 63 = .ok (.if_icmp .le 13, 3) := by decide +kernel
theorem d3_66 : decode method_5_code 66 = .ok (.aload_n 0, 1) := by decide +kernel
theorem d3_67 : decode method_5_code 67 = .ok (.iconst 4, 1) := by decide +kernel
theorem d3_68 : decode method_5_code 68 = .ok (.iaload, 1) := by decide +kernel
theorem d3_69 : decode method_5_code 69 = .ok (.iload_n 2, 1) := by decide +kernel
theorem d3_70 : decode method_5_code 70 = .ok (.if_icmp .ne 6, 3) := by decide +kernel
theorem d3_73 : decode method_5_code 73 = .ok (.iinc 3 1, 3) := by decide +kernel
theorem d3_76 : decode method_5_code 76 = .ok (.iload_n 3, 1) := by decide +kernel
theorem d3_77 : decode method_5_code 77 = .ok (.ireturn, 1) := by decide +kernel
theorem pn_3_m5 : plainName "com/example/stevedore/stevedore/MoveGraphCopiesPinLaw" = true := by first | (simp [plainName, overriddenIn]; done) | decide +kernel
theorem ef_3_m5 (m : MethodId) (a1 : Addr) (p3 : Int32) : entryFrame m #[(.ref a1), (.int (5 : Int32)), (.int p3)] 4 = mkF m 0 #[.val (.ref a1), .val (.int (5 : Int32)), .val (.int p3), .unset] [] := by first | (simp [entryFrame, mkF, argsToLocals, Value.category]; done) | rfl
def Q3_m5 (Z : State) (a1 : Addr) (p3 : Int32) (x0 : Int32) (x1 : Int32) (x2 : Int32) (x3 : Int32) (x4 : Int32) (h0 : Heap) (n0 : Nat) (v : Option Value) (h : Heap) (L : List Loc) : Prop := v = some (.int (own_st (own_st (own_st (own_st (own_st (0 : Int32) x0 p3) x1 p3) x2 p3) x3 p3) x4 p3)) ∧ Fr n0 L ∧ h = h0
set_option maxRecDepth 65536 in
set_option maxHeartbeats 40000000 in
theorem rm3_m5 (l : Launch) (Z : State) (a0 : Array Value) (hw : ∀ d ∈ tables_1, d.before a0 Z = true) (ws : List Jvm.Cond) (a1 : Addr) (p3 : Int32) (x0 : Int32) (x1 : Int32) (x2 : Int32) (x3 : Int32) (x4 : Int32) (h0 : Heap) (n0 : Nat) (Z0 : n0 ≤ h0.size) (fp0 : own_Ari Z h0 a1 .int [x0, x1, x2, x3, x4]) :
    MetFree l (⟨"com/example/stevedore/stevedore/MoveGraphCopiesPinLaw", "before", "([III)I"⟩ : MethodName) (head1 (Jvm.Cond.code (⟨"com/example/stevedore/stevedore/MoveGraphCopiesPinLaw", "before", "([III)I"⟩ : MethodName) method_5_code 4 (some .int) :: ws) ({ frames := 0, cells := 0, slots := 0, locals := 0 } : Room)) (fun a U => a = #[(.ref a1), (.int (5 : Int32)), (.int p3)] ∧ Z.Warmed39 U.vm ∧ U.heap = h0) (fun _ _ _ _ _ => True) (fun _ U o U' => ∃ v L, o = .returned v ∧ Q3_m5 Z a1 p3 x0 x1 x2 x3 x4 h0 n0 v U'.heap L ∧ FrameEnd U o U' L ({ frames := 0, cells := 0, slots := 0, locals := 0 } : Room).cells ({ frames := 0, cells := 0, slots := 0, locals := 0 } : Room).slots) := by
  refine MetFree.of_bodySF (plainFor_of_name pn_3_m5) hisR ?_
  intro p e s m args below meth c s₁ Bd hml0 hP hK
  obtain ⟨rfl, hZ, hh⟩ := hP
  have hx := Bd.exec
  have hby := Bd.bytes
  have hml : c.maxLocals = 4 := hml0
  have hown : s.vm.findClass "com/example/stevedore/stevedore/MoveGraphCopiesPinLaw" = some m.cls := findClass_of_methodNamed Bd.named
  have hnm := (name_of_methodNamed Bd.named Bd.method).1
  have X0 : Stand p l e ({ frames := 0, cells := 0, slots := 0, locals := 0 } : Room) s m #[(.ref a1), (.int (5 : Int32)), (.int p3)] below meth c s₁ [] 0 0 := Stand.of_body Bd
  have e0 : s₁.heap = h0 := by rw [← hh, Bd.state]; rfl
  have N0 := Fr.nil n0
  refine own_start (fun t k => castTop (ef_3_m5 m a1 p3) k) ?_
  show own_G p.tables e below _ (s₁.setTop (mkF m 0 #[.val (.ref a1), .val (.int (5 : Int32)), .val (.int p3), .unset] []))
  refine own_step (fun t k => XS.iconst X0.here hx rfl (hb hby d3_0) k) ?_
  show own_G p.tables e below _ (s₁.setTop (mkF m 1 #[.val (.ref a1), .val (.int (5 : Int32)), .val (.int p3), .unset] [(.int (0 : Int32))]))
  refine own_step (fun t k => XS.istoreN X0.here hx rfl (hb hby d3_1) rfl (l' := #[.val (.ref a1), .val (.int (5 : Int32)), .val (.int p3), .val (.int (0 : Int32))]) rfl k) ?_
  show own_G p.tables e below _ (s₁.setTop (mkF m 2 #[.val (.ref a1), .val (.int (5 : Int32)), .val (.int p3), .val (.int (0 : Int32))] []))
  refine own_step (fun t k => XS.iloadN X0.here hx rfl (hb hby d3_2) rfl k) ?_
  show own_G p.tables e below _ (s₁.setTop (mkF m 3 #[.val (.ref a1), .val (.int (5 : Int32)), .val (.int p3), .val (.int (0 : Int32))] [(.int (5 : Int32))]))
  have hk1 : (0 : Int32) < (5 : Int32) := (by decide)
  refine own_step (fun t k => XS.ifNo X0.here hx rfl (hb hby d3_3) rfl ((if0 _ _).trans (tlt hk1).2.2.2) k) ?_
  show own_G p.tables e below _ (s₁.setTop (mkF m 6 #[.val (.ref a1), .val (.int (5 : Int32)), .val (.int p3), .val (.int (0 : Int32))] []))
  refine own_step (fun t k => XS.aloadN X0.here hx rfl (hb hby d3_6) rfl rfl k) ?_
  show own_G p.tables e below _ (s₁.setTop (mkF m 7 #[.val (.ref a1), .val (.int (5 : Int32)), .val (.int p3), .val (.int (0 : Int32))] [(.ref a1)]))
  refine own_step (fun t k => XS.iconst X0.here hx rfl (hb hby d3_7) k) ?_
  show own_G p.tables e below _ (s₁.setTop (mkF m 8 #[.val (.ref a1), .val (.int (5 : Int32)), .val (.int p3), .val (.int (0 : Int32))] [(.int (0 : Int32)), (.ref a1)]))
  refine own_step (own_iaload X0 hx hZ e0 fp0 (own_inb (by decide) (Nat.le_of_ble_eq_true rfl)) (g := (mkF m 8 #[.val (.ref a1), .val (.int (5 : Int32)), .val (.int p3), .val (.int (0 : Int32))] [(.int (0 : Int32)), (.ref a1)])) rfl rfl (hb hby d3_8)) ?_
  show own_G p.tables e below _ (s₁.setTop (mkF m 9 #[.val (.ref a1), .val (.int (5 : Int32)), .val (.int p3), .val (.int (0 : Int32))] [(.int x0)]))
  refine own_step (fun t k => XS.iloadN X0.here hx rfl (hb hby d3_9) rfl k) ?_
  show own_G p.tables e below _ (s₁.setTop (mkF m 10 #[.val (.ref a1), .val (.int (5 : Int32)), .val (.int p3), .val (.int (0 : Int32))] [(.int p3), (.int x0)]))
  refine own_imp (B := s₁.setTop (mkF m 16 #[.val (.ref a1), .val (.int (5 : Int32)), .val (.int p3), .val (.int (if x0 = p3 then (1 : Int32) else (0 : Int32)))] [])) (fun k0 => ?_) ?_
  · by_cases hc2 : x0 = p3
    · simp only [if_pos hc2] at k0
      refine own_step (fun t k => XS.icmpNo X0.here hx rfl (hb hby d3_10) rfl ((teq hc2).2) k) ?_
      show own_G p.tables e below _ (s₁.setTop (mkF m 13 #[.val (.ref a1), .val (.int (5 : Int32)), .val (.int p3), .val (.int (0 : Int32))] []))
      refine own_step (fun t k => XS.iinc X0.here hx rfl (hb hby d3_13) rfl (l' := #[.val (.ref a1), .val (.int (5 : Int32)), .val (.int p3), .val (.int (1 : Int32))]) rfl k) ?_
      show own_G p.tables e below _ (s₁.setTop (mkF m 16 #[.val (.ref a1), .val (.int (5 : Int32)), .val (.int p3), .val (.int (1 : Int32))] []))
      exact k0
    · simp only [if_neg hc2] at k0
      refine own_step (fun t k => XS.icmpYes X0.here hx rfl (pc0 := 10) (pc' := 16) rfl (hb hby d3_10) rfl ((feq hc2).2) (by decide) (by decide) k) ?_
      show own_G p.tables e below _ (s₁.setTop (mkF m 16 #[.val (.ref a1), .val (.int (5 : Int32)), .val (.int p3), .val (.int (0 : Int32))] []))
      exact k0
  show own_G p.tables e below _ (s₁.setTop (mkF m 16 #[.val (.ref a1), .val (.int (5 : Int32)), .val (.int p3), .val (.int (if x0 = p3 then (1 : Int32) else (0 : Int32)))] []))
  show own_G p.tables e below _ (s₁.setTop (mkF m 16 #[.val (.ref a1), .val (.int (5 : Int32)), .val (.int p3), .val (.int (own_st (0 : Int32) x0 p3))] []))
  refine own_step (fun t k => XS.iloadN X0.here hx rfl (hb hby d3_16) rfl k) ?_
  show own_G p.tables e below _ (s₁.setTop (mkF m 17 #[.val (.ref a1), .val (.int (5 : Int32)), .val (.int p3), .val (.int (own_st (0 : Int32) x0 p3))] [(.int (5 : Int32))]))
  refine own_step (fun t k => XS.iconst X0.here hx rfl (hb hby d3_17) k) ?_
  show own_G p.tables e below _ (s₁.setTop (mkF m 18 #[.val (.ref a1), .val (.int (5 : Int32)), .val (.int p3), .val (.int (own_st (0 : Int32) x0 p3))] [(.int (1 : Int32)), (.int (5 : Int32))]))
  have hk3 : (1 : Int32) < (5 : Int32) := (by decide)
  refine own_step (fun t k => XS.icmpNo X0.here hx rfl (hb hby d3_18) rfl ((tlt hk3).2.2.2) k) ?_
  show own_G p.tables e below _ (s₁.setTop (mkF m 21 #[.val (.ref a1), .val (.int (5 : Int32)), .val (.int p3), .val (.int (own_st (0 : Int32) x0 p3))] []))
  refine own_step (fun t k => XS.aloadN X0.here hx rfl (hb hby d3_21) rfl rfl k) ?_
  show own_G p.tables e below _ (s₁.setTop (mkF m 22 #[.val (.ref a1), .val (.int (5 : Int32)), .val (.int p3), .val (.int (own_st (0 : Int32) x0 p3))] [(.ref a1)]))
  refine own_step (fun t k => XS.iconst X0.here hx rfl (hb hby d3_22) k) ?_
  show own_G p.tables e below _ (s₁.setTop (mkF m 23 #[.val (.ref a1), .val (.int (5 : Int32)), .val (.int p3), .val (.int (own_st (0 : Int32) x0 p3))] [(.int (1 : Int32)), (.ref a1)]))
  refine own_step (own_iaload X0 hx hZ e0 fp0 (own_inb (by decide) (Nat.le_of_ble_eq_true rfl)) (g := (mkF m 23 #[.val (.ref a1), .val (.int (5 : Int32)), .val (.int p3), .val (.int (own_st (0 : Int32) x0 p3))] [(.int (1 : Int32)), (.ref a1)])) rfl rfl (hb hby d3_23)) ?_
  show own_G p.tables e below _ (s₁.setTop (mkF m 24 #[.val (.ref a1), .val (.int (5 : Int32)), .val (.int p3), .val (.int (own_st (0 : Int32) x0 p3))] [(.int x1)]))
  refine own_step (fun t k => XS.iloadN X0.here hx rfl (hb hby d3_24) rfl k) ?_
  show own_G p.tables e below _ (s₁.setTop (mkF m 25 #[.val (.ref a1), .val (.int (5 : Int32)), .val (.int p3), .val (.int (own_st (0 : Int32) x0 p3))] [(.int p3), (.int x1)]))
  refine own_imp (B := s₁.setTop (mkF m 31 #[.val (.ref a1), .val (.int (5 : Int32)), .val (.int p3), .val (.int (if x1 = p3 then ((own_st (0 : Int32) x0 p3) + (1 : Int32)) else (own_st (0 : Int32) x0 p3)))] [])) (fun k0 => ?_) ?_
  · by_cases hc4 : x1 = p3
    · simp only [if_pos hc4] at k0
      refine own_step (fun t k => XS.icmpNo X0.here hx rfl (hb hby d3_25) rfl ((teq hc4).2) k) ?_
      show own_G p.tables e below _ (s₁.setTop (mkF m 28 #[.val (.ref a1), .val (.int (5 : Int32)), .val (.int p3), .val (.int (own_st (0 : Int32) x0 p3))] []))
      refine own_step (fun t k => XS.iinc X0.here hx rfl (hb hby d3_28) rfl (l' := #[.val (.ref a1), .val (.int (5 : Int32)), .val (.int p3), .val (.int ((own_st (0 : Int32) x0 p3) + (1 : Int32)))]) rfl k) ?_
      show own_G p.tables e below _ (s₁.setTop (mkF m 31 #[.val (.ref a1), .val (.int (5 : Int32)), .val (.int p3), .val (.int ((own_st (0 : Int32) x0 p3) + (1 : Int32)))] []))
      exact k0
    · simp only [if_neg hc4] at k0
      refine own_step (fun t k => XS.icmpYes X0.here hx rfl (pc0 := 25) (pc' := 31) rfl (hb hby d3_25) rfl ((feq hc4).2) (by decide) (by decide) k) ?_
      show own_G p.tables e below _ (s₁.setTop (mkF m 31 #[.val (.ref a1), .val (.int (5 : Int32)), .val (.int p3), .val (.int (own_st (0 : Int32) x0 p3))] []))
      exact k0
  show own_G p.tables e below _ (s₁.setTop (mkF m 31 #[.val (.ref a1), .val (.int (5 : Int32)), .val (.int p3), .val (.int (if x1 = p3 then ((own_st (0 : Int32) x0 p3) + (1 : Int32)) else (own_st (0 : Int32) x0 p3)))] []))
  show own_G p.tables e below _ (s₁.setTop (mkF m 31 #[.val (.ref a1), .val (.int (5 : Int32)), .val (.int p3), .val (.int (own_st (own_st (0 : Int32) x0 p3) x1 p3))] []))
  refine own_step (fun t k => XS.iloadN X0.here hx rfl (hb hby d3_31) rfl k) ?_
  show own_G p.tables e below _ (s₁.setTop (mkF m 32 #[.val (.ref a1), .val (.int (5 : Int32)), .val (.int p3), .val (.int (own_st (own_st (0 : Int32) x0 p3) x1 p3))] [(.int (5 : Int32))]))
  refine own_step (fun t k => XS.iconst X0.here hx rfl (hb hby d3_32) k) ?_
  show own_G p.tables e below _ (s₁.setTop (mkF m 33 #[.val (.ref a1), .val (.int (5 : Int32)), .val (.int p3), .val (.int (own_st (own_st (0 : Int32) x0 p3) x1 p3))] [(.int (2 : Int32)), (.int (5 : Int32))]))
  have hk5 : (2 : Int32) < (5 : Int32) := (by decide)
  refine own_step (fun t k => XS.icmpNo X0.here hx rfl (hb hby d3_33) rfl ((tlt hk5).2.2.2) k) ?_
  show own_G p.tables e below _ (s₁.setTop (mkF m 36 #[.val (.ref a1), .val (.int (5 : Int32)), .val (.int p3), .val (.int (own_st (own_st (0 : Int32) x0 p3) x1 p3))] []))
  refine own_step (fun t k => XS.aloadN X0.here hx rfl (hb hby d3_36) rfl rfl k) ?_
  show own_G p.tables e below _ (s₁.setTop (mkF m 37 #[.val (.ref a1), .val (.int (5 : Int32)), .val (.int p3), .val (.int (own_st (own_st (0 : Int32) x0 p3) x1 p3))] [(.ref a1)]))
  refine own_step (fun t k => XS.iconst X0.here hx rfl (hb hby d3_37) k) ?_
  show own_G p.tables e below _ (s₁.setTop (mkF m 38 #[.val (.ref a1), .val (.int (5 : Int32)), .val (.int p3), .val (.int (own_st (own_st (0 : Int32) x0 p3) x1 p3))] [(.int (2 : Int32)), (.ref a1)]))
  refine own_step (own_iaload X0 hx hZ e0 fp0 (own_inb (by decide) (Nat.le_of_ble_eq_true rfl)) (g := (mkF m 38 #[.val (.ref a1), .val (.int (5 : Int32)), .val (.int p3), .val (.int (own_st (own_st (0 : Int32) x0 p3) x1 p3))] [(.int (2 : Int32)), (.ref a1)])) rfl rfl (hb hby d3_38)) ?_
  show own_G p.tables e below _ (s₁.setTop (mkF m 39 #[.val (.ref a1), .val (.int (5 : Int32)), .val (.int p3), .val (.int (own_st (own_st (0 : Int32) x0 p3) x1 p3))] [(.int x2)]))
  refine own_step (fun t k => XS.iloadN X0.here hx rfl (hb hby d3_39) rfl k) ?_
  show own_G p.tables e below _ (s₁.setTop (mkF m 40 #[.val (.ref a1), .val (.int (5 : Int32)), .val (.int p3), .val (.int (own_st (own_st (0 : Int32) x0 p3) x1 p3))] [(.int p3), (.int x2)]))
  refine own_imp (B := s₁.setTop (mkF m 46 #[.val (.ref a1), .val (.int (5 : Int32)), .val (.int p3), .val (.int (if x2 = p3 then ((own_st (own_st (0 : Int32) x0 p3) x1 p3) + (1 : Int32)) else (own_st (own_st (0 : Int32) x0 p3) x1 p3)))] [])) (fun k0 => ?_) ?_
  · by_cases hc6 : x2 = p3
    · simp only [if_pos hc6] at k0
      refine own_step (fun t k => XS.icmpNo X0.here hx rfl (hb hby d3_40) rfl ((teq hc6).2) k) ?_
      show own_G p.tables e below _ (s₁.setTop (mkF m 43 #[.val (.ref a1), .val (.int (5 : Int32)), .val (.int p3), .val (.int (own_st (own_st (0 : Int32) x0 p3) x1 p3))] []))
      refine own_step (fun t k => XS.iinc X0.here hx rfl (hb hby d3_43) rfl (l' := #[.val (.ref a1), .val (.int (5 : Int32)), .val (.int p3), .val (.int ((own_st (own_st (0 : Int32) x0 p3) x1 p3) + (1 : Int32)))]) rfl k) ?_
      show own_G p.tables e below _ (s₁.setTop (mkF m 46 #[.val (.ref a1), .val (.int (5 : Int32)), .val (.int p3), .val (.int ((own_st (own_st (0 : Int32) x0 p3) x1 p3) + (1 : Int32)))] []))
      exact k0
    · simp only [if_neg hc6] at k0
      refine own_step (fun t k => XS.icmpYes X0.here hx rfl (pc0 := 40) (pc' := 46) rfl (hb hby d3_40) rfl ((feq hc6).2) (by decide) (by decide) k) ?_
      show own_G p.tables e below _ (s₁.setTop (mkF m 46 #[.val (.ref a1), .val (.int (5 : Int32)), .val (.int p3), .val (.int (own_st (own_st (0 : Int32) x0 p3) x1 p3))] []))
      exact k0
  show own_G p.tables e below _ (s₁.setTop (mkF m 46 #[.val (.ref a1), .val (.int (5 : Int32)), .val (.int p3), .val (.int (if x2 = p3 then ((own_st (own_st (0 : Int32) x0 p3) x1 p3) + (1 : Int32)) else (own_st (own_st (0 : Int32) x0 p3) x1 p3)))] []))
  show own_G p.tables e below _ (s₁.setTop (mkF m 46 #[.val (.ref a1), .val (.int (5 : Int32)), .val (.int p3), .val (.int (own_st (own_st (own_st (0 : Int32) x0 p3) x1 p3) x2 p3))] []))
  refine own_step (fun t k => XS.iloadN X0.here hx rfl (hb hby d3_46) rfl k) ?_
  show own_G p.tables e below _ (s₁.setTop (mkF m 47 #[.val (.ref a1), .val (.int (5 : Int32)), .val (.int p3), .val (.int (own_st (own_st (own_st (0 : Int32) x0 p3) x1 p3) x2 p3))] [(.int (5 : Int32))]))
  refine own_step (fun t k => XS.iconst X0.here hx rfl (hb hby d3_47) k) ?_
  show own_G p.tables e below _ (s₁.setTop (mkF m 48 #[.val (.ref a1), .val (.int (5 : Int32)), .val (.int p3), .val (.int (own_st (own_st (own_st (0 : Int32) x0 p3) x1 p3) x2 p3))] [(.int (3 : Int32)), (.int (5 : Int32))]))
  have hk7 : (3 : Int32) < (5 : Int32) := (by decide)
  refine own_step (fun t k => XS.icmpNo X0.here hx rfl (hb hby d3_48) rfl ((tlt hk7).2.2.2) k) ?_
  show own_G p.tables e below _ (s₁.setTop (mkF m 51 #[.val (.ref a1), .val (.int (5 : Int32)), .val (.int p3), .val (.int (own_st (own_st (own_st (0 : Int32) x0 p3) x1 p3) x2 p3))] []))
  refine own_step (fun t k => XS.aloadN X0.here hx rfl (hb hby d3_51) rfl rfl k) ?_
  show own_G p.tables e below _ (s₁.setTop (mkF m 52 #[.val (.ref a1), .val (.int (5 : Int32)), .val (.int p3), .val (.int (own_st (own_st (own_st (0 : Int32) x0 p3) x1 p3) x2 p3))] [(.ref a1)]))
  refine own_step (fun t k => XS.iconst X0.here hx rfl (hb hby d3_52) k) ?_
  show own_G p.tables e below _ (s₁.setTop (mkF m 53 #[.val (.ref a1), .val (.int (5 : Int32)), .val (.int p3), .val (.int (own_st (own_st (own_st (0 : Int32) x0 p3) x1 p3) x2 p3))] [(.int (3 : Int32)), (.ref a1)]))
  refine own_step (own_iaload X0 hx hZ e0 fp0 (own_inb (by decide) (Nat.le_of_ble_eq_true rfl)) (g := (mkF m 53 #[.val (.ref a1), .val (.int (5 : Int32)), .val (.int p3), .val (.int (own_st (own_st (own_st (0 : Int32) x0 p3) x1 p3) x2 p3))] [(.int (3 : Int32)), (.ref a1)])) rfl rfl (hb hby d3_53)) ?_
  show own_G p.tables e below _ (s₁.setTop (mkF m 54 #[.val (.ref a1), .val (.int (5 : Int32)), .val (.int p3), .val (.int (own_st (own_st (own_st (0 : Int32) x0 p3) x1 p3) x2 p3))] [(.int x3)]))
  refine own_step (fun t k => XS.iloadN X0.here hx rfl (hb hby d3_54) rfl k) ?_
  show own_G p.tables e below _ (s₁.setTop (mkF m 55 #[.val (.ref a1), .val (.int (5 : Int32)), .val (.int p3), .val (.int (own_st (own_st (own_st (0 : Int32) x0 p3) x1 p3) x2 p3))] [(.int p3), (.int x3)]))
  refine own_imp (B := s₁.setTop (mkF m 61 #[.val (.ref a1), .val (.int (5 : Int32)), .val (.int p3), .val (.int (if x3 = p3 then ((own_st (own_st (own_st (0 : Int32) x0 p3) x1 p3) x2 p3) + (1 : Int32)) else (own_st (own_st (own_st (0 : Int32) x0 p3) x1 p3) x2 p3)))] [])) (fun k0 => ?_) ?_
  · by_cases hc8 : x3 = p3
    · simp only [if_pos hc8] at k0
      refine own_step (fun t k => XS.icmpNo X0.here hx rfl (hb hby d3_55) rfl ((teq hc8).2) k) ?_
      show own_G p.tables e below _ (s₁.setTop (mkF m 58 #[.val (.ref a1), .val (.int (5 : Int32)), .val (.int p3), .val (.int (own_st (own_st (own_st (0 : Int32) x0 p3) x1 p3) x2 p3))] []))
      refine own_step (fun t k => XS.iinc X0.here hx rfl (hb hby d3_58) rfl (l' := #[.val (.ref a1), .val (.int (5 : Int32)), .val (.int p3), .val (.int ((own_st (own_st (own_st (0 : Int32) x0 p3) x1 p3) x2 p3) + (1 : Int32)))]) rfl k) ?_
      show own_G p.tables e below _ (s₁.setTop (mkF m 61 #[.val (.ref a1), .val (.int (5 : Int32)), .val (.int p3), .val (.int ((own_st (own_st (own_st (0 : Int32) x0 p3) x1 p3) x2 p3) + (1 : Int32)))] []))
      exact k0
    · simp only [if_neg hc8] at k0
      refine own_step (fun t k => XS.icmpYes X0.here hx rfl (pc0 := 55) (pc' := 61) rfl (hb hby d3_55) rfl ((feq hc8).2) (by decide) (by decide) k) ?_
      show own_G p.tables e below _ (s₁.setTop (mkF m 61 #[.val (.ref a1), .val (.int (5 : Int32)), .val (.int p3), .val (.int (own_st (own_st (own_st (0 : Int32) x0 p3) x1 p3) x2 p3))] []))
      exact k0
  show own_G p.tables e below _ (s₁.setTop (mkF m 61 #[.val (.ref a1), .val (.int (5 : Int32)), .val (.int p3), .val (.int (if x3 = p3 then ((own_st (own_st (own_st (0 : Int32) x0 p3) x1 p3) x2 p3) + (1 : Int32)) else (own_st (own_st (own_st (0 : Int32) x0 p3) x1 p3) x2 p3)))] []))
  show own_G p.tables e below _ (s₁.setTop (mkF m 61 #[.val (.ref a1), .val (.int (5 : Int32)), .val (.int p3), .val (.int (own_st (own_st (own_st (own_st (0 : Int32) x0 p3) x1 p3) x2 p3) x3 p3))] []))
  refine own_step (fun t k => XS.iloadN X0.here hx rfl (hb hby d3_61) rfl k) ?_
  show own_G p.tables e below _ (s₁.setTop (mkF m 62 #[.val (.ref a1), .val (.int (5 : Int32)), .val (.int p3), .val (.int (own_st (own_st (own_st (own_st (0 : Int32) x0 p3) x1 p3) x2 p3) x3 p3))] [(.int (5 : Int32))]))
  refine own_step (fun t k => XS.iconst X0.here hx rfl (hb hby d3_62) k) ?_
  show own_G p.tables e below _ (s₁.setTop (mkF m 63 #[.val (.ref a1), .val (.int (5 : Int32)), .val (.int p3), .val (.int (own_st (own_st (own_st (own_st (0 : Int32) x0 p3) x1 p3) x2 p3) x3 p3))] [(.int (4 : Int32)), (.int (5 : Int32))]))
  have hk9 : (4 : Int32) < (5 : Int32) := (by decide)
  refine own_step (fun t k => XS.icmpNo X0.here hx rfl (hb hby d3_63) rfl ((tlt hk9).2.2.2) k) ?_
  show own_G p.tables e below _ (s₁.setTop (mkF m 66 #[.val (.ref a1), .val (.int (5 : Int32)), .val (.int p3), .val (.int (own_st (own_st (own_st (own_st (0 : Int32) x0 p3) x1 p3) x2 p3) x3 p3))] []))
  refine own_step (fun t k => XS.aloadN X0.here hx rfl (hb hby d3_66) rfl rfl k) ?_
  show own_G p.tables e below _ (s₁.setTop (mkF m 67 #[.val (.ref a1), .val (.int (5 : Int32)), .val (.int p3), .val (.int (own_st (own_st (own_st (own_st (0 : Int32) x0 p3) x1 p3) x2 p3) x3 p3))] [(.ref a1)]))
  refine own_step (fun t k => XS.iconst X0.here hx rfl (hb hby d3_67) k) ?_
  show own_G p.tables e below _ (s₁.setTop (mkF m 68 #[.val (.ref a1), .val (.int (5 : Int32)), .val (.int p3), .val (.int (own_st (own_st (own_st (own_st (0 : Int32) x0 p3) x1 p3) x2 p3) x3 p3))] [(.int (4 : Int32)), (.ref a1)]))
  refine own_step (own_iaload X0 hx hZ e0 fp0 (own_inb (by decide) (Nat.le_of_ble_eq_true rfl)) (g := (mkF m 68 #[.val (.ref a1), .val (.int (5 : Int32)), .val (.int p3), .val (.int (own_st (own_st (own_st (own_st (0 : Int32) x0 p3) x1 p3) x2 p3) x3 p3))] [(.int (4 : Int32)), (.ref a1)])) rfl rfl (hb hby d3_68)) ?_
  show own_G p.tables e below _ (s₁.setTop (mkF m 69 #[.val (.ref a1), .val (.int (5 : Int32)), .val (.int p3), .val (.int (own_st (own_st (own_st (own_st (0 : Int32) x0 p3) x1 p3) x2 p3) x3 p3))] [(.int x4)]))
  refine own_step (fun t k => XS.iloadN X0.here hx rfl (hb hby d3_69) rfl k) ?_
  show own_G p.tables e below _ (s₁.setTop (mkF m 70 #[.val (.ref a1), .val (.int (5 : Int32)), .val (.int p3), .val (.int (own_st (own_st (own_st (own_st (0 : Int32) x0 p3) x1 p3) x2 p3) x3 p3))] [(.int p3), (.int x4)]))
  refine own_imp (B := s₁.setTop (mkF m 76 #[.val (.ref a1), .val (.int (5 : Int32)), .val (.int p3), .val (.int (if x4 = p3 then ((own_st (own_st (own_st (own_st (0 : Int32) x0 p3) x1 p3) x2 p3) x3 p3) + (1 : Int32)) else (own_st (own_st (own_st (own_st (0 : Int32) x0 p3) x1 p3) x2 p3) x3 p3)))] [])) (fun k0 => ?_) ?_
  · by_cases hc10 : x4 = p3
    · simp only [if_pos hc10] at k0
      refine own_step (fun t k => XS.icmpNo X0.here hx rfl (hb hby d3_70) rfl ((teq hc10).2) k) ?_
      show own_G p.tables e below _ (s₁.setTop (mkF m 73 #[.val (.ref a1), .val (.int (5 : Int32)), .val (.int p3), .val (.int (own_st (own_st (own_st (own_st (0 : Int32) x0 p3) x1 p3) x2 p3) x3 p3))] []))
      refine own_step (fun t k => XS.iinc X0.here hx rfl (hb hby d3_73) rfl (l' := #[.val (.ref a1), .val (.int (5 : Int32)), .val (.int p3), .val (.int ((own_st (own_st (own_st (own_st (0 : Int32) x0 p3) x1 p3) x2 p3) x3 p3) + (1 : Int32)))]) rfl k) ?_
      show own_G p.tables e below _ (s₁.setTop (mkF m 76 #[.val (.ref a1), .val (.int (5 : Int32)), .val (.int p3), .val (.int ((own_st (own_st (own_st (own_st (0 : Int32) x0 p3) x1 p3) x2 p3) x3 p3) + (1 : Int32)))] []))
      exact k0
    · simp only [if_neg hc10] at k0
      refine own_step (fun t k => XS.icmpYes X0.here hx rfl (pc0 := 70) (pc' := 76) rfl (hb hby d3_70) rfl ((feq hc10).2) (by decide) (by decide) k) ?_
      show own_G p.tables e below _ (s₁.setTop (mkF m 76 #[.val (.ref a1), .val (.int (5 : Int32)), .val (.int p3), .val (.int (own_st (own_st (own_st (own_st (0 : Int32) x0 p3) x1 p3) x2 p3) x3 p3))] []))
      exact k0
  show own_G p.tables e below _ (s₁.setTop (mkF m 76 #[.val (.ref a1), .val (.int (5 : Int32)), .val (.int p3), .val (.int (if x4 = p3 then ((own_st (own_st (own_st (own_st (0 : Int32) x0 p3) x1 p3) x2 p3) x3 p3) + (1 : Int32)) else (own_st (own_st (own_st (own_st (0 : Int32) x0 p3) x1 p3) x2 p3) x3 p3)))] []))
  show own_G p.tables e below _ (s₁.setTop (mkF m 76 #[.val (.ref a1), .val (.int (5 : Int32)), .val (.int p3), .val (.int (own_st (own_st (own_st (own_st (own_st (0 : Int32) x0 p3) x1 p3) x2 p3) x3 p3) x4 p3))] []))
  refine own_step (fun t k => XS.iloadN X0.here hx rfl (hb hby d3_76) rfl k) ?_
  show own_G p.tables e below _ (s₁.setTop (mkF m 77 #[.val (.ref a1), .val (.int (5 : Int32)), .val (.int p3), .val (.int (own_st (own_st (own_st (own_st (own_st (0 : Int32) x0 p3) x1 p3) x2 p3) x3 p3) x4 p3))] [(.int (own_st (own_st (own_st (own_st (own_st (0 : Int32) x0 p3) x1 p3) x2 p3) x3 p3) x4 p3))]))
  obtain ⟨fs, hr, hrun, hended, hW, hsame⟩ := X0.leave (v := some (.int (own_st (own_st (own_st (own_st (own_st (0 : Int32) x0 p3) x1 p3) x2 p3) x3 p3) x4 p3))) (fun h => by rw [Bd.returns] at h; cases h)
  refine own_done (retI X0 hx Bd.returns (hb hby d3_77) hr) hrun hended ⟨_, _, rfl, ?_, ⟨_, rfl⟩, hW, hsame.mono (by decide) (by decide)⟩
  show Q3_m5 Z a1 p3 x0 x1 x2 x3 x4 h0 n0 _ s₁.heap _
  rw [e0]
  exact ⟨congrArg (fun z => some (Value.int z)) (show (own_st (own_st (own_st (own_st (own_st (0 : Int32) x0 p3) x1 p3) x2 p3) x3 p3) x4 p3) = (own_st (own_st (own_st (own_st (own_st (0 : Int32) x0 p3) x1 p3) x2 p3) x3 p3) x4 p3) from rfl), N0, rfl⟩
theorem d4_0 : decode method_4_code 0 = .ok (.iload_n 0, 1) := by decide +kernel
theorem d4_1 : decode method_4_code 1 = .ok (.iload_n 1, 1) := by decide +kernel
theorem d4_2 : decode method_4_code 2 = .ok (.idiv, 1) := by decide +kernel
theorem d4_3 : decode method_4_code 3 = .ok (.iload_n 0, 1) := by decide +kernel
theorem d4_4 : decode method_4_code 4 = .ok (.iload_n 1, 1) := by decide +kernel
theorem d4_5 : decode method_4_code 5 = .ok (.irem, 1) := by decide +kernel
theorem d4_6 : decode method_4_code 6 = .ok (.ifCond .ne 7, 3) := by decide +kernel
theorem d4_9 : decode method_4_code 9 = .ok (.iconst 0, 1) := by decide +kernel
theorem d4_10 : decode method_4_code 10 = .ok (.goto 4, 3) := by decide +kernel
theorem d4_13 : decode method_4_code 13 = .ok (.iconst 1, 1) := by decide +kernel
theorem d4_14 : decode method_4_code 14 = .ok (.iadd, 1) := by decide +kernel
theorem d4_15 : decode method_4_code 15 = .ok (.ireturn, 1) := by decide +kernel
theorem pn_4 : plainName "com/example/stevedore/stevedore/MoveGraphCopiesPinLaw" = true := by first | (simp [plainName, overriddenIn]; done) | decide +kernel
theorem ef_4 (m : MethodId) (p1 : Int32) (p2 : Int32) : entryFrame m #[(.int p1), (.int p2)] 2 = mkF m 0 #[.val (.int p1), .val (.int p2)] [] := by first | (simp [entryFrame, mkF, argsToLocals, Value.category]; done) | rfl
def own_f4 (p1 : Int32) (p2 : Int32) : Int32 :=
  (if (p1 - (p1 / p2) * p2) = (0 : Int32) then ((p1 / p2) + (0 : Int32)) else ((p1 / p2) + (1 : Int32)))
def Q4 (Z : State) (p1 : Int32) (p2 : Int32) (h0 : Heap) (n0 : Nat) (v : Option Value) (h : Heap) (L : List Loc) : Prop := v = some (.int (own_f4 p1 p2)) ∧ Fr n0 L ∧ h = h0
set_option maxRecDepth 65536 in
set_option maxHeartbeats 40000000 in
theorem rm4 (l : Launch) (Z : State) (a0 : Array Value) (hw : ∀ d ∈ tables_1, d.before a0 Z = true) (ws : List Jvm.Cond) (p1 : Int32) (p2 : Int32) (h0 : Heap) (n0 : Nat) (Z0 : n0 ≤ h0.size) (hz : p2 ≠ 0) :
    MetFree l (⟨"com/example/stevedore/stevedore/MoveGraphCopiesPinLaw", "blocks", "(II)I"⟩ : MethodName) (head1 (Jvm.Cond.code (⟨"com/example/stevedore/stevedore/MoveGraphCopiesPinLaw", "blocks", "(II)I"⟩ : MethodName) method_4_code 2 (some .int) :: ws) ({ frames := 0, cells := 0, slots := 0, locals := 0 } : Room)) (fun a U => a = #[(.int p1), (.int p2)] ∧ Z.Warmed39 U.vm ∧ U.heap = h0) (fun _ _ _ _ _ => True) (fun _ U o U' => ∃ v L, o = .returned v ∧ Q4 Z p1 p2 h0 n0 v U'.heap L ∧ FrameEnd U o U' L ({ frames := 0, cells := 0, slots := 0, locals := 0 } : Room).cells ({ frames := 0, cells := 0, slots := 0, locals := 0 } : Room).slots) := by
  refine MetFree.of_bodySF (plainFor_of_name pn_4) hisR ?_
  intro p e s m args below meth c s₁ Bd hml0 hP hK
  obtain ⟨rfl, hZ, hh⟩ := hP
  have hx := Bd.exec
  have hby := Bd.bytes
  have hml : c.maxLocals = 2 := hml0
  have hown : s.vm.findClass "com/example/stevedore/stevedore/MoveGraphCopiesPinLaw" = some m.cls := findClass_of_methodNamed Bd.named
  have hnm := (name_of_methodNamed Bd.named Bd.method).1
  have X0 : Stand p l e ({ frames := 0, cells := 0, slots := 0, locals := 0 } : Room) s m #[(.int p1), (.int p2)] below meth c s₁ [] 0 0 := Stand.of_body Bd
  have e0 : s₁.heap = h0 := by rw [← hh, Bd.state]; rfl
  have N0 := Fr.nil n0
  refine own_start (fun t k => castTop (ef_4 m p1 p2) k) ?_
  show own_G p.tables e below _ (s₁.setTop (mkF m 0 #[.val (.int p1), .val (.int p2)] []))
  refine own_step (fun t k => XS.iloadN X0.here hx rfl (hb hby d4_0) rfl k) ?_
  show own_G p.tables e below _ (s₁.setTop (mkF m 1 #[.val (.int p1), .val (.int p2)] [(.int p1)]))
  refine own_step (fun t k => XS.iloadN X0.here hx rfl (hb hby d4_1) rfl k) ?_
  show own_G p.tables e below _ (s₁.setTop (mkF m 2 #[.val (.int p1), .val (.int p2)] [(.int p2), (.int p1)]))
  refine own_step (fun t k => XS.idiv X0.here hx rfl (hb hby d4_2) rfl hz k) ?_
  show own_G p.tables e below _ (s₁.setTop (mkF m 3 #[.val (.int p1), .val (.int p2)] [(.int (p1 / p2))]))
  refine own_step (fun t k => XS.iloadN X0.here hx rfl (hb hby d4_3) rfl k) ?_
  show own_G p.tables e below _ (s₁.setTop (mkF m 4 #[.val (.int p1), .val (.int p2)] [(.int p1), (.int (p1 / p2))]))
  refine own_step (fun t k => XS.iloadN X0.here hx rfl (hb hby d4_4) rfl k) ?_
  show own_G p.tables e below _ (s₁.setTop (mkF m 5 #[.val (.int p1), .val (.int p2)] [(.int p2), (.int p1), (.int (p1 / p2))]))
  refine own_step (fun t k => XS.irem X0.here hx rfl (hb hby d4_5) rfl hz k) ?_
  show own_G p.tables e below _ (s₁.setTop (mkF m 6 #[.val (.int p1), .val (.int p2)] [(.int (p1 - (p1 / p2) * p2)), (.int (p1 / p2))]))
  by_cases hc1 : (p1 - (p1 / p2) * p2) = (0 : Int32)
  · skip
    refine own_step (fun t k => XS.ifNo X0.here hx rfl (hb hby d4_6) rfl ((if0 _ _).trans (teq hc1).2) k) ?_
    show own_G p.tables e below _ (s₁.setTop (mkF m 9 #[.val (.int p1), .val (.int p2)] [(.int (p1 / p2))]))
    refine own_step (fun t k => XS.iconst X0.here hx rfl (hb hby d4_9) k) ?_
    show own_G p.tables e below _ (s₁.setTop (mkF m 10 #[.val (.int p1), .val (.int p2)] [(.int (0 : Int32)), (.int (p1 / p2))]))
    refine own_step (fun t k => XS.goto X0.here hx rfl (pc0 := 10) (pc' := 14) rfl (hb hby d4_10) (by decide) (by decide) k) ?_
    show own_G p.tables e below _ (s₁.setTop (mkF m 14 #[.val (.int p1), .val (.int p2)] [(.int (0 : Int32)), (.int (p1 / p2))]))
    refine own_step (fun t k => XS.iadd X0.here hx rfl (hb hby d4_14) rfl k) ?_
    show own_G p.tables e below _ (s₁.setTop (mkF m 15 #[.val (.int p1), .val (.int p2)] [(.int ((p1 / p2) + (0 : Int32)))]))
    obtain ⟨fs, hr, hrun, hended, hW, hsame⟩ := X0.leave (v := some (.int ((p1 / p2) + (0 : Int32)))) (fun h => by rw [Bd.returns] at h; cases h)
    refine own_done (retI X0 hx Bd.returns (hb hby d4_15) hr) hrun hended ⟨_, _, rfl, ?_, ⟨_, rfl⟩, hW, hsame.mono (by decide) (by decide)⟩
    show Q4 Z p1 p2 h0 n0 _ s₁.heap _
    rw [e0]
    exact ⟨congrArg (fun z => some (Value.int z)) (show ((p1 / p2) + (0 : Int32)) = (own_f4 p1 p2) from by unfold own_f4; simp only [if_pos hc1]), N0, rfl⟩
  · skip
    refine own_step (fun t k => XS.ifYes X0.here hx rfl (pc0 := 6) (pc' := 13) rfl (hb hby d4_6) rfl ((if0 _ _).trans (feq hc1).2) (by decide) (by decide) k) ?_
    show own_G p.tables e below _ (s₁.setTop (mkF m 13 #[.val (.int p1), .val (.int p2)] [(.int (p1 / p2))]))
    refine own_step (fun t k => XS.iconst X0.here hx rfl (hb hby d4_13) k) ?_
    show own_G p.tables e below _ (s₁.setTop (mkF m 14 #[.val (.int p1), .val (.int p2)] [(.int (1 : Int32)), (.int (p1 / p2))]))
    refine own_step (fun t k => XS.iadd X0.here hx rfl (hb hby d4_14) rfl k) ?_
    show own_G p.tables e below _ (s₁.setTop (mkF m 15 #[.val (.int p1), .val (.int p2)] [(.int ((p1 / p2) + (1 : Int32)))]))
    obtain ⟨fs, hr, hrun, hended, hW, hsame⟩ := X0.leave (v := some (.int ((p1 / p2) + (1 : Int32)))) (fun h => by rw [Bd.returns] at h; cases h)
    refine own_done (retI X0 hx Bd.returns (hb hby d4_15) hr) hrun hended ⟨_, _, rfl, ?_, ⟨_, rfl⟩, hW, hsame.mono (by decide) (by decide)⟩
    show Q4 Z p1 p2 h0 n0 _ s₁.heap _
    rw [e0]
    exact ⟨congrArg (fun z => some (Value.int z)) (show ((p1 / p2) + (1 : Int32)) = (own_f4 p1 p2) from by unfold own_f4; simp only [if_neg hc1]), N0, rfl⟩
theorem pn_3_m0 : plainName "com/example/stevedore/stevedore/MoveGraphCopiesPinLaw" = true := by first | (simp [plainName, overriddenIn]; done) | decide +kernel
theorem ef_3_m0 (m : MethodId) (a1 : Addr) (p3 : Int32) : entryFrame m #[(.ref a1), (.int (0 : Int32)), (.int p3)] 4 = mkF m 0 #[.val (.ref a1), .val (.int (0 : Int32)), .val (.int p3), .unset] [] := by first | (simp [entryFrame, mkF, argsToLocals, Value.category]; done) | rfl
def Q3_m0 (Z : State) (a1 : Addr) (p3 : Int32) (x0 : Int32) (x1 : Int32) (x2 : Int32) (x3 : Int32) (x4 : Int32) (h0 : Heap) (n0 : Nat) (v : Option Value) (h : Heap) (L : List Loc) : Prop := v = some (.int (0 : Int32)) ∧ Fr n0 L ∧ h = h0
set_option maxRecDepth 65536 in
set_option maxHeartbeats 40000000 in
theorem rm3_m0 (l : Launch) (Z : State) (a0 : Array Value) (hw : ∀ d ∈ tables_1, d.before a0 Z = true) (ws : List Jvm.Cond) (a1 : Addr) (p3 : Int32) (x0 : Int32) (x1 : Int32) (x2 : Int32) (x3 : Int32) (x4 : Int32) (h0 : Heap) (n0 : Nat) (Z0 : n0 ≤ h0.size) (fp0 : own_Ari Z h0 a1 .int [x0, x1, x2, x3, x4]) :
    MetFree l (⟨"com/example/stevedore/stevedore/MoveGraphCopiesPinLaw", "before", "([III)I"⟩ : MethodName) (head1 (Jvm.Cond.code (⟨"com/example/stevedore/stevedore/MoveGraphCopiesPinLaw", "before", "([III)I"⟩ : MethodName) method_5_code 4 (some .int) :: ws) ({ frames := 0, cells := 0, slots := 0, locals := 0 } : Room)) (fun a U => a = #[(.ref a1), (.int (0 : Int32)), (.int p3)] ∧ Z.Warmed39 U.vm ∧ U.heap = h0) (fun _ _ _ _ _ => True) (fun _ U o U' => ∃ v L, o = .returned v ∧ Q3_m0 Z a1 p3 x0 x1 x2 x3 x4 h0 n0 v U'.heap L ∧ FrameEnd U o U' L ({ frames := 0, cells := 0, slots := 0, locals := 0 } : Room).cells ({ frames := 0, cells := 0, slots := 0, locals := 0 } : Room).slots) := by
  refine MetFree.of_bodySF (plainFor_of_name pn_3_m0) hisR ?_
  intro p e s m args below meth c s₁ Bd hml0 hP hK
  obtain ⟨rfl, hZ, hh⟩ := hP
  have hx := Bd.exec
  have hby := Bd.bytes
  have hml : c.maxLocals = 4 := hml0
  have hown : s.vm.findClass "com/example/stevedore/stevedore/MoveGraphCopiesPinLaw" = some m.cls := findClass_of_methodNamed Bd.named
  have hnm := (name_of_methodNamed Bd.named Bd.method).1
  have X0 : Stand p l e ({ frames := 0, cells := 0, slots := 0, locals := 0 } : Room) s m #[(.ref a1), (.int (0 : Int32)), (.int p3)] below meth c s₁ [] 0 0 := Stand.of_body Bd
  have e0 : s₁.heap = h0 := by rw [← hh, Bd.state]; rfl
  have N0 := Fr.nil n0
  refine own_start (fun t k => castTop (ef_3_m0 m a1 p3) k) ?_
  show own_G p.tables e below _ (s₁.setTop (mkF m 0 #[.val (.ref a1), .val (.int (0 : Int32)), .val (.int p3), .unset] []))
  refine own_step (fun t k => XS.iconst X0.here hx rfl (hb hby d3_0) k) ?_
  show own_G p.tables e below _ (s₁.setTop (mkF m 1 #[.val (.ref a1), .val (.int (0 : Int32)), .val (.int p3), .unset] [(.int (0 : Int32))]))
  refine own_step (fun t k => XS.istoreN X0.here hx rfl (hb hby d3_1) rfl (l' := #[.val (.ref a1), .val (.int (0 : Int32)), .val (.int p3), .val (.int (0 : Int32))]) rfl k) ?_
  show own_G p.tables e below _ (s₁.setTop (mkF m 2 #[.val (.ref a1), .val (.int (0 : Int32)), .val (.int p3), .val (.int (0 : Int32))] []))
  refine own_step (fun t k => XS.iloadN X0.here hx rfl (hb hby d3_2) rfl k) ?_
  show own_G p.tables e below _ (s₁.setTop (mkF m 3 #[.val (.ref a1), .val (.int (0 : Int32)), .val (.int p3), .val (.int (0 : Int32))] [(.int (0 : Int32))]))
  have hk1 : ¬ ((0 : Int32) < (0 : Int32)) := (by decide)
  refine own_step (fun t k => XS.ifYes X0.here hx rfl (pc0 := 3) (pc' := 16) rfl (hb hby d3_3) rfl ((if0 _ _).trans (flt hk1).2.2.2) (by decide) (by decide) k) ?_
  show own_G p.tables e below _ (s₁.setTop (mkF m 16 #[.val (.ref a1), .val (.int (0 : Int32)), .val (.int p3), .val (.int (0 : Int32))] []))
  refine own_step (fun t k => XS.iloadN X0.here hx rfl (hb hby d3_16) rfl k) ?_
  show own_G p.tables e below _ (s₁.setTop (mkF m 17 #[.val (.ref a1), .val (.int (0 : Int32)), .val (.int p3), .val (.int (0 : Int32))] [(.int (0 : Int32))]))
  refine own_step (fun t k => XS.iconst X0.here hx rfl (hb hby d3_17) k) ?_
  show own_G p.tables e below _ (s₁.setTop (mkF m 18 #[.val (.ref a1), .val (.int (0 : Int32)), .val (.int p3), .val (.int (0 : Int32))] [(.int (1 : Int32)), (.int (0 : Int32))]))
  have hk2 : ¬ ((1 : Int32) < (0 : Int32)) := (by decide)
  refine own_step (fun t k => XS.icmpYes X0.here hx rfl (pc0 := 18) (pc' := 31) rfl (hb hby d3_18) rfl ((flt hk2).2.2.2) (by decide) (by decide) k) ?_
  show own_G p.tables e below _ (s₁.setTop (mkF m 31 #[.val (.ref a1), .val (.int (0 : Int32)), .val (.int p3), .val (.int (0 : Int32))] []))
  refine own_step (fun t k => XS.iloadN X0.here hx rfl (hb hby d3_31) rfl k) ?_
  show own_G p.tables e below _ (s₁.setTop (mkF m 32 #[.val (.ref a1), .val (.int (0 : Int32)), .val (.int p3), .val (.int (0 : Int32))] [(.int (0 : Int32))]))
  refine own_step (fun t k => XS.iconst X0.here hx rfl (hb hby d3_32) k) ?_
  show own_G p.tables e below _ (s₁.setTop (mkF m 33 #[.val (.ref a1), .val (.int (0 : Int32)), .val (.int p3), .val (.int (0 : Int32))] [(.int (2 : Int32)), (.int (0 : Int32))]))
  have hk3 : ¬ ((2 : Int32) < (0 : Int32)) := (by decide)
  refine own_step (fun t k => XS.icmpYes X0.here hx rfl (pc0 := 33) (pc' := 46) rfl (hb hby d3_33) rfl ((flt hk3).2.2.2) (by decide) (by decide) k) ?_
  show own_G p.tables e below _ (s₁.setTop (mkF m 46 #[.val (.ref a1), .val (.int (0 : Int32)), .val (.int p3), .val (.int (0 : Int32))] []))
  refine own_step (fun t k => XS.iloadN X0.here hx rfl (hb hby d3_46) rfl k) ?_
  show own_G p.tables e below _ (s₁.setTop (mkF m 47 #[.val (.ref a1), .val (.int (0 : Int32)), .val (.int p3), .val (.int (0 : Int32))] [(.int (0 : Int32))]))
  refine own_step (fun t k => XS.iconst X0.here hx rfl (hb hby d3_47) k) ?_
  show own_G p.tables e below _ (s₁.setTop (mkF m 48 #[.val (.ref a1), .val (.int (0 : Int32)), .val (.int p3), .val (.int (0 : Int32))] [(.int (3 : Int32)), (.int (0 : Int32))]))
  have hk4 : ¬ ((3 : Int32) < (0 : Int32)) := (by decide)
  refine own_step (fun t k => XS.icmpYes X0.here hx rfl (pc0 := 48) (pc' := 61) rfl (hb hby d3_48) rfl ((flt hk4).2.2.2) (by decide) (by decide) k) ?_
  show own_G p.tables e below _ (s₁.setTop (mkF m 61 #[.val (.ref a1), .val (.int (0 : Int32)), .val (.int p3), .val (.int (0 : Int32))] []))
  refine own_step (fun t k => XS.iloadN X0.here hx rfl (hb hby d3_61) rfl k) ?_
  show own_G p.tables e below _ (s₁.setTop (mkF m 62 #[.val (.ref a1), .val (.int (0 : Int32)), .val (.int p3), .val (.int (0 : Int32))] [(.int (0 : Int32))]))
  refine own_step (fun t k => XS.iconst X0.here hx rfl (hb hby d3_62) k) ?_
  show own_G p.tables e below _ (s₁.setTop (mkF m 63 #[.val (.ref a1), .val (.int (0 : Int32)), .val (.int p3), .val (.int (0 : Int32))] [(.int (4 : Int32)), (.int (0 : Int32))]))
  have hk5 : ¬ ((4 : Int32) < (0 : Int32)) := (by decide)
  refine own_step (fun t k => XS.icmpYes X0.here hx rfl (pc0 := 63) (pc' := 76) rfl (hb hby d3_63) rfl ((flt hk5).2.2.2) (by decide) (by decide) k) ?_
  show own_G p.tables e below _ (s₁.setTop (mkF m 76 #[.val (.ref a1), .val (.int (0 : Int32)), .val (.int p3), .val (.int (0 : Int32))] []))
  refine own_step (fun t k => XS.iloadN X0.here hx rfl (hb hby d3_76) rfl k) ?_
  show own_G p.tables e below _ (s₁.setTop (mkF m 77 #[.val (.ref a1), .val (.int (0 : Int32)), .val (.int p3), .val (.int (0 : Int32))] [(.int (0 : Int32))]))
  obtain ⟨fs, hr, hrun, hended, hW, hsame⟩ := X0.leave (v := some (.int (0 : Int32))) (fun h => by rw [Bd.returns] at h; cases h)
  refine own_done (retI X0 hx Bd.returns (hb hby d3_77) hr) hrun hended ⟨_, _, rfl, ?_, ⟨_, rfl⟩, hW, hsame.mono (by decide) (by decide)⟩
  show Q3_m0 Z a1 p3 x0 x1 x2 x3 x4 h0 n0 _ s₁.heap _
  rw [e0]
  exact ⟨congrArg (fun z => some (Value.int z)) (show (0 : Int32) = (0 : Int32) from rfl), N0, rfl⟩
theorem d5_0 : decode method_3_code 0 = .ok (.aload_n 1, 1) := by decide +kernel
theorem d5_1 : decode method_3_code 1 = .ok (.iload 4, 2) := by decide +kernel
theorem d5_3 : decode method_3_code 3 = .ok (.iaload, 1) := by decide +kernel
theorem d5_4 : decode method_3_code 4 = .ok (.istore 5, 2) := by decide +kernel
theorem d5_6 : decode method_3_code 6 = .ok (.aload_n 0, 1) := by decide +kernel
theorem d5_7 : decode method_3_code 7 = .ok (.iload 4, 2) := by decide +kernel
theorem d5_9 : decode method_3_code 9 = .ok (.iaload, 1) := by decide +kernel
theorem d5_10 : decode method_3_code 10 = .ok (.aload_n 3, 1) := by decide +kernel
theorem d5_11 : decode method_3_code 11 = .ok (.iload 5, 2) := by decide +kernel
theorem d5_13 : decode method_3_code 13 = .ok (.iaload, 1) := by decide +kernel
theorem d5_14 : decode method_3_code 14 = .ok (.aload_n 1, 1) := by decide +kernel
theorem d5_15 : decode method_3_code 15 = .ok (.iload 4, 2) := by decide +kernel
theorem d5_17 : decode method_3_code 17 = .ok (.iload 5, 2) := by decide +kernel
theorem d5_19 : decode method_3_code 19 = .ok (.invokestatic 20, 3) := by decide +kernel
theorem d5_22 : decode method_3_code 22 = .ok (.aload_n 2, 1) := by decide +kernel
theorem d5_23 : decode method_3_code 23 = .ok (.iload 5, 2) := by decide +kernel
theorem d5_25 : decode method_3_code 25 = .ok (.iaload, 1) := by decide +kernel
theorem d5_26 : decode method_3_code 26 = .ok (.idiv, 1) := by decide +kernel
theorem d5_27 : decode method_3_code 27 = .ok (.iadd, 1) := by decide +kernel
theorem d5_28 : decode method_3_code 28 = .ok (.if_icmp .ne 7, 3) := by decide +kernel
theorem d5_31 : decode method_3_code 31 = .ok (.iconst 1, 1) := by decide +kernel
theorem d5_32 : decode method_3_code 32 = .ok (.goto 4, 3) := by decide +kernel
theorem d5_36 : decode method_3_code 36 = .ok (.ireturn, 1) := by decide +kernel
theorem pn_5_m0 : plainName "com/example/stevedore/stevedore/MoveGraphCopiesPinLaw" = true := by first | (simp [plainName, overriddenIn]; done) | decide +kernel
theorem pd_5_m0_0 : parseMethodDescriptor "([III)I" = some ⟨[(.array .int), .int, .int], some .int⟩ := by decide +kernel
theorem ef_5_m0 (m : MethodId) (a1 : Addr) (a2 : Addr) (a3 : Addr) (a4 : Addr) : entryFrame m #[(.ref a1), (.ref a2), (.ref a3), (.ref a4), (.int (0 : Int32))] 6 = mkF m 0 #[.val (.ref a1), .val (.ref a2), .val (.ref a3), .val (.ref a4), .val (.int (0 : Int32)), .unset] [] := by first | (simp [entryFrame, mkF, argsToLocals, Value.category]; done) | rfl
def Q5_m0 (Z : State) (a1 : Addr) (a2 : Addr) (a3 : Addr) (a4 : Addr) (x0 : Int32) (x1 : Int32) (x2 : Int32) (x3 : Int32) (x4 : Int32) (zz0 : Int32) (zz1 : Int32) (zz2 : Int32) (yy0 : Int32) (yy1 : Int32) (yy2 : Int32) (yy3 : Int32) (yy4 : Int32) (ff0 : Int32) (ff1 : Int32) (ff2 : Int32) (h0 : Heap) (n0 : Nat) (v : Option Value) (h : Heap) (L : List Loc) : Prop := v = some (.int (1 : Int32)) ∧ Fr n0 L ∧ h = h0
set_option maxRecDepth 65536 in
set_option maxHeartbeats 40000000 in
theorem rm5_m0 (l : Launch) (Z : State) (a0 : Array Value) (hw : ∀ d ∈ tables_1, d.before a0 Z = true) (ws : List Jvm.Cond) (a1 : Addr) (a2 : Addr) (a3 : Addr) (a4 : Addr) (x0 : Int32) (x1 : Int32) (x2 : Int32) (x3 : Int32) (x4 : Int32) (zz0 : Int32) (zz1 : Int32) (zz2 : Int32) (yy0 : Int32) (yy1 : Int32) (yy2 : Int32) (yy3 : Int32) (yy4 : Int32) (ff0 : Int32) (ff1 : Int32) (ff2 : Int32) (h0 : Heap) (n0 : Nat) (Z0 : n0 ≤ h0.size) (fp0 : own_Ari Z h0 a1 .int [yy0, yy1, yy2, yy3, yy4]) (fp1 : own_Ari Z h0 a2 .int [x0, x1, x2, x3, x4]) (fp2 : own_Ari Z h0 a3 .int [zz0, zz1, zz2]) (fp3 : own_Ari Z h0 a4 .int [ff0, ff1, ff2]) (hx0 : own_3 x0) (hz0 : zz0 ≠ 0) (hz1 : zz1 ≠ 0) (hz2 : zz2 ≠ 0) (hq : yy0 = (([ff0, ff1, ff2].getD x0.toNatClampNeg 0) + ((0 : Int32) / ([zz0, zz1, zz2].getD x0.toNatClampNeg 0)))) :
    MetFree l (⟨"com/example/stevedore/stevedore/MoveGraphCopiesPinLaw", "ok", "([I[I[I[II)Z"⟩ : MethodName) (head1 (Jvm.Cond.code (⟨"com/example/stevedore/stevedore/MoveGraphCopiesPinLaw", "ok", "([I[I[I[II)Z"⟩ : MethodName) method_3_code 6 (some .boolean) :: ws) ({ frames := 1, cells := 0, slots := 0, locals := 17 } : Room)) (fun a U => a = #[(.ref a1), (.ref a2), (.ref a3), (.ref a4), (.int (0 : Int32))] ∧ Z.Warmed39 U.vm ∧ U.heap = h0) (fun _ _ _ _ _ => True) (fun _ U o U' => ∃ v L, o = .returned v ∧ Q5_m0 Z a1 a2 a3 a4 x0 x1 x2 x3 x4 zz0 zz1 zz2 yy0 yy1 yy2 yy3 yy4 ff0 ff1 ff2 h0 n0 v U'.heap L ∧ FrameEnd U o U' L ({ frames := 1, cells := 0, slots := 0, locals := 17 } : Room).cells ({ frames := 1, cells := 0, slots := 0, locals := 17 } : Room).slots) := by
  refine MetFree.of_bodySF (plainFor_of_name pn_5_m0) hisR ?_
  intro p e s m args below meth c s₁ Bd hml0 hP hK
  obtain ⟨rfl, hZ, hh⟩ := hP
  have hx := Bd.exec
  have hby := Bd.bytes
  have hml : c.maxLocals = 6 := hml0
  have hown : s.vm.findClass "com/example/stevedore/stevedore/MoveGraphCopiesPinLaw" = some m.cls := findClass_of_methodNamed Bd.named
  have hnm := (name_of_methodNamed Bd.named Bd.method).1
  have X0 : Stand p l e ({ frames := 1, cells := 0, slots := 0, locals := 17 } : Room) s m #[(.ref a1), (.ref a2), (.ref a3), (.ref a4), (.int (0 : Int32))] below meth c s₁ [] 0 0 := Stand.of_body Bd
  have e0 : s₁.heap = h0 := by rw [← hh, Bd.state]; rfl
  have N0 := Fr.nil n0
  refine own_start (fun t k => castTop (ef_5_m0 m a1 a2 a3 a4) k) ?_
  show own_G p.tables e below _ (s₁.setTop (mkF m 0 #[.val (.ref a1), .val (.ref a2), .val (.ref a3), .val (.ref a4), .val (.int (0 : Int32)), .unset] []))
  refine own_step (fun t k => XS.aloadN X0.here hx rfl (hb hby d5_0) rfl rfl k) ?_
  show own_G p.tables e below _ (s₁.setTop (mkF m 1 #[.val (.ref a1), .val (.ref a2), .val (.ref a3), .val (.ref a4), .val (.int (0 : Int32)), .unset] [(.ref a2)]))
  refine own_step (fun t k => XS.iload X0.here hx rfl (hb hby d5_1) rfl k) ?_
  show own_G p.tables e below _ (s₁.setTop (mkF m 3 #[.val (.ref a1), .val (.ref a2), .val (.ref a3), .val (.ref a4), .val (.int (0 : Int32)), .unset] [(.int (0 : Int32)), (.ref a2)]))
  refine own_step (own_iaload X0 hx hZ e0 fp1 (own_inb (by decide) (Nat.le_of_ble_eq_true rfl)) (g := (mkF m 3 #[.val (.ref a1), .val (.ref a2), .val (.ref a3), .val (.ref a4), .val (.int (0 : Int32)), .unset] [(.int (0 : Int32)), (.ref a2)])) rfl rfl (hb hby d5_3)) ?_
  show own_G p.tables e below _ (s₁.setTop (mkF m 4 #[.val (.ref a1), .val (.ref a2), .val (.ref a3), .val (.ref a4), .val (.int (0 : Int32)), .unset] [(.int x0)]))
  refine own_step (fun t k => XS.istore X0.here hx rfl (hb hby d5_4) rfl (l' := #[.val (.ref a1), .val (.ref a2), .val (.ref a3), .val (.ref a4), .val (.int (0 : Int32)), .val (.int x0)]) rfl k) ?_
  show own_G p.tables e below _ (s₁.setTop (mkF m 6 #[.val (.ref a1), .val (.ref a2), .val (.ref a3), .val (.ref a4), .val (.int (0 : Int32)), .val (.int x0)] []))
  refine own_step (fun t k => XS.aloadN X0.here hx rfl (hb hby d5_6) rfl rfl k) ?_
  show own_G p.tables e below _ (s₁.setTop (mkF m 7 #[.val (.ref a1), .val (.ref a2), .val (.ref a3), .val (.ref a4), .val (.int (0 : Int32)), .val (.int x0)] [(.ref a1)]))
  refine own_step (fun t k => XS.iload X0.here hx rfl (hb hby d5_7) rfl k) ?_
  show own_G p.tables e below _ (s₁.setTop (mkF m 9 #[.val (.ref a1), .val (.ref a2), .val (.ref a3), .val (.ref a4), .val (.int (0 : Int32)), .val (.int x0)] [(.int (0 : Int32)), (.ref a1)]))
  refine own_step (own_iaload X0 hx hZ e0 fp0 (own_inb (by decide) (Nat.le_of_ble_eq_true rfl)) (g := (mkF m 9 #[.val (.ref a1), .val (.ref a2), .val (.ref a3), .val (.ref a4), .val (.int (0 : Int32)), .val (.int x0)] [(.int (0 : Int32)), (.ref a1)])) rfl rfl (hb hby d5_9)) ?_
  show own_G p.tables e below _ (s₁.setTop (mkF m 10 #[.val (.ref a1), .val (.ref a2), .val (.ref a3), .val (.ref a4), .val (.int (0 : Int32)), .val (.int x0)] [(.int yy0)]))
  refine own_step (fun t k => XS.aloadN X0.here hx rfl (hb hby d5_10) rfl rfl k) ?_
  show own_G p.tables e below _ (s₁.setTop (mkF m 11 #[.val (.ref a1), .val (.ref a2), .val (.ref a3), .val (.ref a4), .val (.int (0 : Int32)), .val (.int x0)] [(.ref a4), (.int yy0)]))
  refine own_step (fun t k => XS.iload X0.here hx rfl (hb hby d5_11) rfl k) ?_
  show own_G p.tables e below _ (s₁.setTop (mkF m 13 #[.val (.ref a1), .val (.ref a2), .val (.ref a3), .val (.ref a4), .val (.int (0 : Int32)), .val (.int x0)] [(.int x0), (.ref a4), (.int yy0)]))
  refine own_step (own_iaload X0 hx hZ e0 fp3 (own_i3 hx0 (by first | rfl | (simp only [own_inc_len]; rfl) | exact own_cs_len _ _ _ _ _)) (g := (mkF m 13 #[.val (.ref a1), .val (.ref a2), .val (.ref a3), .val (.ref a4), .val (.int (0 : Int32)), .val (.int x0)] [(.int x0), (.ref a4), (.int yy0)])) rfl rfl (hb hby d5_13)) ?_
  show own_G p.tables e below _ (s₁.setTop (mkF m 14 #[.val (.ref a1), .val (.ref a2), .val (.ref a3), .val (.ref a4), .val (.int (0 : Int32)), .val (.int x0)] [(.int ([ff0, ff1, ff2].getD x0.toNatClampNeg 0)), (.int yy0)]))
  refine own_step (fun t k => XS.aloadN X0.here hx rfl (hb hby d5_14) rfl rfl k) ?_
  show own_G p.tables e below _ (s₁.setTop (mkF m 15 #[.val (.ref a1), .val (.ref a2), .val (.ref a3), .val (.ref a4), .val (.int (0 : Int32)), .val (.int x0)] [(.ref a2), (.int ([ff0, ff1, ff2].getD x0.toNatClampNeg 0)), (.int yy0)]))
  refine own_step (fun t k => XS.iload X0.here hx rfl (hb hby d5_15) rfl k) ?_
  show own_G p.tables e below _ (s₁.setTop (mkF m 17 #[.val (.ref a1), .val (.ref a2), .val (.ref a3), .val (.ref a4), .val (.int (0 : Int32)), .val (.int x0)] [(.int (0 : Int32)), (.ref a2), (.int ([ff0, ff1, ff2].getD x0.toNatClampNeg 0)), (.int yy0)]))
  refine own_step (fun t k => XS.iload X0.here hx rfl (hb hby d5_17) rfl k) ?_
  show own_G p.tables e below _ (s₁.setTop (mkF m 19 #[.val (.ref a1), .val (.ref a2), .val (.ref a3), .val (.ref a4), .val (.int (0 : Int32)), .val (.int x0)] [(.int x0), (.int (0 : Int32)), (.ref a2), (.int ([ff0, ff1, ff2].getD x0.toNatClampNeg 0)), (.int yy0)]))
  obtain ⟨_, _, ⟨T1, L1, k1, n1⟩, -, X1, ⟨Lc1, hQ1, l1, y1, z1⟩, st1⟩ := Jvm.LawKit.callS X0 hx (y := (⟨"com/example/stevedore/stevedore/MoveGraphCopiesPinLaw", "before", "([III)I"⟩ : MethodName)) hown (mvT hZ (hw _ (List.mem_of_getElem? (i := 10) rfl))) (mvT hZ (hw _ (List.mem_of_getElem? (i := 11) rfl))) (mvT hZ (hw _ (List.mem_of_getElem? (i := 12) rfl))) (mvT hZ (hw _ (List.mem_of_getElem? (i := 13) rfl))) (by decide) (backOf (W := 2) (rm3_m0 l Z a0 hw [] a2 x0 x0 x1 x2 x3 x4 h0 n0 (Nat.le_trans Z0 (Keep.refl h0 []).1) fp1) hZ (hw _ (List.mem_of_getElem? (i := 13) rfl)) (hw _ (List.mem_of_getElem? (i := 12) rfl)) (by decide) (by decide)) (g := (mkF m 19 #[.val (.ref a1), .val (.ref a2), .val (.ref a3), .val (.ref a4), .val (.int (0 : Int32)), .val (.int x0)] [(.int x0), (.int (0 : Int32)), (.ref a2), (.int ([ff0, ff1, ff2].getD x0.toNatClampNeg 0)), (.int yy0)])) rfl (by rw [hml]; rfl) (argsL := [(.ref a2), (.int (0 : Int32)), (.int x0)]) (rest := [(.int ([ff0, ff1, ff2].getD x0.toNatClampNeg 0)), (.int yy0)]) (lenOf pd_5_m0_0 rfl) rfl (by show 2 * 0 + _ ≤ _; exact Nat.le_of_eq rfl) (hb hby d5_19) (fun _ _ => ⟨rfl, e0, (by decide : 0 + 0 ≤ _), (by decide : 0 + 0 ≤ _)⟩)
  dsimp only [Pt.U, Pt.locs, Pt.cells, Pt.slots] at X1 l1 y1 z1 st1 hQ1
  subst y1 z1
  obtain ⟨rfl, N1q, e1⟩ := hQ1
  have N1 : Fr n0 L1 := by rw [l1]; exact Fr.app N0 N1q
  refine own_step st1 ?_
  show own_G p.tables e below _ (T1.setTop (mkF m 22 #[.val (.ref a1), .val (.ref a2), .val (.ref a3), .val (.ref a4), .val (.int (0 : Int32)), .val (.int x0)] [(.int (0 : Int32)), (.int ([ff0, ff1, ff2].getD x0.toNatClampNeg 0)), (.int yy0)]))
  refine own_step (fun t k => XS.aloadN X1.here hx rfl (hb hby d5_22) rfl rfl k) ?_
  show own_G p.tables e below _ (T1.setTop (mkF m 23 #[.val (.ref a1), .val (.ref a2), .val (.ref a3), .val (.ref a4), .val (.int (0 : Int32)), .val (.int x0)] [(.ref a3), (.int (0 : Int32)), (.int ([ff0, ff1, ff2].getD x0.toNatClampNeg 0)), (.int yy0)]))
  refine own_step (fun t k => XS.iload X1.here hx rfl (hb hby d5_23) rfl k) ?_
  show own_G p.tables e below _ (T1.setTop (mkF m 25 #[.val (.ref a1), .val (.ref a2), .val (.ref a3), .val (.ref a4), .val (.int (0 : Int32)), .val (.int x0)] [(.int x0), (.ref a3), (.int (0 : Int32)), (.int ([ff0, ff1, ff2].getD x0.toNatClampNeg 0)), (.int yy0)]))
  refine own_step (own_iaload X1 hx hZ e1 fp2 (own_i3 hx0 (by first | rfl | (simp only [own_inc_len]; rfl) | exact own_cs_len _ _ _ _ _)) (g := (mkF m 25 #[.val (.ref a1), .val (.ref a2), .val (.ref a3), .val (.ref a4), .val (.int (0 : Int32)), .val (.int x0)] [(.int x0), (.ref a3), (.int (0 : Int32)), (.int ([ff0, ff1, ff2].getD x0.toNatClampNeg 0)), (.int yy0)])) rfl rfl (hb hby d5_25)) ?_
  show own_G p.tables e below _ (T1.setTop (mkF m 26 #[.val (.ref a1), .val (.ref a2), .val (.ref a3), .val (.ref a4), .val (.int (0 : Int32)), .val (.int x0)] [(.int ([zz0, zz1, zz2].getD x0.toNatClampNeg 0)), (.int (0 : Int32)), (.int ([ff0, ff1, ff2].getD x0.toNatClampNeg 0)), (.int yy0)]))
  refine own_step (fun t k => XS.idiv X1.here hx rfl (hb hby d5_26) rfl (own_nz3 hx0 hz0 hz1 hz2) k) ?_
  show own_G p.tables e below _ (T1.setTop (mkF m 27 #[.val (.ref a1), .val (.ref a2), .val (.ref a3), .val (.ref a4), .val (.int (0 : Int32)), .val (.int x0)] [(.int ((0 : Int32) / ([zz0, zz1, zz2].getD x0.toNatClampNeg 0))), (.int ([ff0, ff1, ff2].getD x0.toNatClampNeg 0)), (.int yy0)]))
  refine own_step (fun t k => XS.iadd X1.here hx rfl (hb hby d5_27) rfl k) ?_
  show own_G p.tables e below _ (T1.setTop (mkF m 28 #[.val (.ref a1), .val (.ref a2), .val (.ref a3), .val (.ref a4), .val (.int (0 : Int32)), .val (.int x0)] [(.int (([ff0, ff1, ff2].getD x0.toNatClampNeg 0) + ((0 : Int32) / ([zz0, zz1, zz2].getD x0.toNatClampNeg 0)))), (.int yy0)]))
  have hk2 : yy0 = (([ff0, ff1, ff2].getD x0.toNatClampNeg 0) + ((0 : Int32) / ([zz0, zz1, zz2].getD x0.toNatClampNeg 0))) := hq
  refine own_step (fun t k => XS.icmpNo X1.here hx rfl (hb hby d5_28) rfl ((teq hk2).2) k) ?_
  show own_G p.tables e below _ (T1.setTop (mkF m 31 #[.val (.ref a1), .val (.ref a2), .val (.ref a3), .val (.ref a4), .val (.int (0 : Int32)), .val (.int x0)] []))
  refine own_step (fun t k => XS.iconst X1.here hx rfl (hb hby d5_31) k) ?_
  show own_G p.tables e below _ (T1.setTop (mkF m 32 #[.val (.ref a1), .val (.ref a2), .val (.ref a3), .val (.ref a4), .val (.int (0 : Int32)), .val (.int x0)] [(.int (1 : Int32))]))
  refine own_step (fun t k => XS.goto X1.here hx rfl (pc0 := 32) (pc' := 36) rfl (hb hby d5_32) (by decide) (by decide) k) ?_
  show own_G p.tables e below _ (T1.setTop (mkF m 36 #[.val (.ref a1), .val (.ref a2), .val (.ref a3), .val (.ref a4), .val (.int (0 : Int32)), .val (.int x0)] [(.int (1 : Int32))]))
  obtain ⟨fs, hr, hrun, hended, hW, hsame⟩ := X1.leave (v := some (.int (1 : Int32))) (fun h => by rw [Bd.returns] at h; cases h)
  refine own_done (retN X1 hx (t := .boolean) Bd.returns (by simp) (hb hby d5_36) hr) hrun hended ⟨_, _, rfl, ?_, ⟨_, rfl⟩, hW, hsame.mono (by decide) (by decide)⟩
  show Q5_m0 Z a1 a2 a3 a4 x0 x1 x2 x3 x4 zz0 zz1 zz2 yy0 yy1 yy2 yy3 yy4 ff0 ff1 ff2 h0 n0 _ T1.heap _
  rw [e1]
  exact ⟨congrArg (fun z => some (Value.int z)) (show (1 : Int32) = (1 : Int32) from rfl), N1, rfl⟩
theorem pn_3_m1 : plainName "com/example/stevedore/stevedore/MoveGraphCopiesPinLaw" = true := by first | (simp [plainName, overriddenIn]; done) | decide +kernel
theorem ef_3_m1 (m : MethodId) (a1 : Addr) (p3 : Int32) : entryFrame m #[(.ref a1), (.int (1 : Int32)), (.int p3)] 4 = mkF m 0 #[.val (.ref a1), .val (.int (1 : Int32)), .val (.int p3), .unset] [] := by first | (simp [entryFrame, mkF, argsToLocals, Value.category]; done) | rfl
def Q3_m1 (Z : State) (a1 : Addr) (p3 : Int32) (x0 : Int32) (x1 : Int32) (x2 : Int32) (x3 : Int32) (x4 : Int32) (h0 : Heap) (n0 : Nat) (v : Option Value) (h : Heap) (L : List Loc) : Prop := v = some (.int (own_st (0 : Int32) x0 p3)) ∧ Fr n0 L ∧ h = h0
set_option maxRecDepth 65536 in
set_option maxHeartbeats 40000000 in
theorem rm3_m1 (l : Launch) (Z : State) (a0 : Array Value) (hw : ∀ d ∈ tables_1, d.before a0 Z = true) (ws : List Jvm.Cond) (a1 : Addr) (p3 : Int32) (x0 : Int32) (x1 : Int32) (x2 : Int32) (x3 : Int32) (x4 : Int32) (h0 : Heap) (n0 : Nat) (Z0 : n0 ≤ h0.size) (fp0 : own_Ari Z h0 a1 .int [x0, x1, x2, x3, x4]) :
    MetFree l (⟨"com/example/stevedore/stevedore/MoveGraphCopiesPinLaw", "before", "([III)I"⟩ : MethodName) (head1 (Jvm.Cond.code (⟨"com/example/stevedore/stevedore/MoveGraphCopiesPinLaw", "before", "([III)I"⟩ : MethodName) method_5_code 4 (some .int) :: ws) ({ frames := 0, cells := 0, slots := 0, locals := 0 } : Room)) (fun a U => a = #[(.ref a1), (.int (1 : Int32)), (.int p3)] ∧ Z.Warmed39 U.vm ∧ U.heap = h0) (fun _ _ _ _ _ => True) (fun _ U o U' => ∃ v L, o = .returned v ∧ Q3_m1 Z a1 p3 x0 x1 x2 x3 x4 h0 n0 v U'.heap L ∧ FrameEnd U o U' L ({ frames := 0, cells := 0, slots := 0, locals := 0 } : Room).cells ({ frames := 0, cells := 0, slots := 0, locals := 0 } : Room).slots) := by
  refine MetFree.of_bodySF (plainFor_of_name pn_3_m1) hisR ?_
  intro p e s m args below meth c s₁ Bd hml0 hP hK
  obtain ⟨rfl, hZ, hh⟩ := hP
  have hx := Bd.exec
  have hby := Bd.bytes
  have hml : c.maxLocals = 4 := hml0
  have hown : s.vm.findClass "com/example/stevedore/stevedore/MoveGraphCopiesPinLaw" = some m.cls := findClass_of_methodNamed Bd.named
  have hnm := (name_of_methodNamed Bd.named Bd.method).1
  have X0 : Stand p l e ({ frames := 0, cells := 0, slots := 0, locals := 0 } : Room) s m #[(.ref a1), (.int (1 : Int32)), (.int p3)] below meth c s₁ [] 0 0 := Stand.of_body Bd
  have e0 : s₁.heap = h0 := by rw [← hh, Bd.state]; rfl
  have N0 := Fr.nil n0
  refine own_start (fun t k => castTop (ef_3_m1 m a1 p3) k) ?_
  show own_G p.tables e below _ (s₁.setTop (mkF m 0 #[.val (.ref a1), .val (.int (1 : Int32)), .val (.int p3), .unset] []))
  refine own_step (fun t k => XS.iconst X0.here hx rfl (hb hby d3_0) k) ?_
  show own_G p.tables e below _ (s₁.setTop (mkF m 1 #[.val (.ref a1), .val (.int (1 : Int32)), .val (.int p3), .unset] [(.int (0 : Int32))]))
  refine own_step (fun t k => XS.istoreN X0.here hx rfl (hb hby d3_1) rfl (l' := #[.val (.ref a1), .val (.int (1 : Int32)), .val (.int p3), .val (.int (0 : Int32))]) rfl k) ?_
  show own_G p.tables e below _ (s₁.setTop (mkF m 2 #[.val (.ref a1), .val (.int (1 : Int32)), .val (.int p3), .val (.int (0 : Int32))] []))
  refine own_step (fun t k => XS.iloadN X0.here hx rfl (hb hby d3_2) rfl k) ?_
  show own_G p.tables e below _ (s₁.setTop (mkF m 3 #[.val (.ref a1), .val (.int (1 : Int32)), .val (.int p3), .val (.int (0 : Int32))] [(.int (1 : Int32))]))
  have hk1 : (0 : Int32) < (1 : Int32) := (by decide)
  refine own_step (fun t k => XS.ifNo X0.here hx rfl (hb hby d3_3) rfl ((if0 _ _).trans (tlt hk1).2.2.2) k) ?_
  show own_G p.tables e below _ (s₁.setTop (mkF m 6 #[.val (.ref a1), .val (.int (1 : Int32)), .val (.int p3), .val (.int (0 : Int32))] []))
  refine own_step (fun t k => XS.aloadN X0.here hx rfl (hb hby d3_6) rfl rfl k) ?_
  show own_G p.tables e below _ (s₁.setTop (mkF m 7 #[.val (.ref a1), .val (.int (1 : Int32)), .val (.int p3), .val (.int (0 : Int32))] [(.ref a1)]))
  refine own_step (fun t k => XS.iconst X0.here hx rfl (hb hby d3_7) k) ?_
  show own_G p.tables e below _ (s₁.setTop (mkF m 8 #[.val (.ref a1), .val (.int (1 : Int32)), .val (.int p3), .val (.int (0 : Int32))] [(.int (0 : Int32)), (.ref a1)]))
  refine own_step (own_iaload X0 hx hZ e0 fp0 (own_inb (by decide) (Nat.le_of_ble_eq_true rfl)) (g := (mkF m 8 #[.val (.ref a1), .val (.int (1 : Int32)), .val (.int p3), .val (.int (0 : Int32))] [(.int (0 : Int32)), (.ref a1)])) rfl rfl (hb hby d3_8)) ?_
  show own_G p.tables e below _ (s₁.setTop (mkF m 9 #[.val (.ref a1), .val (.int (1 : Int32)), .val (.int p3), .val (.int (0 : Int32))] [(.int x0)]))
  refine own_step (fun t k => XS.iloadN X0.here hx rfl (hb hby d3_9) rfl k) ?_
  show own_G p.tables e below _ (s₁.setTop (mkF m 10 #[.val (.ref a1), .val (.int (1 : Int32)), .val (.int p3), .val (.int (0 : Int32))] [(.int p3), (.int x0)]))
  refine own_imp (B := s₁.setTop (mkF m 16 #[.val (.ref a1), .val (.int (1 : Int32)), .val (.int p3), .val (.int (if x0 = p3 then (1 : Int32) else (0 : Int32)))] [])) (fun k0 => ?_) ?_
  · by_cases hc2 : x0 = p3
    · simp only [if_pos hc2] at k0
      refine own_step (fun t k => XS.icmpNo X0.here hx rfl (hb hby d3_10) rfl ((teq hc2).2) k) ?_
      show own_G p.tables e below _ (s₁.setTop (mkF m 13 #[.val (.ref a1), .val (.int (1 : Int32)), .val (.int p3), .val (.int (0 : Int32))] []))
      refine own_step (fun t k => XS.iinc X0.here hx rfl (hb hby d3_13) rfl (l' := #[.val (.ref a1), .val (.int (1 : Int32)), .val (.int p3), .val (.int (1 : Int32))]) rfl k) ?_
      show own_G p.tables e below _ (s₁.setTop (mkF m 16 #[.val (.ref a1), .val (.int (1 : Int32)), .val (.int p3), .val (.int (1 : Int32))] []))
      exact k0
    · simp only [if_neg hc2] at k0
      refine own_step (fun t k => XS.icmpYes X0.here hx rfl (pc0 := 10) (pc' := 16) rfl (hb hby d3_10) rfl ((feq hc2).2) (by decide) (by decide) k) ?_
      show own_G p.tables e below _ (s₁.setTop (mkF m 16 #[.val (.ref a1), .val (.int (1 : Int32)), .val (.int p3), .val (.int (0 : Int32))] []))
      exact k0
  show own_G p.tables e below _ (s₁.setTop (mkF m 16 #[.val (.ref a1), .val (.int (1 : Int32)), .val (.int p3), .val (.int (if x0 = p3 then (1 : Int32) else (0 : Int32)))] []))
  show own_G p.tables e below _ (s₁.setTop (mkF m 16 #[.val (.ref a1), .val (.int (1 : Int32)), .val (.int p3), .val (.int (own_st (0 : Int32) x0 p3))] []))
  refine own_step (fun t k => XS.iloadN X0.here hx rfl (hb hby d3_16) rfl k) ?_
  show own_G p.tables e below _ (s₁.setTop (mkF m 17 #[.val (.ref a1), .val (.int (1 : Int32)), .val (.int p3), .val (.int (own_st (0 : Int32) x0 p3))] [(.int (1 : Int32))]))
  refine own_step (fun t k => XS.iconst X0.here hx rfl (hb hby d3_17) k) ?_
  show own_G p.tables e below _ (s₁.setTop (mkF m 18 #[.val (.ref a1), .val (.int (1 : Int32)), .val (.int p3), .val (.int (own_st (0 : Int32) x0 p3))] [(.int (1 : Int32)), (.int (1 : Int32))]))
  have hk3 : ¬ ((1 : Int32) < (1 : Int32)) := (by decide)
  refine own_step (fun t k => XS.icmpYes X0.here hx rfl (pc0 := 18) (pc' := 31) rfl (hb hby d3_18) rfl ((flt hk3).2.2.2) (by decide) (by decide) k) ?_
  show own_G p.tables e below _ (s₁.setTop (mkF m 31 #[.val (.ref a1), .val (.int (1 : Int32)), .val (.int p3), .val (.int (own_st (0 : Int32) x0 p3))] []))
  refine own_step (fun t k => XS.iloadN X0.here hx rfl (hb hby d3_31) rfl k) ?_
  show own_G p.tables e below _ (s₁.setTop (mkF m 32 #[.val (.ref a1), .val (.int (1 : Int32)), .val (.int p3), .val (.int (own_st (0 : Int32) x0 p3))] [(.int (1 : Int32))]))
  refine own_step (fun t k => XS.iconst X0.here hx rfl (hb hby d3_32) k) ?_
  show own_G p.tables e below _ (s₁.setTop (mkF m 33 #[.val (.ref a1), .val (.int (1 : Int32)), .val (.int p3), .val (.int (own_st (0 : Int32) x0 p3))] [(.int (2 : Int32)), (.int (1 : Int32))]))
  have hk4 : ¬ ((2 : Int32) < (1 : Int32)) := (by decide)
  refine own_step (fun t k => XS.icmpYes X0.here hx rfl (pc0 := 33) (pc' := 46) rfl (hb hby d3_33) rfl ((flt hk4).2.2.2) (by decide) (by decide) k) ?_
  show own_G p.tables e below _ (s₁.setTop (mkF m 46 #[.val (.ref a1), .val (.int (1 : Int32)), .val (.int p3), .val (.int (own_st (0 : Int32) x0 p3))] []))
  refine own_step (fun t k => XS.iloadN X0.here hx rfl (hb hby d3_46) rfl k) ?_
  show own_G p.tables e below _ (s₁.setTop (mkF m 47 #[.val (.ref a1), .val (.int (1 : Int32)), .val (.int p3), .val (.int (own_st (0 : Int32) x0 p3))] [(.int (1 : Int32))]))
  refine own_step (fun t k => XS.iconst X0.here hx rfl (hb hby d3_47) k) ?_
  show own_G p.tables e below _ (s₁.setTop (mkF m 48 #[.val (.ref a1), .val (.int (1 : Int32)), .val (.int p3), .val (.int (own_st (0 : Int32) x0 p3))] [(.int (3 : Int32)), (.int (1 : Int32))]))
  have hk5 : ¬ ((3 : Int32) < (1 : Int32)) := (by decide)
  refine own_step (fun t k => XS.icmpYes X0.here hx rfl (pc0 := 48) (pc' := 61) rfl (hb hby d3_48) rfl ((flt hk5).2.2.2) (by decide) (by decide) k) ?_
  show own_G p.tables e below _ (s₁.setTop (mkF m 61 #[.val (.ref a1), .val (.int (1 : Int32)), .val (.int p3), .val (.int (own_st (0 : Int32) x0 p3))] []))
  refine own_step (fun t k => XS.iloadN X0.here hx rfl (hb hby d3_61) rfl k) ?_
  show own_G p.tables e below _ (s₁.setTop (mkF m 62 #[.val (.ref a1), .val (.int (1 : Int32)), .val (.int p3), .val (.int (own_st (0 : Int32) x0 p3))] [(.int (1 : Int32))]))
  refine own_step (fun t k => XS.iconst X0.here hx rfl (hb hby d3_62) k) ?_
  show own_G p.tables e below _ (s₁.setTop (mkF m 63 #[.val (.ref a1), .val (.int (1 : Int32)), .val (.int p3), .val (.int (own_st (0 : Int32) x0 p3))] [(.int (4 : Int32)), (.int (1 : Int32))]))
  have hk6 : ¬ ((4 : Int32) < (1 : Int32)) := (by decide)
  refine own_step (fun t k => XS.icmpYes X0.here hx rfl (pc0 := 63) (pc' := 76) rfl (hb hby d3_63) rfl ((flt hk6).2.2.2) (by decide) (by decide) k) ?_
  show own_G p.tables e below _ (s₁.setTop (mkF m 76 #[.val (.ref a1), .val (.int (1 : Int32)), .val (.int p3), .val (.int (own_st (0 : Int32) x0 p3))] []))
  refine own_step (fun t k => XS.iloadN X0.here hx rfl (hb hby d3_76) rfl k) ?_
  show own_G p.tables e below _ (s₁.setTop (mkF m 77 #[.val (.ref a1), .val (.int (1 : Int32)), .val (.int p3), .val (.int (own_st (0 : Int32) x0 p3))] [(.int (own_st (0 : Int32) x0 p3))]))
  obtain ⟨fs, hr, hrun, hended, hW, hsame⟩ := X0.leave (v := some (.int (own_st (0 : Int32) x0 p3))) (fun h => by rw [Bd.returns] at h; cases h)
  refine own_done (retI X0 hx Bd.returns (hb hby d3_77) hr) hrun hended ⟨_, _, rfl, ?_, ⟨_, rfl⟩, hW, hsame.mono (by decide) (by decide)⟩
  show Q3_m1 Z a1 p3 x0 x1 x2 x3 x4 h0 n0 _ s₁.heap _
  rw [e0]
  exact ⟨congrArg (fun z => some (Value.int z)) (show (own_st (0 : Int32) x0 p3) = (own_st (0 : Int32) x0 p3) from rfl), N0, rfl⟩
theorem pn_5_m1 : plainName "com/example/stevedore/stevedore/MoveGraphCopiesPinLaw" = true := by first | (simp [plainName, overriddenIn]; done) | decide +kernel
theorem pd_5_m1_0 : parseMethodDescriptor "([III)I" = some ⟨[(.array .int), .int, .int], some .int⟩ := by decide +kernel
theorem ef_5_m1 (m : MethodId) (a1 : Addr) (a2 : Addr) (a3 : Addr) (a4 : Addr) : entryFrame m #[(.ref a1), (.ref a2), (.ref a3), (.ref a4), (.int (1 : Int32))] 6 = mkF m 0 #[.val (.ref a1), .val (.ref a2), .val (.ref a3), .val (.ref a4), .val (.int (1 : Int32)), .unset] [] := by first | (simp [entryFrame, mkF, argsToLocals, Value.category]; done) | rfl
def Q5_m1 (Z : State) (a1 : Addr) (a2 : Addr) (a3 : Addr) (a4 : Addr) (x0 : Int32) (x1 : Int32) (x2 : Int32) (x3 : Int32) (x4 : Int32) (zz0 : Int32) (zz1 : Int32) (zz2 : Int32) (yy0 : Int32) (yy1 : Int32) (yy2 : Int32) (yy3 : Int32) (yy4 : Int32) (ff0 : Int32) (ff1 : Int32) (ff2 : Int32) (h0 : Heap) (n0 : Nat) (v : Option Value) (h : Heap) (L : List Loc) : Prop := v = some (.int (1 : Int32)) ∧ Fr n0 L ∧ h = h0
set_option maxRecDepth 65536 in
set_option maxHeartbeats 40000000 in
theorem rm5_m1 (l : Launch) (Z : State) (a0 : Array Value) (hw : ∀ d ∈ tables_1, d.before a0 Z = true) (ws : List Jvm.Cond) (a1 : Addr) (a2 : Addr) (a3 : Addr) (a4 : Addr) (x0 : Int32) (x1 : Int32) (x2 : Int32) (x3 : Int32) (x4 : Int32) (zz0 : Int32) (zz1 : Int32) (zz2 : Int32) (yy0 : Int32) (yy1 : Int32) (yy2 : Int32) (yy3 : Int32) (yy4 : Int32) (ff0 : Int32) (ff1 : Int32) (ff2 : Int32) (h0 : Heap) (n0 : Nat) (Z0 : n0 ≤ h0.size) (fp0 : own_Ari Z h0 a1 .int [yy0, yy1, yy2, yy3, yy4]) (fp1 : own_Ari Z h0 a2 .int [x0, x1, x2, x3, x4]) (fp2 : own_Ari Z h0 a3 .int [zz0, zz1, zz2]) (fp3 : own_Ari Z h0 a4 .int [ff0, ff1, ff2]) (hx1 : own_3 x1) (hz0 : zz0 ≠ 0) (hz1 : zz1 ≠ 0) (hz2 : zz2 ≠ 0) (hq : yy1 = (([ff0, ff1, ff2].getD x1.toNatClampNeg 0) + ((own_st (0 : Int32) x0 x1) / ([zz0, zz1, zz2].getD x1.toNatClampNeg 0)))) :
    MetFree l (⟨"com/example/stevedore/stevedore/MoveGraphCopiesPinLaw", "ok", "([I[I[I[II)Z"⟩ : MethodName) (head1 (Jvm.Cond.code (⟨"com/example/stevedore/stevedore/MoveGraphCopiesPinLaw", "ok", "([I[I[I[II)Z"⟩ : MethodName) method_3_code 6 (some .boolean) :: ws) ({ frames := 1, cells := 0, slots := 0, locals := 17 } : Room)) (fun a U => a = #[(.ref a1), (.ref a2), (.ref a3), (.ref a4), (.int (1 : Int32))] ∧ Z.Warmed39 U.vm ∧ U.heap = h0) (fun _ _ _ _ _ => True) (fun _ U o U' => ∃ v L, o = .returned v ∧ Q5_m1 Z a1 a2 a3 a4 x0 x1 x2 x3 x4 zz0 zz1 zz2 yy0 yy1 yy2 yy3 yy4 ff0 ff1 ff2 h0 n0 v U'.heap L ∧ FrameEnd U o U' L ({ frames := 1, cells := 0, slots := 0, locals := 17 } : Room).cells ({ frames := 1, cells := 0, slots := 0, locals := 17 } : Room).slots) := by
  refine MetFree.of_bodySF (plainFor_of_name pn_5_m1) hisR ?_
  intro p e s m args below meth c s₁ Bd hml0 hP hK
  obtain ⟨rfl, hZ, hh⟩ := hP
  have hx := Bd.exec
  have hby := Bd.bytes
  have hml : c.maxLocals = 6 := hml0
  have hown : s.vm.findClass "com/example/stevedore/stevedore/MoveGraphCopiesPinLaw" = some m.cls := findClass_of_methodNamed Bd.named
  have hnm := (name_of_methodNamed Bd.named Bd.method).1
  have X0 : Stand p l e ({ frames := 1, cells := 0, slots := 0, locals := 17 } : Room) s m #[(.ref a1), (.ref a2), (.ref a3), (.ref a4), (.int (1 : Int32))] below meth c s₁ [] 0 0 := Stand.of_body Bd
  have e0 : s₁.heap = h0 := by rw [← hh, Bd.state]; rfl
  have N0 := Fr.nil n0
  refine own_start (fun t k => castTop (ef_5_m1 m a1 a2 a3 a4) k) ?_
  show own_G p.tables e below _ (s₁.setTop (mkF m 0 #[.val (.ref a1), .val (.ref a2), .val (.ref a3), .val (.ref a4), .val (.int (1 : Int32)), .unset] []))
  refine own_step (fun t k => XS.aloadN X0.here hx rfl (hb hby d5_0) rfl rfl k) ?_
  show own_G p.tables e below _ (s₁.setTop (mkF m 1 #[.val (.ref a1), .val (.ref a2), .val (.ref a3), .val (.ref a4), .val (.int (1 : Int32)), .unset] [(.ref a2)]))
  refine own_step (fun t k => XS.iload X0.here hx rfl (hb hby d5_1) rfl k) ?_
  show own_G p.tables e below _ (s₁.setTop (mkF m 3 #[.val (.ref a1), .val (.ref a2), .val (.ref a3), .val (.ref a4), .val (.int (1 : Int32)), .unset] [(.int (1 : Int32)), (.ref a2)]))
  refine own_step (own_iaload X0 hx hZ e0 fp1 (own_inb (by decide) (Nat.le_of_ble_eq_true rfl)) (g := (mkF m 3 #[.val (.ref a1), .val (.ref a2), .val (.ref a3), .val (.ref a4), .val (.int (1 : Int32)), .unset] [(.int (1 : Int32)), (.ref a2)])) rfl rfl (hb hby d5_3)) ?_
  show own_G p.tables e below _ (s₁.setTop (mkF m 4 #[.val (.ref a1), .val (.ref a2), .val (.ref a3), .val (.ref a4), .val (.int (1 : Int32)), .unset] [(.int x1)]))
  refine own_step (fun t k => XS.istore X0.here hx rfl (hb hby d5_4) rfl (l' := #[.val (.ref a1), .val (.ref a2), .val (.ref a3), .val (.ref a4), .val (.int (1 : Int32)), .val (.int x1)]) rfl k) ?_
  show own_G p.tables e below _ (s₁.setTop (mkF m 6 #[.val (.ref a1), .val (.ref a2), .val (.ref a3), .val (.ref a4), .val (.int (1 : Int32)), .val (.int x1)] []))
  refine own_step (fun t k => XS.aloadN X0.here hx rfl (hb hby d5_6) rfl rfl k) ?_
  show own_G p.tables e below _ (s₁.setTop (mkF m 7 #[.val (.ref a1), .val (.ref a2), .val (.ref a3), .val (.ref a4), .val (.int (1 : Int32)), .val (.int x1)] [(.ref a1)]))
  refine own_step (fun t k => XS.iload X0.here hx rfl (hb hby d5_7) rfl k) ?_
  show own_G p.tables e below _ (s₁.setTop (mkF m 9 #[.val (.ref a1), .val (.ref a2), .val (.ref a3), .val (.ref a4), .val (.int (1 : Int32)), .val (.int x1)] [(.int (1 : Int32)), (.ref a1)]))
  refine own_step (own_iaload X0 hx hZ e0 fp0 (own_inb (by decide) (Nat.le_of_ble_eq_true rfl)) (g := (mkF m 9 #[.val (.ref a1), .val (.ref a2), .val (.ref a3), .val (.ref a4), .val (.int (1 : Int32)), .val (.int x1)] [(.int (1 : Int32)), (.ref a1)])) rfl rfl (hb hby d5_9)) ?_
  show own_G p.tables e below _ (s₁.setTop (mkF m 10 #[.val (.ref a1), .val (.ref a2), .val (.ref a3), .val (.ref a4), .val (.int (1 : Int32)), .val (.int x1)] [(.int yy1)]))
  refine own_step (fun t k => XS.aloadN X0.here hx rfl (hb hby d5_10) rfl rfl k) ?_
  show own_G p.tables e below _ (s₁.setTop (mkF m 11 #[.val (.ref a1), .val (.ref a2), .val (.ref a3), .val (.ref a4), .val (.int (1 : Int32)), .val (.int x1)] [(.ref a4), (.int yy1)]))
  refine own_step (fun t k => XS.iload X0.here hx rfl (hb hby d5_11) rfl k) ?_
  show own_G p.tables e below _ (s₁.setTop (mkF m 13 #[.val (.ref a1), .val (.ref a2), .val (.ref a3), .val (.ref a4), .val (.int (1 : Int32)), .val (.int x1)] [(.int x1), (.ref a4), (.int yy1)]))
  refine own_step (own_iaload X0 hx hZ e0 fp3 (own_i3 hx1 (by first | rfl | (simp only [own_inc_len]; rfl) | exact own_cs_len _ _ _ _ _)) (g := (mkF m 13 #[.val (.ref a1), .val (.ref a2), .val (.ref a3), .val (.ref a4), .val (.int (1 : Int32)), .val (.int x1)] [(.int x1), (.ref a4), (.int yy1)])) rfl rfl (hb hby d5_13)) ?_
  show own_G p.tables e below _ (s₁.setTop (mkF m 14 #[.val (.ref a1), .val (.ref a2), .val (.ref a3), .val (.ref a4), .val (.int (1 : Int32)), .val (.int x1)] [(.int ([ff0, ff1, ff2].getD x1.toNatClampNeg 0)), (.int yy1)]))
  refine own_step (fun t k => XS.aloadN X0.here hx rfl (hb hby d5_14) rfl rfl k) ?_
  show own_G p.tables e below _ (s₁.setTop (mkF m 15 #[.val (.ref a1), .val (.ref a2), .val (.ref a3), .val (.ref a4), .val (.int (1 : Int32)), .val (.int x1)] [(.ref a2), (.int ([ff0, ff1, ff2].getD x1.toNatClampNeg 0)), (.int yy1)]))
  refine own_step (fun t k => XS.iload X0.here hx rfl (hb hby d5_15) rfl k) ?_
  show own_G p.tables e below _ (s₁.setTop (mkF m 17 #[.val (.ref a1), .val (.ref a2), .val (.ref a3), .val (.ref a4), .val (.int (1 : Int32)), .val (.int x1)] [(.int (1 : Int32)), (.ref a2), (.int ([ff0, ff1, ff2].getD x1.toNatClampNeg 0)), (.int yy1)]))
  refine own_step (fun t k => XS.iload X0.here hx rfl (hb hby d5_17) rfl k) ?_
  show own_G p.tables e below _ (s₁.setTop (mkF m 19 #[.val (.ref a1), .val (.ref a2), .val (.ref a3), .val (.ref a4), .val (.int (1 : Int32)), .val (.int x1)] [(.int x1), (.int (1 : Int32)), (.ref a2), (.int ([ff0, ff1, ff2].getD x1.toNatClampNeg 0)), (.int yy1)]))
  obtain ⟨_, _, ⟨T1, L1, k1, n1⟩, -, X1, ⟨Lc1, hQ1, l1, y1, z1⟩, st1⟩ := Jvm.LawKit.callS X0 hx (y := (⟨"com/example/stevedore/stevedore/MoveGraphCopiesPinLaw", "before", "([III)I"⟩ : MethodName)) hown (mvT hZ (hw _ (List.mem_of_getElem? (i := 10) rfl))) (mvT hZ (hw _ (List.mem_of_getElem? (i := 11) rfl))) (mvT hZ (hw _ (List.mem_of_getElem? (i := 12) rfl))) (mvT hZ (hw _ (List.mem_of_getElem? (i := 13) rfl))) (by decide) (backOf (W := 2) (rm3_m1 l Z a0 hw [] a2 x1 x0 x1 x2 x3 x4 h0 n0 (Nat.le_trans Z0 (Keep.refl h0 []).1) fp1) hZ (hw _ (List.mem_of_getElem? (i := 13) rfl)) (hw _ (List.mem_of_getElem? (i := 12) rfl)) (by decide) (by decide)) (g := (mkF m 19 #[.val (.ref a1), .val (.ref a2), .val (.ref a3), .val (.ref a4), .val (.int (1 : Int32)), .val (.int x1)] [(.int x1), (.int (1 : Int32)), (.ref a2), (.int ([ff0, ff1, ff2].getD x1.toNatClampNeg 0)), (.int yy1)])) rfl (by rw [hml]; rfl) (argsL := [(.ref a2), (.int (1 : Int32)), (.int x1)]) (rest := [(.int ([ff0, ff1, ff2].getD x1.toNatClampNeg 0)), (.int yy1)]) (lenOf pd_5_m1_0 rfl) rfl (by show 2 * 0 + _ ≤ _; exact Nat.le_of_eq rfl) (hb hby d5_19) (fun _ _ => ⟨rfl, e0, (by decide : 0 + 0 ≤ _), (by decide : 0 + 0 ≤ _)⟩)
  dsimp only [Pt.U, Pt.locs, Pt.cells, Pt.slots] at X1 l1 y1 z1 st1 hQ1
  subst y1 z1
  obtain ⟨rfl, N1q, e1⟩ := hQ1
  have N1 : Fr n0 L1 := by rw [l1]; exact Fr.app N0 N1q
  refine own_step st1 ?_
  show own_G p.tables e below _ (T1.setTop (mkF m 22 #[.val (.ref a1), .val (.ref a2), .val (.ref a3), .val (.ref a4), .val (.int (1 : Int32)), .val (.int x1)] [(.int (own_st (0 : Int32) x0 x1)), (.int ([ff0, ff1, ff2].getD x1.toNatClampNeg 0)), (.int yy1)]))
  refine own_step (fun t k => XS.aloadN X1.here hx rfl (hb hby d5_22) rfl rfl k) ?_
  show own_G p.tables e below _ (T1.setTop (mkF m 23 #[.val (.ref a1), .val (.ref a2), .val (.ref a3), .val (.ref a4), .val (.int (1 : Int32)), .val (.int x1)] [(.ref a3), (.int (own_st (0 : Int32) x0 x1)), (.int ([ff0, ff1, ff2].getD x1.toNatClampNeg 0)), (.int yy1)]))
  refine own_step (fun t k => XS.iload X1.here hx rfl (hb hby d5_23) rfl k) ?_
  show own_G p.tables e below _ (T1.setTop (mkF m 25 #[.val (.ref a1), .val (.ref a2), .val (.ref a3), .val (.ref a4), .val (.int (1 : Int32)), .val (.int x1)] [(.int x1), (.ref a3), (.int (own_st (0 : Int32) x0 x1)), (.int ([ff0, ff1, ff2].getD x1.toNatClampNeg 0)), (.int yy1)]))
  refine own_step (own_iaload X1 hx hZ e1 fp2 (own_i3 hx1 (by first | rfl | (simp only [own_inc_len]; rfl) | exact own_cs_len _ _ _ _ _)) (g := (mkF m 25 #[.val (.ref a1), .val (.ref a2), .val (.ref a3), .val (.ref a4), .val (.int (1 : Int32)), .val (.int x1)] [(.int x1), (.ref a3), (.int (own_st (0 : Int32) x0 x1)), (.int ([ff0, ff1, ff2].getD x1.toNatClampNeg 0)), (.int yy1)])) rfl rfl (hb hby d5_25)) ?_
  show own_G p.tables e below _ (T1.setTop (mkF m 26 #[.val (.ref a1), .val (.ref a2), .val (.ref a3), .val (.ref a4), .val (.int (1 : Int32)), .val (.int x1)] [(.int ([zz0, zz1, zz2].getD x1.toNatClampNeg 0)), (.int (own_st (0 : Int32) x0 x1)), (.int ([ff0, ff1, ff2].getD x1.toNatClampNeg 0)), (.int yy1)]))
  refine own_step (fun t k => XS.idiv X1.here hx rfl (hb hby d5_26) rfl (own_nz3 hx1 hz0 hz1 hz2) k) ?_
  show own_G p.tables e below _ (T1.setTop (mkF m 27 #[.val (.ref a1), .val (.ref a2), .val (.ref a3), .val (.ref a4), .val (.int (1 : Int32)), .val (.int x1)] [(.int ((own_st (0 : Int32) x0 x1) / ([zz0, zz1, zz2].getD x1.toNatClampNeg 0))), (.int ([ff0, ff1, ff2].getD x1.toNatClampNeg 0)), (.int yy1)]))
  refine own_step (fun t k => XS.iadd X1.here hx rfl (hb hby d5_27) rfl k) ?_
  show own_G p.tables e below _ (T1.setTop (mkF m 28 #[.val (.ref a1), .val (.ref a2), .val (.ref a3), .val (.ref a4), .val (.int (1 : Int32)), .val (.int x1)] [(.int (([ff0, ff1, ff2].getD x1.toNatClampNeg 0) + ((own_st (0 : Int32) x0 x1) / ([zz0, zz1, zz2].getD x1.toNatClampNeg 0)))), (.int yy1)]))
  have hk2 : yy1 = (([ff0, ff1, ff2].getD x1.toNatClampNeg 0) + ((own_st (0 : Int32) x0 x1) / ([zz0, zz1, zz2].getD x1.toNatClampNeg 0))) := hq
  refine own_step (fun t k => XS.icmpNo X1.here hx rfl (hb hby d5_28) rfl ((teq hk2).2) k) ?_
  show own_G p.tables e below _ (T1.setTop (mkF m 31 #[.val (.ref a1), .val (.ref a2), .val (.ref a3), .val (.ref a4), .val (.int (1 : Int32)), .val (.int x1)] []))
  refine own_step (fun t k => XS.iconst X1.here hx rfl (hb hby d5_31) k) ?_
  show own_G p.tables e below _ (T1.setTop (mkF m 32 #[.val (.ref a1), .val (.ref a2), .val (.ref a3), .val (.ref a4), .val (.int (1 : Int32)), .val (.int x1)] [(.int (1 : Int32))]))
  refine own_step (fun t k => XS.goto X1.here hx rfl (pc0 := 32) (pc' := 36) rfl (hb hby d5_32) (by decide) (by decide) k) ?_
  show own_G p.tables e below _ (T1.setTop (mkF m 36 #[.val (.ref a1), .val (.ref a2), .val (.ref a3), .val (.ref a4), .val (.int (1 : Int32)), .val (.int x1)] [(.int (1 : Int32))]))
  obtain ⟨fs, hr, hrun, hended, hW, hsame⟩ := X1.leave (v := some (.int (1 : Int32))) (fun h => by rw [Bd.returns] at h; cases h)
  refine own_done (retN X1 hx (t := .boolean) Bd.returns (by simp) (hb hby d5_36) hr) hrun hended ⟨_, _, rfl, ?_, ⟨_, rfl⟩, hW, hsame.mono (by decide) (by decide)⟩
  show Q5_m1 Z a1 a2 a3 a4 x0 x1 x2 x3 x4 zz0 zz1 zz2 yy0 yy1 yy2 yy3 yy4 ff0 ff1 ff2 h0 n0 _ T1.heap _
  rw [e1]
  exact ⟨congrArg (fun z => some (Value.int z)) (show (1 : Int32) = (1 : Int32) from rfl), N1, rfl⟩
theorem pn_3_m2 : plainName "com/example/stevedore/stevedore/MoveGraphCopiesPinLaw" = true := by first | (simp [plainName, overriddenIn]; done) | decide +kernel
theorem ef_3_m2 (m : MethodId) (a1 : Addr) (p3 : Int32) : entryFrame m #[(.ref a1), (.int (2 : Int32)), (.int p3)] 4 = mkF m 0 #[.val (.ref a1), .val (.int (2 : Int32)), .val (.int p3), .unset] [] := by first | (simp [entryFrame, mkF, argsToLocals, Value.category]; done) | rfl
def Q3_m2 (Z : State) (a1 : Addr) (p3 : Int32) (x0 : Int32) (x1 : Int32) (x2 : Int32) (x3 : Int32) (x4 : Int32) (h0 : Heap) (n0 : Nat) (v : Option Value) (h : Heap) (L : List Loc) : Prop := v = some (.int (own_st (own_st (0 : Int32) x0 p3) x1 p3)) ∧ Fr n0 L ∧ h = h0
set_option maxRecDepth 65536 in
set_option maxHeartbeats 40000000 in
theorem rm3_m2 (l : Launch) (Z : State) (a0 : Array Value) (hw : ∀ d ∈ tables_1, d.before a0 Z = true) (ws : List Jvm.Cond) (a1 : Addr) (p3 : Int32) (x0 : Int32) (x1 : Int32) (x2 : Int32) (x3 : Int32) (x4 : Int32) (h0 : Heap) (n0 : Nat) (Z0 : n0 ≤ h0.size) (fp0 : own_Ari Z h0 a1 .int [x0, x1, x2, x3, x4]) :
    MetFree l (⟨"com/example/stevedore/stevedore/MoveGraphCopiesPinLaw", "before", "([III)I"⟩ : MethodName) (head1 (Jvm.Cond.code (⟨"com/example/stevedore/stevedore/MoveGraphCopiesPinLaw", "before", "([III)I"⟩ : MethodName) method_5_code 4 (some .int) :: ws) ({ frames := 0, cells := 0, slots := 0, locals := 0 } : Room)) (fun a U => a = #[(.ref a1), (.int (2 : Int32)), (.int p3)] ∧ Z.Warmed39 U.vm ∧ U.heap = h0) (fun _ _ _ _ _ => True) (fun _ U o U' => ∃ v L, o = .returned v ∧ Q3_m2 Z a1 p3 x0 x1 x2 x3 x4 h0 n0 v U'.heap L ∧ FrameEnd U o U' L ({ frames := 0, cells := 0, slots := 0, locals := 0 } : Room).cells ({ frames := 0, cells := 0, slots := 0, locals := 0 } : Room).slots) := by
  refine MetFree.of_bodySF (plainFor_of_name pn_3_m2) hisR ?_
  intro p e s m args below meth c s₁ Bd hml0 hP hK
  obtain ⟨rfl, hZ, hh⟩ := hP
  have hx := Bd.exec
  have hby := Bd.bytes
  have hml : c.maxLocals = 4 := hml0
  have hown : s.vm.findClass "com/example/stevedore/stevedore/MoveGraphCopiesPinLaw" = some m.cls := findClass_of_methodNamed Bd.named
  have hnm := (name_of_methodNamed Bd.named Bd.method).1
  have X0 : Stand p l e ({ frames := 0, cells := 0, slots := 0, locals := 0 } : Room) s m #[(.ref a1), (.int (2 : Int32)), (.int p3)] below meth c s₁ [] 0 0 := Stand.of_body Bd
  have e0 : s₁.heap = h0 := by rw [← hh, Bd.state]; rfl
  have N0 := Fr.nil n0
  refine own_start (fun t k => castTop (ef_3_m2 m a1 p3) k) ?_
  show own_G p.tables e below _ (s₁.setTop (mkF m 0 #[.val (.ref a1), .val (.int (2 : Int32)), .val (.int p3), .unset] []))
  refine own_step (fun t k => XS.iconst X0.here hx rfl (hb hby d3_0) k) ?_
  show own_G p.tables e below _ (s₁.setTop (mkF m 1 #[.val (.ref a1), .val (.int (2 : Int32)), .val (.int p3), .unset] [(.int (0 : Int32))]))
  refine own_step (fun t k => XS.istoreN X0.here hx rfl (hb hby d3_1) rfl (l' := #[.val (.ref a1), .val (.int (2 : Int32)), .val (.int p3), .val (.int (0 : Int32))]) rfl k) ?_
  show own_G p.tables e below _ (s₁.setTop (mkF m 2 #[.val (.ref a1), .val (.int (2 : Int32)), .val (.int p3), .val (.int (0 : Int32))] []))
  refine own_step (fun t k => XS.iloadN X0.here hx rfl (hb hby d3_2) rfl k) ?_
  show own_G p.tables e below _ (s₁.setTop (mkF m 3 #[.val (.ref a1), .val (.int (2 : Int32)), .val (.int p3), .val (.int (0 : Int32))] [(.int (2 : Int32))]))
  have hk1 : (0 : Int32) < (2 : Int32) := (by decide)
  refine own_step (fun t k => XS.ifNo X0.here hx rfl (hb hby d3_3) rfl ((if0 _ _).trans (tlt hk1).2.2.2) k) ?_
  show own_G p.tables e below _ (s₁.setTop (mkF m 6 #[.val (.ref a1), .val (.int (2 : Int32)), .val (.int p3), .val (.int (0 : Int32))] []))
  refine own_step (fun t k => XS.aloadN X0.here hx rfl (hb hby d3_6) rfl rfl k) ?_
  show own_G p.tables e below _ (s₁.setTop (mkF m 7 #[.val (.ref a1), .val (.int (2 : Int32)), .val (.int p3), .val (.int (0 : Int32))] [(.ref a1)]))
  refine own_step (fun t k => XS.iconst X0.here hx rfl (hb hby d3_7) k) ?_
  show own_G p.tables e below _ (s₁.setTop (mkF m 8 #[.val (.ref a1), .val (.int (2 : Int32)), .val (.int p3), .val (.int (0 : Int32))] [(.int (0 : Int32)), (.ref a1)]))
  refine own_step (own_iaload X0 hx hZ e0 fp0 (own_inb (by decide) (Nat.le_of_ble_eq_true rfl)) (g := (mkF m 8 #[.val (.ref a1), .val (.int (2 : Int32)), .val (.int p3), .val (.int (0 : Int32))] [(.int (0 : Int32)), (.ref a1)])) rfl rfl (hb hby d3_8)) ?_
  show own_G p.tables e below _ (s₁.setTop (mkF m 9 #[.val (.ref a1), .val (.int (2 : Int32)), .val (.int p3), .val (.int (0 : Int32))] [(.int x0)]))
  refine own_step (fun t k => XS.iloadN X0.here hx rfl (hb hby d3_9) rfl k) ?_
  show own_G p.tables e below _ (s₁.setTop (mkF m 10 #[.val (.ref a1), .val (.int (2 : Int32)), .val (.int p3), .val (.int (0 : Int32))] [(.int p3), (.int x0)]))
  refine own_imp (B := s₁.setTop (mkF m 16 #[.val (.ref a1), .val (.int (2 : Int32)), .val (.int p3), .val (.int (if x0 = p3 then (1 : Int32) else (0 : Int32)))] [])) (fun k0 => ?_) ?_
  · by_cases hc2 : x0 = p3
    · simp only [if_pos hc2] at k0
      refine own_step (fun t k => XS.icmpNo X0.here hx rfl (hb hby d3_10) rfl ((teq hc2).2) k) ?_
      show own_G p.tables e below _ (s₁.setTop (mkF m 13 #[.val (.ref a1), .val (.int (2 : Int32)), .val (.int p3), .val (.int (0 : Int32))] []))
      refine own_step (fun t k => XS.iinc X0.here hx rfl (hb hby d3_13) rfl (l' := #[.val (.ref a1), .val (.int (2 : Int32)), .val (.int p3), .val (.int (1 : Int32))]) rfl k) ?_
      show own_G p.tables e below _ (s₁.setTop (mkF m 16 #[.val (.ref a1), .val (.int (2 : Int32)), .val (.int p3), .val (.int (1 : Int32))] []))
      exact k0
    · simp only [if_neg hc2] at k0
      refine own_step (fun t k => XS.icmpYes X0.here hx rfl (pc0 := 10) (pc' := 16) rfl (hb hby d3_10) rfl ((feq hc2).2) (by decide) (by decide) k) ?_
      show own_G p.tables e below _ (s₁.setTop (mkF m 16 #[.val (.ref a1), .val (.int (2 : Int32)), .val (.int p3), .val (.int (0 : Int32))] []))
      exact k0
  show own_G p.tables e below _ (s₁.setTop (mkF m 16 #[.val (.ref a1), .val (.int (2 : Int32)), .val (.int p3), .val (.int (if x0 = p3 then (1 : Int32) else (0 : Int32)))] []))
  show own_G p.tables e below _ (s₁.setTop (mkF m 16 #[.val (.ref a1), .val (.int (2 : Int32)), .val (.int p3), .val (.int (own_st (0 : Int32) x0 p3))] []))
  refine own_step (fun t k => XS.iloadN X0.here hx rfl (hb hby d3_16) rfl k) ?_
  show own_G p.tables e below _ (s₁.setTop (mkF m 17 #[.val (.ref a1), .val (.int (2 : Int32)), .val (.int p3), .val (.int (own_st (0 : Int32) x0 p3))] [(.int (2 : Int32))]))
  refine own_step (fun t k => XS.iconst X0.here hx rfl (hb hby d3_17) k) ?_
  show own_G p.tables e below _ (s₁.setTop (mkF m 18 #[.val (.ref a1), .val (.int (2 : Int32)), .val (.int p3), .val (.int (own_st (0 : Int32) x0 p3))] [(.int (1 : Int32)), (.int (2 : Int32))]))
  have hk3 : (1 : Int32) < (2 : Int32) := (by decide)
  refine own_step (fun t k => XS.icmpNo X0.here hx rfl (hb hby d3_18) rfl ((tlt hk3).2.2.2) k) ?_
  show own_G p.tables e below _ (s₁.setTop (mkF m 21 #[.val (.ref a1), .val (.int (2 : Int32)), .val (.int p3), .val (.int (own_st (0 : Int32) x0 p3))] []))
  refine own_step (fun t k => XS.aloadN X0.here hx rfl (hb hby d3_21) rfl rfl k) ?_
  show own_G p.tables e below _ (s₁.setTop (mkF m 22 #[.val (.ref a1), .val (.int (2 : Int32)), .val (.int p3), .val (.int (own_st (0 : Int32) x0 p3))] [(.ref a1)]))
  refine own_step (fun t k => XS.iconst X0.here hx rfl (hb hby d3_22) k) ?_
  show own_G p.tables e below _ (s₁.setTop (mkF m 23 #[.val (.ref a1), .val (.int (2 : Int32)), .val (.int p3), .val (.int (own_st (0 : Int32) x0 p3))] [(.int (1 : Int32)), (.ref a1)]))
  refine own_step (own_iaload X0 hx hZ e0 fp0 (own_inb (by decide) (Nat.le_of_ble_eq_true rfl)) (g := (mkF m 23 #[.val (.ref a1), .val (.int (2 : Int32)), .val (.int p3), .val (.int (own_st (0 : Int32) x0 p3))] [(.int (1 : Int32)), (.ref a1)])) rfl rfl (hb hby d3_23)) ?_
  show own_G p.tables e below _ (s₁.setTop (mkF m 24 #[.val (.ref a1), .val (.int (2 : Int32)), .val (.int p3), .val (.int (own_st (0 : Int32) x0 p3))] [(.int x1)]))
  refine own_step (fun t k => XS.iloadN X0.here hx rfl (hb hby d3_24) rfl k) ?_
  show own_G p.tables e below _ (s₁.setTop (mkF m 25 #[.val (.ref a1), .val (.int (2 : Int32)), .val (.int p3), .val (.int (own_st (0 : Int32) x0 p3))] [(.int p3), (.int x1)]))
  refine own_imp (B := s₁.setTop (mkF m 31 #[.val (.ref a1), .val (.int (2 : Int32)), .val (.int p3), .val (.int (if x1 = p3 then ((own_st (0 : Int32) x0 p3) + (1 : Int32)) else (own_st (0 : Int32) x0 p3)))] [])) (fun k0 => ?_) ?_
  · by_cases hc4 : x1 = p3
    · simp only [if_pos hc4] at k0
      refine own_step (fun t k => XS.icmpNo X0.here hx rfl (hb hby d3_25) rfl ((teq hc4).2) k) ?_
      show own_G p.tables e below _ (s₁.setTop (mkF m 28 #[.val (.ref a1), .val (.int (2 : Int32)), .val (.int p3), .val (.int (own_st (0 : Int32) x0 p3))] []))
      refine own_step (fun t k => XS.iinc X0.here hx rfl (hb hby d3_28) rfl (l' := #[.val (.ref a1), .val (.int (2 : Int32)), .val (.int p3), .val (.int ((own_st (0 : Int32) x0 p3) + (1 : Int32)))]) rfl k) ?_
      show own_G p.tables e below _ (s₁.setTop (mkF m 31 #[.val (.ref a1), .val (.int (2 : Int32)), .val (.int p3), .val (.int ((own_st (0 : Int32) x0 p3) + (1 : Int32)))] []))
      exact k0
    · simp only [if_neg hc4] at k0
      refine own_step (fun t k => XS.icmpYes X0.here hx rfl (pc0 := 25) (pc' := 31) rfl (hb hby d3_25) rfl ((feq hc4).2) (by decide) (by decide) k) ?_
      show own_G p.tables e below _ (s₁.setTop (mkF m 31 #[.val (.ref a1), .val (.int (2 : Int32)), .val (.int p3), .val (.int (own_st (0 : Int32) x0 p3))] []))
      exact k0
  show own_G p.tables e below _ (s₁.setTop (mkF m 31 #[.val (.ref a1), .val (.int (2 : Int32)), .val (.int p3), .val (.int (if x1 = p3 then ((own_st (0 : Int32) x0 p3) + (1 : Int32)) else (own_st (0 : Int32) x0 p3)))] []))
  show own_G p.tables e below _ (s₁.setTop (mkF m 31 #[.val (.ref a1), .val (.int (2 : Int32)), .val (.int p3), .val (.int (own_st (own_st (0 : Int32) x0 p3) x1 p3))] []))
  refine own_step (fun t k => XS.iloadN X0.here hx rfl (hb hby d3_31) rfl k) ?_
  show own_G p.tables e below _ (s₁.setTop (mkF m 32 #[.val (.ref a1), .val (.int (2 : Int32)), .val (.int p3), .val (.int (own_st (own_st (0 : Int32) x0 p3) x1 p3))] [(.int (2 : Int32))]))
  refine own_step (fun t k => XS.iconst X0.here hx rfl (hb hby d3_32) k) ?_
  show own_G p.tables e below _ (s₁.setTop (mkF m 33 #[.val (.ref a1), .val (.int (2 : Int32)), .val (.int p3), .val (.int (own_st (own_st (0 : Int32) x0 p3) x1 p3))] [(.int (2 : Int32)), (.int (2 : Int32))]))
  have hk5 : ¬ ((2 : Int32) < (2 : Int32)) := (by decide)
  refine own_step (fun t k => XS.icmpYes X0.here hx rfl (pc0 := 33) (pc' := 46) rfl (hb hby d3_33) rfl ((flt hk5).2.2.2) (by decide) (by decide) k) ?_
  show own_G p.tables e below _ (s₁.setTop (mkF m 46 #[.val (.ref a1), .val (.int (2 : Int32)), .val (.int p3), .val (.int (own_st (own_st (0 : Int32) x0 p3) x1 p3))] []))
  refine own_step (fun t k => XS.iloadN X0.here hx rfl (hb hby d3_46) rfl k) ?_
  show own_G p.tables e below _ (s₁.setTop (mkF m 47 #[.val (.ref a1), .val (.int (2 : Int32)), .val (.int p3), .val (.int (own_st (own_st (0 : Int32) x0 p3) x1 p3))] [(.int (2 : Int32))]))
  refine own_step (fun t k => XS.iconst X0.here hx rfl (hb hby d3_47) k) ?_
  show own_G p.tables e below _ (s₁.setTop (mkF m 48 #[.val (.ref a1), .val (.int (2 : Int32)), .val (.int p3), .val (.int (own_st (own_st (0 : Int32) x0 p3) x1 p3))] [(.int (3 : Int32)), (.int (2 : Int32))]))
  have hk6 : ¬ ((3 : Int32) < (2 : Int32)) := (by decide)
  refine own_step (fun t k => XS.icmpYes X0.here hx rfl (pc0 := 48) (pc' := 61) rfl (hb hby d3_48) rfl ((flt hk6).2.2.2) (by decide) (by decide) k) ?_
  show own_G p.tables e below _ (s₁.setTop (mkF m 61 #[.val (.ref a1), .val (.int (2 : Int32)), .val (.int p3), .val (.int (own_st (own_st (0 : Int32) x0 p3) x1 p3))] []))
  refine own_step (fun t k => XS.iloadN X0.here hx rfl (hb hby d3_61) rfl k) ?_
  show own_G p.tables e below _ (s₁.setTop (mkF m 62 #[.val (.ref a1), .val (.int (2 : Int32)), .val (.int p3), .val (.int (own_st (own_st (0 : Int32) x0 p3) x1 p3))] [(.int (2 : Int32))]))
  refine own_step (fun t k => XS.iconst X0.here hx rfl (hb hby d3_62) k) ?_
  show own_G p.tables e below _ (s₁.setTop (mkF m 63 #[.val (.ref a1), .val (.int (2 : Int32)), .val (.int p3), .val (.int (own_st (own_st (0 : Int32) x0 p3) x1 p3))] [(.int (4 : Int32)), (.int (2 : Int32))]))
  have hk7 : ¬ ((4 : Int32) < (2 : Int32)) := (by decide)
  refine own_step (fun t k => XS.icmpYes X0.here hx rfl (pc0 := 63) (pc' := 76) rfl (hb hby d3_63) rfl ((flt hk7).2.2.2) (by decide) (by decide) k) ?_
  show own_G p.tables e below _ (s₁.setTop (mkF m 76 #[.val (.ref a1), .val (.int (2 : Int32)), .val (.int p3), .val (.int (own_st (own_st (0 : Int32) x0 p3) x1 p3))] []))
  refine own_step (fun t k => XS.iloadN X0.here hx rfl (hb hby d3_76) rfl k) ?_
  show own_G p.tables e below _ (s₁.setTop (mkF m 77 #[.val (.ref a1), .val (.int (2 : Int32)), .val (.int p3), .val (.int (own_st (own_st (0 : Int32) x0 p3) x1 p3))] [(.int (own_st (own_st (0 : Int32) x0 p3) x1 p3))]))
  obtain ⟨fs, hr, hrun, hended, hW, hsame⟩ := X0.leave (v := some (.int (own_st (own_st (0 : Int32) x0 p3) x1 p3))) (fun h => by rw [Bd.returns] at h; cases h)
  refine own_done (retI X0 hx Bd.returns (hb hby d3_77) hr) hrun hended ⟨_, _, rfl, ?_, ⟨_, rfl⟩, hW, hsame.mono (by decide) (by decide)⟩
  show Q3_m2 Z a1 p3 x0 x1 x2 x3 x4 h0 n0 _ s₁.heap _
  rw [e0]
  exact ⟨congrArg (fun z => some (Value.int z)) (show (own_st (own_st (0 : Int32) x0 p3) x1 p3) = (own_st (own_st (0 : Int32) x0 p3) x1 p3) from rfl), N0, rfl⟩
theorem pn_5_m2 : plainName "com/example/stevedore/stevedore/MoveGraphCopiesPinLaw" = true := by first | (simp [plainName, overriddenIn]; done) | decide +kernel
theorem pd_5_m2_0 : parseMethodDescriptor "([III)I" = some ⟨[(.array .int), .int, .int], some .int⟩ := by decide +kernel
theorem ef_5_m2 (m : MethodId) (a1 : Addr) (a2 : Addr) (a3 : Addr) (a4 : Addr) : entryFrame m #[(.ref a1), (.ref a2), (.ref a3), (.ref a4), (.int (2 : Int32))] 6 = mkF m 0 #[.val (.ref a1), .val (.ref a2), .val (.ref a3), .val (.ref a4), .val (.int (2 : Int32)), .unset] [] := by first | (simp [entryFrame, mkF, argsToLocals, Value.category]; done) | rfl
def Q5_m2 (Z : State) (a1 : Addr) (a2 : Addr) (a3 : Addr) (a4 : Addr) (x0 : Int32) (x1 : Int32) (x2 : Int32) (x3 : Int32) (x4 : Int32) (zz0 : Int32) (zz1 : Int32) (zz2 : Int32) (yy0 : Int32) (yy1 : Int32) (yy2 : Int32) (yy3 : Int32) (yy4 : Int32) (ff0 : Int32) (ff1 : Int32) (ff2 : Int32) (h0 : Heap) (n0 : Nat) (v : Option Value) (h : Heap) (L : List Loc) : Prop := v = some (.int (1 : Int32)) ∧ Fr n0 L ∧ h = h0
set_option maxRecDepth 65536 in
set_option maxHeartbeats 40000000 in
theorem rm5_m2 (l : Launch) (Z : State) (a0 : Array Value) (hw : ∀ d ∈ tables_1, d.before a0 Z = true) (ws : List Jvm.Cond) (a1 : Addr) (a2 : Addr) (a3 : Addr) (a4 : Addr) (x0 : Int32) (x1 : Int32) (x2 : Int32) (x3 : Int32) (x4 : Int32) (zz0 : Int32) (zz1 : Int32) (zz2 : Int32) (yy0 : Int32) (yy1 : Int32) (yy2 : Int32) (yy3 : Int32) (yy4 : Int32) (ff0 : Int32) (ff1 : Int32) (ff2 : Int32) (h0 : Heap) (n0 : Nat) (Z0 : n0 ≤ h0.size) (fp0 : own_Ari Z h0 a1 .int [yy0, yy1, yy2, yy3, yy4]) (fp1 : own_Ari Z h0 a2 .int [x0, x1, x2, x3, x4]) (fp2 : own_Ari Z h0 a3 .int [zz0, zz1, zz2]) (fp3 : own_Ari Z h0 a4 .int [ff0, ff1, ff2]) (hx2 : own_3 x2) (hz0 : zz0 ≠ 0) (hz1 : zz1 ≠ 0) (hz2 : zz2 ≠ 0) (hq : yy2 = (([ff0, ff1, ff2].getD x2.toNatClampNeg 0) + ((own_st (own_st (0 : Int32) x0 x2) x1 x2) / ([zz0, zz1, zz2].getD x2.toNatClampNeg 0)))) :
    MetFree l (⟨"com/example/stevedore/stevedore/MoveGraphCopiesPinLaw", "ok", "([I[I[I[II)Z"⟩ : MethodName) (head1 (Jvm.Cond.code (⟨"com/example/stevedore/stevedore/MoveGraphCopiesPinLaw", "ok", "([I[I[I[II)Z"⟩ : MethodName) method_3_code 6 (some .boolean) :: ws) ({ frames := 1, cells := 0, slots := 0, locals := 17 } : Room)) (fun a U => a = #[(.ref a1), (.ref a2), (.ref a3), (.ref a4), (.int (2 : Int32))] ∧ Z.Warmed39 U.vm ∧ U.heap = h0) (fun _ _ _ _ _ => True) (fun _ U o U' => ∃ v L, o = .returned v ∧ Q5_m2 Z a1 a2 a3 a4 x0 x1 x2 x3 x4 zz0 zz1 zz2 yy0 yy1 yy2 yy3 yy4 ff0 ff1 ff2 h0 n0 v U'.heap L ∧ FrameEnd U o U' L ({ frames := 1, cells := 0, slots := 0, locals := 17 } : Room).cells ({ frames := 1, cells := 0, slots := 0, locals := 17 } : Room).slots) := by
  refine MetFree.of_bodySF (plainFor_of_name pn_5_m2) hisR ?_
  intro p e s m args below meth c s₁ Bd hml0 hP hK
  obtain ⟨rfl, hZ, hh⟩ := hP
  have hx := Bd.exec
  have hby := Bd.bytes
  have hml : c.maxLocals = 6 := hml0
  have hown : s.vm.findClass "com/example/stevedore/stevedore/MoveGraphCopiesPinLaw" = some m.cls := findClass_of_methodNamed Bd.named
  have hnm := (name_of_methodNamed Bd.named Bd.method).1
  have X0 : Stand p l e ({ frames := 1, cells := 0, slots := 0, locals := 17 } : Room) s m #[(.ref a1), (.ref a2), (.ref a3), (.ref a4), (.int (2 : Int32))] below meth c s₁ [] 0 0 := Stand.of_body Bd
  have e0 : s₁.heap = h0 := by rw [← hh, Bd.state]; rfl
  have N0 := Fr.nil n0
  refine own_start (fun t k => castTop (ef_5_m2 m a1 a2 a3 a4) k) ?_
  show own_G p.tables e below _ (s₁.setTop (mkF m 0 #[.val (.ref a1), .val (.ref a2), .val (.ref a3), .val (.ref a4), .val (.int (2 : Int32)), .unset] []))
  refine own_step (fun t k => XS.aloadN X0.here hx rfl (hb hby d5_0) rfl rfl k) ?_
  show own_G p.tables e below _ (s₁.setTop (mkF m 1 #[.val (.ref a1), .val (.ref a2), .val (.ref a3), .val (.ref a4), .val (.int (2 : Int32)), .unset] [(.ref a2)]))
  refine own_step (fun t k => XS.iload X0.here hx rfl (hb hby d5_1) rfl k) ?_
  show own_G p.tables e below _ (s₁.setTop (mkF m 3 #[.val (.ref a1), .val (.ref a2), .val (.ref a3), .val (.ref a4), .val (.int (2 : Int32)), .unset] [(.int (2 : Int32)), (.ref a2)]))
  refine own_step (own_iaload X0 hx hZ e0 fp1 (own_inb (by decide) (Nat.le_of_ble_eq_true rfl)) (g := (mkF m 3 #[.val (.ref a1), .val (.ref a2), .val (.ref a3), .val (.ref a4), .val (.int (2 : Int32)), .unset] [(.int (2 : Int32)), (.ref a2)])) rfl rfl (hb hby d5_3)) ?_
  show own_G p.tables e below _ (s₁.setTop (mkF m 4 #[.val (.ref a1), .val (.ref a2), .val (.ref a3), .val (.ref a4), .val (.int (2 : Int32)), .unset] [(.int x2)]))
  refine own_step (fun t k => XS.istore X0.here hx rfl (hb hby d5_4) rfl (l' := #[.val (.ref a1), .val (.ref a2), .val (.ref a3), .val (.ref a4), .val (.int (2 : Int32)), .val (.int x2)]) rfl k) ?_
  show own_G p.tables e below _ (s₁.setTop (mkF m 6 #[.val (.ref a1), .val (.ref a2), .val (.ref a3), .val (.ref a4), .val (.int (2 : Int32)), .val (.int x2)] []))
  refine own_step (fun t k => XS.aloadN X0.here hx rfl (hb hby d5_6) rfl rfl k) ?_
  show own_G p.tables e below _ (s₁.setTop (mkF m 7 #[.val (.ref a1), .val (.ref a2), .val (.ref a3), .val (.ref a4), .val (.int (2 : Int32)), .val (.int x2)] [(.ref a1)]))
  refine own_step (fun t k => XS.iload X0.here hx rfl (hb hby d5_7) rfl k) ?_
  show own_G p.tables e below _ (s₁.setTop (mkF m 9 #[.val (.ref a1), .val (.ref a2), .val (.ref a3), .val (.ref a4), .val (.int (2 : Int32)), .val (.int x2)] [(.int (2 : Int32)), (.ref a1)]))
  refine own_step (own_iaload X0 hx hZ e0 fp0 (own_inb (by decide) (Nat.le_of_ble_eq_true rfl)) (g := (mkF m 9 #[.val (.ref a1), .val (.ref a2), .val (.ref a3), .val (.ref a4), .val (.int (2 : Int32)), .val (.int x2)] [(.int (2 : Int32)), (.ref a1)])) rfl rfl (hb hby d5_9)) ?_
  show own_G p.tables e below _ (s₁.setTop (mkF m 10 #[.val (.ref a1), .val (.ref a2), .val (.ref a3), .val (.ref a4), .val (.int (2 : Int32)), .val (.int x2)] [(.int yy2)]))
  refine own_step (fun t k => XS.aloadN X0.here hx rfl (hb hby d5_10) rfl rfl k) ?_
  show own_G p.tables e below _ (s₁.setTop (mkF m 11 #[.val (.ref a1), .val (.ref a2), .val (.ref a3), .val (.ref a4), .val (.int (2 : Int32)), .val (.int x2)] [(.ref a4), (.int yy2)]))
  refine own_step (fun t k => XS.iload X0.here hx rfl (hb hby d5_11) rfl k) ?_
  show own_G p.tables e below _ (s₁.setTop (mkF m 13 #[.val (.ref a1), .val (.ref a2), .val (.ref a3), .val (.ref a4), .val (.int (2 : Int32)), .val (.int x2)] [(.int x2), (.ref a4), (.int yy2)]))
  refine own_step (own_iaload X0 hx hZ e0 fp3 (own_i3 hx2 (by first | rfl | (simp only [own_inc_len]; rfl) | exact own_cs_len _ _ _ _ _)) (g := (mkF m 13 #[.val (.ref a1), .val (.ref a2), .val (.ref a3), .val (.ref a4), .val (.int (2 : Int32)), .val (.int x2)] [(.int x2), (.ref a4), (.int yy2)])) rfl rfl (hb hby d5_13)) ?_
  show own_G p.tables e below _ (s₁.setTop (mkF m 14 #[.val (.ref a1), .val (.ref a2), .val (.ref a3), .val (.ref a4), .val (.int (2 : Int32)), .val (.int x2)] [(.int ([ff0, ff1, ff2].getD x2.toNatClampNeg 0)), (.int yy2)]))
  refine own_step (fun t k => XS.aloadN X0.here hx rfl (hb hby d5_14) rfl rfl k) ?_
  show own_G p.tables e below _ (s₁.setTop (mkF m 15 #[.val (.ref a1), .val (.ref a2), .val (.ref a3), .val (.ref a4), .val (.int (2 : Int32)), .val (.int x2)] [(.ref a2), (.int ([ff0, ff1, ff2].getD x2.toNatClampNeg 0)), (.int yy2)]))
  refine own_step (fun t k => XS.iload X0.here hx rfl (hb hby d5_15) rfl k) ?_
  show own_G p.tables e below _ (s₁.setTop (mkF m 17 #[.val (.ref a1), .val (.ref a2), .val (.ref a3), .val (.ref a4), .val (.int (2 : Int32)), .val (.int x2)] [(.int (2 : Int32)), (.ref a2), (.int ([ff0, ff1, ff2].getD x2.toNatClampNeg 0)), (.int yy2)]))
  refine own_step (fun t k => XS.iload X0.here hx rfl (hb hby d5_17) rfl k) ?_
  show own_G p.tables e below _ (s₁.setTop (mkF m 19 #[.val (.ref a1), .val (.ref a2), .val (.ref a3), .val (.ref a4), .val (.int (2 : Int32)), .val (.int x2)] [(.int x2), (.int (2 : Int32)), (.ref a2), (.int ([ff0, ff1, ff2].getD x2.toNatClampNeg 0)), (.int yy2)]))
  obtain ⟨_, _, ⟨T1, L1, k1, n1⟩, -, X1, ⟨Lc1, hQ1, l1, y1, z1⟩, st1⟩ := Jvm.LawKit.callS X0 hx (y := (⟨"com/example/stevedore/stevedore/MoveGraphCopiesPinLaw", "before", "([III)I"⟩ : MethodName)) hown (mvT hZ (hw _ (List.mem_of_getElem? (i := 10) rfl))) (mvT hZ (hw _ (List.mem_of_getElem? (i := 11) rfl))) (mvT hZ (hw _ (List.mem_of_getElem? (i := 12) rfl))) (mvT hZ (hw _ (List.mem_of_getElem? (i := 13) rfl))) (by decide) (backOf (W := 2) (rm3_m2 l Z a0 hw [] a2 x2 x0 x1 x2 x3 x4 h0 n0 (Nat.le_trans Z0 (Keep.refl h0 []).1) fp1) hZ (hw _ (List.mem_of_getElem? (i := 13) rfl)) (hw _ (List.mem_of_getElem? (i := 12) rfl)) (by decide) (by decide)) (g := (mkF m 19 #[.val (.ref a1), .val (.ref a2), .val (.ref a3), .val (.ref a4), .val (.int (2 : Int32)), .val (.int x2)] [(.int x2), (.int (2 : Int32)), (.ref a2), (.int ([ff0, ff1, ff2].getD x2.toNatClampNeg 0)), (.int yy2)])) rfl (by rw [hml]; rfl) (argsL := [(.ref a2), (.int (2 : Int32)), (.int x2)]) (rest := [(.int ([ff0, ff1, ff2].getD x2.toNatClampNeg 0)), (.int yy2)]) (lenOf pd_5_m2_0 rfl) rfl (by show 2 * 0 + _ ≤ _; exact Nat.le_of_eq rfl) (hb hby d5_19) (fun _ _ => ⟨rfl, e0, (by decide : 0 + 0 ≤ _), (by decide : 0 + 0 ≤ _)⟩)
  dsimp only [Pt.U, Pt.locs, Pt.cells, Pt.slots] at X1 l1 y1 z1 st1 hQ1
  subst y1 z1
  obtain ⟨rfl, N1q, e1⟩ := hQ1
  have N1 : Fr n0 L1 := by rw [l1]; exact Fr.app N0 N1q
  refine own_step st1 ?_
  show own_G p.tables e below _ (T1.setTop (mkF m 22 #[.val (.ref a1), .val (.ref a2), .val (.ref a3), .val (.ref a4), .val (.int (2 : Int32)), .val (.int x2)] [(.int (own_st (own_st (0 : Int32) x0 x2) x1 x2)), (.int ([ff0, ff1, ff2].getD x2.toNatClampNeg 0)), (.int yy2)]))
  refine own_step (fun t k => XS.aloadN X1.here hx rfl (hb hby d5_22) rfl rfl k) ?_
  show own_G p.tables e below _ (T1.setTop (mkF m 23 #[.val (.ref a1), .val (.ref a2), .val (.ref a3), .val (.ref a4), .val (.int (2 : Int32)), .val (.int x2)] [(.ref a3), (.int (own_st (own_st (0 : Int32) x0 x2) x1 x2)), (.int ([ff0, ff1, ff2].getD x2.toNatClampNeg 0)), (.int yy2)]))
  refine own_step (fun t k => XS.iload X1.here hx rfl (hb hby d5_23) rfl k) ?_
  show own_G p.tables e below _ (T1.setTop (mkF m 25 #[.val (.ref a1), .val (.ref a2), .val (.ref a3), .val (.ref a4), .val (.int (2 : Int32)), .val (.int x2)] [(.int x2), (.ref a3), (.int (own_st (own_st (0 : Int32) x0 x2) x1 x2)), (.int ([ff0, ff1, ff2].getD x2.toNatClampNeg 0)), (.int yy2)]))
  refine own_step (own_iaload X1 hx hZ e1 fp2 (own_i3 hx2 (by first | rfl | (simp only [own_inc_len]; rfl) | exact own_cs_len _ _ _ _ _)) (g := (mkF m 25 #[.val (.ref a1), .val (.ref a2), .val (.ref a3), .val (.ref a4), .val (.int (2 : Int32)), .val (.int x2)] [(.int x2), (.ref a3), (.int (own_st (own_st (0 : Int32) x0 x2) x1 x2)), (.int ([ff0, ff1, ff2].getD x2.toNatClampNeg 0)), (.int yy2)])) rfl rfl (hb hby d5_25)) ?_
  show own_G p.tables e below _ (T1.setTop (mkF m 26 #[.val (.ref a1), .val (.ref a2), .val (.ref a3), .val (.ref a4), .val (.int (2 : Int32)), .val (.int x2)] [(.int ([zz0, zz1, zz2].getD x2.toNatClampNeg 0)), (.int (own_st (own_st (0 : Int32) x0 x2) x1 x2)), (.int ([ff0, ff1, ff2].getD x2.toNatClampNeg 0)), (.int yy2)]))
  refine own_step (fun t k => XS.idiv X1.here hx rfl (hb hby d5_26) rfl (own_nz3 hx2 hz0 hz1 hz2) k) ?_
  show own_G p.tables e below _ (T1.setTop (mkF m 27 #[.val (.ref a1), .val (.ref a2), .val (.ref a3), .val (.ref a4), .val (.int (2 : Int32)), .val (.int x2)] [(.int ((own_st (own_st (0 : Int32) x0 x2) x1 x2) / ([zz0, zz1, zz2].getD x2.toNatClampNeg 0))), (.int ([ff0, ff1, ff2].getD x2.toNatClampNeg 0)), (.int yy2)]))
  refine own_step (fun t k => XS.iadd X1.here hx rfl (hb hby d5_27) rfl k) ?_
  show own_G p.tables e below _ (T1.setTop (mkF m 28 #[.val (.ref a1), .val (.ref a2), .val (.ref a3), .val (.ref a4), .val (.int (2 : Int32)), .val (.int x2)] [(.int (([ff0, ff1, ff2].getD x2.toNatClampNeg 0) + ((own_st (own_st (0 : Int32) x0 x2) x1 x2) / ([zz0, zz1, zz2].getD x2.toNatClampNeg 0)))), (.int yy2)]))
  have hk2 : yy2 = (([ff0, ff1, ff2].getD x2.toNatClampNeg 0) + ((own_st (own_st (0 : Int32) x0 x2) x1 x2) / ([zz0, zz1, zz2].getD x2.toNatClampNeg 0))) := hq
  refine own_step (fun t k => XS.icmpNo X1.here hx rfl (hb hby d5_28) rfl ((teq hk2).2) k) ?_
  show own_G p.tables e below _ (T1.setTop (mkF m 31 #[.val (.ref a1), .val (.ref a2), .val (.ref a3), .val (.ref a4), .val (.int (2 : Int32)), .val (.int x2)] []))
  refine own_step (fun t k => XS.iconst X1.here hx rfl (hb hby d5_31) k) ?_
  show own_G p.tables e below _ (T1.setTop (mkF m 32 #[.val (.ref a1), .val (.ref a2), .val (.ref a3), .val (.ref a4), .val (.int (2 : Int32)), .val (.int x2)] [(.int (1 : Int32))]))
  refine own_step (fun t k => XS.goto X1.here hx rfl (pc0 := 32) (pc' := 36) rfl (hb hby d5_32) (by decide) (by decide) k) ?_
  show own_G p.tables e below _ (T1.setTop (mkF m 36 #[.val (.ref a1), .val (.ref a2), .val (.ref a3), .val (.ref a4), .val (.int (2 : Int32)), .val (.int x2)] [(.int (1 : Int32))]))
  obtain ⟨fs, hr, hrun, hended, hW, hsame⟩ := X1.leave (v := some (.int (1 : Int32))) (fun h => by rw [Bd.returns] at h; cases h)
  refine own_done (retN X1 hx (t := .boolean) Bd.returns (by simp) (hb hby d5_36) hr) hrun hended ⟨_, _, rfl, ?_, ⟨_, rfl⟩, hW, hsame.mono (by decide) (by decide)⟩
  show Q5_m2 Z a1 a2 a3 a4 x0 x1 x2 x3 x4 zz0 zz1 zz2 yy0 yy1 yy2 yy3 yy4 ff0 ff1 ff2 h0 n0 _ T1.heap _
  rw [e1]
  exact ⟨congrArg (fun z => some (Value.int z)) (show (1 : Int32) = (1 : Int32) from rfl), N1, rfl⟩
theorem pn_3_m3 : plainName "com/example/stevedore/stevedore/MoveGraphCopiesPinLaw" = true := by first | (simp [plainName, overriddenIn]; done) | decide +kernel
theorem ef_3_m3 (m : MethodId) (a1 : Addr) (p3 : Int32) : entryFrame m #[(.ref a1), (.int (3 : Int32)), (.int p3)] 4 = mkF m 0 #[.val (.ref a1), .val (.int (3 : Int32)), .val (.int p3), .unset] [] := by first | (simp [entryFrame, mkF, argsToLocals, Value.category]; done) | rfl
def Q3_m3 (Z : State) (a1 : Addr) (p3 : Int32) (x0 : Int32) (x1 : Int32) (x2 : Int32) (x3 : Int32) (x4 : Int32) (h0 : Heap) (n0 : Nat) (v : Option Value) (h : Heap) (L : List Loc) : Prop := v = some (.int (own_st (own_st (own_st (0 : Int32) x0 p3) x1 p3) x2 p3)) ∧ Fr n0 L ∧ h = h0
set_option maxRecDepth 65536 in
set_option maxHeartbeats 40000000 in
theorem rm3_m3 (l : Launch) (Z : State) (a0 : Array Value) (hw : ∀ d ∈ tables_1, d.before a0 Z = true) (ws : List Jvm.Cond) (a1 : Addr) (p3 : Int32) (x0 : Int32) (x1 : Int32) (x2 : Int32) (x3 : Int32) (x4 : Int32) (h0 : Heap) (n0 : Nat) (Z0 : n0 ≤ h0.size) (fp0 : own_Ari Z h0 a1 .int [x0, x1, x2, x3, x4]) :
    MetFree l (⟨"com/example/stevedore/stevedore/MoveGraphCopiesPinLaw", "before", "([III)I"⟩ : MethodName) (head1 (Jvm.Cond.code (⟨"com/example/stevedore/stevedore/MoveGraphCopiesPinLaw", "before", "([III)I"⟩ : MethodName) method_5_code 4 (some .int) :: ws) ({ frames := 0, cells := 0, slots := 0, locals := 0 } : Room)) (fun a U => a = #[(.ref a1), (.int (3 : Int32)), (.int p3)] ∧ Z.Warmed39 U.vm ∧ U.heap = h0) (fun _ _ _ _ _ => True) (fun _ U o U' => ∃ v L, o = .returned v ∧ Q3_m3 Z a1 p3 x0 x1 x2 x3 x4 h0 n0 v U'.heap L ∧ FrameEnd U o U' L ({ frames := 0, cells := 0, slots := 0, locals := 0 } : Room).cells ({ frames := 0, cells := 0, slots := 0, locals := 0 } : Room).slots) := by
  refine MetFree.of_bodySF (plainFor_of_name pn_3_m3) hisR ?_
  intro p e s m args below meth c s₁ Bd hml0 hP hK
  obtain ⟨rfl, hZ, hh⟩ := hP
  have hx := Bd.exec
  have hby := Bd.bytes
  have hml : c.maxLocals = 4 := hml0
  have hown : s.vm.findClass "com/example/stevedore/stevedore/MoveGraphCopiesPinLaw" = some m.cls := findClass_of_methodNamed Bd.named
  have hnm := (name_of_methodNamed Bd.named Bd.method).1
  have X0 : Stand p l e ({ frames := 0, cells := 0, slots := 0, locals := 0 } : Room) s m #[(.ref a1), (.int (3 : Int32)), (.int p3)] below meth c s₁ [] 0 0 := Stand.of_body Bd
  have e0 : s₁.heap = h0 := by rw [← hh, Bd.state]; rfl
  have N0 := Fr.nil n0
  refine own_start (fun t k => castTop (ef_3_m3 m a1 p3) k) ?_
  show own_G p.tables e below _ (s₁.setTop (mkF m 0 #[.val (.ref a1), .val (.int (3 : Int32)), .val (.int p3), .unset] []))
  refine own_step (fun t k => XS.iconst X0.here hx rfl (hb hby d3_0) k) ?_
  show own_G p.tables e below _ (s₁.setTop (mkF m 1 #[.val (.ref a1), .val (.int (3 : Int32)), .val (.int p3), .unset] [(.int (0 : Int32))]))
  refine own_step (fun t k => XS.istoreN X0.here hx rfl (hb hby d3_1) rfl (l' := #[.val (.ref a1), .val (.int (3 : Int32)), .val (.int p3), .val (.int (0 : Int32))]) rfl k) ?_
  show own_G p.tables e below _ (s₁.setTop (mkF m 2 #[.val (.ref a1), .val (.int (3 : Int32)), .val (.int p3), .val (.int (0 : Int32))] []))
  refine own_step (fun t k => XS.iloadN X0.here hx rfl (hb hby d3_2) rfl k) ?_
  show own_G p.tables e below _ (s₁.setTop (mkF m 3 #[.val (.ref a1), .val (.int (3 : Int32)), .val (.int p3), .val (.int (0 : Int32))] [(.int (3 : Int32))]))
  have hk1 : (0 : Int32) < (3 : Int32) := (by decide)
  refine own_step (fun t k => XS.ifNo X0.here hx rfl (hb hby d3_3) rfl ((if0 _ _).trans (tlt hk1).2.2.2) k) ?_
  show own_G p.tables e below _ (s₁.setTop (mkF m 6 #[.val (.ref a1), .val (.int (3 : Int32)), .val (.int p3), .val (.int (0 : Int32))] []))
  refine own_step (fun t k => XS.aloadN X0.here hx rfl (hb hby d3_6) rfl rfl k) ?_
  show own_G p.tables e below _ (s₁.setTop (mkF m 7 #[.val (.ref a1), .val (.int (3 : Int32)), .val (.int p3), .val (.int (0 : Int32))] [(.ref a1)]))
  refine own_step (fun t k => XS.iconst X0.here hx rfl (hb hby d3_7) k) ?_
  show own_G p.tables e below _ (s₁.setTop (mkF m 8 #[.val (.ref a1), .val (.int (3 : Int32)), .val (.int p3), .val (.int (0 : Int32))] [(.int (0 : Int32)), (.ref a1)]))
  refine own_step (own_iaload X0 hx hZ e0 fp0 (own_inb (by decide) (Nat.le_of_ble_eq_true rfl)) (g := (mkF m 8 #[.val (.ref a1), .val (.int (3 : Int32)), .val (.int p3), .val (.int (0 : Int32))] [(.int (0 : Int32)), (.ref a1)])) rfl rfl (hb hby d3_8)) ?_
  show own_G p.tables e below _ (s₁.setTop (mkF m 9 #[.val (.ref a1), .val (.int (3 : Int32)), .val (.int p3), .val (.int (0 : Int32))] [(.int x0)]))
  refine own_step (fun t k => XS.iloadN X0.here hx rfl (hb hby d3_9) rfl k) ?_
  show own_G p.tables e below _ (s₁.setTop (mkF m 10 #[.val (.ref a1), .val (.int (3 : Int32)), .val (.int p3), .val (.int (0 : Int32))] [(.int p3), (.int x0)]))
  refine own_imp (B := s₁.setTop (mkF m 16 #[.val (.ref a1), .val (.int (3 : Int32)), .val (.int p3), .val (.int (if x0 = p3 then (1 : Int32) else (0 : Int32)))] [])) (fun k0 => ?_) ?_
  · by_cases hc2 : x0 = p3
    · simp only [if_pos hc2] at k0
      refine own_step (fun t k => XS.icmpNo X0.here hx rfl (hb hby d3_10) rfl ((teq hc2).2) k) ?_
      show own_G p.tables e below _ (s₁.setTop (mkF m 13 #[.val (.ref a1), .val (.int (3 : Int32)), .val (.int p3), .val (.int (0 : Int32))] []))
      refine own_step (fun t k => XS.iinc X0.here hx rfl (hb hby d3_13) rfl (l' := #[.val (.ref a1), .val (.int (3 : Int32)), .val (.int p3), .val (.int (1 : Int32))]) rfl k) ?_
      show own_G p.tables e below _ (s₁.setTop (mkF m 16 #[.val (.ref a1), .val (.int (3 : Int32)), .val (.int p3), .val (.int (1 : Int32))] []))
      exact k0
    · simp only [if_neg hc2] at k0
      refine own_step (fun t k => XS.icmpYes X0.here hx rfl (pc0 := 10) (pc' := 16) rfl (hb hby d3_10) rfl ((feq hc2).2) (by decide) (by decide) k) ?_
      show own_G p.tables e below _ (s₁.setTop (mkF m 16 #[.val (.ref a1), .val (.int (3 : Int32)), .val (.int p3), .val (.int (0 : Int32))] []))
      exact k0
  show own_G p.tables e below _ (s₁.setTop (mkF m 16 #[.val (.ref a1), .val (.int (3 : Int32)), .val (.int p3), .val (.int (if x0 = p3 then (1 : Int32) else (0 : Int32)))] []))
  show own_G p.tables e below _ (s₁.setTop (mkF m 16 #[.val (.ref a1), .val (.int (3 : Int32)), .val (.int p3), .val (.int (own_st (0 : Int32) x0 p3))] []))
  refine own_step (fun t k => XS.iloadN X0.here hx rfl (hb hby d3_16) rfl k) ?_
  show own_G p.tables e below _ (s₁.setTop (mkF m 17 #[.val (.ref a1), .val (.int (3 : Int32)), .val (.int p3), .val (.int (own_st (0 : Int32) x0 p3))] [(.int (3 : Int32))]))
  refine own_step (fun t k => XS.iconst X0.here hx rfl (hb hby d3_17) k) ?_
  show own_G p.tables e below _ (s₁.setTop (mkF m 18 #[.val (.ref a1), .val (.int (3 : Int32)), .val (.int p3), .val (.int (own_st (0 : Int32) x0 p3))] [(.int (1 : Int32)), (.int (3 : Int32))]))
  have hk3 : (1 : Int32) < (3 : Int32) := (by decide)
  refine own_step (fun t k => XS.icmpNo X0.here hx rfl (hb hby d3_18) rfl ((tlt hk3).2.2.2) k) ?_
  show own_G p.tables e below _ (s₁.setTop (mkF m 21 #[.val (.ref a1), .val (.int (3 : Int32)), .val (.int p3), .val (.int (own_st (0 : Int32) x0 p3))] []))
  refine own_step (fun t k => XS.aloadN X0.here hx rfl (hb hby d3_21) rfl rfl k) ?_
  show own_G p.tables e below _ (s₁.setTop (mkF m 22 #[.val (.ref a1), .val (.int (3 : Int32)), .val (.int p3), .val (.int (own_st (0 : Int32) x0 p3))] [(.ref a1)]))
  refine own_step (fun t k => XS.iconst X0.here hx rfl (hb hby d3_22) k) ?_
  show own_G p.tables e below _ (s₁.setTop (mkF m 23 #[.val (.ref a1), .val (.int (3 : Int32)), .val (.int p3), .val (.int (own_st (0 : Int32) x0 p3))] [(.int (1 : Int32)), (.ref a1)]))
  refine own_step (own_iaload X0 hx hZ e0 fp0 (own_inb (by decide) (Nat.le_of_ble_eq_true rfl)) (g := (mkF m 23 #[.val (.ref a1), .val (.int (3 : Int32)), .val (.int p3), .val (.int (own_st (0 : Int32) x0 p3))] [(.int (1 : Int32)), (.ref a1)])) rfl rfl (hb hby d3_23)) ?_
  show own_G p.tables e below _ (s₁.setTop (mkF m 24 #[.val (.ref a1), .val (.int (3 : Int32)), .val (.int p3), .val (.int (own_st (0 : Int32) x0 p3))] [(.int x1)]))
  refine own_step (fun t k => XS.iloadN X0.here hx rfl (hb hby d3_24) rfl k) ?_
  show own_G p.tables e below _ (s₁.setTop (mkF m 25 #[.val (.ref a1), .val (.int (3 : Int32)), .val (.int p3), .val (.int (own_st (0 : Int32) x0 p3))] [(.int p3), (.int x1)]))
  refine own_imp (B := s₁.setTop (mkF m 31 #[.val (.ref a1), .val (.int (3 : Int32)), .val (.int p3), .val (.int (if x1 = p3 then ((own_st (0 : Int32) x0 p3) + (1 : Int32)) else (own_st (0 : Int32) x0 p3)))] [])) (fun k0 => ?_) ?_
  · by_cases hc4 : x1 = p3
    · simp only [if_pos hc4] at k0
      refine own_step (fun t k => XS.icmpNo X0.here hx rfl (hb hby d3_25) rfl ((teq hc4).2) k) ?_
      show own_G p.tables e below _ (s₁.setTop (mkF m 28 #[.val (.ref a1), .val (.int (3 : Int32)), .val (.int p3), .val (.int (own_st (0 : Int32) x0 p3))] []))
      refine own_step (fun t k => XS.iinc X0.here hx rfl (hb hby d3_28) rfl (l' := #[.val (.ref a1), .val (.int (3 : Int32)), .val (.int p3), .val (.int ((own_st (0 : Int32) x0 p3) + (1 : Int32)))]) rfl k) ?_
      show own_G p.tables e below _ (s₁.setTop (mkF m 31 #[.val (.ref a1), .val (.int (3 : Int32)), .val (.int p3), .val (.int ((own_st (0 : Int32) x0 p3) + (1 : Int32)))] []))
      exact k0
    · simp only [if_neg hc4] at k0
      refine own_step (fun t k => XS.icmpYes X0.here hx rfl (pc0 := 25) (pc' := 31) rfl (hb hby d3_25) rfl ((feq hc4).2) (by decide) (by decide) k) ?_
      show own_G p.tables e below _ (s₁.setTop (mkF m 31 #[.val (.ref a1), .val (.int (3 : Int32)), .val (.int p3), .val (.int (own_st (0 : Int32) x0 p3))] []))
      exact k0
  show own_G p.tables e below _ (s₁.setTop (mkF m 31 #[.val (.ref a1), .val (.int (3 : Int32)), .val (.int p3), .val (.int (if x1 = p3 then ((own_st (0 : Int32) x0 p3) + (1 : Int32)) else (own_st (0 : Int32) x0 p3)))] []))
  show own_G p.tables e below _ (s₁.setTop (mkF m 31 #[.val (.ref a1), .val (.int (3 : Int32)), .val (.int p3), .val (.int (own_st (own_st (0 : Int32) x0 p3) x1 p3))] []))
  refine own_step (fun t k => XS.iloadN X0.here hx rfl (hb hby d3_31) rfl k) ?_
  show own_G p.tables e below _ (s₁.setTop (mkF m 32 #[.val (.ref a1), .val (.int (3 : Int32)), .val (.int p3), .val (.int (own_st (own_st (0 : Int32) x0 p3) x1 p3))] [(.int (3 : Int32))]))
  refine own_step (fun t k => XS.iconst X0.here hx rfl (hb hby d3_32) k) ?_
  show own_G p.tables e below _ (s₁.setTop (mkF m 33 #[.val (.ref a1), .val (.int (3 : Int32)), .val (.int p3), .val (.int (own_st (own_st (0 : Int32) x0 p3) x1 p3))] [(.int (2 : Int32)), (.int (3 : Int32))]))
  have hk5 : (2 : Int32) < (3 : Int32) := (by decide)
  refine own_step (fun t k => XS.icmpNo X0.here hx rfl (hb hby d3_33) rfl ((tlt hk5).2.2.2) k) ?_
  show own_G p.tables e below _ (s₁.setTop (mkF m 36 #[.val (.ref a1), .val (.int (3 : Int32)), .val (.int p3), .val (.int (own_st (own_st (0 : Int32) x0 p3) x1 p3))] []))
  refine own_step (fun t k => XS.aloadN X0.here hx rfl (hb hby d3_36) rfl rfl k) ?_
  show own_G p.tables e below _ (s₁.setTop (mkF m 37 #[.val (.ref a1), .val (.int (3 : Int32)), .val (.int p3), .val (.int (own_st (own_st (0 : Int32) x0 p3) x1 p3))] [(.ref a1)]))
  refine own_step (fun t k => XS.iconst X0.here hx rfl (hb hby d3_37) k) ?_
  show own_G p.tables e below _ (s₁.setTop (mkF m 38 #[.val (.ref a1), .val (.int (3 : Int32)), .val (.int p3), .val (.int (own_st (own_st (0 : Int32) x0 p3) x1 p3))] [(.int (2 : Int32)), (.ref a1)]))
  refine own_step (own_iaload X0 hx hZ e0 fp0 (own_inb (by decide) (Nat.le_of_ble_eq_true rfl)) (g := (mkF m 38 #[.val (.ref a1), .val (.int (3 : Int32)), .val (.int p3), .val (.int (own_st (own_st (0 : Int32) x0 p3) x1 p3))] [(.int (2 : Int32)), (.ref a1)])) rfl rfl (hb hby d3_38)) ?_
  show own_G p.tables e below _ (s₁.setTop (mkF m 39 #[.val (.ref a1), .val (.int (3 : Int32)), .val (.int p3), .val (.int (own_st (own_st (0 : Int32) x0 p3) x1 p3))] [(.int x2)]))
  refine own_step (fun t k => XS.iloadN X0.here hx rfl (hb hby d3_39) rfl k) ?_
  show own_G p.tables e below _ (s₁.setTop (mkF m 40 #[.val (.ref a1), .val (.int (3 : Int32)), .val (.int p3), .val (.int (own_st (own_st (0 : Int32) x0 p3) x1 p3))] [(.int p3), (.int x2)]))
  refine own_imp (B := s₁.setTop (mkF m 46 #[.val (.ref a1), .val (.int (3 : Int32)), .val (.int p3), .val (.int (if x2 = p3 then ((own_st (own_st (0 : Int32) x0 p3) x1 p3) + (1 : Int32)) else (own_st (own_st (0 : Int32) x0 p3) x1 p3)))] [])) (fun k0 => ?_) ?_
  · by_cases hc6 : x2 = p3
    · simp only [if_pos hc6] at k0
      refine own_step (fun t k => XS.icmpNo X0.here hx rfl (hb hby d3_40) rfl ((teq hc6).2) k) ?_
      show own_G p.tables e below _ (s₁.setTop (mkF m 43 #[.val (.ref a1), .val (.int (3 : Int32)), .val (.int p3), .val (.int (own_st (own_st (0 : Int32) x0 p3) x1 p3))] []))
      refine own_step (fun t k => XS.iinc X0.here hx rfl (hb hby d3_43) rfl (l' := #[.val (.ref a1), .val (.int (3 : Int32)), .val (.int p3), .val (.int ((own_st (own_st (0 : Int32) x0 p3) x1 p3) + (1 : Int32)))]) rfl k) ?_
      show own_G p.tables e below _ (s₁.setTop (mkF m 46 #[.val (.ref a1), .val (.int (3 : Int32)), .val (.int p3), .val (.int ((own_st (own_st (0 : Int32) x0 p3) x1 p3) + (1 : Int32)))] []))
      exact k0
    · simp only [if_neg hc6] at k0
      refine own_step (fun t k => XS.icmpYes X0.here hx rfl (pc0 := 40) (pc' := 46) rfl (hb hby d3_40) rfl ((feq hc6).2) (by decide) (by decide) k) ?_
      show own_G p.tables e below _ (s₁.setTop (mkF m 46 #[.val (.ref a1), .val (.int (3 : Int32)), .val (.int p3), .val (.int (own_st (own_st (0 : Int32) x0 p3) x1 p3))] []))
      exact k0
  show own_G p.tables e below _ (s₁.setTop (mkF m 46 #[.val (.ref a1), .val (.int (3 : Int32)), .val (.int p3), .val (.int (if x2 = p3 then ((own_st (own_st (0 : Int32) x0 p3) x1 p3) + (1 : Int32)) else (own_st (own_st (0 : Int32) x0 p3) x1 p3)))] []))
  show own_G p.tables e below _ (s₁.setTop (mkF m 46 #[.val (.ref a1), .val (.int (3 : Int32)), .val (.int p3), .val (.int (own_st (own_st (own_st (0 : Int32) x0 p3) x1 p3) x2 p3))] []))
  refine own_step (fun t k => XS.iloadN X0.here hx rfl (hb hby d3_46) rfl k) ?_
  show own_G p.tables e below _ (s₁.setTop (mkF m 47 #[.val (.ref a1), .val (.int (3 : Int32)), .val (.int p3), .val (.int (own_st (own_st (own_st (0 : Int32) x0 p3) x1 p3) x2 p3))] [(.int (3 : Int32))]))
  refine own_step (fun t k => XS.iconst X0.here hx rfl (hb hby d3_47) k) ?_
  show own_G p.tables e below _ (s₁.setTop (mkF m 48 #[.val (.ref a1), .val (.int (3 : Int32)), .val (.int p3), .val (.int (own_st (own_st (own_st (0 : Int32) x0 p3) x1 p3) x2 p3))] [(.int (3 : Int32)), (.int (3 : Int32))]))
  have hk7 : ¬ ((3 : Int32) < (3 : Int32)) := (by decide)
  refine own_step (fun t k => XS.icmpYes X0.here hx rfl (pc0 := 48) (pc' := 61) rfl (hb hby d3_48) rfl ((flt hk7).2.2.2) (by decide) (by decide) k) ?_
  show own_G p.tables e below _ (s₁.setTop (mkF m 61 #[.val (.ref a1), .val (.int (3 : Int32)), .val (.int p3), .val (.int (own_st (own_st (own_st (0 : Int32) x0 p3) x1 p3) x2 p3))] []))
  refine own_step (fun t k => XS.iloadN X0.here hx rfl (hb hby d3_61) rfl k) ?_
  show own_G p.tables e below _ (s₁.setTop (mkF m 62 #[.val (.ref a1), .val (.int (3 : Int32)), .val (.int p3), .val (.int (own_st (own_st (own_st (0 : Int32) x0 p3) x1 p3) x2 p3))] [(.int (3 : Int32))]))
  refine own_step (fun t k => XS.iconst X0.here hx rfl (hb hby d3_62) k) ?_
  show own_G p.tables e below _ (s₁.setTop (mkF m 63 #[.val (.ref a1), .val (.int (3 : Int32)), .val (.int p3), .val (.int (own_st (own_st (own_st (0 : Int32) x0 p3) x1 p3) x2 p3))] [(.int (4 : Int32)), (.int (3 : Int32))]))
  have hk8 : ¬ ((4 : Int32) < (3 : Int32)) := (by decide)
  refine own_step (fun t k => XS.icmpYes X0.here hx rfl (pc0 := 63) (pc' := 76) rfl (hb hby d3_63) rfl ((flt hk8).2.2.2) (by decide) (by decide) k) ?_
  show own_G p.tables e below _ (s₁.setTop (mkF m 76 #[.val (.ref a1), .val (.int (3 : Int32)), .val (.int p3), .val (.int (own_st (own_st (own_st (0 : Int32) x0 p3) x1 p3) x2 p3))] []))
  refine own_step (fun t k => XS.iloadN X0.here hx rfl (hb hby d3_76) rfl k) ?_
  show own_G p.tables e below _ (s₁.setTop (mkF m 77 #[.val (.ref a1), .val (.int (3 : Int32)), .val (.int p3), .val (.int (own_st (own_st (own_st (0 : Int32) x0 p3) x1 p3) x2 p3))] [(.int (own_st (own_st (own_st (0 : Int32) x0 p3) x1 p3) x2 p3))]))
  obtain ⟨fs, hr, hrun, hended, hW, hsame⟩ := X0.leave (v := some (.int (own_st (own_st (own_st (0 : Int32) x0 p3) x1 p3) x2 p3))) (fun h => by rw [Bd.returns] at h; cases h)
  refine own_done (retI X0 hx Bd.returns (hb hby d3_77) hr) hrun hended ⟨_, _, rfl, ?_, ⟨_, rfl⟩, hW, hsame.mono (by decide) (by decide)⟩
  show Q3_m3 Z a1 p3 x0 x1 x2 x3 x4 h0 n0 _ s₁.heap _
  rw [e0]
  exact ⟨congrArg (fun z => some (Value.int z)) (show (own_st (own_st (own_st (0 : Int32) x0 p3) x1 p3) x2 p3) = (own_st (own_st (own_st (0 : Int32) x0 p3) x1 p3) x2 p3) from rfl), N0, rfl⟩
theorem pn_5_m3 : plainName "com/example/stevedore/stevedore/MoveGraphCopiesPinLaw" = true := by first | (simp [plainName, overriddenIn]; done) | decide +kernel
theorem pd_5_m3_0 : parseMethodDescriptor "([III)I" = some ⟨[(.array .int), .int, .int], some .int⟩ := by decide +kernel
theorem ef_5_m3 (m : MethodId) (a1 : Addr) (a2 : Addr) (a3 : Addr) (a4 : Addr) : entryFrame m #[(.ref a1), (.ref a2), (.ref a3), (.ref a4), (.int (3 : Int32))] 6 = mkF m 0 #[.val (.ref a1), .val (.ref a2), .val (.ref a3), .val (.ref a4), .val (.int (3 : Int32)), .unset] [] := by first | (simp [entryFrame, mkF, argsToLocals, Value.category]; done) | rfl
def Q5_m3 (Z : State) (a1 : Addr) (a2 : Addr) (a3 : Addr) (a4 : Addr) (x0 : Int32) (x1 : Int32) (x2 : Int32) (x3 : Int32) (x4 : Int32) (zz0 : Int32) (zz1 : Int32) (zz2 : Int32) (yy0 : Int32) (yy1 : Int32) (yy2 : Int32) (yy3 : Int32) (yy4 : Int32) (ff0 : Int32) (ff1 : Int32) (ff2 : Int32) (h0 : Heap) (n0 : Nat) (v : Option Value) (h : Heap) (L : List Loc) : Prop := v = some (.int (1 : Int32)) ∧ Fr n0 L ∧ h = h0
set_option maxRecDepth 65536 in
set_option maxHeartbeats 40000000 in
theorem rm5_m3 (l : Launch) (Z : State) (a0 : Array Value) (hw : ∀ d ∈ tables_1, d.before a0 Z = true) (ws : List Jvm.Cond) (a1 : Addr) (a2 : Addr) (a3 : Addr) (a4 : Addr) (x0 : Int32) (x1 : Int32) (x2 : Int32) (x3 : Int32) (x4 : Int32) (zz0 : Int32) (zz1 : Int32) (zz2 : Int32) (yy0 : Int32) (yy1 : Int32) (yy2 : Int32) (yy3 : Int32) (yy4 : Int32) (ff0 : Int32) (ff1 : Int32) (ff2 : Int32) (h0 : Heap) (n0 : Nat) (Z0 : n0 ≤ h0.size) (fp0 : own_Ari Z h0 a1 .int [yy0, yy1, yy2, yy3, yy4]) (fp1 : own_Ari Z h0 a2 .int [x0, x1, x2, x3, x4]) (fp2 : own_Ari Z h0 a3 .int [zz0, zz1, zz2]) (fp3 : own_Ari Z h0 a4 .int [ff0, ff1, ff2]) (hx3 : own_3 x3) (hz0 : zz0 ≠ 0) (hz1 : zz1 ≠ 0) (hz2 : zz2 ≠ 0) (hq : yy3 = (([ff0, ff1, ff2].getD x3.toNatClampNeg 0) + ((own_st (own_st (own_st (0 : Int32) x0 x3) x1 x3) x2 x3) / ([zz0, zz1, zz2].getD x3.toNatClampNeg 0)))) :
    MetFree l (⟨"com/example/stevedore/stevedore/MoveGraphCopiesPinLaw", "ok", "([I[I[I[II)Z"⟩ : MethodName) (head1 (Jvm.Cond.code (⟨"com/example/stevedore/stevedore/MoveGraphCopiesPinLaw", "ok", "([I[I[I[II)Z"⟩ : MethodName) method_3_code 6 (some .boolean) :: ws) ({ frames := 1, cells := 0, slots := 0, locals := 17 } : Room)) (fun a U => a = #[(.ref a1), (.ref a2), (.ref a3), (.ref a4), (.int (3 : Int32))] ∧ Z.Warmed39 U.vm ∧ U.heap = h0) (fun _ _ _ _ _ => True) (fun _ U o U' => ∃ v L, o = .returned v ∧ Q5_m3 Z a1 a2 a3 a4 x0 x1 x2 x3 x4 zz0 zz1 zz2 yy0 yy1 yy2 yy3 yy4 ff0 ff1 ff2 h0 n0 v U'.heap L ∧ FrameEnd U o U' L ({ frames := 1, cells := 0, slots := 0, locals := 17 } : Room).cells ({ frames := 1, cells := 0, slots := 0, locals := 17 } : Room).slots) := by
  refine MetFree.of_bodySF (plainFor_of_name pn_5_m3) hisR ?_
  intro p e s m args below meth c s₁ Bd hml0 hP hK
  obtain ⟨rfl, hZ, hh⟩ := hP
  have hx := Bd.exec
  have hby := Bd.bytes
  have hml : c.maxLocals = 6 := hml0
  have hown : s.vm.findClass "com/example/stevedore/stevedore/MoveGraphCopiesPinLaw" = some m.cls := findClass_of_methodNamed Bd.named
  have hnm := (name_of_methodNamed Bd.named Bd.method).1
  have X0 : Stand p l e ({ frames := 1, cells := 0, slots := 0, locals := 17 } : Room) s m #[(.ref a1), (.ref a2), (.ref a3), (.ref a4), (.int (3 : Int32))] below meth c s₁ [] 0 0 := Stand.of_body Bd
  have e0 : s₁.heap = h0 := by rw [← hh, Bd.state]; rfl
  have N0 := Fr.nil n0
  refine own_start (fun t k => castTop (ef_5_m3 m a1 a2 a3 a4) k) ?_
  show own_G p.tables e below _ (s₁.setTop (mkF m 0 #[.val (.ref a1), .val (.ref a2), .val (.ref a3), .val (.ref a4), .val (.int (3 : Int32)), .unset] []))
  refine own_step (fun t k => XS.aloadN X0.here hx rfl (hb hby d5_0) rfl rfl k) ?_
  show own_G p.tables e below _ (s₁.setTop (mkF m 1 #[.val (.ref a1), .val (.ref a2), .val (.ref a3), .val (.ref a4), .val (.int (3 : Int32)), .unset] [(.ref a2)]))
  refine own_step (fun t k => XS.iload X0.here hx rfl (hb hby d5_1) rfl k) ?_
  show own_G p.tables e below _ (s₁.setTop (mkF m 3 #[.val (.ref a1), .val (.ref a2), .val (.ref a3), .val (.ref a4), .val (.int (3 : Int32)), .unset] [(.int (3 : Int32)), (.ref a2)]))
  refine own_step (own_iaload X0 hx hZ e0 fp1 (own_inb (by decide) (Nat.le_of_ble_eq_true rfl)) (g := (mkF m 3 #[.val (.ref a1), .val (.ref a2), .val (.ref a3), .val (.ref a4), .val (.int (3 : Int32)), .unset] [(.int (3 : Int32)), (.ref a2)])) rfl rfl (hb hby d5_3)) ?_
  show own_G p.tables e below _ (s₁.setTop (mkF m 4 #[.val (.ref a1), .val (.ref a2), .val (.ref a3), .val (.ref a4), .val (.int (3 : Int32)), .unset] [(.int x3)]))
  refine own_step (fun t k => XS.istore X0.here hx rfl (hb hby d5_4) rfl (l' := #[.val (.ref a1), .val (.ref a2), .val (.ref a3), .val (.ref a4), .val (.int (3 : Int32)), .val (.int x3)]) rfl k) ?_
  show own_G p.tables e below _ (s₁.setTop (mkF m 6 #[.val (.ref a1), .val (.ref a2), .val (.ref a3), .val (.ref a4), .val (.int (3 : Int32)), .val (.int x3)] []))
  refine own_step (fun t k => XS.aloadN X0.here hx rfl (hb hby d5_6) rfl rfl k) ?_
  show own_G p.tables e below _ (s₁.setTop (mkF m 7 #[.val (.ref a1), .val (.ref a2), .val (.ref a3), .val (.ref a4), .val (.int (3 : Int32)), .val (.int x3)] [(.ref a1)]))
  refine own_step (fun t k => XS.iload X0.here hx rfl (hb hby d5_7) rfl k) ?_
  show own_G p.tables e below _ (s₁.setTop (mkF m 9 #[.val (.ref a1), .val (.ref a2), .val (.ref a3), .val (.ref a4), .val (.int (3 : Int32)), .val (.int x3)] [(.int (3 : Int32)), (.ref a1)]))
  refine own_step (own_iaload X0 hx hZ e0 fp0 (own_inb (by decide) (Nat.le_of_ble_eq_true rfl)) (g := (mkF m 9 #[.val (.ref a1), .val (.ref a2), .val (.ref a3), .val (.ref a4), .val (.int (3 : Int32)), .val (.int x3)] [(.int (3 : Int32)), (.ref a1)])) rfl rfl (hb hby d5_9)) ?_
  show own_G p.tables e below _ (s₁.setTop (mkF m 10 #[.val (.ref a1), .val (.ref a2), .val (.ref a3), .val (.ref a4), .val (.int (3 : Int32)), .val (.int x3)] [(.int yy3)]))
  refine own_step (fun t k => XS.aloadN X0.here hx rfl (hb hby d5_10) rfl rfl k) ?_
  show own_G p.tables e below _ (s₁.setTop (mkF m 11 #[.val (.ref a1), .val (.ref a2), .val (.ref a3), .val (.ref a4), .val (.int (3 : Int32)), .val (.int x3)] [(.ref a4), (.int yy3)]))
  refine own_step (fun t k => XS.iload X0.here hx rfl (hb hby d5_11) rfl k) ?_
  show own_G p.tables e below _ (s₁.setTop (mkF m 13 #[.val (.ref a1), .val (.ref a2), .val (.ref a3), .val (.ref a4), .val (.int (3 : Int32)), .val (.int x3)] [(.int x3), (.ref a4), (.int yy3)]))
  refine own_step (own_iaload X0 hx hZ e0 fp3 (own_i3 hx3 (by first | rfl | (simp only [own_inc_len]; rfl) | exact own_cs_len _ _ _ _ _)) (g := (mkF m 13 #[.val (.ref a1), .val (.ref a2), .val (.ref a3), .val (.ref a4), .val (.int (3 : Int32)), .val (.int x3)] [(.int x3), (.ref a4), (.int yy3)])) rfl rfl (hb hby d5_13)) ?_
  show own_G p.tables e below _ (s₁.setTop (mkF m 14 #[.val (.ref a1), .val (.ref a2), .val (.ref a3), .val (.ref a4), .val (.int (3 : Int32)), .val (.int x3)] [(.int ([ff0, ff1, ff2].getD x3.toNatClampNeg 0)), (.int yy3)]))
  refine own_step (fun t k => XS.aloadN X0.here hx rfl (hb hby d5_14) rfl rfl k) ?_
  show own_G p.tables e below _ (s₁.setTop (mkF m 15 #[.val (.ref a1), .val (.ref a2), .val (.ref a3), .val (.ref a4), .val (.int (3 : Int32)), .val (.int x3)] [(.ref a2), (.int ([ff0, ff1, ff2].getD x3.toNatClampNeg 0)), (.int yy3)]))
  refine own_step (fun t k => XS.iload X0.here hx rfl (hb hby d5_15) rfl k) ?_
  show own_G p.tables e below _ (s₁.setTop (mkF m 17 #[.val (.ref a1), .val (.ref a2), .val (.ref a3), .val (.ref a4), .val (.int (3 : Int32)), .val (.int x3)] [(.int (3 : Int32)), (.ref a2), (.int ([ff0, ff1, ff2].getD x3.toNatClampNeg 0)), (.int yy3)]))
  refine own_step (fun t k => XS.iload X0.here hx rfl (hb hby d5_17) rfl k) ?_
  show own_G p.tables e below _ (s₁.setTop (mkF m 19 #[.val (.ref a1), .val (.ref a2), .val (.ref a3), .val (.ref a4), .val (.int (3 : Int32)), .val (.int x3)] [(.int x3), (.int (3 : Int32)), (.ref a2), (.int ([ff0, ff1, ff2].getD x3.toNatClampNeg 0)), (.int yy3)]))
  obtain ⟨_, _, ⟨T1, L1, k1, n1⟩, -, X1, ⟨Lc1, hQ1, l1, y1, z1⟩, st1⟩ := Jvm.LawKit.callS X0 hx (y := (⟨"com/example/stevedore/stevedore/MoveGraphCopiesPinLaw", "before", "([III)I"⟩ : MethodName)) hown (mvT hZ (hw _ (List.mem_of_getElem? (i := 10) rfl))) (mvT hZ (hw _ (List.mem_of_getElem? (i := 11) rfl))) (mvT hZ (hw _ (List.mem_of_getElem? (i := 12) rfl))) (mvT hZ (hw _ (List.mem_of_getElem? (i := 13) rfl))) (by decide) (backOf (W := 2) (rm3_m3 l Z a0 hw [] a2 x3 x0 x1 x2 x3 x4 h0 n0 (Nat.le_trans Z0 (Keep.refl h0 []).1) fp1) hZ (hw _ (List.mem_of_getElem? (i := 13) rfl)) (hw _ (List.mem_of_getElem? (i := 12) rfl)) (by decide) (by decide)) (g := (mkF m 19 #[.val (.ref a1), .val (.ref a2), .val (.ref a3), .val (.ref a4), .val (.int (3 : Int32)), .val (.int x3)] [(.int x3), (.int (3 : Int32)), (.ref a2), (.int ([ff0, ff1, ff2].getD x3.toNatClampNeg 0)), (.int yy3)])) rfl (by rw [hml]; rfl) (argsL := [(.ref a2), (.int (3 : Int32)), (.int x3)]) (rest := [(.int ([ff0, ff1, ff2].getD x3.toNatClampNeg 0)), (.int yy3)]) (lenOf pd_5_m3_0 rfl) rfl (by show 2 * 0 + _ ≤ _; exact Nat.le_of_eq rfl) (hb hby d5_19) (fun _ _ => ⟨rfl, e0, (by decide : 0 + 0 ≤ _), (by decide : 0 + 0 ≤ _)⟩)
  dsimp only [Pt.U, Pt.locs, Pt.cells, Pt.slots] at X1 l1 y1 z1 st1 hQ1
  subst y1 z1
  obtain ⟨rfl, N1q, e1⟩ := hQ1
  have N1 : Fr n0 L1 := by rw [l1]; exact Fr.app N0 N1q
  refine own_step st1 ?_
  show own_G p.tables e below _ (T1.setTop (mkF m 22 #[.val (.ref a1), .val (.ref a2), .val (.ref a3), .val (.ref a4), .val (.int (3 : Int32)), .val (.int x3)] [(.int (own_st (own_st (own_st (0 : Int32) x0 x3) x1 x3) x2 x3)), (.int ([ff0, ff1, ff2].getD x3.toNatClampNeg 0)), (.int yy3)]))
  refine own_step (fun t k => XS.aloadN X1.here hx rfl (hb hby d5_22) rfl rfl k) ?_
  show own_G p.tables e below _ (T1.setTop (mkF m 23 #[.val (.ref a1), .val (.ref a2), .val (.ref a3), .val (.ref a4), .val (.int (3 : Int32)), .val (.int x3)] [(.ref a3), (.int (own_st (own_st (own_st (0 : Int32) x0 x3) x1 x3) x2 x3)), (.int ([ff0, ff1, ff2].getD x3.toNatClampNeg 0)), (.int yy3)]))
  refine own_step (fun t k => XS.iload X1.here hx rfl (hb hby d5_23) rfl k) ?_
  show own_G p.tables e below _ (T1.setTop (mkF m 25 #[.val (.ref a1), .val (.ref a2), .val (.ref a3), .val (.ref a4), .val (.int (3 : Int32)), .val (.int x3)] [(.int x3), (.ref a3), (.int (own_st (own_st (own_st (0 : Int32) x0 x3) x1 x3) x2 x3)), (.int ([ff0, ff1, ff2].getD x3.toNatClampNeg 0)), (.int yy3)]))
  refine own_step (own_iaload X1 hx hZ e1 fp2 (own_i3 hx3 (by first | rfl | (simp only [own_inc_len]; rfl) | exact own_cs_len _ _ _ _ _)) (g := (mkF m 25 #[.val (.ref a1), .val (.ref a2), .val (.ref a3), .val (.ref a4), .val (.int (3 : Int32)), .val (.int x3)] [(.int x3), (.ref a3), (.int (own_st (own_st (own_st (0 : Int32) x0 x3) x1 x3) x2 x3)), (.int ([ff0, ff1, ff2].getD x3.toNatClampNeg 0)), (.int yy3)])) rfl rfl (hb hby d5_25)) ?_
  show own_G p.tables e below _ (T1.setTop (mkF m 26 #[.val (.ref a1), .val (.ref a2), .val (.ref a3), .val (.ref a4), .val (.int (3 : Int32)), .val (.int x3)] [(.int ([zz0, zz1, zz2].getD x3.toNatClampNeg 0)), (.int (own_st (own_st (own_st (0 : Int32) x0 x3) x1 x3) x2 x3)), (.int ([ff0, ff1, ff2].getD x3.toNatClampNeg 0)), (.int yy3)]))
  refine own_step (fun t k => XS.idiv X1.here hx rfl (hb hby d5_26) rfl (own_nz3 hx3 hz0 hz1 hz2) k) ?_
  show own_G p.tables e below _ (T1.setTop (mkF m 27 #[.val (.ref a1), .val (.ref a2), .val (.ref a3), .val (.ref a4), .val (.int (3 : Int32)), .val (.int x3)] [(.int ((own_st (own_st (own_st (0 : Int32) x0 x3) x1 x3) x2 x3) / ([zz0, zz1, zz2].getD x3.toNatClampNeg 0))), (.int ([ff0, ff1, ff2].getD x3.toNatClampNeg 0)), (.int yy3)]))
  refine own_step (fun t k => XS.iadd X1.here hx rfl (hb hby d5_27) rfl k) ?_
  show own_G p.tables e below _ (T1.setTop (mkF m 28 #[.val (.ref a1), .val (.ref a2), .val (.ref a3), .val (.ref a4), .val (.int (3 : Int32)), .val (.int x3)] [(.int (([ff0, ff1, ff2].getD x3.toNatClampNeg 0) + ((own_st (own_st (own_st (0 : Int32) x0 x3) x1 x3) x2 x3) / ([zz0, zz1, zz2].getD x3.toNatClampNeg 0)))), (.int yy3)]))
  have hk2 : yy3 = (([ff0, ff1, ff2].getD x3.toNatClampNeg 0) + ((own_st (own_st (own_st (0 : Int32) x0 x3) x1 x3) x2 x3) / ([zz0, zz1, zz2].getD x3.toNatClampNeg 0))) := hq
  refine own_step (fun t k => XS.icmpNo X1.here hx rfl (hb hby d5_28) rfl ((teq hk2).2) k) ?_
  show own_G p.tables e below _ (T1.setTop (mkF m 31 #[.val (.ref a1), .val (.ref a2), .val (.ref a3), .val (.ref a4), .val (.int (3 : Int32)), .val (.int x3)] []))
  refine own_step (fun t k => XS.iconst X1.here hx rfl (hb hby d5_31) k) ?_
  show own_G p.tables e below _ (T1.setTop (mkF m 32 #[.val (.ref a1), .val (.ref a2), .val (.ref a3), .val (.ref a4), .val (.int (3 : Int32)), .val (.int x3)] [(.int (1 : Int32))]))
  refine own_step (fun t k => XS.goto X1.here hx rfl (pc0 := 32) (pc' := 36) rfl (hb hby d5_32) (by decide) (by decide) k) ?_
  show own_G p.tables e below _ (T1.setTop (mkF m 36 #[.val (.ref a1), .val (.ref a2), .val (.ref a3), .val (.ref a4), .val (.int (3 : Int32)), .val (.int x3)] [(.int (1 : Int32))]))
  obtain ⟨fs, hr, hrun, hended, hW, hsame⟩ := X1.leave (v := some (.int (1 : Int32))) (fun h => by rw [Bd.returns] at h; cases h)
  refine own_done (retN X1 hx (t := .boolean) Bd.returns (by simp) (hb hby d5_36) hr) hrun hended ⟨_, _, rfl, ?_, ⟨_, rfl⟩, hW, hsame.mono (by decide) (by decide)⟩
  show Q5_m3 Z a1 a2 a3 a4 x0 x1 x2 x3 x4 zz0 zz1 zz2 yy0 yy1 yy2 yy3 yy4 ff0 ff1 ff2 h0 n0 _ T1.heap _
  rw [e1]
  exact ⟨congrArg (fun z => some (Value.int z)) (show (1 : Int32) = (1 : Int32) from rfl), N1, rfl⟩
theorem pn_3_m4 : plainName "com/example/stevedore/stevedore/MoveGraphCopiesPinLaw" = true := by first | (simp [plainName, overriddenIn]; done) | decide +kernel
theorem ef_3_m4 (m : MethodId) (a1 : Addr) (p3 : Int32) : entryFrame m #[(.ref a1), (.int (4 : Int32)), (.int p3)] 4 = mkF m 0 #[.val (.ref a1), .val (.int (4 : Int32)), .val (.int p3), .unset] [] := by first | (simp [entryFrame, mkF, argsToLocals, Value.category]; done) | rfl
def Q3_m4 (Z : State) (a1 : Addr) (p3 : Int32) (x0 : Int32) (x1 : Int32) (x2 : Int32) (x3 : Int32) (x4 : Int32) (h0 : Heap) (n0 : Nat) (v : Option Value) (h : Heap) (L : List Loc) : Prop := v = some (.int (own_st (own_st (own_st (own_st (0 : Int32) x0 p3) x1 p3) x2 p3) x3 p3)) ∧ Fr n0 L ∧ h = h0
set_option maxRecDepth 65536 in
set_option maxHeartbeats 40000000 in
theorem rm3_m4 (l : Launch) (Z : State) (a0 : Array Value) (hw : ∀ d ∈ tables_1, d.before a0 Z = true) (ws : List Jvm.Cond) (a1 : Addr) (p3 : Int32) (x0 : Int32) (x1 : Int32) (x2 : Int32) (x3 : Int32) (x4 : Int32) (h0 : Heap) (n0 : Nat) (Z0 : n0 ≤ h0.size) (fp0 : own_Ari Z h0 a1 .int [x0, x1, x2, x3, x4]) :
    MetFree l (⟨"com/example/stevedore/stevedore/MoveGraphCopiesPinLaw", "before", "([III)I"⟩ : MethodName) (head1 (Jvm.Cond.code (⟨"com/example/stevedore/stevedore/MoveGraphCopiesPinLaw", "before", "([III)I"⟩ : MethodName) method_5_code 4 (some .int) :: ws) ({ frames := 0, cells := 0, slots := 0, locals := 0 } : Room)) (fun a U => a = #[(.ref a1), (.int (4 : Int32)), (.int p3)] ∧ Z.Warmed39 U.vm ∧ U.heap = h0) (fun _ _ _ _ _ => True) (fun _ U o U' => ∃ v L, o = .returned v ∧ Q3_m4 Z a1 p3 x0 x1 x2 x3 x4 h0 n0 v U'.heap L ∧ FrameEnd U o U' L ({ frames := 0, cells := 0, slots := 0, locals := 0 } : Room).cells ({ frames := 0, cells := 0, slots := 0, locals := 0 } : Room).slots) := by
  refine MetFree.of_bodySF (plainFor_of_name pn_3_m4) hisR ?_
  intro p e s m args below meth c s₁ Bd hml0 hP hK
  obtain ⟨rfl, hZ, hh⟩ := hP
  have hx := Bd.exec
  have hby := Bd.bytes
  have hml : c.maxLocals = 4 := hml0
  have hown : s.vm.findClass "com/example/stevedore/stevedore/MoveGraphCopiesPinLaw" = some m.cls := findClass_of_methodNamed Bd.named
  have hnm := (name_of_methodNamed Bd.named Bd.method).1
  have X0 : Stand p l e ({ frames := 0, cells := 0, slots := 0, locals := 0 } : Room) s m #[(.ref a1), (.int (4 : Int32)), (.int p3)] below meth c s₁ [] 0 0 := Stand.of_body Bd
  have e0 : s₁.heap = h0 := by rw [← hh, Bd.state]; rfl
  have N0 := Fr.nil n0
  refine own_start (fun t k => castTop (ef_3_m4 m a1 p3) k) ?_
  show own_G p.tables e below _ (s₁.setTop (mkF m 0 #[.val (.ref a1), .val (.int (4 : Int32)), .val (.int p3), .unset] []))
  refine own_step (fun t k => XS.iconst X0.here hx rfl (hb hby d3_0) k) ?_
  show own_G p.tables e below _ (s₁.setTop (mkF m 1 #[.val (.ref a1), .val (.int (4 : Int32)), .val (.int p3), .unset] [(.int (0 : Int32))]))
  refine own_step (fun t k => XS.istoreN X0.here hx rfl (hb hby d3_1) rfl (l' := #[.val (.ref a1), .val (.int (4 : Int32)), .val (.int p3), .val (.int (0 : Int32))]) rfl k) ?_
  show own_G p.tables e below _ (s₁.setTop (mkF m 2 #[.val (.ref a1), .val (.int (4 : Int32)), .val (.int p3), .val (.int (0 : Int32))] []))
  refine own_step (fun t k => XS.iloadN X0.here hx rfl (hb hby d3_2) rfl k) ?_
  show own_G p.tables e below _ (s₁.setTop (mkF m 3 #[.val (.ref a1), .val (.int (4 : Int32)), .val (.int p3), .val (.int (0 : Int32))] [(.int (4 : Int32))]))
  have hk1 : (0 : Int32) < (4 : Int32) := (by decide)
  refine own_step (fun t k => XS.ifNo X0.here hx rfl (hb hby d3_3) rfl ((if0 _ _).trans (tlt hk1).2.2.2) k) ?_
  show own_G p.tables e below _ (s₁.setTop (mkF m 6 #[.val (.ref a1), .val (.int (4 : Int32)), .val (.int p3), .val (.int (0 : Int32))] []))
  refine own_step (fun t k => XS.aloadN X0.here hx rfl (hb hby d3_6) rfl rfl k) ?_
  show own_G p.tables e below _ (s₁.setTop (mkF m 7 #[.val (.ref a1), .val (.int (4 : Int32)), .val (.int p3), .val (.int (0 : Int32))] [(.ref a1)]))
  refine own_step (fun t k => XS.iconst X0.here hx rfl (hb hby d3_7) k) ?_
  show own_G p.tables e below _ (s₁.setTop (mkF m 8 #[.val (.ref a1), .val (.int (4 : Int32)), .val (.int p3), .val (.int (0 : Int32))] [(.int (0 : Int32)), (.ref a1)]))
  refine own_step (own_iaload X0 hx hZ e0 fp0 (own_inb (by decide) (Nat.le_of_ble_eq_true rfl)) (g := (mkF m 8 #[.val (.ref a1), .val (.int (4 : Int32)), .val (.int p3), .val (.int (0 : Int32))] [(.int (0 : Int32)), (.ref a1)])) rfl rfl (hb hby d3_8)) ?_
  show own_G p.tables e below _ (s₁.setTop (mkF m 9 #[.val (.ref a1), .val (.int (4 : Int32)), .val (.int p3), .val (.int (0 : Int32))] [(.int x0)]))
  refine own_step (fun t k => XS.iloadN X0.here hx rfl (hb hby d3_9) rfl k) ?_
  show own_G p.tables e below _ (s₁.setTop (mkF m 10 #[.val (.ref a1), .val (.int (4 : Int32)), .val (.int p3), .val (.int (0 : Int32))] [(.int p3), (.int x0)]))
  refine own_imp (B := s₁.setTop (mkF m 16 #[.val (.ref a1), .val (.int (4 : Int32)), .val (.int p3), .val (.int (if x0 = p3 then (1 : Int32) else (0 : Int32)))] [])) (fun k0 => ?_) ?_
  · by_cases hc2 : x0 = p3
    · simp only [if_pos hc2] at k0
      refine own_step (fun t k => XS.icmpNo X0.here hx rfl (hb hby d3_10) rfl ((teq hc2).2) k) ?_
      show own_G p.tables e below _ (s₁.setTop (mkF m 13 #[.val (.ref a1), .val (.int (4 : Int32)), .val (.int p3), .val (.int (0 : Int32))] []))
      refine own_step (fun t k => XS.iinc X0.here hx rfl (hb hby d3_13) rfl (l' := #[.val (.ref a1), .val (.int (4 : Int32)), .val (.int p3), .val (.int (1 : Int32))]) rfl k) ?_
      show own_G p.tables e below _ (s₁.setTop (mkF m 16 #[.val (.ref a1), .val (.int (4 : Int32)), .val (.int p3), .val (.int (1 : Int32))] []))
      exact k0
    · simp only [if_neg hc2] at k0
      refine own_step (fun t k => XS.icmpYes X0.here hx rfl (pc0 := 10) (pc' := 16) rfl (hb hby d3_10) rfl ((feq hc2).2) (by decide) (by decide) k) ?_
      show own_G p.tables e below _ (s₁.setTop (mkF m 16 #[.val (.ref a1), .val (.int (4 : Int32)), .val (.int p3), .val (.int (0 : Int32))] []))
      exact k0
  show own_G p.tables e below _ (s₁.setTop (mkF m 16 #[.val (.ref a1), .val (.int (4 : Int32)), .val (.int p3), .val (.int (if x0 = p3 then (1 : Int32) else (0 : Int32)))] []))
  show own_G p.tables e below _ (s₁.setTop (mkF m 16 #[.val (.ref a1), .val (.int (4 : Int32)), .val (.int p3), .val (.int (own_st (0 : Int32) x0 p3))] []))
  refine own_step (fun t k => XS.iloadN X0.here hx rfl (hb hby d3_16) rfl k) ?_
  show own_G p.tables e below _ (s₁.setTop (mkF m 17 #[.val (.ref a1), .val (.int (4 : Int32)), .val (.int p3), .val (.int (own_st (0 : Int32) x0 p3))] [(.int (4 : Int32))]))
  refine own_step (fun t k => XS.iconst X0.here hx rfl (hb hby d3_17) k) ?_
  show own_G p.tables e below _ (s₁.setTop (mkF m 18 #[.val (.ref a1), .val (.int (4 : Int32)), .val (.int p3), .val (.int (own_st (0 : Int32) x0 p3))] [(.int (1 : Int32)), (.int (4 : Int32))]))
  have hk3 : (1 : Int32) < (4 : Int32) := (by decide)
  refine own_step (fun t k => XS.icmpNo X0.here hx rfl (hb hby d3_18) rfl ((tlt hk3).2.2.2) k) ?_
  show own_G p.tables e below _ (s₁.setTop (mkF m 21 #[.val (.ref a1), .val (.int (4 : Int32)), .val (.int p3), .val (.int (own_st (0 : Int32) x0 p3))] []))
  refine own_step (fun t k => XS.aloadN X0.here hx rfl (hb hby d3_21) rfl rfl k) ?_
  show own_G p.tables e below _ (s₁.setTop (mkF m 22 #[.val (.ref a1), .val (.int (4 : Int32)), .val (.int p3), .val (.int (own_st (0 : Int32) x0 p3))] [(.ref a1)]))
  refine own_step (fun t k => XS.iconst X0.here hx rfl (hb hby d3_22) k) ?_
  show own_G p.tables e below _ (s₁.setTop (mkF m 23 #[.val (.ref a1), .val (.int (4 : Int32)), .val (.int p3), .val (.int (own_st (0 : Int32) x0 p3))] [(.int (1 : Int32)), (.ref a1)]))
  refine own_step (own_iaload X0 hx hZ e0 fp0 (own_inb (by decide) (Nat.le_of_ble_eq_true rfl)) (g := (mkF m 23 #[.val (.ref a1), .val (.int (4 : Int32)), .val (.int p3), .val (.int (own_st (0 : Int32) x0 p3))] [(.int (1 : Int32)), (.ref a1)])) rfl rfl (hb hby d3_23)) ?_
  show own_G p.tables e below _ (s₁.setTop (mkF m 24 #[.val (.ref a1), .val (.int (4 : Int32)), .val (.int p3), .val (.int (own_st (0 : Int32) x0 p3))] [(.int x1)]))
  refine own_step (fun t k => XS.iloadN X0.here hx rfl (hb hby d3_24) rfl k) ?_
  show own_G p.tables e below _ (s₁.setTop (mkF m 25 #[.val (.ref a1), .val (.int (4 : Int32)), .val (.int p3), .val (.int (own_st (0 : Int32) x0 p3))] [(.int p3), (.int x1)]))
  refine own_imp (B := s₁.setTop (mkF m 31 #[.val (.ref a1), .val (.int (4 : Int32)), .val (.int p3), .val (.int (if x1 = p3 then ((own_st (0 : Int32) x0 p3) + (1 : Int32)) else (own_st (0 : Int32) x0 p3)))] [])) (fun k0 => ?_) ?_
  · by_cases hc4 : x1 = p3
    · simp only [if_pos hc4] at k0
      refine own_step (fun t k => XS.icmpNo X0.here hx rfl (hb hby d3_25) rfl ((teq hc4).2) k) ?_
      show own_G p.tables e below _ (s₁.setTop (mkF m 28 #[.val (.ref a1), .val (.int (4 : Int32)), .val (.int p3), .val (.int (own_st (0 : Int32) x0 p3))] []))
      refine own_step (fun t k => XS.iinc X0.here hx rfl (hb hby d3_28) rfl (l' := #[.val (.ref a1), .val (.int (4 : Int32)), .val (.int p3), .val (.int ((own_st (0 : Int32) x0 p3) + (1 : Int32)))]) rfl k) ?_
      show own_G p.tables e below _ (s₁.setTop (mkF m 31 #[.val (.ref a1), .val (.int (4 : Int32)), .val (.int p3), .val (.int ((own_st (0 : Int32) x0 p3) + (1 : Int32)))] []))
      exact k0
    · simp only [if_neg hc4] at k0
      refine own_step (fun t k => XS.icmpYes X0.here hx rfl (pc0 := 25) (pc' := 31) rfl (hb hby d3_25) rfl ((feq hc4).2) (by decide) (by decide) k) ?_
      show own_G p.tables e below _ (s₁.setTop (mkF m 31 #[.val (.ref a1), .val (.int (4 : Int32)), .val (.int p3), .val (.int (own_st (0 : Int32) x0 p3))] []))
      exact k0
  show own_G p.tables e below _ (s₁.setTop (mkF m 31 #[.val (.ref a1), .val (.int (4 : Int32)), .val (.int p3), .val (.int (if x1 = p3 then ((own_st (0 : Int32) x0 p3) + (1 : Int32)) else (own_st (0 : Int32) x0 p3)))] []))
  show own_G p.tables e below _ (s₁.setTop (mkF m 31 #[.val (.ref a1), .val (.int (4 : Int32)), .val (.int p3), .val (.int (own_st (own_st (0 : Int32) x0 p3) x1 p3))] []))
  refine own_step (fun t k => XS.iloadN X0.here hx rfl (hb hby d3_31) rfl k) ?_
  show own_G p.tables e below _ (s₁.setTop (mkF m 32 #[.val (.ref a1), .val (.int (4 : Int32)), .val (.int p3), .val (.int (own_st (own_st (0 : Int32) x0 p3) x1 p3))] [(.int (4 : Int32))]))
  refine own_step (fun t k => XS.iconst X0.here hx rfl (hb hby d3_32) k) ?_
  show own_G p.tables e below _ (s₁.setTop (mkF m 33 #[.val (.ref a1), .val (.int (4 : Int32)), .val (.int p3), .val (.int (own_st (own_st (0 : Int32) x0 p3) x1 p3))] [(.int (2 : Int32)), (.int (4 : Int32))]))
  have hk5 : (2 : Int32) < (4 : Int32) := (by decide)
  refine own_step (fun t k => XS.icmpNo X0.here hx rfl (hb hby d3_33) rfl ((tlt hk5).2.2.2) k) ?_
  show own_G p.tables e below _ (s₁.setTop (mkF m 36 #[.val (.ref a1), .val (.int (4 : Int32)), .val (.int p3), .val (.int (own_st (own_st (0 : Int32) x0 p3) x1 p3))] []))
  refine own_step (fun t k => XS.aloadN X0.here hx rfl (hb hby d3_36) rfl rfl k) ?_
  show own_G p.tables e below _ (s₁.setTop (mkF m 37 #[.val (.ref a1), .val (.int (4 : Int32)), .val (.int p3), .val (.int (own_st (own_st (0 : Int32) x0 p3) x1 p3))] [(.ref a1)]))
  refine own_step (fun t k => XS.iconst X0.here hx rfl (hb hby d3_37) k) ?_
  show own_G p.tables e below _ (s₁.setTop (mkF m 38 #[.val (.ref a1), .val (.int (4 : Int32)), .val (.int p3), .val (.int (own_st (own_st (0 : Int32) x0 p3) x1 p3))] [(.int (2 : Int32)), (.ref a1)]))
  refine own_step (own_iaload X0 hx hZ e0 fp0 (own_inb (by decide) (Nat.le_of_ble_eq_true rfl)) (g := (mkF m 38 #[.val (.ref a1), .val (.int (4 : Int32)), .val (.int p3), .val (.int (own_st (own_st (0 : Int32) x0 p3) x1 p3))] [(.int (2 : Int32)), (.ref a1)])) rfl rfl (hb hby d3_38)) ?_
  show own_G p.tables e below _ (s₁.setTop (mkF m 39 #[.val (.ref a1), .val (.int (4 : Int32)), .val (.int p3), .val (.int (own_st (own_st (0 : Int32) x0 p3) x1 p3))] [(.int x2)]))
  refine own_step (fun t k => XS.iloadN X0.here hx rfl (hb hby d3_39) rfl k) ?_
  show own_G p.tables e below _ (s₁.setTop (mkF m 40 #[.val (.ref a1), .val (.int (4 : Int32)), .val (.int p3), .val (.int (own_st (own_st (0 : Int32) x0 p3) x1 p3))] [(.int p3), (.int x2)]))
  refine own_imp (B := s₁.setTop (mkF m 46 #[.val (.ref a1), .val (.int (4 : Int32)), .val (.int p3), .val (.int (if x2 = p3 then ((own_st (own_st (0 : Int32) x0 p3) x1 p3) + (1 : Int32)) else (own_st (own_st (0 : Int32) x0 p3) x1 p3)))] [])) (fun k0 => ?_) ?_
  · by_cases hc6 : x2 = p3
    · simp only [if_pos hc6] at k0
      refine own_step (fun t k => XS.icmpNo X0.here hx rfl (hb hby d3_40) rfl ((teq hc6).2) k) ?_
      show own_G p.tables e below _ (s₁.setTop (mkF m 43 #[.val (.ref a1), .val (.int (4 : Int32)), .val (.int p3), .val (.int (own_st (own_st (0 : Int32) x0 p3) x1 p3))] []))
      refine own_step (fun t k => XS.iinc X0.here hx rfl (hb hby d3_43) rfl (l' := #[.val (.ref a1), .val (.int (4 : Int32)), .val (.int p3), .val (.int ((own_st (own_st (0 : Int32) x0 p3) x1 p3) + (1 : Int32)))]) rfl k) ?_
      show own_G p.tables e below _ (s₁.setTop (mkF m 46 #[.val (.ref a1), .val (.int (4 : Int32)), .val (.int p3), .val (.int ((own_st (own_st (0 : Int32) x0 p3) x1 p3) + (1 : Int32)))] []))
      exact k0
    · simp only [if_neg hc6] at k0
      refine own_step (fun t k => XS.icmpYes X0.here hx rfl (pc0 := 40) (pc' := 46) rfl (hb hby d3_40) rfl ((feq hc6).2) (by decide) (by decide) k) ?_
      show own_G p.tables e below _ (s₁.setTop (mkF m 46 #[.val (.ref a1), .val (.int (4 : Int32)), .val (.int p3), .val (.int (own_st (own_st (0 : Int32) x0 p3) x1 p3))] []))
      exact k0
  show own_G p.tables e below _ (s₁.setTop (mkF m 46 #[.val (.ref a1), .val (.int (4 : Int32)), .val (.int p3), .val (.int (if x2 = p3 then ((own_st (own_st (0 : Int32) x0 p3) x1 p3) + (1 : Int32)) else (own_st (own_st (0 : Int32) x0 p3) x1 p3)))] []))
  show own_G p.tables e below _ (s₁.setTop (mkF m 46 #[.val (.ref a1), .val (.int (4 : Int32)), .val (.int p3), .val (.int (own_st (own_st (own_st (0 : Int32) x0 p3) x1 p3) x2 p3))] []))
  refine own_step (fun t k => XS.iloadN X0.here hx rfl (hb hby d3_46) rfl k) ?_
  show own_G p.tables e below _ (s₁.setTop (mkF m 47 #[.val (.ref a1), .val (.int (4 : Int32)), .val (.int p3), .val (.int (own_st (own_st (own_st (0 : Int32) x0 p3) x1 p3) x2 p3))] [(.int (4 : Int32))]))
  refine own_step (fun t k => XS.iconst X0.here hx rfl (hb hby d3_47) k) ?_
  show own_G p.tables e below _ (s₁.setTop (mkF m 48 #[.val (.ref a1), .val (.int (4 : Int32)), .val (.int p3), .val (.int (own_st (own_st (own_st (0 : Int32) x0 p3) x1 p3) x2 p3))] [(.int (3 : Int32)), (.int (4 : Int32))]))
  have hk7 : (3 : Int32) < (4 : Int32) := (by decide)
  refine own_step (fun t k => XS.icmpNo X0.here hx rfl (hb hby d3_48) rfl ((tlt hk7).2.2.2) k) ?_
  show own_G p.tables e below _ (s₁.setTop (mkF m 51 #[.val (.ref a1), .val (.int (4 : Int32)), .val (.int p3), .val (.int (own_st (own_st (own_st (0 : Int32) x0 p3) x1 p3) x2 p3))] []))
  refine own_step (fun t k => XS.aloadN X0.here hx rfl (hb hby d3_51) rfl rfl k) ?_
  show own_G p.tables e below _ (s₁.setTop (mkF m 52 #[.val (.ref a1), .val (.int (4 : Int32)), .val (.int p3), .val (.int (own_st (own_st (own_st (0 : Int32) x0 p3) x1 p3) x2 p3))] [(.ref a1)]))
  refine own_step (fun t k => XS.iconst X0.here hx rfl (hb hby d3_52) k) ?_
  show own_G p.tables e below _ (s₁.setTop (mkF m 53 #[.val (.ref a1), .val (.int (4 : Int32)), .val (.int p3), .val (.int (own_st (own_st (own_st (0 : Int32) x0 p3) x1 p3) x2 p3))] [(.int (3 : Int32)), (.ref a1)]))
  refine own_step (own_iaload X0 hx hZ e0 fp0 (own_inb (by decide) (Nat.le_of_ble_eq_true rfl)) (g := (mkF m 53 #[.val (.ref a1), .val (.int (4 : Int32)), .val (.int p3), .val (.int (own_st (own_st (own_st (0 : Int32) x0 p3) x1 p3) x2 p3))] [(.int (3 : Int32)), (.ref a1)])) rfl rfl (hb hby d3_53)) ?_
  show own_G p.tables e below _ (s₁.setTop (mkF m 54 #[.val (.ref a1), .val (.int (4 : Int32)), .val (.int p3), .val (.int (own_st (own_st (own_st (0 : Int32) x0 p3) x1 p3) x2 p3))] [(.int x3)]))
  refine own_step (fun t k => XS.iloadN X0.here hx rfl (hb hby d3_54) rfl k) ?_
  show own_G p.tables e below _ (s₁.setTop (mkF m 55 #[.val (.ref a1), .val (.int (4 : Int32)), .val (.int p3), .val (.int (own_st (own_st (own_st (0 : Int32) x0 p3) x1 p3) x2 p3))] [(.int p3), (.int x3)]))
  refine own_imp (B := s₁.setTop (mkF m 61 #[.val (.ref a1), .val (.int (4 : Int32)), .val (.int p3), .val (.int (if x3 = p3 then ((own_st (own_st (own_st (0 : Int32) x0 p3) x1 p3) x2 p3) + (1 : Int32)) else (own_st (own_st (own_st (0 : Int32) x0 p3) x1 p3) x2 p3)))] [])) (fun k0 => ?_) ?_
  · by_cases hc8 : x3 = p3
    · simp only [if_pos hc8] at k0
      refine own_step (fun t k => XS.icmpNo X0.here hx rfl (hb hby d3_55) rfl ((teq hc8).2) k) ?_
      show own_G p.tables e below _ (s₁.setTop (mkF m 58 #[.val (.ref a1), .val (.int (4 : Int32)), .val (.int p3), .val (.int (own_st (own_st (own_st (0 : Int32) x0 p3) x1 p3) x2 p3))] []))
      refine own_step (fun t k => XS.iinc X0.here hx rfl (hb hby d3_58) rfl (l' := #[.val (.ref a1), .val (.int (4 : Int32)), .val (.int p3), .val (.int ((own_st (own_st (own_st (0 : Int32) x0 p3) x1 p3) x2 p3) + (1 : Int32)))]) rfl k) ?_
      show own_G p.tables e below _ (s₁.setTop (mkF m 61 #[.val (.ref a1), .val (.int (4 : Int32)), .val (.int p3), .val (.int ((own_st (own_st (own_st (0 : Int32) x0 p3) x1 p3) x2 p3) + (1 : Int32)))] []))
      exact k0
    · simp only [if_neg hc8] at k0
      refine own_step (fun t k => XS.icmpYes X0.here hx rfl (pc0 := 55) (pc' := 61) rfl (hb hby d3_55) rfl ((feq hc8).2) (by decide) (by decide) k) ?_
      show own_G p.tables e below _ (s₁.setTop (mkF m 61 #[.val (.ref a1), .val (.int (4 : Int32)), .val (.int p3), .val (.int (own_st (own_st (own_st (0 : Int32) x0 p3) x1 p3) x2 p3))] []))
      exact k0
  show own_G p.tables e below _ (s₁.setTop (mkF m 61 #[.val (.ref a1), .val (.int (4 : Int32)), .val (.int p3), .val (.int (if x3 = p3 then ((own_st (own_st (own_st (0 : Int32) x0 p3) x1 p3) x2 p3) + (1 : Int32)) else (own_st (own_st (own_st (0 : Int32) x0 p3) x1 p3) x2 p3)))] []))
  show own_G p.tables e below _ (s₁.setTop (mkF m 61 #[.val (.ref a1), .val (.int (4 : Int32)), .val (.int p3), .val (.int (own_st (own_st (own_st (own_st (0 : Int32) x0 p3) x1 p3) x2 p3) x3 p3))] []))
  refine own_step (fun t k => XS.iloadN X0.here hx rfl (hb hby d3_61) rfl k) ?_
  show own_G p.tables e below _ (s₁.setTop (mkF m 62 #[.val (.ref a1), .val (.int (4 : Int32)), .val (.int p3), .val (.int (own_st (own_st (own_st (own_st (0 : Int32) x0 p3) x1 p3) x2 p3) x3 p3))] [(.int (4 : Int32))]))
  refine own_step (fun t k => XS.iconst X0.here hx rfl (hb hby d3_62) k) ?_
  show own_G p.tables e below _ (s₁.setTop (mkF m 63 #[.val (.ref a1), .val (.int (4 : Int32)), .val (.int p3), .val (.int (own_st (own_st (own_st (own_st (0 : Int32) x0 p3) x1 p3) x2 p3) x3 p3))] [(.int (4 : Int32)), (.int (4 : Int32))]))
  have hk9 : ¬ ((4 : Int32) < (4 : Int32)) := (by decide)
  refine own_step (fun t k => XS.icmpYes X0.here hx rfl (pc0 := 63) (pc' := 76) rfl (hb hby d3_63) rfl ((flt hk9).2.2.2) (by decide) (by decide) k) ?_
  show own_G p.tables e below _ (s₁.setTop (mkF m 76 #[.val (.ref a1), .val (.int (4 : Int32)), .val (.int p3), .val (.int (own_st (own_st (own_st (own_st (0 : Int32) x0 p3) x1 p3) x2 p3) x3 p3))] []))
  refine own_step (fun t k => XS.iloadN X0.here hx rfl (hb hby d3_76) rfl k) ?_
  show own_G p.tables e below _ (s₁.setTop (mkF m 77 #[.val (.ref a1), .val (.int (4 : Int32)), .val (.int p3), .val (.int (own_st (own_st (own_st (own_st (0 : Int32) x0 p3) x1 p3) x2 p3) x3 p3))] [(.int (own_st (own_st (own_st (own_st (0 : Int32) x0 p3) x1 p3) x2 p3) x3 p3))]))
  obtain ⟨fs, hr, hrun, hended, hW, hsame⟩ := X0.leave (v := some (.int (own_st (own_st (own_st (own_st (0 : Int32) x0 p3) x1 p3) x2 p3) x3 p3))) (fun h => by rw [Bd.returns] at h; cases h)
  refine own_done (retI X0 hx Bd.returns (hb hby d3_77) hr) hrun hended ⟨_, _, rfl, ?_, ⟨_, rfl⟩, hW, hsame.mono (by decide) (by decide)⟩
  show Q3_m4 Z a1 p3 x0 x1 x2 x3 x4 h0 n0 _ s₁.heap _
  rw [e0]
  exact ⟨congrArg (fun z => some (Value.int z)) (show (own_st (own_st (own_st (own_st (0 : Int32) x0 p3) x1 p3) x2 p3) x3 p3) = (own_st (own_st (own_st (own_st (0 : Int32) x0 p3) x1 p3) x2 p3) x3 p3) from rfl), N0, rfl⟩
theorem pn_5_m4 : plainName "com/example/stevedore/stevedore/MoveGraphCopiesPinLaw" = true := by first | (simp [plainName, overriddenIn]; done) | decide +kernel
theorem pd_5_m4_0 : parseMethodDescriptor "([III)I" = some ⟨[(.array .int), .int, .int], some .int⟩ := by decide +kernel
theorem ef_5_m4 (m : MethodId) (a1 : Addr) (a2 : Addr) (a3 : Addr) (a4 : Addr) : entryFrame m #[(.ref a1), (.ref a2), (.ref a3), (.ref a4), (.int (4 : Int32))] 6 = mkF m 0 #[.val (.ref a1), .val (.ref a2), .val (.ref a3), .val (.ref a4), .val (.int (4 : Int32)), .unset] [] := by first | (simp [entryFrame, mkF, argsToLocals, Value.category]; done) | rfl
def Q5_m4 (Z : State) (a1 : Addr) (a2 : Addr) (a3 : Addr) (a4 : Addr) (x0 : Int32) (x1 : Int32) (x2 : Int32) (x3 : Int32) (x4 : Int32) (zz0 : Int32) (zz1 : Int32) (zz2 : Int32) (yy0 : Int32) (yy1 : Int32) (yy2 : Int32) (yy3 : Int32) (yy4 : Int32) (ff0 : Int32) (ff1 : Int32) (ff2 : Int32) (h0 : Heap) (n0 : Nat) (v : Option Value) (h : Heap) (L : List Loc) : Prop := v = some (.int (1 : Int32)) ∧ Fr n0 L ∧ h = h0
set_option maxRecDepth 65536 in
set_option maxHeartbeats 40000000 in
theorem rm5_m4 (l : Launch) (Z : State) (a0 : Array Value) (hw : ∀ d ∈ tables_1, d.before a0 Z = true) (ws : List Jvm.Cond) (a1 : Addr) (a2 : Addr) (a3 : Addr) (a4 : Addr) (x0 : Int32) (x1 : Int32) (x2 : Int32) (x3 : Int32) (x4 : Int32) (zz0 : Int32) (zz1 : Int32) (zz2 : Int32) (yy0 : Int32) (yy1 : Int32) (yy2 : Int32) (yy3 : Int32) (yy4 : Int32) (ff0 : Int32) (ff1 : Int32) (ff2 : Int32) (h0 : Heap) (n0 : Nat) (Z0 : n0 ≤ h0.size) (fp0 : own_Ari Z h0 a1 .int [yy0, yy1, yy2, yy3, yy4]) (fp1 : own_Ari Z h0 a2 .int [x0, x1, x2, x3, x4]) (fp2 : own_Ari Z h0 a3 .int [zz0, zz1, zz2]) (fp3 : own_Ari Z h0 a4 .int [ff0, ff1, ff2]) (hx4 : own_3 x4) (hz0 : zz0 ≠ 0) (hz1 : zz1 ≠ 0) (hz2 : zz2 ≠ 0) (hq : yy4 = (([ff0, ff1, ff2].getD x4.toNatClampNeg 0) + ((own_st (own_st (own_st (own_st (0 : Int32) x0 x4) x1 x4) x2 x4) x3 x4) / ([zz0, zz1, zz2].getD x4.toNatClampNeg 0)))) :
    MetFree l (⟨"com/example/stevedore/stevedore/MoveGraphCopiesPinLaw", "ok", "([I[I[I[II)Z"⟩ : MethodName) (head1 (Jvm.Cond.code (⟨"com/example/stevedore/stevedore/MoveGraphCopiesPinLaw", "ok", "([I[I[I[II)Z"⟩ : MethodName) method_3_code 6 (some .boolean) :: ws) ({ frames := 1, cells := 0, slots := 0, locals := 17 } : Room)) (fun a U => a = #[(.ref a1), (.ref a2), (.ref a3), (.ref a4), (.int (4 : Int32))] ∧ Z.Warmed39 U.vm ∧ U.heap = h0) (fun _ _ _ _ _ => True) (fun _ U o U' => ∃ v L, o = .returned v ∧ Q5_m4 Z a1 a2 a3 a4 x0 x1 x2 x3 x4 zz0 zz1 zz2 yy0 yy1 yy2 yy3 yy4 ff0 ff1 ff2 h0 n0 v U'.heap L ∧ FrameEnd U o U' L ({ frames := 1, cells := 0, slots := 0, locals := 17 } : Room).cells ({ frames := 1, cells := 0, slots := 0, locals := 17 } : Room).slots) := by
  refine MetFree.of_bodySF (plainFor_of_name pn_5_m4) hisR ?_
  intro p e s m args below meth c s₁ Bd hml0 hP hK
  obtain ⟨rfl, hZ, hh⟩ := hP
  have hx := Bd.exec
  have hby := Bd.bytes
  have hml : c.maxLocals = 6 := hml0
  have hown : s.vm.findClass "com/example/stevedore/stevedore/MoveGraphCopiesPinLaw" = some m.cls := findClass_of_methodNamed Bd.named
  have hnm := (name_of_methodNamed Bd.named Bd.method).1
  have X0 : Stand p l e ({ frames := 1, cells := 0, slots := 0, locals := 17 } : Room) s m #[(.ref a1), (.ref a2), (.ref a3), (.ref a4), (.int (4 : Int32))] below meth c s₁ [] 0 0 := Stand.of_body Bd
  have e0 : s₁.heap = h0 := by rw [← hh, Bd.state]; rfl
  have N0 := Fr.nil n0
  refine own_start (fun t k => castTop (ef_5_m4 m a1 a2 a3 a4) k) ?_
  show own_G p.tables e below _ (s₁.setTop (mkF m 0 #[.val (.ref a1), .val (.ref a2), .val (.ref a3), .val (.ref a4), .val (.int (4 : Int32)), .unset] []))
  refine own_step (fun t k => XS.aloadN X0.here hx rfl (hb hby d5_0) rfl rfl k) ?_
  show own_G p.tables e below _ (s₁.setTop (mkF m 1 #[.val (.ref a1), .val (.ref a2), .val (.ref a3), .val (.ref a4), .val (.int (4 : Int32)), .unset] [(.ref a2)]))
  refine own_step (fun t k => XS.iload X0.here hx rfl (hb hby d5_1) rfl k) ?_
  show own_G p.tables e below _ (s₁.setTop (mkF m 3 #[.val (.ref a1), .val (.ref a2), .val (.ref a3), .val (.ref a4), .val (.int (4 : Int32)), .unset] [(.int (4 : Int32)), (.ref a2)]))
  refine own_step (own_iaload X0 hx hZ e0 fp1 (own_inb (by decide) (Nat.le_of_ble_eq_true rfl)) (g := (mkF m 3 #[.val (.ref a1), .val (.ref a2), .val (.ref a3), .val (.ref a4), .val (.int (4 : Int32)), .unset] [(.int (4 : Int32)), (.ref a2)])) rfl rfl (hb hby d5_3)) ?_
  show own_G p.tables e below _ (s₁.setTop (mkF m 4 #[.val (.ref a1), .val (.ref a2), .val (.ref a3), .val (.ref a4), .val (.int (4 : Int32)), .unset] [(.int x4)]))
  refine own_step (fun t k => XS.istore X0.here hx rfl (hb hby d5_4) rfl (l' := #[.val (.ref a1), .val (.ref a2), .val (.ref a3), .val (.ref a4), .val (.int (4 : Int32)), .val (.int x4)]) rfl k) ?_
  show own_G p.tables e below _ (s₁.setTop (mkF m 6 #[.val (.ref a1), .val (.ref a2), .val (.ref a3), .val (.ref a4), .val (.int (4 : Int32)), .val (.int x4)] []))
  refine own_step (fun t k => XS.aloadN X0.here hx rfl (hb hby d5_6) rfl rfl k) ?_
  show own_G p.tables e below _ (s₁.setTop (mkF m 7 #[.val (.ref a1), .val (.ref a2), .val (.ref a3), .val (.ref a4), .val (.int (4 : Int32)), .val (.int x4)] [(.ref a1)]))
  refine own_step (fun t k => XS.iload X0.here hx rfl (hb hby d5_7) rfl k) ?_
  show own_G p.tables e below _ (s₁.setTop (mkF m 9 #[.val (.ref a1), .val (.ref a2), .val (.ref a3), .val (.ref a4), .val (.int (4 : Int32)), .val (.int x4)] [(.int (4 : Int32)), (.ref a1)]))
  refine own_step (own_iaload X0 hx hZ e0 fp0 (own_inb (by decide) (Nat.le_of_ble_eq_true rfl)) (g := (mkF m 9 #[.val (.ref a1), .val (.ref a2), .val (.ref a3), .val (.ref a4), .val (.int (4 : Int32)), .val (.int x4)] [(.int (4 : Int32)), (.ref a1)])) rfl rfl (hb hby d5_9)) ?_
  show own_G p.tables e below _ (s₁.setTop (mkF m 10 #[.val (.ref a1), .val (.ref a2), .val (.ref a3), .val (.ref a4), .val (.int (4 : Int32)), .val (.int x4)] [(.int yy4)]))
  refine own_step (fun t k => XS.aloadN X0.here hx rfl (hb hby d5_10) rfl rfl k) ?_
  show own_G p.tables e below _ (s₁.setTop (mkF m 11 #[.val (.ref a1), .val (.ref a2), .val (.ref a3), .val (.ref a4), .val (.int (4 : Int32)), .val (.int x4)] [(.ref a4), (.int yy4)]))
  refine own_step (fun t k => XS.iload X0.here hx rfl (hb hby d5_11) rfl k) ?_
  show own_G p.tables e below _ (s₁.setTop (mkF m 13 #[.val (.ref a1), .val (.ref a2), .val (.ref a3), .val (.ref a4), .val (.int (4 : Int32)), .val (.int x4)] [(.int x4), (.ref a4), (.int yy4)]))
  refine own_step (own_iaload X0 hx hZ e0 fp3 (own_i3 hx4 (by first | rfl | (simp only [own_inc_len]; rfl) | exact own_cs_len _ _ _ _ _)) (g := (mkF m 13 #[.val (.ref a1), .val (.ref a2), .val (.ref a3), .val (.ref a4), .val (.int (4 : Int32)), .val (.int x4)] [(.int x4), (.ref a4), (.int yy4)])) rfl rfl (hb hby d5_13)) ?_
  show own_G p.tables e below _ (s₁.setTop (mkF m 14 #[.val (.ref a1), .val (.ref a2), .val (.ref a3), .val (.ref a4), .val (.int (4 : Int32)), .val (.int x4)] [(.int ([ff0, ff1, ff2].getD x4.toNatClampNeg 0)), (.int yy4)]))
  refine own_step (fun t k => XS.aloadN X0.here hx rfl (hb hby d5_14) rfl rfl k) ?_
  show own_G p.tables e below _ (s₁.setTop (mkF m 15 #[.val (.ref a1), .val (.ref a2), .val (.ref a3), .val (.ref a4), .val (.int (4 : Int32)), .val (.int x4)] [(.ref a2), (.int ([ff0, ff1, ff2].getD x4.toNatClampNeg 0)), (.int yy4)]))
  refine own_step (fun t k => XS.iload X0.here hx rfl (hb hby d5_15) rfl k) ?_
  show own_G p.tables e below _ (s₁.setTop (mkF m 17 #[.val (.ref a1), .val (.ref a2), .val (.ref a3), .val (.ref a4), .val (.int (4 : Int32)), .val (.int x4)] [(.int (4 : Int32)), (.ref a2), (.int ([ff0, ff1, ff2].getD x4.toNatClampNeg 0)), (.int yy4)]))
  refine own_step (fun t k => XS.iload X0.here hx rfl (hb hby d5_17) rfl k) ?_
  show own_G p.tables e below _ (s₁.setTop (mkF m 19 #[.val (.ref a1), .val (.ref a2), .val (.ref a3), .val (.ref a4), .val (.int (4 : Int32)), .val (.int x4)] [(.int x4), (.int (4 : Int32)), (.ref a2), (.int ([ff0, ff1, ff2].getD x4.toNatClampNeg 0)), (.int yy4)]))
  obtain ⟨_, _, ⟨T1, L1, k1, n1⟩, -, X1, ⟨Lc1, hQ1, l1, y1, z1⟩, st1⟩ := Jvm.LawKit.callS X0 hx (y := (⟨"com/example/stevedore/stevedore/MoveGraphCopiesPinLaw", "before", "([III)I"⟩ : MethodName)) hown (mvT hZ (hw _ (List.mem_of_getElem? (i := 10) rfl))) (mvT hZ (hw _ (List.mem_of_getElem? (i := 11) rfl))) (mvT hZ (hw _ (List.mem_of_getElem? (i := 12) rfl))) (mvT hZ (hw _ (List.mem_of_getElem? (i := 13) rfl))) (by decide) (backOf (W := 2) (rm3_m4 l Z a0 hw [] a2 x4 x0 x1 x2 x3 x4 h0 n0 (Nat.le_trans Z0 (Keep.refl h0 []).1) fp1) hZ (hw _ (List.mem_of_getElem? (i := 13) rfl)) (hw _ (List.mem_of_getElem? (i := 12) rfl)) (by decide) (by decide)) (g := (mkF m 19 #[.val (.ref a1), .val (.ref a2), .val (.ref a3), .val (.ref a4), .val (.int (4 : Int32)), .val (.int x4)] [(.int x4), (.int (4 : Int32)), (.ref a2), (.int ([ff0, ff1, ff2].getD x4.toNatClampNeg 0)), (.int yy4)])) rfl (by rw [hml]; rfl) (argsL := [(.ref a2), (.int (4 : Int32)), (.int x4)]) (rest := [(.int ([ff0, ff1, ff2].getD x4.toNatClampNeg 0)), (.int yy4)]) (lenOf pd_5_m4_0 rfl) rfl (by show 2 * 0 + _ ≤ _; exact Nat.le_of_eq rfl) (hb hby d5_19) (fun _ _ => ⟨rfl, e0, (by decide : 0 + 0 ≤ _), (by decide : 0 + 0 ≤ _)⟩)
  dsimp only [Pt.U, Pt.locs, Pt.cells, Pt.slots] at X1 l1 y1 z1 st1 hQ1
  subst y1 z1
  obtain ⟨rfl, N1q, e1⟩ := hQ1
  have N1 : Fr n0 L1 := by rw [l1]; exact Fr.app N0 N1q
  refine own_step st1 ?_
  show own_G p.tables e below _ (T1.setTop (mkF m 22 #[.val (.ref a1), .val (.ref a2), .val (.ref a3), .val (.ref a4), .val (.int (4 : Int32)), .val (.int x4)] [(.int (own_st (own_st (own_st (own_st (0 : Int32) x0 x4) x1 x4) x2 x4) x3 x4)), (.int ([ff0, ff1, ff2].getD x4.toNatClampNeg 0)), (.int yy4)]))
  refine own_step (fun t k => XS.aloadN X1.here hx rfl (hb hby d5_22) rfl rfl k) ?_
  show own_G p.tables e below _ (T1.setTop (mkF m 23 #[.val (.ref a1), .val (.ref a2), .val (.ref a3), .val (.ref a4), .val (.int (4 : Int32)), .val (.int x4)] [(.ref a3), (.int (own_st (own_st (own_st (own_st (0 : Int32) x0 x4) x1 x4) x2 x4) x3 x4)), (.int ([ff0, ff1, ff2].getD x4.toNatClampNeg 0)), (.int yy4)]))
  refine own_step (fun t k => XS.iload X1.here hx rfl (hb hby d5_23) rfl k) ?_
  show own_G p.tables e below _ (T1.setTop (mkF m 25 #[.val (.ref a1), .val (.ref a2), .val (.ref a3), .val (.ref a4), .val (.int (4 : Int32)), .val (.int x4)] [(.int x4), (.ref a3), (.int (own_st (own_st (own_st (own_st (0 : Int32) x0 x4) x1 x4) x2 x4) x3 x4)), (.int ([ff0, ff1, ff2].getD x4.toNatClampNeg 0)), (.int yy4)]))
  refine own_step (own_iaload X1 hx hZ e1 fp2 (own_i3 hx4 (by first | rfl | (simp only [own_inc_len]; rfl) | exact own_cs_len _ _ _ _ _)) (g := (mkF m 25 #[.val (.ref a1), .val (.ref a2), .val (.ref a3), .val (.ref a4), .val (.int (4 : Int32)), .val (.int x4)] [(.int x4), (.ref a3), (.int (own_st (own_st (own_st (own_st (0 : Int32) x0 x4) x1 x4) x2 x4) x3 x4)), (.int ([ff0, ff1, ff2].getD x4.toNatClampNeg 0)), (.int yy4)])) rfl rfl (hb hby d5_25)) ?_
  show own_G p.tables e below _ (T1.setTop (mkF m 26 #[.val (.ref a1), .val (.ref a2), .val (.ref a3), .val (.ref a4), .val (.int (4 : Int32)), .val (.int x4)] [(.int ([zz0, zz1, zz2].getD x4.toNatClampNeg 0)), (.int (own_st (own_st (own_st (own_st (0 : Int32) x0 x4) x1 x4) x2 x4) x3 x4)), (.int ([ff0, ff1, ff2].getD x4.toNatClampNeg 0)), (.int yy4)]))
  refine own_step (fun t k => XS.idiv X1.here hx rfl (hb hby d5_26) rfl (own_nz3 hx4 hz0 hz1 hz2) k) ?_
  show own_G p.tables e below _ (T1.setTop (mkF m 27 #[.val (.ref a1), .val (.ref a2), .val (.ref a3), .val (.ref a4), .val (.int (4 : Int32)), .val (.int x4)] [(.int ((own_st (own_st (own_st (own_st (0 : Int32) x0 x4) x1 x4) x2 x4) x3 x4) / ([zz0, zz1, zz2].getD x4.toNatClampNeg 0))), (.int ([ff0, ff1, ff2].getD x4.toNatClampNeg 0)), (.int yy4)]))
  refine own_step (fun t k => XS.iadd X1.here hx rfl (hb hby d5_27) rfl k) ?_
  show own_G p.tables e below _ (T1.setTop (mkF m 28 #[.val (.ref a1), .val (.ref a2), .val (.ref a3), .val (.ref a4), .val (.int (4 : Int32)), .val (.int x4)] [(.int (([ff0, ff1, ff2].getD x4.toNatClampNeg 0) + ((own_st (own_st (own_st (own_st (0 : Int32) x0 x4) x1 x4) x2 x4) x3 x4) / ([zz0, zz1, zz2].getD x4.toNatClampNeg 0)))), (.int yy4)]))
  have hk2 : yy4 = (([ff0, ff1, ff2].getD x4.toNatClampNeg 0) + ((own_st (own_st (own_st (own_st (0 : Int32) x0 x4) x1 x4) x2 x4) x3 x4) / ([zz0, zz1, zz2].getD x4.toNatClampNeg 0))) := hq
  refine own_step (fun t k => XS.icmpNo X1.here hx rfl (hb hby d5_28) rfl ((teq hk2).2) k) ?_
  show own_G p.tables e below _ (T1.setTop (mkF m 31 #[.val (.ref a1), .val (.ref a2), .val (.ref a3), .val (.ref a4), .val (.int (4 : Int32)), .val (.int x4)] []))
  refine own_step (fun t k => XS.iconst X1.here hx rfl (hb hby d5_31) k) ?_
  show own_G p.tables e below _ (T1.setTop (mkF m 32 #[.val (.ref a1), .val (.ref a2), .val (.ref a3), .val (.ref a4), .val (.int (4 : Int32)), .val (.int x4)] [(.int (1 : Int32))]))
  refine own_step (fun t k => XS.goto X1.here hx rfl (pc0 := 32) (pc' := 36) rfl (hb hby d5_32) (by decide) (by decide) k) ?_
  show own_G p.tables e below _ (T1.setTop (mkF m 36 #[.val (.ref a1), .val (.ref a2), .val (.ref a3), .val (.ref a4), .val (.int (4 : Int32)), .val (.int x4)] [(.int (1 : Int32))]))
  obtain ⟨fs, hr, hrun, hended, hW, hsame⟩ := X1.leave (v := some (.int (1 : Int32))) (fun h => by rw [Bd.returns] at h; cases h)
  refine own_done (retN X1 hx (t := .boolean) Bd.returns (by simp) (hb hby d5_36) hr) hrun hended ⟨_, _, rfl, ?_, ⟨_, rfl⟩, hW, hsame.mono (by decide) (by decide)⟩
  show Q5_m4 Z a1 a2 a3 a4 x0 x1 x2 x3 x4 zz0 zz1 zz2 yy0 yy1 yy2 yy3 yy4 ff0 ff1 ff2 h0 n0 _ T1.heap _
  rw [e1]
  exact ⟨congrArg (fun z => some (Value.int z)) (show (1 : Int32) = (1 : Int32) from rfl), N1, rfl⟩

theorem own_blkE {c z : Int32} (w : Int32) (hc : 0 ≤ c.toInt ∧ c.toInt ≤ 5) (hz : 1 ≤ z.toInt) : own_blk c z w = w + own_f4 c z := by
  have r := rng32 z
  have e : ∀ k : Int32, ∀ {y : Int32}, y.toInt = k.toInt → y = k := fun k _ q => Int32.toInt_inj.mp q
  have hc' : c = 0 ∨ c = 1 ∨ c = 2 ∨ c = 3 ∨ c = 4 ∨ c = 5 := by
    have z : c.toInt = 0 ∨ c.toInt = 1 ∨ c.toInt = 2 ∨ c.toInt = 3 ∨ c.toInt = 4 ∨ c.toInt = 5 := by omega
    rcases z with z | z | z | z | z | z
    · exact Or.inl (e 0 z)
    · exact Or.inr (Or.inl (e 1 z))
    · exact Or.inr (Or.inr (Or.inl (e 2 z)))
    · exact Or.inr (Or.inr (Or.inr (Or.inl (e 3 z))))
    · exact Or.inr (Or.inr (Or.inr (Or.inr (Or.inl (e 4 z)))))
    · exact Or.inr (Or.inr (Or.inr (Or.inr (Or.inr (e 5 z)))))
  by_cases hb : 5 < z.toInt
  · have e0 : (0 : Int32).toInt = 0 := rfl
    have d1 : c / z = 0 := own_div0 hc.1 (by omega)
    unfold own_blk own_f4
    rw [d1]
    have zz : (0 : Int32) * z = 0 := Int32.zero_mul
    rw [zz, Int32.sub_zero]
    by_cases h0 : c = 0
    · subst h0
      have n0 : ¬ (0 : Int32) < 0 := by decide
      simp only [if_neg n0, if_true]
      rw [Int32.add_zero, Int32.add_zero]
    · have p0 : (0 : Int32) < c := by
        rw [Int32.lt_iff_toInt_lt]
        have : ¬ c.toInt = 0 := fun q => h0 (e 0 q)
        omega
      simp only [if_pos p0, if_neg h0]
      have e1 : (1 : Int32).toInt = 1 := rfl
      rw [Int32.lt_iff_toInt_lt] at p0
      have s := Jvm.Kit.i32_sub (p := c) (q := 1) (by rw [e1]; omega) (by rw [e1]; omega)
      rw [e1] at s
      have d2 : (c - 1) / z = 0 := own_div0 (by omega) (by omega)
      rw [d2]
  · have hz' : z = 1 ∨ z = 2 ∨ z = 3 ∨ z = 4 ∨ z = 5 := by
      have q : z.toInt = 1 ∨ z.toInt = 2 ∨ z.toInt = 3 ∨ z.toInt = 4 ∨ z.toInt = 5 := by omega
      rcases q with q | q | q | q | q
      · exact Or.inl (e 1 q)
      · exact Or.inr (Or.inl (e 2 q))
      · exact Or.inr (Or.inr (Or.inl (e 3 q)))
      · exact Or.inr (Or.inr (Or.inr (Or.inl (e 4 q))))
      · exact Or.inr (Or.inr (Or.inr (Or.inr (e 5 q))))
    have key : own_blk c z 0 = own_f4 c z := by
      rcases hc' with rfl | rfl | rfl | rfl | rfl | rfl <;> rcases hz' with rfl | rfl | rfl | rfl | rfl <;> decide +kernel
    have lin : own_blk c z w = w + own_blk c z 0 := by
      unfold own_blk
      by_cases p0 : (0 : Int32) < c
      · simp only [if_pos p0]; rw [Int32.zero_add]
      · simp only [if_neg p0]; rw [Int32.add_zero]
    rw [lin, key]
theorem own_max1 (y : Int32) : 1 ≤ (own_f1 (1 : Int32) y).toInt := by
  unfold own_f1
  have e1 : (1 : Int32).toInt = 1 := rfl
  split
  · rename_i h
    rw [Int32.lt_iff_toInt_lt] at h
    omega
  · rw [e1]; omega
theorem own_nz1 {z : Int32} (h : 1 ≤ z.toInt) : z ≠ 0 := fun q => by
  rw [q] at h
  have e0 : (0 : Int32).toInt = 0 := rfl
  omega
theorem own_t0 : own_3 0 := Or.inl rfl
theorem own_t1 : own_3 1 := Or.inr (Or.inl rfl)
theorem own_seen0 {x0 x1 x2 x3 x4 v : Int32} (hx0 : own_3 x0) (hx1 : own_3 x1) (hx2 : own_3 x2) (hx3 : own_3 x3) (hx4 : own_3 x4) (hv : own_3 v) : [(0 : Int32), (0 : Int32), (0 : Int32)].getD v.toNatClampNeg 0 = (0 : Int32) := by
  rw [own_z3 hv]
theorem own_seen1 {x0 x1 x2 x3 x4 v : Int32} (hx0 : own_3 x0) (hx1 : own_3 x1) (hx2 : own_3 x2) (hx3 : own_3 x3) (hx4 : own_3 x4) (hv : own_3 v) : (own_inc [(0 : Int32), (0 : Int32), (0 : Int32)] x0).getD v.toNatClampNeg 0 = (own_st (0 : Int32) x0 v) := by
  rw [own_incD rfl hx0 hv, own_z3 hv]
theorem own_seen2 {x0 x1 x2 x3 x4 v : Int32} (hx0 : own_3 x0) (hx1 : own_3 x1) (hx2 : own_3 x2) (hx3 : own_3 x3) (hx4 : own_3 x4) (hv : own_3 v) : (own_inc (own_inc [(0 : Int32), (0 : Int32), (0 : Int32)] x0) x1).getD v.toNatClampNeg 0 = (own_st (own_st (0 : Int32) x0 v) x1 v) := by
  rw [own_incD (by simp only [own_inc_len]; rfl) hx1 hv, own_incD rfl hx0 hv, own_z3 hv]
theorem own_seen3 {x0 x1 x2 x3 x4 v : Int32} (hx0 : own_3 x0) (hx1 : own_3 x1) (hx2 : own_3 x2) (hx3 : own_3 x3) (hx4 : own_3 x4) (hv : own_3 v) : (own_inc (own_inc (own_inc [(0 : Int32), (0 : Int32), (0 : Int32)] x0) x1) x2).getD v.toNatClampNeg 0 = (own_st (own_st (own_st (0 : Int32) x0 v) x1 v) x2 v) := by
  rw [own_incD (by simp only [own_inc_len]; rfl) hx2 hv, own_incD (by simp only [own_inc_len]; rfl) hx1 hv, own_incD rfl hx0 hv, own_z3 hv]
theorem own_seen4 {x0 x1 x2 x3 x4 v : Int32} (hx0 : own_3 x0) (hx1 : own_3 x1) (hx2 : own_3 x2) (hx3 : own_3 x3) (hx4 : own_3 x4) (hv : own_3 v) : (own_inc (own_inc (own_inc (own_inc [(0 : Int32), (0 : Int32), (0 : Int32)] x0) x1) x2) x3).getD v.toNatClampNeg 0 = (own_st (own_st (own_st (own_st (0 : Int32) x0 v) x1 v) x2 v) x3 v) := by
  rw [own_incD (by simp only [own_inc_len]; rfl) hx3 hv, own_incD (by simp only [own_inc_len]; rfl) hx2 hv, own_incD (by simp only [own_inc_len]; rfl) hx1 hv, own_incD rfl hx0 hv, own_z3 hv]
theorem own_seen5 {x0 x1 x2 x3 x4 v : Int32} (hx0 : own_3 x0) (hx1 : own_3 x1) (hx2 : own_3 x2) (hx3 : own_3 x3) (hx4 : own_3 x4) (hv : own_3 v) : (own_inc (own_inc (own_inc (own_inc (own_inc [(0 : Int32), (0 : Int32), (0 : Int32)] x0) x1) x2) x3) x4).getD v.toNatClampNeg 0 = (own_st (own_st (own_st (own_st (own_st (0 : Int32) x0 v) x1 v) x2 v) x3 v) x4 v) := by
  rw [own_incD (by simp only [own_inc_len]; rfl) hx4 hv, own_incD (by simp only [own_inc_len]; rfl) hx3 hv, own_incD (by simp only [own_inc_len]; rfl) hx2 hv, own_incD (by simp only [own_inc_len]; rfl) hx1 hv, own_incD rfl hx0 hv, own_z3 hv]
theorem own_b5 (x0 x1 x2 x3 x4 v : Int32) : 0 ≤ (own_st (own_st (own_st (own_st (own_st (0 : Int32) x0 v) x1 v) x2 v) x3 v) x4 v).toInt ∧ (own_st (own_st (own_st (own_st (own_st (0 : Int32) x0 v) x1 v) x2 v) x3 v) x4 v).toInt ≤ 5 := own_stb (own_stb (own_stb (own_stb (own_stb (n := 0) (k := 0) (by decide) (by decide)) (by decide)) (by decide)) (by decide)) (by decide)
theorem own_c0 {x0 x1 x2 x3 x4 : Int32} (hx0 : own_3 x0) (hx1 : own_3 x1) (hx2 : own_3 x2) (hx3 : own_3 x3) (hx4 : own_3 x4) : (own_cs x0 x1 x2 x3 x4).getD 0 0 = (own_st (own_st (own_st (own_st (own_st (0 : Int32) x0 (0 : Int32)) x1 (0 : Int32)) x2 (0 : Int32)) x3 (0 : Int32)) x4 (0 : Int32)) := own_seen5 hx0 hx1 hx2 hx3 hx4 own_t0
theorem own_c1 {x0 x1 x2 x3 x4 : Int32} (hx0 : own_3 x0) (hx1 : own_3 x1) (hx2 : own_3 x2) (hx3 : own_3 x3) (hx4 : own_3 x4) : (own_cs x0 x1 x2 x3 x4).getD 1 0 = (own_st (own_st (own_st (own_st (own_st (0 : Int32) x0 (1 : Int32)) x1 (1 : Int32)) x2 (1 : Int32)) x3 (1 : Int32)) x4 (1 : Int32)) := own_seen5 hx0 hx1 hx2 hx3 hx4 own_t1
theorem own_main0 {x0 x1 x2 x3 x4 zz0 zz1 zz2 bk0 bk1 : Int32} (hx0 : own_3 x0) (hx1 : own_3 x1) (hx2 : own_3 x2) (hx3 : own_3 x3) (hx4 : own_3 x4) (hz0 : 1 ≤ zz0.toInt) (hz1 : 1 ≤ zz1.toInt) (hb0 : bk0 = (own_f4 (own_st (own_st (own_st (own_st (own_st (0 : Int32) x0 (0 : Int32)) x1 (0 : Int32)) x2 (0 : Int32)) x3 (0 : Int32)) x4 (0 : Int32)) zz0)) (hb1 : bk1 = (own_f4 (own_st (own_st (own_st (own_st (own_st (0 : Int32) x0 (1 : Int32)) x1 (1 : Int32)) x2 (1 : Int32)) x3 (1 : Int32)) x4 (1 : Int32)) zz1)) :
    (([(0 : Int32), (own_blk ((own_cs x0 x1 x2 x3 x4).getD 0 0) zz0 (0 : Int32)), (own_blk ((own_cs x0 x1 x2 x3 x4).getD 1 0) zz1 (own_blk ((own_cs x0 x1 x2 x3 x4).getD 0 0) zz0 (0 : Int32)))].getD x0.toNatClampNeg 0) + (([(0 : Int32), (0 : Int32), (0 : Int32)].getD x0.toNatClampNeg 0) / ([zz0, zz1, zz2].getD x0.toNatClampNeg 0))) = (([(0 : Int32), bk0, (bk0 + bk1)].getD x0.toNatClampNeg 0) + ((0 : Int32) / ([zz0, zz1, zz2].getD x0.toNatClampNeg 0))) := by
  rw [own_seen0 hx0 hx1 hx2 hx3 hx4 hx0, own_c0 hx0 hx1 hx2 hx3 hx4, own_c1 hx0 hx1 hx2 hx3 hx4, own_blkE _ (own_b5 _ _ _ _ _ _) hz0, own_blkE _ (own_b5 _ _ _ _ _ _) hz1, Int32.zero_add, ← hb0, ← hb1]
theorem own_main1 {x0 x1 x2 x3 x4 zz0 zz1 zz2 bk0 bk1 : Int32} (hx0 : own_3 x0) (hx1 : own_3 x1) (hx2 : own_3 x2) (hx3 : own_3 x3) (hx4 : own_3 x4) (hz0 : 1 ≤ zz0.toInt) (hz1 : 1 ≤ zz1.toInt) (hb0 : bk0 = (own_f4 (own_st (own_st (own_st (own_st (own_st (0 : Int32) x0 (0 : Int32)) x1 (0 : Int32)) x2 (0 : Int32)) x3 (0 : Int32)) x4 (0 : Int32)) zz0)) (hb1 : bk1 = (own_f4 (own_st (own_st (own_st (own_st (own_st (0 : Int32) x0 (1 : Int32)) x1 (1 : Int32)) x2 (1 : Int32)) x3 (1 : Int32)) x4 (1 : Int32)) zz1)) :
    (([(0 : Int32), (own_blk ((own_cs x0 x1 x2 x3 x4).getD 0 0) zz0 (0 : Int32)), (own_blk ((own_cs x0 x1 x2 x3 x4).getD 1 0) zz1 (own_blk ((own_cs x0 x1 x2 x3 x4).getD 0 0) zz0 (0 : Int32)))].getD x1.toNatClampNeg 0) + (((own_inc [(0 : Int32), (0 : Int32), (0 : Int32)] x0).getD x1.toNatClampNeg 0) / ([zz0, zz1, zz2].getD x1.toNatClampNeg 0))) = (([(0 : Int32), bk0, (bk0 + bk1)].getD x1.toNatClampNeg 0) + ((own_st (0 : Int32) x0 x1) / ([zz0, zz1, zz2].getD x1.toNatClampNeg 0))) := by
  rw [own_seen1 hx0 hx1 hx2 hx3 hx4 hx1, own_c0 hx0 hx1 hx2 hx3 hx4, own_c1 hx0 hx1 hx2 hx3 hx4, own_blkE _ (own_b5 _ _ _ _ _ _) hz0, own_blkE _ (own_b5 _ _ _ _ _ _) hz1, Int32.zero_add, ← hb0, ← hb1]
theorem own_main2 {x0 x1 x2 x3 x4 zz0 zz1 zz2 bk0 bk1 : Int32} (hx0 : own_3 x0) (hx1 : own_3 x1) (hx2 : own_3 x2) (hx3 : own_3 x3) (hx4 : own_3 x4) (hz0 : 1 ≤ zz0.toInt) (hz1 : 1 ≤ zz1.toInt) (hb0 : bk0 = (own_f4 (own_st (own_st (own_st (own_st (own_st (0 : Int32) x0 (0 : Int32)) x1 (0 : Int32)) x2 (0 : Int32)) x3 (0 : Int32)) x4 (0 : Int32)) zz0)) (hb1 : bk1 = (own_f4 (own_st (own_st (own_st (own_st (own_st (0 : Int32) x0 (1 : Int32)) x1 (1 : Int32)) x2 (1 : Int32)) x3 (1 : Int32)) x4 (1 : Int32)) zz1)) :
    (([(0 : Int32), (own_blk ((own_cs x0 x1 x2 x3 x4).getD 0 0) zz0 (0 : Int32)), (own_blk ((own_cs x0 x1 x2 x3 x4).getD 1 0) zz1 (own_blk ((own_cs x0 x1 x2 x3 x4).getD 0 0) zz0 (0 : Int32)))].getD x2.toNatClampNeg 0) + (((own_inc (own_inc [(0 : Int32), (0 : Int32), (0 : Int32)] x0) x1).getD x2.toNatClampNeg 0) / ([zz0, zz1, zz2].getD x2.toNatClampNeg 0))) = (([(0 : Int32), bk0, (bk0 + bk1)].getD x2.toNatClampNeg 0) + ((own_st (own_st (0 : Int32) x0 x2) x1 x2) / ([zz0, zz1, zz2].getD x2.toNatClampNeg 0))) := by
  rw [own_seen2 hx0 hx1 hx2 hx3 hx4 hx2, own_c0 hx0 hx1 hx2 hx3 hx4, own_c1 hx0 hx1 hx2 hx3 hx4, own_blkE _ (own_b5 _ _ _ _ _ _) hz0, own_blkE _ (own_b5 _ _ _ _ _ _) hz1, Int32.zero_add, ← hb0, ← hb1]
theorem own_main3 {x0 x1 x2 x3 x4 zz0 zz1 zz2 bk0 bk1 : Int32} (hx0 : own_3 x0) (hx1 : own_3 x1) (hx2 : own_3 x2) (hx3 : own_3 x3) (hx4 : own_3 x4) (hz0 : 1 ≤ zz0.toInt) (hz1 : 1 ≤ zz1.toInt) (hb0 : bk0 = (own_f4 (own_st (own_st (own_st (own_st (own_st (0 : Int32) x0 (0 : Int32)) x1 (0 : Int32)) x2 (0 : Int32)) x3 (0 : Int32)) x4 (0 : Int32)) zz0)) (hb1 : bk1 = (own_f4 (own_st (own_st (own_st (own_st (own_st (0 : Int32) x0 (1 : Int32)) x1 (1 : Int32)) x2 (1 : Int32)) x3 (1 : Int32)) x4 (1 : Int32)) zz1)) :
    (([(0 : Int32), (own_blk ((own_cs x0 x1 x2 x3 x4).getD 0 0) zz0 (0 : Int32)), (own_blk ((own_cs x0 x1 x2 x3 x4).getD 1 0) zz1 (own_blk ((own_cs x0 x1 x2 x3 x4).getD 0 0) zz0 (0 : Int32)))].getD x3.toNatClampNeg 0) + (((own_inc (own_inc (own_inc [(0 : Int32), (0 : Int32), (0 : Int32)] x0) x1) x2).getD x3.toNatClampNeg 0) / ([zz0, zz1, zz2].getD x3.toNatClampNeg 0))) = (([(0 : Int32), bk0, (bk0 + bk1)].getD x3.toNatClampNeg 0) + ((own_st (own_st (own_st (0 : Int32) x0 x3) x1 x3) x2 x3) / ([zz0, zz1, zz2].getD x3.toNatClampNeg 0))) := by
  rw [own_seen3 hx0 hx1 hx2 hx3 hx4 hx3, own_c0 hx0 hx1 hx2 hx3 hx4, own_c1 hx0 hx1 hx2 hx3 hx4, own_blkE _ (own_b5 _ _ _ _ _ _) hz0, own_blkE _ (own_b5 _ _ _ _ _ _) hz1, Int32.zero_add, ← hb0, ← hb1]
theorem own_main4 {x0 x1 x2 x3 x4 zz0 zz1 zz2 bk0 bk1 : Int32} (hx0 : own_3 x0) (hx1 : own_3 x1) (hx2 : own_3 x2) (hx3 : own_3 x3) (hx4 : own_3 x4) (hz0 : 1 ≤ zz0.toInt) (hz1 : 1 ≤ zz1.toInt) (hb0 : bk0 = (own_f4 (own_st (own_st (own_st (own_st (own_st (0 : Int32) x0 (0 : Int32)) x1 (0 : Int32)) x2 (0 : Int32)) x3 (0 : Int32)) x4 (0 : Int32)) zz0)) (hb1 : bk1 = (own_f4 (own_st (own_st (own_st (own_st (own_st (0 : Int32) x0 (1 : Int32)) x1 (1 : Int32)) x2 (1 : Int32)) x3 (1 : Int32)) x4 (1 : Int32)) zz1)) :
    (([(0 : Int32), (own_blk ((own_cs x0 x1 x2 x3 x4).getD 0 0) zz0 (0 : Int32)), (own_blk ((own_cs x0 x1 x2 x3 x4).getD 1 0) zz1 (own_blk ((own_cs x0 x1 x2 x3 x4).getD 0 0) zz0 (0 : Int32)))].getD x4.toNatClampNeg 0) + (((own_inc (own_inc (own_inc (own_inc [(0 : Int32), (0 : Int32), (0 : Int32)] x0) x1) x2) x3).getD x4.toNatClampNeg 0) / ([zz0, zz1, zz2].getD x4.toNatClampNeg 0))) = (([(0 : Int32), bk0, (bk0 + bk1)].getD x4.toNatClampNeg 0) + ((own_st (own_st (own_st (own_st (0 : Int32) x0 x4) x1 x4) x2 x4) x3 x4) / ([zz0, zz1, zz2].getD x4.toNatClampNeg 0))) := by
  rw [own_seen4 hx0 hx1 hx2 hx3 hx4 hx4, own_c0 hx0 hx1 hx2 hx3 hx4, own_c1 hx0 hx1 hx2 hx3 hx4, own_blkE _ (own_b5 _ _ _ _ _ _) hz0, own_blkE _ (own_b5 _ _ _ _ _ _) hz1, Int32.zero_add, ← hb0, ← hb1]
theorem pn_0 : plainName "com/example/stevedore/stevedore/MoveGraphCopiesPinLaw" = true := by first | (simp [plainName, overriddenIn]; done) | decide +kernel
theorem pd_0_0 : parseMethodDescriptor "(II)I" = some ⟨[.int, .int], some .int⟩ := by decide +kernel
theorem pd_0_1 : parseMethodDescriptor "([I[I)[I" = some ⟨[(.array .int), (.array .int)], some (.array .int)⟩ := by decide +kernel
theorem pd_0_2 : parseMethodDescriptor "([III)I" = some ⟨[(.array .int), .int, .int], some .int⟩ := by decide +kernel
theorem pd_0_3 : parseMethodDescriptor "([I[I[I[II)Z" = some ⟨[(.array .int), (.array .int), (.array .int), (.array .int), .int], some .boolean⟩ := by decide +kernel
theorem ef_0 (m : MethodId) (p1 : Int32) (p2 : Int32) (p3 : Int32) (p4 : Int32) : entryFrame m #[(.int p1), (.int p2), (.int p3), (.int p4)] maxLocals = mkF m 0 #[.val (.int p1), .val (.int p2), .val (.int p3), .val (.int p4), .unset, .unset, .unset, .unset, .unset, .unset, .unset, .unset, .unset, .unset, .unset, .unset, .unset, .unset, .unset, .unset] [] := by first | (simp [entryFrame, mkF, argsToLocals, Value.category, maxLocals]; done) | rfl
def Q0 (Z : State) (p1 : Int32) (p2 : Int32) (p3 : Int32) (p4 : Int32) (h0 : Heap) (n0 : Nat) (v : Option Value) (h : Heap) (L : List Loc) : Prop := v = some (.int (1 : Int32)) ∧ Fr n0 L
set_option maxRecDepth 65536 in
set_option maxHeartbeats 40000000 in
theorem rm0 (l : Launch) (Z : State) (a0 : Array Value) (hw : ∀ d ∈ tables_1, d.before a0 Z = true) (ws : List Jvm.Cond) (p1 : Int32) (p2 : Int32) (p3 : Int32) (p4 : Int32) (h0 : Heap) (n0 : Nat) (Z0 : n0 ≤ h0.size) :
    MetFree l x (head1 (Jvm.Cond.code x code maxLocals ret :: ws) room_1) (fun a U => a = #[(.int p1), (.int p2), (.int p3), (.int p4)] ∧ Z.Warmed39 U.vm ∧ U.heap = h0) (fun _ _ _ _ _ => True) (fun _ U o U' => ∃ v L, o = .returned v ∧ Q0 Z p1 p2 p3 p4 h0 n0 v U'.heap L ∧ FrameEnd U o U' L room_1.cells room_1.slots) := by
  refine MetFree.of_bodySF (plainFor_of_name pn_0) hisR ?_
  intro p e s m args below meth c s₁ Bd hml0 hP hK
  obtain ⟨rfl, hZ, hh⟩ := hP
  have hx := Bd.exec
  have hby := Bd.bytes
  have hml : c.maxLocals = 20 := hml0
  have hown : s.vm.findClass "com/example/stevedore/stevedore/MoveGraphCopiesPinLaw" = some m.cls := findClass_of_methodNamed Bd.named
  have hnm := (name_of_methodNamed Bd.named Bd.method).1
  have X0 : Stand p l e room_1 s m #[(.int p1), (.int p2), (.int p3), (.int p4)] below meth c s₁ [] 0 0 := Stand.of_body Bd
  have e0 : s₁.heap = h0 := by rw [← hh, Bd.state]; rfl
  have N0 := Fr.nil n0
  refine own_start (fun t k => castTop (ef_0 m p1 p2 p3 p4) k) ?_
  show own_G p.tables e below _ (s₁.setTop (mkF m 0 #[.val (.int p1), .val (.int p2), .val (.int p3), .val (.int p4), .unset, .unset, .unset, .unset, .unset, .unset, .unset, .unset, .unset, .unset, .unset, .unset, .unset, .unset, .unset, .unset] []))
  refine own_step (fun t k => XS.iloadN X0.here hx rfl (hb hby at_0) rfl k) ?_
  show own_G p.tables e below _ (s₁.setTop (mkF m 1 #[.val (.int p1), .val (.int p2), .val (.int p3), .val (.int p4), .unset, .unset, .unset, .unset, .unset, .unset, .unset, .unset, .unset, .unset, .unset, .unset, .unset, .unset, .unset, .unset] [(.int p1)]))
  refine own_step (X0.ldcInt hx hown (mvT hZ (hw _ (List.mem_of_getElem? (i := 0) rfl))) (g := (mkF m 1 #[.val (.int p1), .val (.int p2), .val (.int p3), .val (.int p4), .unset, .unset, .unset, .unset, .unset, .unset, .unset, .unset, .unset, .unset, .unset, .unset, .unset, .unset, .unset, .unset] [(.int p1)])) rfl (hb hby at_1)) ?_
  show own_G p.tables e below _ (s₁.setTop (mkF m 3 #[.val (.int p1), .val (.int p2), .val (.int p3), .val (.int p4), .unset, .unset, .unset, .unset, .unset, .unset, .unset, .unset, .unset, .unset, .unset, .unset, .unset, .unset, .unset, .unset] [(.int (2147483647 : Int32)), (.int p1)]))
  refine own_step (fun t k => XS.iand X0.here hx rfl (hb hby at_3) rfl k) ?_
  show own_G p.tables e below _ (s₁.setTop (mkF m 4 #[.val (.int p1), .val (.int p2), .val (.int p3), .val (.int p4), .unset, .unset, .unset, .unset, .unset, .unset, .unset, .unset, .unset, .unset, .unset, .unset, .unset, .unset, .unset, .unset] [(.int (p1 &&& (2147483647 : Int32)))]))
  refine own_step (fun t k => XS.sipush X0.here hx rfl (hb hby at_4) k) ?_
  show own_G p.tables e below _ (s₁.setTop (mkF m 7 #[.val (.int p1), .val (.int p2), .val (.int p3), .val (.int p4), .unset, .unset, .unset, .unset, .unset, .unset, .unset, .unset, .unset, .unset, .unset, .unset, .unset, .unset, .unset, .unset] [(.int (243 : Int32)), (.int (p1 &&& (2147483647 : Int32)))]))
  refine own_step (fun t k => XS.irem X0.here hx rfl (hb hby at_7) rfl (by decide) k) ?_
  show own_G p.tables e below _ (s₁.setTop (mkF m 8 #[.val (.int p1), .val (.int p2), .val (.int p3), .val (.int p4), .unset, .unset, .unset, .unset, .unset, .unset, .unset, .unset, .unset, .unset, .unset, .unset, .unset, .unset, .unset, .unset] [(.int ((p1 &&& (2147483647 : Int32)) - ((p1 &&& (2147483647 : Int32)) / (243 : Int32)) * (243 : Int32)))]))
  refine own_nm (((p1 &&& (2147483647 : Int32)) - ((p1 &&& (2147483647 : Int32)) / (243 : Int32)) * (243 : Int32)) : Int32) (fun xx => s₁.setTop (mkF m 8 #[.val (.int p1), .val (.int p2), .val (.int p3), .val (.int p4), .unset, .unset, .unset, .unset, .unset, .unset, .unset, .unset, .unset, .unset, .unset, .unset, .unset, .unset, .unset, .unset] [(.int xx)])) ?_
  intro xx hd_xx
  show own_G p.tables e below _ (s₁.setTop (mkF m 8 #[.val (.int p1), .val (.int p2), .val (.int p3), .val (.int p4), .unset, .unset, .unset, .unset, .unset, .unset, .unset, .unset, .unset, .unset, .unset, .unset, .unset, .unset, .unset, .unset] [(.int xx)]))
  refine own_step (fun t k => XS.istore X0.here hx rfl (hb hby at_8) rfl (l' := #[.val (.int p1), .val (.int p2), .val (.int p3), .val (.int p4), .val (.int xx), .unset, .unset, .unset, .unset, .unset, .unset, .unset, .unset, .unset, .unset, .unset, .unset, .unset, .unset, .unset]) rfl k) ?_
  show own_G p.tables e below _ (s₁.setTop (mkF m 10 #[.val (.int p1), .val (.int p2), .val (.int p3), .val (.int p4), .val (.int xx), .unset, .unset, .unset, .unset, .unset, .unset, .unset, .unset, .unset, .unset, .unset, .unset, .unset, .unset, .unset] []))
  refine own_step (fun t k => XS.iload X0.here hx rfl (hb hby at_10) rfl k) ?_
  show own_G p.tables e below _ (s₁.setTop (mkF m 12 #[.val (.int p1), .val (.int p2), .val (.int p3), .val (.int p4), .val (.int xx), .unset, .unset, .unset, .unset, .unset, .unset, .unset, .unset, .unset, .unset, .unset, .unset, .unset, .unset, .unset] [(.int xx)]))
  refine own_step (fun t k => XS.iconst X0.here hx rfl (hb hby at_12) k) ?_
  show own_G p.tables e below _ (s₁.setTop (mkF m 13 #[.val (.int p1), .val (.int p2), .val (.int p3), .val (.int p4), .val (.int xx), .unset, .unset, .unset, .unset, .unset, .unset, .unset, .unset, .unset, .unset, .unset, .unset, .unset, .unset, .unset] [(.int (3 : Int32)), (.int xx)]))
  refine own_step (fun t k => XS.irem X0.here hx rfl (hb hby at_13) rfl (by decide) k) ?_
  show own_G p.tables e below _ (s₁.setTop (mkF m 14 #[.val (.int p1), .val (.int p2), .val (.int p3), .val (.int p4), .val (.int xx), .unset, .unset, .unset, .unset, .unset, .unset, .unset, .unset, .unset, .unset, .unset, .unset, .unset, .unset, .unset] [(.int (xx - (xx / (3 : Int32)) * (3 : Int32)))]))
  refine own_nm ((xx - (xx / (3 : Int32)) * (3 : Int32)) : Int32) (fun dv0 => s₁.setTop (mkF m 14 #[.val (.int p1), .val (.int p2), .val (.int p3), .val (.int p4), .val (.int xx), .unset, .unset, .unset, .unset, .unset, .unset, .unset, .unset, .unset, .unset, .unset, .unset, .unset, .unset, .unset] [(.int dv0)])) ?_
  intro dv0 hd_dv0
  show own_G p.tables e below _ (s₁.setTop (mkF m 14 #[.val (.int p1), .val (.int p2), .val (.int p3), .val (.int p4), .val (.int xx), .unset, .unset, .unset, .unset, .unset, .unset, .unset, .unset, .unset, .unset, .unset, .unset, .unset, .unset, .unset] [(.int dv0)]))
  refine own_step (fun t k => XS.istore X0.here hx rfl (hb hby at_14) rfl (l' := #[.val (.int p1), .val (.int p2), .val (.int p3), .val (.int p4), .val (.int xx), .val (.int dv0), .unset, .unset, .unset, .unset, .unset, .unset, .unset, .unset, .unset, .unset, .unset, .unset, .unset, .unset]) rfl k) ?_
  show own_G p.tables e below _ (s₁.setTop (mkF m 16 #[.val (.int p1), .val (.int p2), .val (.int p3), .val (.int p4), .val (.int xx), .val (.int dv0), .unset, .unset, .unset, .unset, .unset, .unset, .unset, .unset, .unset, .unset, .unset, .unset, .unset, .unset] []))
  refine own_step (fun t k => XS.iload X0.here hx rfl (hb hby at_16) rfl k) ?_
  show own_G p.tables e below _ (s₁.setTop (mkF m 18 #[.val (.int p1), .val (.int p2), .val (.int p3), .val (.int p4), .val (.int xx), .val (.int dv0), .unset, .unset, .unset, .unset, .unset, .unset, .unset, .unset, .unset, .unset, .unset, .unset, .unset, .unset] [(.int xx)]))
  refine own_step (fun t k => XS.iconst X0.here hx rfl (hb hby at_18) k) ?_
  show own_G p.tables e below _ (s₁.setTop (mkF m 19 #[.val (.int p1), .val (.int p2), .val (.int p3), .val (.int p4), .val (.int xx), .val (.int dv0), .unset, .unset, .unset, .unset, .unset, .unset, .unset, .unset, .unset, .unset, .unset, .unset, .unset, .unset] [(.int (3 : Int32)), (.int xx)]))
  refine own_step (fun t k => XS.idiv X0.here hx rfl (hb hby at_19) rfl (by decide) k) ?_
  show own_G p.tables e below _ (s₁.setTop (mkF m 20 #[.val (.int p1), .val (.int p2), .val (.int p3), .val (.int p4), .val (.int xx), .val (.int dv0), .unset, .unset, .unset, .unset, .unset, .unset, .unset, .unset, .unset, .unset, .unset, .unset, .unset, .unset] [(.int (xx / (3 : Int32)))]))
  refine own_step (fun t k => XS.iconst X0.here hx rfl (hb hby at_20) k) ?_
  show own_G p.tables e below _ (s₁.setTop (mkF m 21 #[.val (.int p1), .val (.int p2), .val (.int p3), .val (.int p4), .val (.int xx), .val (.int dv0), .unset, .unset, .unset, .unset, .unset, .unset, .unset, .unset, .unset, .unset, .unset, .unset, .unset, .unset] [(.int (3 : Int32)), (.int (xx / (3 : Int32)))]))
  refine own_step (fun t k => XS.irem X0.here hx rfl (hb hby at_21) rfl (by decide) k) ?_
  show own_G p.tables e below _ (s₁.setTop (mkF m 22 #[.val (.int p1), .val (.int p2), .val (.int p3), .val (.int p4), .val (.int xx), .val (.int dv0), .unset, .unset, .unset, .unset, .unset, .unset, .unset, .unset, .unset, .unset, .unset, .unset, .unset, .unset] [(.int ((xx / (3 : Int32)) - ((xx / (3 : Int32)) / (3 : Int32)) * (3 : Int32)))]))
  refine own_nm (((xx / (3 : Int32)) - ((xx / (3 : Int32)) / (3 : Int32)) * (3 : Int32)) : Int32) (fun dv1 => s₁.setTop (mkF m 22 #[.val (.int p1), .val (.int p2), .val (.int p3), .val (.int p4), .val (.int xx), .val (.int dv0), .unset, .unset, .unset, .unset, .unset, .unset, .unset, .unset, .unset, .unset, .unset, .unset, .unset, .unset] [(.int dv1)])) ?_
  intro dv1 hd_dv1
  show own_G p.tables e below _ (s₁.setTop (mkF m 22 #[.val (.int p1), .val (.int p2), .val (.int p3), .val (.int p4), .val (.int xx), .val (.int dv0), .unset, .unset, .unset, .unset, .unset, .unset, .unset, .unset, .unset, .unset, .unset, .unset, .unset, .unset] [(.int dv1)]))
  refine own_step (fun t k => XS.istore X0.here hx rfl (hb hby at_22) rfl (l' := #[.val (.int p1), .val (.int p2), .val (.int p3), .val (.int p4), .val (.int xx), .val (.int dv0), .val (.int dv1), .unset, .unset, .unset, .unset, .unset, .unset, .unset, .unset, .unset, .unset, .unset, .unset, .unset]) rfl k) ?_
  show own_G p.tables e below _ (s₁.setTop (mkF m 24 #[.val (.int p1), .val (.int p2), .val (.int p3), .val (.int p4), .val (.int xx), .val (.int dv0), .val (.int dv1), .unset, .unset, .unset, .unset, .unset, .unset, .unset, .unset, .unset, .unset, .unset, .unset, .unset] []))
  refine own_step (fun t k => XS.iload X0.here hx rfl (hb hby at_24) rfl k) ?_
  show own_G p.tables e below _ (s₁.setTop (mkF m 26 #[.val (.int p1), .val (.int p2), .val (.int p3), .val (.int p4), .val (.int xx), .val (.int dv0), .val (.int dv1), .unset, .unset, .unset, .unset, .unset, .unset, .unset, .unset, .unset, .unset, .unset, .unset, .unset] [(.int xx)]))
  refine own_step (fun t k => XS.bipush X0.here hx rfl (hb hby at_26) k) ?_
  show own_G p.tables e below _ (s₁.setTop (mkF m 28 #[.val (.int p1), .val (.int p2), .val (.int p3), .val (.int p4), .val (.int xx), .val (.int dv0), .val (.int dv1), .unset, .unset, .unset, .unset, .unset, .unset, .unset, .unset, .unset, .unset, .unset, .unset, .unset] [(.int (9 : Int32)), (.int xx)]))
  refine own_step (fun t k => XS.idiv X0.here hx rfl (hb hby at_28) rfl (by decide) k) ?_
  show own_G p.tables e below _ (s₁.setTop (mkF m 29 #[.val (.int p1), .val (.int p2), .val (.int p3), .val (.int p4), .val (.int xx), .val (.int dv0), .val (.int dv1), .unset, .unset, .unset, .unset, .unset, .unset, .unset, .unset, .unset, .unset, .unset, .unset, .unset] [(.int (xx / (9 : Int32)))]))
  refine own_step (fun t k => XS.iconst X0.here hx rfl (hb hby at_29) k) ?_
  show own_G p.tables e below _ (s₁.setTop (mkF m 30 #[.val (.int p1), .val (.int p2), .val (.int p3), .val (.int p4), .val (.int xx), .val (.int dv0), .val (.int dv1), .unset, .unset, .unset, .unset, .unset, .unset, .unset, .unset, .unset, .unset, .unset, .unset, .unset] [(.int (3 : Int32)), (.int (xx / (9 : Int32)))]))
  refine own_step (fun t k => XS.irem X0.here hx rfl (hb hby at_30) rfl (by decide) k) ?_
  show own_G p.tables e below _ (s₁.setTop (mkF m 31 #[.val (.int p1), .val (.int p2), .val (.int p3), .val (.int p4), .val (.int xx), .val (.int dv0), .val (.int dv1), .unset, .unset, .unset, .unset, .unset, .unset, .unset, .unset, .unset, .unset, .unset, .unset, .unset] [(.int ((xx / (9 : Int32)) - ((xx / (9 : Int32)) / (3 : Int32)) * (3 : Int32)))]))
  refine own_nm (((xx / (9 : Int32)) - ((xx / (9 : Int32)) / (3 : Int32)) * (3 : Int32)) : Int32) (fun dv2 => s₁.setTop (mkF m 31 #[.val (.int p1), .val (.int p2), .val (.int p3), .val (.int p4), .val (.int xx), .val (.int dv0), .val (.int dv1), .unset, .unset, .unset, .unset, .unset, .unset, .unset, .unset, .unset, .unset, .unset, .unset, .unset] [(.int dv2)])) ?_
  intro dv2 hd_dv2
  show own_G p.tables e below _ (s₁.setTop (mkF m 31 #[.val (.int p1), .val (.int p2), .val (.int p3), .val (.int p4), .val (.int xx), .val (.int dv0), .val (.int dv1), .unset, .unset, .unset, .unset, .unset, .unset, .unset, .unset, .unset, .unset, .unset, .unset, .unset] [(.int dv2)]))
  refine own_step (fun t k => XS.istore X0.here hx rfl (hb hby at_31) rfl (l' := #[.val (.int p1), .val (.int p2), .val (.int p3), .val (.int p4), .val (.int xx), .val (.int dv0), .val (.int dv1), .val (.int dv2), .unset, .unset, .unset, .unset, .unset, .unset, .unset, .unset, .unset, .unset, .unset, .unset]) rfl k) ?_
  show own_G p.tables e below _ (s₁.setTop (mkF m 33 #[.val (.int p1), .val (.int p2), .val (.int p3), .val (.int p4), .val (.int xx), .val (.int dv0), .val (.int dv1), .val (.int dv2), .unset, .unset, .unset, .unset, .unset, .unset, .unset, .unset, .unset, .unset, .unset, .unset] []))
  refine own_step (fun t k => XS.iload X0.here hx rfl (hb hby at_33) rfl k) ?_
  show own_G p.tables e below _ (s₁.setTop (mkF m 35 #[.val (.int p1), .val (.int p2), .val (.int p3), .val (.int p4), .val (.int xx), .val (.int dv0), .val (.int dv1), .val (.int dv2), .unset, .unset, .unset, .unset, .unset, .unset, .unset, .unset, .unset, .unset, .unset, .unset] [(.int xx)]))
  refine own_step (fun t k => XS.bipush X0.here hx rfl (hb hby at_35) k) ?_
  show own_G p.tables e below _ (s₁.setTop (mkF m 37 #[.val (.int p1), .val (.int p2), .val (.int p3), .val (.int p4), .val (.int xx), .val (.int dv0), .val (.int dv1), .val (.int dv2), .unset, .unset, .unset, .unset, .unset, .unset, .unset, .unset, .unset, .unset, .unset, .unset] [(.int (27 : Int32)), (.int xx)]))
  refine own_step (fun t k => XS.idiv X0.here hx rfl (hb hby at_37) rfl (by decide) k) ?_
  show own_G p.tables e below _ (s₁.setTop (mkF m 38 #[.val (.int p1), .val (.int p2), .val (.int p3), .val (.int p4), .val (.int xx), .val (.int dv0), .val (.int dv1), .val (.int dv2), .unset, .unset, .unset, .unset, .unset, .unset, .unset, .unset, .unset, .unset, .unset, .unset] [(.int (xx / (27 : Int32)))]))
  refine own_step (fun t k => XS.iconst X0.here hx rfl (hb hby at_38) k) ?_
  show own_G p.tables e below _ (s₁.setTop (mkF m 39 #[.val (.int p1), .val (.int p2), .val (.int p3), .val (.int p4), .val (.int xx), .val (.int dv0), .val (.int dv1), .val (.int dv2), .unset, .unset, .unset, .unset, .unset, .unset, .unset, .unset, .unset, .unset, .unset, .unset] [(.int (3 : Int32)), (.int (xx / (27 : Int32)))]))
  refine own_step (fun t k => XS.irem X0.here hx rfl (hb hby at_39) rfl (by decide) k) ?_
  show own_G p.tables e below _ (s₁.setTop (mkF m 40 #[.val (.int p1), .val (.int p2), .val (.int p3), .val (.int p4), .val (.int xx), .val (.int dv0), .val (.int dv1), .val (.int dv2), .unset, .unset, .unset, .unset, .unset, .unset, .unset, .unset, .unset, .unset, .unset, .unset] [(.int ((xx / (27 : Int32)) - ((xx / (27 : Int32)) / (3 : Int32)) * (3 : Int32)))]))
  refine own_nm (((xx / (27 : Int32)) - ((xx / (27 : Int32)) / (3 : Int32)) * (3 : Int32)) : Int32) (fun dv3 => s₁.setTop (mkF m 40 #[.val (.int p1), .val (.int p2), .val (.int p3), .val (.int p4), .val (.int xx), .val (.int dv0), .val (.int dv1), .val (.int dv2), .unset, .unset, .unset, .unset, .unset, .unset, .unset, .unset, .unset, .unset, .unset, .unset] [(.int dv3)])) ?_
  intro dv3 hd_dv3
  show own_G p.tables e below _ (s₁.setTop (mkF m 40 #[.val (.int p1), .val (.int p2), .val (.int p3), .val (.int p4), .val (.int xx), .val (.int dv0), .val (.int dv1), .val (.int dv2), .unset, .unset, .unset, .unset, .unset, .unset, .unset, .unset, .unset, .unset, .unset, .unset] [(.int dv3)]))
  refine own_step (fun t k => XS.istore X0.here hx rfl (hb hby at_40) rfl (l' := #[.val (.int p1), .val (.int p2), .val (.int p3), .val (.int p4), .val (.int xx), .val (.int dv0), .val (.int dv1), .val (.int dv2), .val (.int dv3), .unset, .unset, .unset, .unset, .unset, .unset, .unset, .unset, .unset, .unset, .unset]) rfl k) ?_
  show own_G p.tables e below _ (s₁.setTop (mkF m 42 #[.val (.int p1), .val (.int p2), .val (.int p3), .val (.int p4), .val (.int xx), .val (.int dv0), .val (.int dv1), .val (.int dv2), .val (.int dv3), .unset, .unset, .unset, .unset, .unset, .unset, .unset, .unset, .unset, .unset, .unset] []))
  refine own_step (fun t k => XS.iload X0.here hx rfl (hb hby at_42) rfl k) ?_
  show own_G p.tables e below _ (s₁.setTop (mkF m 44 #[.val (.int p1), .val (.int p2), .val (.int p3), .val (.int p4), .val (.int xx), .val (.int dv0), .val (.int dv1), .val (.int dv2), .val (.int dv3), .unset, .unset, .unset, .unset, .unset, .unset, .unset, .unset, .unset, .unset, .unset] [(.int xx)]))
  refine own_step (fun t k => XS.bipush X0.here hx rfl (hb hby at_44) k) ?_
  show own_G p.tables e below _ (s₁.setTop (mkF m 46 #[.val (.int p1), .val (.int p2), .val (.int p3), .val (.int p4), .val (.int xx), .val (.int dv0), .val (.int dv1), .val (.int dv2), .val (.int dv3), .unset, .unset, .unset, .unset, .unset, .unset, .unset, .unset, .unset, .unset, .unset] [(.int (81 : Int32)), (.int xx)]))
  refine own_step (fun t k => XS.idiv X0.here hx rfl (hb hby at_46) rfl (by decide) k) ?_
  show own_G p.tables e below _ (s₁.setTop (mkF m 47 #[.val (.int p1), .val (.int p2), .val (.int p3), .val (.int p4), .val (.int xx), .val (.int dv0), .val (.int dv1), .val (.int dv2), .val (.int dv3), .unset, .unset, .unset, .unset, .unset, .unset, .unset, .unset, .unset, .unset, .unset] [(.int (xx / (81 : Int32)))]))
  refine own_step (fun t k => XS.iconst X0.here hx rfl (hb hby at_47) k) ?_
  show own_G p.tables e below _ (s₁.setTop (mkF m 48 #[.val (.int p1), .val (.int p2), .val (.int p3), .val (.int p4), .val (.int xx), .val (.int dv0), .val (.int dv1), .val (.int dv2), .val (.int dv3), .unset, .unset, .unset, .unset, .unset, .unset, .unset, .unset, .unset, .unset, .unset] [(.int (3 : Int32)), (.int (xx / (81 : Int32)))]))
  refine own_step (fun t k => XS.irem X0.here hx rfl (hb hby at_48) rfl (by decide) k) ?_
  show own_G p.tables e below _ (s₁.setTop (mkF m 49 #[.val (.int p1), .val (.int p2), .val (.int p3), .val (.int p4), .val (.int xx), .val (.int dv0), .val (.int dv1), .val (.int dv2), .val (.int dv3), .unset, .unset, .unset, .unset, .unset, .unset, .unset, .unset, .unset, .unset, .unset] [(.int ((xx / (81 : Int32)) - ((xx / (81 : Int32)) / (3 : Int32)) * (3 : Int32)))]))
  refine own_nm (((xx / (81 : Int32)) - ((xx / (81 : Int32)) / (3 : Int32)) * (3 : Int32)) : Int32) (fun dv4 => s₁.setTop (mkF m 49 #[.val (.int p1), .val (.int p2), .val (.int p3), .val (.int p4), .val (.int xx), .val (.int dv0), .val (.int dv1), .val (.int dv2), .val (.int dv3), .unset, .unset, .unset, .unset, .unset, .unset, .unset, .unset, .unset, .unset, .unset] [(.int dv4)])) ?_
  intro dv4 hd_dv4
  show own_G p.tables e below _ (s₁.setTop (mkF m 49 #[.val (.int p1), .val (.int p2), .val (.int p3), .val (.int p4), .val (.int xx), .val (.int dv0), .val (.int dv1), .val (.int dv2), .val (.int dv3), .unset, .unset, .unset, .unset, .unset, .unset, .unset, .unset, .unset, .unset, .unset] [(.int dv4)]))
  refine own_step (fun t k => XS.istore X0.here hx rfl (hb hby at_49) rfl (l' := #[.val (.int p1), .val (.int p2), .val (.int p3), .val (.int p4), .val (.int xx), .val (.int dv0), .val (.int dv1), .val (.int dv2), .val (.int dv3), .val (.int dv4), .unset, .unset, .unset, .unset, .unset, .unset, .unset, .unset, .unset, .unset]) rfl k) ?_
  show own_G p.tables e below _ (s₁.setTop (mkF m 51 #[.val (.int p1), .val (.int p2), .val (.int p3), .val (.int p4), .val (.int xx), .val (.int dv0), .val (.int dv1), .val (.int dv2), .val (.int dv3), .val (.int dv4), .unset, .unset, .unset, .unset, .unset, .unset, .unset, .unset, .unset, .unset] []))
  have hxx := own_xx _ _ hd_xx
  have hx0 : own_3 dv0 := own_mod3 _ _ hxx hd_dv0
  have hx1 : own_3 dv1 := own_mod3 _ _ (own_divn _ _ hxx (by decide)) hd_dv1
  have hx2 : own_3 dv2 := own_mod3 _ _ (own_divn _ _ hxx (by decide)) hd_dv2
  have hx3 : own_3 dv3 := own_mod3 _ _ (own_divn _ _ hxx (by decide)) hd_dv3
  have hx4 : own_3 dv4 := own_mod3 _ _ (own_divn _ _ hxx (by decide)) hd_dv4
  refine own_step (fun t k => XS.iconst X0.here hx rfl (hb hby at_51) k) ?_
  show own_G p.tables e below _ (s₁.setTop (mkF m 52 #[.val (.int p1), .val (.int p2), .val (.int p3), .val (.int p4), .val (.int xx), .val (.int dv0), .val (.int dv1), .val (.int dv2), .val (.int dv3), .val (.int dv4), .unset, .unset, .unset, .unset, .unset, .unset, .unset, .unset, .unset, .unset] [(.int (5 : Int32))]))
  obtain ⟨T7, h7, k7, X7, e7, E7, A7, st7⟩ := newP X0 hx hZ (hw _ (List.mem_of_getElem? (i := 1) rfl)) e0 (g := (mkF m 52 #[.val (.int p1), .val (.int p2), .val (.int p3), .val (.int p4), .val (.int xx), .val (.int dv0), .val (.int dv1), .val (.int dv2), .val (.int dv3), .val (.int dv4), .unset, .unset, .unset, .unset, .unset, .unset, .unset, .unset, .unset, .unset] [(.int (5 : Int32))])) rfl (hb hby at_52) rfl (by decide) (cap := 5) (by decide) (by decide) (by decide) (by decide)
  obtain ⟨b7, g7⟩ : ∃ z, z = h0.size := ⟨_, rfl⟩
  have sz7 : h0.size ≤ b7 := Nat.le_trans (Keep.refl h0 []).1 (Nat.le_of_eq g7.symm)
  have ge7 : n0 ≤ b7 := Nat.le_trans Z0 sz7
  have K7 : Keep h0 h7 [] := (Keep.refl h0 []).ext E7
  rw [← g7] at A7 st7
  have c8 : own_Ari Z h7 b7 .int [(0 : Int32), (0 : Int32), (0 : Int32), (0 : Int32), (0 : Int32)] := own_Ari_new (ty := .int) A7 (by decide) rfl
  refine own_step st7 ?_
  show own_G p.tables e below _ (T7.setTop (mkF m 54 #[.val (.int p1), .val (.int p2), .val (.int p3), .val (.int p4), .val (.int xx), .val (.int dv0), .val (.int dv1), .val (.int dv2), .val (.int dv3), .val (.int dv4), .unset, .unset, .unset, .unset, .unset, .unset, .unset, .unset, .unset, .unset] [(.ref b7)]))
  refine own_step (fun t k => XS.dup X7.here hx rfl (hb hby at_54) rfl rfl k) ?_
  show own_G p.tables e below _ (T7.setTop (mkF m 55 #[.val (.int p1), .val (.int p2), .val (.int p3), .val (.int p4), .val (.int xx), .val (.int dv0), .val (.int dv1), .val (.int dv2), .val (.int dv3), .val (.int dv4), .unset, .unset, .unset, .unset, .unset, .unset, .unset, .unset, .unset, .unset] [(.ref b7), (.ref b7)]))
  refine own_step (fun t k => XS.iconst X7.here hx rfl (hb hby at_55) k) ?_
  show own_G p.tables e below _ (T7.setTop (mkF m 56 #[.val (.int p1), .val (.int p2), .val (.int p3), .val (.int p4), .val (.int xx), .val (.int dv0), .val (.int dv1), .val (.int dv2), .val (.int dv3), .val (.int dv4), .unset, .unset, .unset, .unset, .unset, .unset, .unset, .unset, .unset, .unset] [(.int (0 : Int32)), (.ref b7), (.ref b7)]))
  refine own_step (fun t k => XS.iload X7.here hx rfl (hb hby at_56) rfl k) ?_
  show own_G p.tables e below _ (T7.setTop (mkF m 58 #[.val (.int p1), .val (.int p2), .val (.int p3), .val (.int p4), .val (.int xx), .val (.int dv0), .val (.int dv1), .val (.int dv2), .val (.int dv3), .val (.int dv4), .unset, .unset, .unset, .unset, .unset, .unset, .unset, .unset, .unset, .unset] [(.int dv0), (.int (0 : Int32)), (.ref b7), (.ref b7)]))
  obtain ⟨T9, h9, X9, e9, W9, c9, st9⟩ := own_iastore X7 hx hZ e7 c8 (own_inb (by decide) (Nat.le_of_ble_eq_true rfl)) (g := (mkF m 58 #[.val (.int p1), .val (.int p2), .val (.int p3), .val (.int p4), .val (.int xx), .val (.int dv0), .val (.int dv1), .val (.int dv2), .val (.int dv3), .val (.int dv4), .unset, .unset, .unset, .unset, .unset, .unset, .unset, .unset, .unset, .unset] [(.int dv0), (.int (0 : Int32)), (.ref b7), (.ref b7)])) rfl rfl (hb hby at_58)
  have N9 := Fr.snoc X9 N0 ge7
  have c10 : own_Ari Z h9 b7 .int [dv0, (0 : Int32), (0 : Int32), (0 : Int32), (0 : Int32)] := c9
  have K9 : Keep h0 h9 [] := K7.wr W9 (Or.inr sz7)
  refine own_step st9 ?_
  clear A7 E7 K7 W9 X7 c8 c9 e7 g7 st7 st9
  show own_G p.tables e below _ (T9.setTop (mkF m 59 #[.val (.int p1), .val (.int p2), .val (.int p3), .val (.int p4), .val (.int xx), .val (.int dv0), .val (.int dv1), .val (.int dv2), .val (.int dv3), .val (.int dv4), .unset, .unset, .unset, .unset, .unset, .unset, .unset, .unset, .unset, .unset] [(.ref b7)]))
  refine own_step (fun t k => XS.dup X9.here hx rfl (hb hby at_59) rfl rfl k) ?_
  show own_G p.tables e below _ (T9.setTop (mkF m 60 #[.val (.int p1), .val (.int p2), .val (.int p3), .val (.int p4), .val (.int xx), .val (.int dv0), .val (.int dv1), .val (.int dv2), .val (.int dv3), .val (.int dv4), .unset, .unset, .unset, .unset, .unset, .unset, .unset, .unset, .unset, .unset] [(.ref b7), (.ref b7)]))
  refine own_step (fun t k => XS.iconst X9.here hx rfl (hb hby at_60) k) ?_
  show own_G p.tables e below _ (T9.setTop (mkF m 61 #[.val (.int p1), .val (.int p2), .val (.int p3), .val (.int p4), .val (.int xx), .val (.int dv0), .val (.int dv1), .val (.int dv2), .val (.int dv3), .val (.int dv4), .unset, .unset, .unset, .unset, .unset, .unset, .unset, .unset, .unset, .unset] [(.int (1 : Int32)), (.ref b7), (.ref b7)]))
  refine own_step (fun t k => XS.iload X9.here hx rfl (hb hby at_61) rfl k) ?_
  show own_G p.tables e below _ (T9.setTop (mkF m 63 #[.val (.int p1), .val (.int p2), .val (.int p3), .val (.int p4), .val (.int xx), .val (.int dv0), .val (.int dv1), .val (.int dv2), .val (.int dv3), .val (.int dv4), .unset, .unset, .unset, .unset, .unset, .unset, .unset, .unset, .unset, .unset] [(.int dv1), (.int (1 : Int32)), (.ref b7), (.ref b7)]))
  obtain ⟨T12, h12, X12, e12, W12, c12, st12⟩ := own_iastore X9 hx hZ e9 c10 (own_inb (by decide) (Nat.le_of_ble_eq_true rfl)) (g := (mkF m 63 #[.val (.int p1), .val (.int p2), .val (.int p3), .val (.int p4), .val (.int xx), .val (.int dv0), .val (.int dv1), .val (.int dv2), .val (.int dv3), .val (.int dv4), .unset, .unset, .unset, .unset, .unset, .unset, .unset, .unset, .unset, .unset] [(.int dv1), (.int (1 : Int32)), (.ref b7), (.ref b7)])) rfl rfl (hb hby at_63)
  have N12 := Fr.snoc X12 N9 ge7
  have c13 : own_Ari Z h12 b7 .int [dv0, dv1, (0 : Int32), (0 : Int32), (0 : Int32)] := c12
  have K12 : Keep h0 h12 [] := K9.wr W12 (Or.inr sz7)
  refine own_step st12 ?_
  show own_G p.tables e below _ (T12.setTop (mkF m 64 #[.val (.int p1), .val (.int p2), .val (.int p3), .val (.int p4), .val (.int xx), .val (.int dv0), .val (.int dv1), .val (.int dv2), .val (.int dv3), .val (.int dv4), .unset, .unset, .unset, .unset, .unset, .unset, .unset, .unset, .unset, .unset] [(.ref b7)]))
  refine own_step (fun t k => XS.dup X12.here hx rfl (hb hby at_64) rfl rfl k) ?_
  show own_G p.tables e below _ (T12.setTop (mkF m 65 #[.val (.int p1), .val (.int p2), .val (.int p3), .val (.int p4), .val (.int xx), .val (.int dv0), .val (.int dv1), .val (.int dv2), .val (.int dv3), .val (.int dv4), .unset, .unset, .unset, .unset, .unset, .unset, .unset, .unset, .unset, .unset] [(.ref b7), (.ref b7)]))
  refine own_step (fun t k => XS.iconst X12.here hx rfl (hb hby at_65) k) ?_
  show own_G p.tables e below _ (T12.setTop (mkF m 66 #[.val (.int p1), .val (.int p2), .val (.int p3), .val (.int p4), .val (.int xx), .val (.int dv0), .val (.int dv1), .val (.int dv2), .val (.int dv3), .val (.int dv4), .unset, .unset, .unset, .unset, .unset, .unset, .unset, .unset, .unset, .unset] [(.int (2 : Int32)), (.ref b7), (.ref b7)]))
  refine own_step (fun t k => XS.iload X12.here hx rfl (hb hby at_66) rfl k) ?_
  show own_G p.tables e below _ (T12.setTop (mkF m 68 #[.val (.int p1), .val (.int p2), .val (.int p3), .val (.int p4), .val (.int xx), .val (.int dv0), .val (.int dv1), .val (.int dv2), .val (.int dv3), .val (.int dv4), .unset, .unset, .unset, .unset, .unset, .unset, .unset, .unset, .unset, .unset] [(.int dv2), (.int (2 : Int32)), (.ref b7), (.ref b7)]))
  obtain ⟨T15, h15, X15, e15, W15, c15, st15⟩ := own_iastore X12 hx hZ e12 c13 (own_inb (by decide) (Nat.le_of_ble_eq_true rfl)) (g := (mkF m 68 #[.val (.int p1), .val (.int p2), .val (.int p3), .val (.int p4), .val (.int xx), .val (.int dv0), .val (.int dv1), .val (.int dv2), .val (.int dv3), .val (.int dv4), .unset, .unset, .unset, .unset, .unset, .unset, .unset, .unset, .unset, .unset] [(.int dv2), (.int (2 : Int32)), (.ref b7), (.ref b7)])) rfl rfl (hb hby at_68)
  have N15 := Fr.snoc X15 N12 ge7
  have c16 : own_Ari Z h15 b7 .int [dv0, dv1, dv2, (0 : Int32), (0 : Int32)] := c15
  have K15 : Keep h0 h15 [] := K12.wr W15 (Or.inr sz7)
  refine own_step st15 ?_
  clear K12 K9 N12 N9 W12 W15 X12 X9 c10 c12 c13 c15 e12 e9 st12 st15
  show own_G p.tables e below _ (T15.setTop (mkF m 69 #[.val (.int p1), .val (.int p2), .val (.int p3), .val (.int p4), .val (.int xx), .val (.int dv0), .val (.int dv1), .val (.int dv2), .val (.int dv3), .val (.int dv4), .unset, .unset, .unset, .unset, .unset, .unset, .unset, .unset, .unset, .unset] [(.ref b7)]))
  refine own_step (fun t k => XS.dup X15.here hx rfl (hb hby at_69) rfl rfl k) ?_
  show own_G p.tables e below _ (T15.setTop (mkF m 70 #[.val (.int p1), .val (.int p2), .val (.int p3), .val (.int p4), .val (.int xx), .val (.int dv0), .val (.int dv1), .val (.int dv2), .val (.int dv3), .val (.int dv4), .unset, .unset, .unset, .unset, .unset, .unset, .unset, .unset, .unset, .unset] [(.ref b7), (.ref b7)]))
  refine own_step (fun t k => XS.iconst X15.here hx rfl (hb hby at_70) k) ?_
  show own_G p.tables e below _ (T15.setTop (mkF m 71 #[.val (.int p1), .val (.int p2), .val (.int p3), .val (.int p4), .val (.int xx), .val (.int dv0), .val (.int dv1), .val (.int dv2), .val (.int dv3), .val (.int dv4), .unset, .unset, .unset, .unset, .unset, .unset, .unset, .unset, .unset, .unset] [(.int (3 : Int32)), (.ref b7), (.ref b7)]))
  refine own_step (fun t k => XS.iload X15.here hx rfl (hb hby at_71) rfl k) ?_
  show own_G p.tables e below _ (T15.setTop (mkF m 73 #[.val (.int p1), .val (.int p2), .val (.int p3), .val (.int p4), .val (.int xx), .val (.int dv0), .val (.int dv1), .val (.int dv2), .val (.int dv3), .val (.int dv4), .unset, .unset, .unset, .unset, .unset, .unset, .unset, .unset, .unset, .unset] [(.int dv3), (.int (3 : Int32)), (.ref b7), (.ref b7)]))
  obtain ⟨T18, h18, X18, e18, W18, c18, st18⟩ := own_iastore X15 hx hZ e15 c16 (own_inb (by decide) (Nat.le_of_ble_eq_true rfl)) (g := (mkF m 73 #[.val (.int p1), .val (.int p2), .val (.int p3), .val (.int p4), .val (.int xx), .val (.int dv0), .val (.int dv1), .val (.int dv2), .val (.int dv3), .val (.int dv4), .unset, .unset, .unset, .unset, .unset, .unset, .unset, .unset, .unset, .unset] [(.int dv3), (.int (3 : Int32)), (.ref b7), (.ref b7)])) rfl rfl (hb hby at_73)
  have N18 := Fr.snoc X18 N15 ge7
  have c19 : own_Ari Z h18 b7 .int [dv0, dv1, dv2, dv3, (0 : Int32)] := c18
  have K18 : Keep h0 h18 [] := K15.wr W18 (Or.inr sz7)
  refine own_step st18 ?_
  show own_G p.tables e below _ (T18.setTop (mkF m 74 #[.val (.int p1), .val (.int p2), .val (.int p3), .val (.int p4), .val (.int xx), .val (.int dv0), .val (.int dv1), .val (.int dv2), .val (.int dv3), .val (.int dv4), .unset, .unset, .unset, .unset, .unset, .unset, .unset, .unset, .unset, .unset] [(.ref b7)]))
  refine own_step (fun t k => XS.dup X18.here hx rfl (hb hby at_74) rfl rfl k) ?_
  show own_G p.tables e below _ (T18.setTop (mkF m 75 #[.val (.int p1), .val (.int p2), .val (.int p3), .val (.int p4), .val (.int xx), .val (.int dv0), .val (.int dv1), .val (.int dv2), .val (.int dv3), .val (.int dv4), .unset, .unset, .unset, .unset, .unset, .unset, .unset, .unset, .unset, .unset] [(.ref b7), (.ref b7)]))
  refine own_step (fun t k => XS.iconst X18.here hx rfl (hb hby at_75) k) ?_
  show own_G p.tables e below _ (T18.setTop (mkF m 76 #[.val (.int p1), .val (.int p2), .val (.int p3), .val (.int p4), .val (.int xx), .val (.int dv0), .val (.int dv1), .val (.int dv2), .val (.int dv3), .val (.int dv4), .unset, .unset, .unset, .unset, .unset, .unset, .unset, .unset, .unset, .unset] [(.int (4 : Int32)), (.ref b7), (.ref b7)]))
  refine own_step (fun t k => XS.iload X18.here hx rfl (hb hby at_76) rfl k) ?_
  show own_G p.tables e below _ (T18.setTop (mkF m 78 #[.val (.int p1), .val (.int p2), .val (.int p3), .val (.int p4), .val (.int xx), .val (.int dv0), .val (.int dv1), .val (.int dv2), .val (.int dv3), .val (.int dv4), .unset, .unset, .unset, .unset, .unset, .unset, .unset, .unset, .unset, .unset] [(.int dv4), (.int (4 : Int32)), (.ref b7), (.ref b7)]))
  obtain ⟨T21, h21, X21, e21, W21, c21, st21⟩ := own_iastore X18 hx hZ e18 c19 (own_inb (by decide) (Nat.le_of_ble_eq_true rfl)) (g := (mkF m 78 #[.val (.int p1), .val (.int p2), .val (.int p3), .val (.int p4), .val (.int xx), .val (.int dv0), .val (.int dv1), .val (.int dv2), .val (.int dv3), .val (.int dv4), .unset, .unset, .unset, .unset, .unset, .unset, .unset, .unset, .unset, .unset] [(.int dv4), (.int (4 : Int32)), (.ref b7), (.ref b7)])) rfl rfl (hb hby at_78)
  have N21 := Fr.snoc X21 N18 ge7
  have c22 : own_Ari Z h21 b7 .int [dv0, dv1, dv2, dv3, dv4] := c21
  have K21 : Keep h0 h21 [] := K18.wr W21 (Or.inr sz7)
  refine own_step st21 ?_
  clear K15 K18 N15 N18 W18 W21 X15 X18 c16 c18 c19 c21 e15 e18 st18 st21
  show own_G p.tables e below _ (T21.setTop (mkF m 79 #[.val (.int p1), .val (.int p2), .val (.int p3), .val (.int p4), .val (.int xx), .val (.int dv0), .val (.int dv1), .val (.int dv2), .val (.int dv3), .val (.int dv4), .unset, .unset, .unset, .unset, .unset, .unset, .unset, .unset, .unset, .unset] [(.ref b7)]))
  refine own_step (fun t k => XS.astore X21.here hx rfl (hb hby at_79) rfl rfl (l' := #[.val (.int p1), .val (.int p2), .val (.int p3), .val (.int p4), .val (.int xx), .val (.int dv0), .val (.int dv1), .val (.int dv2), .val (.int dv3), .val (.int dv4), .val (.ref b7), .unset, .unset, .unset, .unset, .unset, .unset, .unset, .unset, .unset]) rfl k) ?_
  show own_G p.tables e below _ (T21.setTop (mkF m 81 #[.val (.int p1), .val (.int p2), .val (.int p3), .val (.int p4), .val (.int xx), .val (.int dv0), .val (.int dv1), .val (.int dv2), .val (.int dv3), .val (.int dv4), .val (.ref b7), .unset, .unset, .unset, .unset, .unset, .unset, .unset, .unset, .unset] []))
  refine own_step (fun t k => XS.iconst X21.here hx rfl (hb hby at_81) k) ?_
  show own_G p.tables e below _ (T21.setTop (mkF m 82 #[.val (.int p1), .val (.int p2), .val (.int p3), .val (.int p4), .val (.int xx), .val (.int dv0), .val (.int dv1), .val (.int dv2), .val (.int dv3), .val (.int dv4), .val (.ref b7), .unset, .unset, .unset, .unset, .unset, .unset, .unset, .unset, .unset] [(.int (1 : Int32))]))
  refine own_step (fun t k => XS.iloadN X21.here hx rfl (hb hby at_82) rfl k) ?_
  show own_G p.tables e below _ (T21.setTop (mkF m 83 #[.val (.int p1), .val (.int p2), .val (.int p3), .val (.int p4), .val (.int xx), .val (.int dv0), .val (.int dv1), .val (.int dv2), .val (.int dv3), .val (.int dv4), .val (.ref b7), .unset, .unset, .unset, .unset, .unset, .unset, .unset, .unset, .unset] [(.int p2), (.int (1 : Int32))]))
  refine own_step (X21.ldcInt hx hown (mvT hZ (hw _ (List.mem_of_getElem? (i := 0) rfl))) (g := (mkF m 83 #[.val (.int p1), .val (.int p2), .val (.int p3), .val (.int p4), .val (.int xx), .val (.int dv0), .val (.int dv1), .val (.int dv2), .val (.int dv3), .val (.int dv4), .val (.ref b7), .unset, .unset, .unset, .unset, .unset, .unset, .unset, .unset, .unset] [(.int p2), (.int (1 : Int32))])) rfl (hb hby at_83)) ?_
  show own_G p.tables e below _ (T21.setTop (mkF m 85 #[.val (.int p1), .val (.int p2), .val (.int p3), .val (.int p4), .val (.int xx), .val (.int dv0), .val (.int dv1), .val (.int dv2), .val (.int dv3), .val (.int dv4), .val (.ref b7), .unset, .unset, .unset, .unset, .unset, .unset, .unset, .unset, .unset] [(.int (2147483647 : Int32)), (.int p2), (.int (1 : Int32))]))
  refine own_step (fun t k => XS.iand X21.here hx rfl (hb hby at_85) rfl k) ?_
  show own_G p.tables e below _ (T21.setTop (mkF m 86 #[.val (.int p1), .val (.int p2), .val (.int p3), .val (.int p4), .val (.int xx), .val (.int dv0), .val (.int dv1), .val (.int dv2), .val (.int dv3), .val (.int dv4), .val (.ref b7), .unset, .unset, .unset, .unset, .unset, .unset, .unset, .unset, .unset] [(.int (p2 &&& (2147483647 : Int32))), (.int (1 : Int32))]))
  obtain ⟨_, _, ⟨T24, L24, k24, n24⟩, -, X24, ⟨Lc24, hQ24, l24, y24, z24⟩, st24⟩ := Jvm.LawKit.callS X21 hx (y := (⟨"java/lang/Math", "max", "(II)I"⟩ : MethodName)) hown (mvT hZ (hw _ (List.mem_of_getElem? (i := 2) rfl))) (mvT hZ (hw _ (List.mem_of_getElem? (i := 3) rfl))) (mvT hZ (hw _ (List.mem_of_getElem? (i := 4) rfl))) (mvT hZ (hw _ (List.mem_of_getElem? (i := 5) rfl))) (by decide) (backOf (W := 0) (rm1 l Z a0 hw [] (1 : Int32) (p2 &&& (2147483647 : Int32)) h21 n0 (Nat.le_trans Z0 K21.1) ) hZ (hw _ (List.mem_of_getElem? (i := 5) rfl)) (hw _ (List.mem_of_getElem? (i := 4) rfl)) (by decide) (by decide)) (g := (mkF m 86 #[.val (.int p1), .val (.int p2), .val (.int p3), .val (.int p4), .val (.int xx), .val (.int dv0), .val (.int dv1), .val (.int dv2), .val (.int dv3), .val (.int dv4), .val (.ref b7), .unset, .unset, .unset, .unset, .unset, .unset, .unset, .unset, .unset] [(.int (p2 &&& (2147483647 : Int32))), (.int (1 : Int32))])) rfl (by rw [hml]; rfl) (argsL := [(.int (1 : Int32)), (.int (p2 &&& (2147483647 : Int32)))]) (rest := []) (lenOf pd_0_0 rfl) rfl (by show 2 * 0 + _ ≤ _; exact Nat.le_of_eq rfl) (hb hby at_86) (fun _ _ => ⟨rfl, e21, (by decide : 1 + 0 ≤ _), (by decide : 5 + 0 ≤ _)⟩)
  dsimp only [Pt.U, Pt.locs, Pt.cells, Pt.slots] at X24 l24 y24 z24 st24 hQ24
  subst y24 z24
  obtain ⟨rfl, N24q, e24⟩ := hQ24
  have N24 : Fr n0 L24 := by rw [l24]; exact Fr.app N21 N24q
  refine own_step st24 ?_
  show own_G p.tables e below _ (T24.setTop (mkF m 89 #[.val (.int p1), .val (.int p2), .val (.int p3), .val (.int p4), .val (.int xx), .val (.int dv0), .val (.int dv1), .val (.int dv2), .val (.int dv3), .val (.int dv4), .val (.ref b7), .unset, .unset, .unset, .unset, .unset, .unset, .unset, .unset, .unset] [(.int (own_f1 (1 : Int32) (p2 &&& (2147483647 : Int32))))]))
  refine own_nm ((own_f1 (1 : Int32) (p2 &&& (2147483647 : Int32))) : Int32) (fun zv0 => T24.setTop (mkF m 89 #[.val (.int p1), .val (.int p2), .val (.int p3), .val (.int p4), .val (.int xx), .val (.int dv0), .val (.int dv1), .val (.int dv2), .val (.int dv3), .val (.int dv4), .val (.ref b7), .unset, .unset, .unset, .unset, .unset, .unset, .unset, .unset, .unset] [(.int zv0)])) ?_
  intro zv0 hd_zv0
  show own_G p.tables e below _ (T24.setTop (mkF m 89 #[.val (.int p1), .val (.int p2), .val (.int p3), .val (.int p4), .val (.int xx), .val (.int dv0), .val (.int dv1), .val (.int dv2), .val (.int dv3), .val (.int dv4), .val (.ref b7), .unset, .unset, .unset, .unset, .unset, .unset, .unset, .unset, .unset] [(.int zv0)]))
  refine own_step (fun t k => XS.istore X24.here hx rfl (hb hby at_89) rfl (l' := #[.val (.int p1), .val (.int p2), .val (.int p3), .val (.int p4), .val (.int xx), .val (.int dv0), .val (.int dv1), .val (.int dv2), .val (.int dv3), .val (.int dv4), .val (.ref b7), .val (.int zv0), .unset, .unset, .unset, .unset, .unset, .unset, .unset, .unset]) rfl k) ?_
  show own_G p.tables e below _ (T24.setTop (mkF m 91 #[.val (.int p1), .val (.int p2), .val (.int p3), .val (.int p4), .val (.int xx), .val (.int dv0), .val (.int dv1), .val (.int dv2), .val (.int dv3), .val (.int dv4), .val (.ref b7), .val (.int zv0), .unset, .unset, .unset, .unset, .unset, .unset, .unset, .unset] []))
  refine own_step (fun t k => XS.iconst X24.here hx rfl (hb hby at_91) k) ?_
  show own_G p.tables e below _ (T24.setTop (mkF m 92 #[.val (.int p1), .val (.int p2), .val (.int p3), .val (.int p4), .val (.int xx), .val (.int dv0), .val (.int dv1), .val (.int dv2), .val (.int dv3), .val (.int dv4), .val (.ref b7), .val (.int zv0), .unset, .unset, .unset, .unset, .unset, .unset, .unset, .unset] [(.int (1 : Int32))]))
  refine own_step (fun t k => XS.iloadN X24.here hx rfl (hb hby at_92) rfl k) ?_
  show own_G p.tables e below _ (T24.setTop (mkF m 93 #[.val (.int p1), .val (.int p2), .val (.int p3), .val (.int p4), .val (.int xx), .val (.int dv0), .val (.int dv1), .val (.int dv2), .val (.int dv3), .val (.int dv4), .val (.ref b7), .val (.int zv0), .unset, .unset, .unset, .unset, .unset, .unset, .unset, .unset] [(.int p3), (.int (1 : Int32))]))
  refine own_step (X24.ldcInt hx hown (mvT hZ (hw _ (List.mem_of_getElem? (i := 0) rfl))) (g := (mkF m 93 #[.val (.int p1), .val (.int p2), .val (.int p3), .val (.int p4), .val (.int xx), .val (.int dv0), .val (.int dv1), .val (.int dv2), .val (.int dv3), .val (.int dv4), .val (.ref b7), .val (.int zv0), .unset, .unset, .unset, .unset, .unset, .unset, .unset, .unset] [(.int p3), (.int (1 : Int32))])) rfl (hb hby at_93)) ?_
  show own_G p.tables e below _ (T24.setTop (mkF m 95 #[.val (.int p1), .val (.int p2), .val (.int p3), .val (.int p4), .val (.int xx), .val (.int dv0), .val (.int dv1), .val (.int dv2), .val (.int dv3), .val (.int dv4), .val (.ref b7), .val (.int zv0), .unset, .unset, .unset, .unset, .unset, .unset, .unset, .unset] [(.int (2147483647 : Int32)), (.int p3), (.int (1 : Int32))]))
  refine own_step (fun t k => XS.iand X24.here hx rfl (hb hby at_95) rfl k) ?_
  show own_G p.tables e below _ (T24.setTop (mkF m 96 #[.val (.int p1), .val (.int p2), .val (.int p3), .val (.int p4), .val (.int xx), .val (.int dv0), .val (.int dv1), .val (.int dv2), .val (.int dv3), .val (.int dv4), .val (.ref b7), .val (.int zv0), .unset, .unset, .unset, .unset, .unset, .unset, .unset, .unset] [(.int (p3 &&& (2147483647 : Int32))), (.int (1 : Int32))]))
  obtain ⟨_, _, ⟨T26, L26, k26, n26⟩, -, X26, ⟨Lc26, hQ26, l26, y26, z26⟩, st26⟩ := Jvm.LawKit.callS X24 hx (y := (⟨"java/lang/Math", "max", "(II)I"⟩ : MethodName)) hown (mvT hZ (hw _ (List.mem_of_getElem? (i := 2) rfl))) (mvT hZ (hw _ (List.mem_of_getElem? (i := 3) rfl))) (mvT hZ (hw _ (List.mem_of_getElem? (i := 4) rfl))) (mvT hZ (hw _ (List.mem_of_getElem? (i := 5) rfl))) (by decide) (backOf (W := 0) (rm1 l Z a0 hw [] (1 : Int32) (p3 &&& (2147483647 : Int32)) h21 n0 (Nat.le_trans Z0 K21.1) ) hZ (hw _ (List.mem_of_getElem? (i := 5) rfl)) (hw _ (List.mem_of_getElem? (i := 4) rfl)) (by decide) (by decide)) (g := (mkF m 96 #[.val (.int p1), .val (.int p2), .val (.int p3), .val (.int p4), .val (.int xx), .val (.int dv0), .val (.int dv1), .val (.int dv2), .val (.int dv3), .val (.int dv4), .val (.ref b7), .val (.int zv0), .unset, .unset, .unset, .unset, .unset, .unset, .unset, .unset] [(.int (p3 &&& (2147483647 : Int32))), (.int (1 : Int32))])) rfl (by rw [hml]; rfl) (argsL := [(.int (1 : Int32)), (.int (p3 &&& (2147483647 : Int32)))]) (rest := []) (lenOf pd_0_0 rfl) rfl (by show 2 * 0 + _ ≤ _; exact Nat.le_of_eq rfl) (hb hby at_96) (fun _ _ => ⟨rfl, e24, (by decide : 1 + 0 ≤ _), (by decide : 5 + 0 ≤ _)⟩)
  dsimp only [Pt.U, Pt.locs, Pt.cells, Pt.slots] at X26 l26 y26 z26 st26 hQ26
  subst y26 z26
  obtain ⟨rfl, N26q, e26⟩ := hQ26
  have N26 : Fr n0 L26 := by rw [l26]; exact Fr.app N24 N26q
  refine own_step st26 ?_
  clear N21 N24 N24q N26q X21 X24 e21 e24 st24 st26
  show own_G p.tables e below _ (T26.setTop (mkF m 99 #[.val (.int p1), .val (.int p2), .val (.int p3), .val (.int p4), .val (.int xx), .val (.int dv0), .val (.int dv1), .val (.int dv2), .val (.int dv3), .val (.int dv4), .val (.ref b7), .val (.int zv0), .unset, .unset, .unset, .unset, .unset, .unset, .unset, .unset] [(.int (own_f1 (1 : Int32) (p3 &&& (2147483647 : Int32))))]))
  refine own_nm ((own_f1 (1 : Int32) (p3 &&& (2147483647 : Int32))) : Int32) (fun zv1 => T26.setTop (mkF m 99 #[.val (.int p1), .val (.int p2), .val (.int p3), .val (.int p4), .val (.int xx), .val (.int dv0), .val (.int dv1), .val (.int dv2), .val (.int dv3), .val (.int dv4), .val (.ref b7), .val (.int zv0), .unset, .unset, .unset, .unset, .unset, .unset, .unset, .unset] [(.int zv1)])) ?_
  intro zv1 hd_zv1
  show own_G p.tables e below _ (T26.setTop (mkF m 99 #[.val (.int p1), .val (.int p2), .val (.int p3), .val (.int p4), .val (.int xx), .val (.int dv0), .val (.int dv1), .val (.int dv2), .val (.int dv3), .val (.int dv4), .val (.ref b7), .val (.int zv0), .unset, .unset, .unset, .unset, .unset, .unset, .unset, .unset] [(.int zv1)]))
  refine own_step (fun t k => XS.istore X26.here hx rfl (hb hby at_99) rfl (l' := #[.val (.int p1), .val (.int p2), .val (.int p3), .val (.int p4), .val (.int xx), .val (.int dv0), .val (.int dv1), .val (.int dv2), .val (.int dv3), .val (.int dv4), .val (.ref b7), .val (.int zv0), .val (.int zv1), .unset, .unset, .unset, .unset, .unset, .unset, .unset]) rfl k) ?_
  show own_G p.tables e below _ (T26.setTop (mkF m 101 #[.val (.int p1), .val (.int p2), .val (.int p3), .val (.int p4), .val (.int xx), .val (.int dv0), .val (.int dv1), .val (.int dv2), .val (.int dv3), .val (.int dv4), .val (.ref b7), .val (.int zv0), .val (.int zv1), .unset, .unset, .unset, .unset, .unset, .unset, .unset] []))
  refine own_step (fun t k => XS.iconst X26.here hx rfl (hb hby at_101) k) ?_
  show own_G p.tables e below _ (T26.setTop (mkF m 102 #[.val (.int p1), .val (.int p2), .val (.int p3), .val (.int p4), .val (.int xx), .val (.int dv0), .val (.int dv1), .val (.int dv2), .val (.int dv3), .val (.int dv4), .val (.ref b7), .val (.int zv0), .val (.int zv1), .unset, .unset, .unset, .unset, .unset, .unset, .unset] [(.int (1 : Int32))]))
  refine own_step (fun t k => XS.iloadN X26.here hx rfl (hb hby at_102) rfl k) ?_
  show own_G p.tables e below _ (T26.setTop (mkF m 103 #[.val (.int p1), .val (.int p2), .val (.int p3), .val (.int p4), .val (.int xx), .val (.int dv0), .val (.int dv1), .val (.int dv2), .val (.int dv3), .val (.int dv4), .val (.ref b7), .val (.int zv0), .val (.int zv1), .unset, .unset, .unset, .unset, .unset, .unset, .unset] [(.int p4), (.int (1 : Int32))]))
  refine own_step (X26.ldcInt hx hown (mvT hZ (hw _ (List.mem_of_getElem? (i := 0) rfl))) (g := (mkF m 103 #[.val (.int p1), .val (.int p2), .val (.int p3), .val (.int p4), .val (.int xx), .val (.int dv0), .val (.int dv1), .val (.int dv2), .val (.int dv3), .val (.int dv4), .val (.ref b7), .val (.int zv0), .val (.int zv1), .unset, .unset, .unset, .unset, .unset, .unset, .unset] [(.int p4), (.int (1 : Int32))])) rfl (hb hby at_103)) ?_
  show own_G p.tables e below _ (T26.setTop (mkF m 105 #[.val (.int p1), .val (.int p2), .val (.int p3), .val (.int p4), .val (.int xx), .val (.int dv0), .val (.int dv1), .val (.int dv2), .val (.int dv3), .val (.int dv4), .val (.ref b7), .val (.int zv0), .val (.int zv1), .unset, .unset, .unset, .unset, .unset, .unset, .unset] [(.int (2147483647 : Int32)), (.int p4), (.int (1 : Int32))]))
  refine own_step (fun t k => XS.iand X26.here hx rfl (hb hby at_105) rfl k) ?_
  show own_G p.tables e below _ (T26.setTop (mkF m 106 #[.val (.int p1), .val (.int p2), .val (.int p3), .val (.int p4), .val (.int xx), .val (.int dv0), .val (.int dv1), .val (.int dv2), .val (.int dv3), .val (.int dv4), .val (.ref b7), .val (.int zv0), .val (.int zv1), .unset, .unset, .unset, .unset, .unset, .unset, .unset] [(.int (p4 &&& (2147483647 : Int32))), (.int (1 : Int32))]))
  obtain ⟨_, _, ⟨T28, L28, k28, n28⟩, -, X28, ⟨Lc28, hQ28, l28, y28, z28⟩, st28⟩ := Jvm.LawKit.callS X26 hx (y := (⟨"java/lang/Math", "max", "(II)I"⟩ : MethodName)) hown (mvT hZ (hw _ (List.mem_of_getElem? (i := 2) rfl))) (mvT hZ (hw _ (List.mem_of_getElem? (i := 3) rfl))) (mvT hZ (hw _ (List.mem_of_getElem? (i := 4) rfl))) (mvT hZ (hw _ (List.mem_of_getElem? (i := 5) rfl))) (by decide) (backOf (W := 0) (rm1 l Z a0 hw [] (1 : Int32) (p4 &&& (2147483647 : Int32)) h21 n0 (Nat.le_trans Z0 K21.1) ) hZ (hw _ (List.mem_of_getElem? (i := 5) rfl)) (hw _ (List.mem_of_getElem? (i := 4) rfl)) (by decide) (by decide)) (g := (mkF m 106 #[.val (.int p1), .val (.int p2), .val (.int p3), .val (.int p4), .val (.int xx), .val (.int dv0), .val (.int dv1), .val (.int dv2), .val (.int dv3), .val (.int dv4), .val (.ref b7), .val (.int zv0), .val (.int zv1), .unset, .unset, .unset, .unset, .unset, .unset, .unset] [(.int (p4 &&& (2147483647 : Int32))), (.int (1 : Int32))])) rfl (by rw [hml]; rfl) (argsL := [(.int (1 : Int32)), (.int (p4 &&& (2147483647 : Int32)))]) (rest := []) (lenOf pd_0_0 rfl) rfl (by show 2 * 0 + _ ≤ _; exact Nat.le_of_eq rfl) (hb hby at_106) (fun _ _ => ⟨rfl, e26, (by decide : 1 + 0 ≤ _), (by decide : 5 + 0 ≤ _)⟩)
  dsimp only [Pt.U, Pt.locs, Pt.cells, Pt.slots] at X28 l28 y28 z28 st28 hQ28
  subst y28 z28
  obtain ⟨rfl, N28q, e28⟩ := hQ28
  have N28 : Fr n0 L28 := by rw [l28]; exact Fr.app N26 N28q
  refine own_step st28 ?_
  show own_G p.tables e below _ (T28.setTop (mkF m 109 #[.val (.int p1), .val (.int p2), .val (.int p3), .val (.int p4), .val (.int xx), .val (.int dv0), .val (.int dv1), .val (.int dv2), .val (.int dv3), .val (.int dv4), .val (.ref b7), .val (.int zv0), .val (.int zv1), .unset, .unset, .unset, .unset, .unset, .unset, .unset] [(.int (own_f1 (1 : Int32) (p4 &&& (2147483647 : Int32))))]))
  refine own_nm ((own_f1 (1 : Int32) (p4 &&& (2147483647 : Int32))) : Int32) (fun zv2 => T28.setTop (mkF m 109 #[.val (.int p1), .val (.int p2), .val (.int p3), .val (.int p4), .val (.int xx), .val (.int dv0), .val (.int dv1), .val (.int dv2), .val (.int dv3), .val (.int dv4), .val (.ref b7), .val (.int zv0), .val (.int zv1), .unset, .unset, .unset, .unset, .unset, .unset, .unset] [(.int zv2)])) ?_
  intro zv2 hd_zv2
  show own_G p.tables e below _ (T28.setTop (mkF m 109 #[.val (.int p1), .val (.int p2), .val (.int p3), .val (.int p4), .val (.int xx), .val (.int dv0), .val (.int dv1), .val (.int dv2), .val (.int dv3), .val (.int dv4), .val (.ref b7), .val (.int zv0), .val (.int zv1), .unset, .unset, .unset, .unset, .unset, .unset, .unset] [(.int zv2)]))
  refine own_step (fun t k => XS.istore X28.here hx rfl (hb hby at_109) rfl (l' := #[.val (.int p1), .val (.int p2), .val (.int p3), .val (.int p4), .val (.int xx), .val (.int dv0), .val (.int dv1), .val (.int dv2), .val (.int dv3), .val (.int dv4), .val (.ref b7), .val (.int zv0), .val (.int zv1), .val (.int zv2), .unset, .unset, .unset, .unset, .unset, .unset]) rfl k) ?_
  show own_G p.tables e below _ (T28.setTop (mkF m 111 #[.val (.int p1), .val (.int p2), .val (.int p3), .val (.int p4), .val (.int xx), .val (.int dv0), .val (.int dv1), .val (.int dv2), .val (.int dv3), .val (.int dv4), .val (.ref b7), .val (.int zv0), .val (.int zv1), .val (.int zv2), .unset, .unset, .unset, .unset, .unset, .unset] []))
  have hz0 : 1 ≤ zv0.toInt := by rw [hd_zv0]; exact own_max1 _
  have hz1 : 1 ≤ zv1.toInt := by rw [hd_zv1]; exact own_max1 _
  have hz2 : 1 ≤ zv2.toInt := by rw [hd_zv2]; exact own_max1 _
  refine own_step (fun t k => XS.iconst X28.here hx rfl (hb hby at_111) k) ?_
  show own_G p.tables e below _ (T28.setTop (mkF m 112 #[.val (.int p1), .val (.int p2), .val (.int p3), .val (.int p4), .val (.int xx), .val (.int dv0), .val (.int dv1), .val (.int dv2), .val (.int dv3), .val (.int dv4), .val (.ref b7), .val (.int zv0), .val (.int zv1), .val (.int zv2), .unset, .unset, .unset, .unset, .unset, .unset] [(.int (3 : Int32))]))
  obtain ⟨T30, h30, k30, X30, e30, E30, A30, st30⟩ := newP X28 hx hZ (hw _ (List.mem_of_getElem? (i := 1) rfl)) e28 (g := (mkF m 112 #[.val (.int p1), .val (.int p2), .val (.int p3), .val (.int p4), .val (.int xx), .val (.int dv0), .val (.int dv1), .val (.int dv2), .val (.int dv3), .val (.int dv4), .val (.ref b7), .val (.int zv0), .val (.int zv1), .val (.int zv2), .unset, .unset, .unset, .unset, .unset, .unset] [(.int (3 : Int32))])) rfl (hb hby at_112) rfl (by decide) (cap := 3) (by decide) (by decide) (by decide) (by decide)
  obtain ⟨b30, g30⟩ : ∃ z, z = h21.size := ⟨_, rfl⟩
  have ne31 : b7 ≠ b30 := Nat.ne_of_lt (Nat.lt_of_lt_of_le c22.lt (Nat.le_of_eq g30.symm))
  have sz30 : h0.size ≤ b30 := Nat.le_trans K21.1 (Nat.le_of_eq g30.symm)
  have ge30 : n0 ≤ b30 := Nat.le_trans Z0 sz30
  have c32 : own_Ari Z h30 b7 .int [dv0, dv1, dv2, dv3, dv4] := c22.ext E30
  have K30 : Keep h0 h30 [] := K21.ext E30
  rw [← g30] at A30 st30
  have c33 : own_Ari Z h30 b30 .int [(0 : Int32), (0 : Int32), (0 : Int32)] := own_Ari_new (ty := .int) A30 (by decide) rfl
  refine own_step st30 ?_
  clear A30 E30 K21 N26 N28q X26 X28 c22 e26 e28 g30 st28 st30
  show own_G p.tables e below _ (T30.setTop (mkF m 114 #[.val (.int p1), .val (.int p2), .val (.int p3), .val (.int p4), .val (.int xx), .val (.int dv0), .val (.int dv1), .val (.int dv2), .val (.int dv3), .val (.int dv4), .val (.ref b7), .val (.int zv0), .val (.int zv1), .val (.int zv2), .unset, .unset, .unset, .unset, .unset, .unset] [(.ref b30)]))
  refine own_step (fun t k => XS.dup X30.here hx rfl (hb hby at_114) rfl rfl k) ?_
  show own_G p.tables e below _ (T30.setTop (mkF m 115 #[.val (.int p1), .val (.int p2), .val (.int p3), .val (.int p4), .val (.int xx), .val (.int dv0), .val (.int dv1), .val (.int dv2), .val (.int dv3), .val (.int dv4), .val (.ref b7), .val (.int zv0), .val (.int zv1), .val (.int zv2), .unset, .unset, .unset, .unset, .unset, .unset] [(.ref b30), (.ref b30)]))
  refine own_step (fun t k => XS.iconst X30.here hx rfl (hb hby at_115) k) ?_
  show own_G p.tables e below _ (T30.setTop (mkF m 116 #[.val (.int p1), .val (.int p2), .val (.int p3), .val (.int p4), .val (.int xx), .val (.int dv0), .val (.int dv1), .val (.int dv2), .val (.int dv3), .val (.int dv4), .val (.ref b7), .val (.int zv0), .val (.int zv1), .val (.int zv2), .unset, .unset, .unset, .unset, .unset, .unset] [(.int (0 : Int32)), (.ref b30), (.ref b30)]))
  refine own_step (fun t k => XS.iload X30.here hx rfl (hb hby at_116) rfl k) ?_
  show own_G p.tables e below _ (T30.setTop (mkF m 118 #[.val (.int p1), .val (.int p2), .val (.int p3), .val (.int p4), .val (.int xx), .val (.int dv0), .val (.int dv1), .val (.int dv2), .val (.int dv3), .val (.int dv4), .val (.ref b7), .val (.int zv0), .val (.int zv1), .val (.int zv2), .unset, .unset, .unset, .unset, .unset, .unset] [(.int zv0), (.int (0 : Int32)), (.ref b30), (.ref b30)]))
  obtain ⟨T34, h34, X34, e34, W34, c34, st34⟩ := own_iastore X30 hx hZ e30 c33 (own_inb (by decide) (Nat.le_of_ble_eq_true rfl)) (g := (mkF m 118 #[.val (.int p1), .val (.int p2), .val (.int p3), .val (.int p4), .val (.int xx), .val (.int dv0), .val (.int dv1), .val (.int dv2), .val (.int dv3), .val (.int dv4), .val (.ref b7), .val (.int zv0), .val (.int zv1), .val (.int zv2), .unset, .unset, .unset, .unset, .unset, .unset] [(.int zv0), (.int (0 : Int32)), (.ref b30), (.ref b30)])) rfl rfl (hb hby at_118)
  have N34 := Fr.snoc X34 N28 ge30
  have c35 : own_Ari Z h34 b30 .int [zv0, (0 : Int32), (0 : Int32)] := c34
  have c36 : own_Ari Z h34 b7 .int [dv0, dv1, dv2, dv3, dv4] := c32.other W34 ne31
  have K34 : Keep h0 h34 [] := K30.wr W34 (Or.inr sz30)
  refine own_step st34 ?_
  show own_G p.tables e below _ (T34.setTop (mkF m 119 #[.val (.int p1), .val (.int p2), .val (.int p3), .val (.int p4), .val (.int xx), .val (.int dv0), .val (.int dv1), .val (.int dv2), .val (.int dv3), .val (.int dv4), .val (.ref b7), .val (.int zv0), .val (.int zv1), .val (.int zv2), .unset, .unset, .unset, .unset, .unset, .unset] [(.ref b30)]))
  refine own_step (fun t k => XS.dup X34.here hx rfl (hb hby at_119) rfl rfl k) ?_
  show own_G p.tables e below _ (T34.setTop (mkF m 120 #[.val (.int p1), .val (.int p2), .val (.int p3), .val (.int p4), .val (.int xx), .val (.int dv0), .val (.int dv1), .val (.int dv2), .val (.int dv3), .val (.int dv4), .val (.ref b7), .val (.int zv0), .val (.int zv1), .val (.int zv2), .unset, .unset, .unset, .unset, .unset, .unset] [(.ref b30), (.ref b30)]))
  refine own_step (fun t k => XS.iconst X34.here hx rfl (hb hby at_120) k) ?_
  show own_G p.tables e below _ (T34.setTop (mkF m 121 #[.val (.int p1), .val (.int p2), .val (.int p3), .val (.int p4), .val (.int xx), .val (.int dv0), .val (.int dv1), .val (.int dv2), .val (.int dv3), .val (.int dv4), .val (.ref b7), .val (.int zv0), .val (.int zv1), .val (.int zv2), .unset, .unset, .unset, .unset, .unset, .unset] [(.int (1 : Int32)), (.ref b30), (.ref b30)]))
  refine own_step (fun t k => XS.iload X34.here hx rfl (hb hby at_121) rfl k) ?_
  show own_G p.tables e below _ (T34.setTop (mkF m 123 #[.val (.int p1), .val (.int p2), .val (.int p3), .val (.int p4), .val (.int xx), .val (.int dv0), .val (.int dv1), .val (.int dv2), .val (.int dv3), .val (.int dv4), .val (.ref b7), .val (.int zv0), .val (.int zv1), .val (.int zv2), .unset, .unset, .unset, .unset, .unset, .unset] [(.int zv1), (.int (1 : Int32)), (.ref b30), (.ref b30)]))
  obtain ⟨T38, h38, X38, e38, W38, c38, st38⟩ := own_iastore X34 hx hZ e34 c35 (own_inb (by decide) (Nat.le_of_ble_eq_true rfl)) (g := (mkF m 123 #[.val (.int p1), .val (.int p2), .val (.int p3), .val (.int p4), .val (.int xx), .val (.int dv0), .val (.int dv1), .val (.int dv2), .val (.int dv3), .val (.int dv4), .val (.ref b7), .val (.int zv0), .val (.int zv1), .val (.int zv2), .unset, .unset, .unset, .unset, .unset, .unset] [(.int zv1), (.int (1 : Int32)), (.ref b30), (.ref b30)])) rfl rfl (hb hby at_123)
  have N38 := Fr.snoc X38 N34 ge30
  have c39 : own_Ari Z h38 b30 .int [zv0, zv1, (0 : Int32)] := c38
  have c40 : own_Ari Z h38 b7 .int [dv0, dv1, dv2, dv3, dv4] := c36.other W38 ne31
  have K38 : Keep h0 h38 [] := K34.wr W38 (Or.inr sz30)
  refine own_step st38 ?_
  clear K30 K34 N28 N34 W34 W38 X30 X34 c32 c33 c34 c35 c36 c38 e30 e34 st34 st38
  show own_G p.tables e below _ (T38.setTop (mkF m 124 #[.val (.int p1), .val (.int p2), .val (.int p3), .val (.int p4), .val (.int xx), .val (.int dv0), .val (.int dv1), .val (.int dv2), .val (.int dv3), .val (.int dv4), .val (.ref b7), .val (.int zv0), .val (.int zv1), .val (.int zv2), .unset, .unset, .unset, .unset, .unset, .unset] [(.ref b30)]))
  refine own_step (fun t k => XS.dup X38.here hx rfl (hb hby at_124) rfl rfl k) ?_
  show own_G p.tables e below _ (T38.setTop (mkF m 125 #[.val (.int p1), .val (.int p2), .val (.int p3), .val (.int p4), .val (.int xx), .val (.int dv0), .val (.int dv1), .val (.int dv2), .val (.int dv3), .val (.int dv4), .val (.ref b7), .val (.int zv0), .val (.int zv1), .val (.int zv2), .unset, .unset, .unset, .unset, .unset, .unset] [(.ref b30), (.ref b30)]))
  refine own_step (fun t k => XS.iconst X38.here hx rfl (hb hby at_125) k) ?_
  show own_G p.tables e below _ (T38.setTop (mkF m 126 #[.val (.int p1), .val (.int p2), .val (.int p3), .val (.int p4), .val (.int xx), .val (.int dv0), .val (.int dv1), .val (.int dv2), .val (.int dv3), .val (.int dv4), .val (.ref b7), .val (.int zv0), .val (.int zv1), .val (.int zv2), .unset, .unset, .unset, .unset, .unset, .unset] [(.int (2 : Int32)), (.ref b30), (.ref b30)]))
  refine own_step (fun t k => XS.iload X38.here hx rfl (hb hby at_126) rfl k) ?_
  show own_G p.tables e below _ (T38.setTop (mkF m 128 #[.val (.int p1), .val (.int p2), .val (.int p3), .val (.int p4), .val (.int xx), .val (.int dv0), .val (.int dv1), .val (.int dv2), .val (.int dv3), .val (.int dv4), .val (.ref b7), .val (.int zv0), .val (.int zv1), .val (.int zv2), .unset, .unset, .unset, .unset, .unset, .unset] [(.int zv2), (.int (2 : Int32)), (.ref b30), (.ref b30)]))
  obtain ⟨T42, h42, X42, e42, W42, c42, st42⟩ := own_iastore X38 hx hZ e38 c39 (own_inb (by decide) (Nat.le_of_ble_eq_true rfl)) (g := (mkF m 128 #[.val (.int p1), .val (.int p2), .val (.int p3), .val (.int p4), .val (.int xx), .val (.int dv0), .val (.int dv1), .val (.int dv2), .val (.int dv3), .val (.int dv4), .val (.ref b7), .val (.int zv0), .val (.int zv1), .val (.int zv2), .unset, .unset, .unset, .unset, .unset, .unset] [(.int zv2), (.int (2 : Int32)), (.ref b30), (.ref b30)])) rfl rfl (hb hby at_128)
  have N42 := Fr.snoc X42 N38 ge30
  have c43 : own_Ari Z h42 b30 .int [zv0, zv1, zv2] := c42
  have c44 : own_Ari Z h42 b7 .int [dv0, dv1, dv2, dv3, dv4] := c40.other W42 ne31
  have K42 : Keep h0 h42 [] := K38.wr W42 (Or.inr sz30)
  refine own_step st42 ?_
  show own_G p.tables e below _ (T42.setTop (mkF m 129 #[.val (.int p1), .val (.int p2), .val (.int p3), .val (.int p4), .val (.int xx), .val (.int dv0), .val (.int dv1), .val (.int dv2), .val (.int dv3), .val (.int dv4), .val (.ref b7), .val (.int zv0), .val (.int zv1), .val (.int zv2), .unset, .unset, .unset, .unset, .unset, .unset] [(.ref b30)]))
  refine own_step (fun t k => XS.astore X42.here hx rfl (hb hby at_129) rfl rfl (l' := #[.val (.int p1), .val (.int p2), .val (.int p3), .val (.int p4), .val (.int xx), .val (.int dv0), .val (.int dv1), .val (.int dv2), .val (.int dv3), .val (.int dv4), .val (.ref b7), .val (.int zv0), .val (.int zv1), .val (.int zv2), .val (.ref b30), .unset, .unset, .unset, .unset, .unset]) rfl k) ?_
  show own_G p.tables e below _ (T42.setTop (mkF m 131 #[.val (.int p1), .val (.int p2), .val (.int p3), .val (.int p4), .val (.int xx), .val (.int dv0), .val (.int dv1), .val (.int dv2), .val (.int dv3), .val (.int dv4), .val (.ref b7), .val (.int zv0), .val (.int zv1), .val (.int zv2), .val (.ref b30), .unset, .unset, .unset, .unset, .unset] []))
  refine own_step (fun t k => XS.aload X42.here hx rfl (hb hby at_131) rfl rfl k) ?_
  show own_G p.tables e below _ (T42.setTop (mkF m 133 #[.val (.int p1), .val (.int p2), .val (.int p3), .val (.int p4), .val (.int xx), .val (.int dv0), .val (.int dv1), .val (.int dv2), .val (.int dv3), .val (.int dv4), .val (.ref b7), .val (.int zv0), .val (.int zv1), .val (.int zv2), .val (.ref b30), .unset, .unset, .unset, .unset, .unset] [(.ref b7)]))
  refine own_step (fun t k => XS.aload X42.here hx rfl (hb hby at_133) rfl rfl k) ?_
  show own_G p.tables e below _ (T42.setTop (mkF m 135 #[.val (.int p1), .val (.int p2), .val (.int p3), .val (.int p4), .val (.int xx), .val (.int dv0), .val (.int dv1), .val (.int dv2), .val (.int dv3), .val (.int dv4), .val (.ref b7), .val (.int zv0), .val (.int zv1), .val (.int zv2), .val (.ref b30), .unset, .unset, .unset, .unset, .unset] [(.ref b30), (.ref b7)]))
  obtain ⟨_, _, ⟨T46, L46, k46, n46⟩, -, X46, ⟨Lc46, hQ46, l46, y46, z46⟩, st46⟩ := Jvm.LawKit.callS X42 hx (y := (⟨"com/example/stevedore/stevedore/MoveGraph", "copies", "([I[I)[I"⟩ : MethodName)) hown (mvT hZ (hw _ (List.mem_of_getElem? (i := 6) rfl))) (mvT hZ (hw _ (List.mem_of_getElem? (i := 7) rfl))) (mvT hZ (hw _ (List.mem_of_getElem? (i := 8) rfl))) (mvT hZ (hw _ (List.mem_of_getElem? (i := 9) rfl))) (by decide) (backOf (W := 0) (rm2 l Z a0 hw [] b7 b30 dv0 dv1 dv2 dv3 dv4 zv0 zv1 zv2 h42 n0 (Nat.le_trans Z0 K42.1) c44 c43 (hx0 : own_3 dv0) (hx1 : own_3 dv1) (hx2 : own_3 dv2) (hx3 : own_3 dv3) (hx4 : own_3 dv4) (own_nz1 hz0 : zv0 ≠ 0) (own_nz1 hz1 : zv1 ≠ 0) (own_nz1 hz2 : zv2 ≠ 0)) hZ (hw _ (List.mem_of_getElem? (i := 9) rfl)) (hw _ (List.mem_of_getElem? (i := 8) rfl)) (by decide) (by decide)) (g := (mkF m 135 #[.val (.int p1), .val (.int p2), .val (.int p3), .val (.int p4), .val (.int xx), .val (.int dv0), .val (.int dv1), .val (.int dv2), .val (.int dv3), .val (.int dv4), .val (.ref b7), .val (.int zv0), .val (.int zv1), .val (.int zv2), .val (.ref b30), .unset, .unset, .unset, .unset, .unset] [(.ref b30), (.ref b7)])) rfl (by rw [hml]; rfl) (argsL := [(.ref b7), (.ref b30)]) (rest := []) (lenOf pd_0_1 rfl) rfl (by show 2 * 0 + _ ≤ _; exact Nat.le_of_eq rfl) (hb hby at_135) (fun _ _ => ⟨rfl, e42, (by decide : 2 + 4 ≤ _), (by decide : 8 + 14 ≤ _)⟩)
  dsimp only [Pt.U, Pt.locs, Pt.cells, Pt.slots] at X46 l46 y46 z46 st46 hQ46
  subst y46 z46
  obtain ⟨bx46_rb, rfl, N46q, K46q, w46_0, sx46_0⟩ := hQ46
  have c47 : own_Ari Z T46.heap b7 .int [dv0, dv1, dv2, dv3, dv4] := c44.keep K46q nin0
  have c48 : own_Ari Z T46.heap b30 .int [zv0, zv1, zv2] := c43.keep K46q nin0
  have sz46_0 : h0.size ≤ bx46_rb := Nat.le_trans K42.1 sx46_0
  have ge46_0 : n0 ≤ bx46_rb := Nat.le_trans Z0 sz46_0
  have ne49 : b7 ≠ bx46_rb := Nat.ne_of_lt (Nat.lt_of_lt_of_le c44.lt sx46_0)
  have ne50 : b30 ≠ bx46_rb := Nat.ne_of_lt (Nat.lt_of_lt_of_le c43.lt sx46_0)
  have K46 : Keep h0 T46.heap [] := K42.trans K46q all0
  have N46 : Fr n0 L46 := by rw [l46]; exact Fr.app N42 N46q
  refine own_step st46 ?_
  clear K38 K42 K46q N38 N42 N46q W42 X38 X42 c39 c40 c42 c43 c44 e38 e42 st42 st46 sx46_0
  show own_G p.tables e below _ (T46.setTop (mkF m 138 #[.val (.int p1), .val (.int p2), .val (.int p3), .val (.int p4), .val (.int xx), .val (.int dv0), .val (.int dv1), .val (.int dv2), .val (.int dv3), .val (.int dv4), .val (.ref b7), .val (.int zv0), .val (.int zv1), .val (.int zv2), .val (.ref b30), .unset, .unset, .unset, .unset, .unset] [(.ref bx46_rb)]))
  refine own_step (fun t k => XS.astore X46.here hx rfl (hb hby at_138) rfl rfl (l' := #[.val (.int p1), .val (.int p2), .val (.int p3), .val (.int p4), .val (.int xx), .val (.int dv0), .val (.int dv1), .val (.int dv2), .val (.int dv3), .val (.int dv4), .val (.ref b7), .val (.int zv0), .val (.int zv1), .val (.int zv2), .val (.ref b30), .val (.ref bx46_rb), .unset, .unset, .unset, .unset]) rfl k) ?_
  show own_G p.tables e below _ (T46.setTop (mkF m 140 #[.val (.int p1), .val (.int p2), .val (.int p3), .val (.int p4), .val (.int xx), .val (.int dv0), .val (.int dv1), .val (.int dv2), .val (.int dv3), .val (.int dv4), .val (.ref b7), .val (.int zv0), .val (.int zv1), .val (.int zv2), .val (.ref b30), .val (.ref bx46_rb), .unset, .unset, .unset, .unset] []))
  refine own_step (fun t k => XS.aload X46.here hx rfl (hb hby at_140) rfl rfl k) ?_
  show own_G p.tables e below _ (T46.setTop (mkF m 142 #[.val (.int p1), .val (.int p2), .val (.int p3), .val (.int p4), .val (.int xx), .val (.int dv0), .val (.int dv1), .val (.int dv2), .val (.int dv3), .val (.int dv4), .val (.ref b7), .val (.int zv0), .val (.int zv1), .val (.int zv2), .val (.ref b30), .val (.ref bx46_rb), .unset, .unset, .unset, .unset] [(.ref bx46_rb)]))
  refine own_step (own_lenI X46 hx hZ rfl w46_0 (g := (mkF m 142 #[.val (.int p1), .val (.int p2), .val (.int p3), .val (.int p4), .val (.int xx), .val (.int dv0), .val (.int dv1), .val (.int dv2), .val (.int dv3), .val (.int dv4), .val (.ref b7), .val (.int zv0), .val (.int zv1), .val (.int zv2), .val (.ref b30), .val (.ref bx46_rb), .unset, .unset, .unset, .unset] [(.ref bx46_rb)])) rfl rfl (hb hby at_142)) ?_
  show own_G p.tables e below _ (T46.setTop (mkF m 143 #[.val (.int p1), .val (.int p2), .val (.int p3), .val (.int p4), .val (.int xx), .val (.int dv0), .val (.int dv1), .val (.int dv2), .val (.int dv3), .val (.int dv4), .val (.ref b7), .val (.int zv0), .val (.int zv1), .val (.int zv2), .val (.ref b30), .val (.ref bx46_rb), .unset, .unset, .unset, .unset] [(.int (5 : Int32))]))
  refine own_step (fun t k => XS.iconst X46.here hx rfl (hb hby at_143) k) ?_
  show own_G p.tables e below _ (T46.setTop (mkF m 144 #[.val (.int p1), .val (.int p2), .val (.int p3), .val (.int p4), .val (.int xx), .val (.int dv0), .val (.int dv1), .val (.int dv2), .val (.int dv3), .val (.int dv4), .val (.ref b7), .val (.int zv0), .val (.int zv1), .val (.int zv2), .val (.ref b30), .val (.ref bx46_rb), .unset, .unset, .unset, .unset] [(.int (5 : Int32)), (.int (5 : Int32))]))
  have hk51 : (5 : Int32) = (5 : Int32) := rfl
  refine own_step (fun t k => XS.icmpYes X46.here hx rfl (pc0 := 144) (pc' := 149) rfl (hb hby at_144) rfl ((teq hk51).1) (by decide) (by decide) k) ?_
  show own_G p.tables e below _ (T46.setTop (mkF m 149 #[.val (.int p1), .val (.int p2), .val (.int p3), .val (.int p4), .val (.int xx), .val (.int dv0), .val (.int dv1), .val (.int dv2), .val (.int dv3), .val (.int dv4), .val (.ref b7), .val (.int zv0), .val (.int zv1), .val (.int zv2), .val (.ref b30), .val (.ref bx46_rb), .unset, .unset, .unset, .unset] []))
  refine own_step (fun t k => XS.iconst X46.here hx rfl (hb hby at_149) k) ?_
  show own_G p.tables e below _ (T46.setTop (mkF m 150 #[.val (.int p1), .val (.int p2), .val (.int p3), .val (.int p4), .val (.int xx), .val (.int dv0), .val (.int dv1), .val (.int dv2), .val (.int dv3), .val (.int dv4), .val (.ref b7), .val (.int zv0), .val (.int zv1), .val (.int zv2), .val (.ref b30), .val (.ref bx46_rb), .unset, .unset, .unset, .unset] [(.int (3 : Int32))]))
  obtain ⟨T52, h52, k52, X52, e52, E52, A52, st52⟩ := newP X46 hx hZ (hw _ (List.mem_of_getElem? (i := 1) rfl)) rfl (g := (mkF m 150 #[.val (.int p1), .val (.int p2), .val (.int p3), .val (.int p4), .val (.int xx), .val (.int dv0), .val (.int dv1), .val (.int dv2), .val (.int dv3), .val (.int dv4), .val (.ref b7), .val (.int zv0), .val (.int zv1), .val (.int zv2), .val (.ref b30), .val (.ref bx46_rb), .unset, .unset, .unset, .unset] [(.int (3 : Int32))])) rfl (hb hby at_150) rfl (by decide) (cap := 3) (by decide) (by decide) (by decide) (by decide)
  obtain ⟨b52, g52⟩ : ∃ z, z = T46.heap.size := ⟨_, rfl⟩
  have ne53 : b7 ≠ b52 := Nat.ne_of_lt (Nat.lt_of_lt_of_le c47.lt (Nat.le_of_eq g52.symm))
  have ne54 : b30 ≠ b52 := Nat.ne_of_lt (Nat.lt_of_lt_of_le c48.lt (Nat.le_of_eq g52.symm))
  have ne55 : bx46_rb ≠ b52 := Nat.ne_of_lt (Nat.lt_of_lt_of_le w46_0.lt (Nat.le_of_eq g52.symm))
  have sz52 : h0.size ≤ b52 := Nat.le_trans K46.1 (Nat.le_of_eq g52.symm)
  have ge52 : n0 ≤ b52 := Nat.le_trans Z0 sz52
  have c56 : own_Ari Z h52 b7 .int [dv0, dv1, dv2, dv3, dv4] := c47.ext E52
  have c57 : own_Ari Z h52 b30 .int [zv0, zv1, zv2] := c48.ext E52
  have c58 : own_Ari Z h52 bx46_rb .int [(([(0 : Int32), (own_blk ((own_cs dv0 dv1 dv2 dv3 dv4).getD 0 0) zv0 (0 : Int32)), (own_blk ((own_cs dv0 dv1 dv2 dv3 dv4).getD 1 0) zv1 (own_blk ((own_cs dv0 dv1 dv2 dv3 dv4).getD 0 0) zv0 (0 : Int32)))].getD dv0.toNatClampNeg 0) + (([(0 : Int32), (0 : Int32), (0 : Int32)].getD dv0.toNatClampNeg 0) / ([zv0, zv1, zv2].getD dv0.toNatClampNeg 0))), (([(0 : Int32), (own_blk ((own_cs dv0 dv1 dv2 dv3 dv4).getD 0 0) zv0 (0 : Int32)), (own_blk ((own_cs dv0 dv1 dv2 dv3 dv4).getD 1 0) zv1 (own_blk ((own_cs dv0 dv1 dv2 dv3 dv4).getD 0 0) zv0 (0 : Int32)))].getD dv1.toNatClampNeg 0) + (((own_inc [(0 : Int32), (0 : Int32), (0 : Int32)] dv0).getD dv1.toNatClampNeg 0) / ([zv0, zv1, zv2].getD dv1.toNatClampNeg 0))), (([(0 : Int32), (own_blk ((own_cs dv0 dv1 dv2 dv3 dv4).getD 0 0) zv0 (0 : Int32)), (own_blk ((own_cs dv0 dv1 dv2 dv3 dv4).getD 1 0) zv1 (own_blk ((own_cs dv0 dv1 dv2 dv3 dv4).getD 0 0) zv0 (0 : Int32)))].getD dv2.toNatClampNeg 0) + (((own_inc (own_inc [(0 : Int32), (0 : Int32), (0 : Int32)] dv0) dv1).getD dv2.toNatClampNeg 0) / ([zv0, zv1, zv2].getD dv2.toNatClampNeg 0))), (([(0 : Int32), (own_blk ((own_cs dv0 dv1 dv2 dv3 dv4).getD 0 0) zv0 (0 : Int32)), (own_blk ((own_cs dv0 dv1 dv2 dv3 dv4).getD 1 0) zv1 (own_blk ((own_cs dv0 dv1 dv2 dv3 dv4).getD 0 0) zv0 (0 : Int32)))].getD dv3.toNatClampNeg 0) + (((own_inc (own_inc (own_inc [(0 : Int32), (0 : Int32), (0 : Int32)] dv0) dv1) dv2).getD dv3.toNatClampNeg 0) / ([zv0, zv1, zv2].getD dv3.toNatClampNeg 0))), (([(0 : Int32), (own_blk ((own_cs dv0 dv1 dv2 dv3 dv4).getD 0 0) zv0 (0 : Int32)), (own_blk ((own_cs dv0 dv1 dv2 dv3 dv4).getD 1 0) zv1 (own_blk ((own_cs dv0 dv1 dv2 dv3 dv4).getD 0 0) zv0 (0 : Int32)))].getD dv4.toNatClampNeg 0) + (((own_inc (own_inc (own_inc (own_inc [(0 : Int32), (0 : Int32), (0 : Int32)] dv0) dv1) dv2) dv3).getD dv4.toNatClampNeg 0) / ([zv0, zv1, zv2].getD dv4.toNatClampNeg 0)))] := w46_0.ext E52
  have K52 : Keep h0 h52 [] := K46.ext E52
  rw [← g52] at A52 st52
  have c59 : own_Ari Z h52 b52 .int [(0 : Int32), (0 : Int32), (0 : Int32)] := own_Ari_new (ty := .int) A52 (by decide) rfl
  refine own_step st52 ?_
  clear A52 E52 K46 X46 c47 c48 g52 hk51 st52 w46_0
  show own_G p.tables e below _ (T52.setTop (mkF m 152 #[.val (.int p1), .val (.int p2), .val (.int p3), .val (.int p4), .val (.int xx), .val (.int dv0), .val (.int dv1), .val (.int dv2), .val (.int dv3), .val (.int dv4), .val (.ref b7), .val (.int zv0), .val (.int zv1), .val (.int zv2), .val (.ref b30), .val (.ref bx46_rb), .unset, .unset, .unset, .unset] [(.ref b52)]))
  refine own_step (fun t k => XS.dup X52.here hx rfl (hb hby at_152) rfl rfl k) ?_
  show own_G p.tables e below _ (T52.setTop (mkF m 153 #[.val (.int p1), .val (.int p2), .val (.int p3), .val (.int p4), .val (.int xx), .val (.int dv0), .val (.int dv1), .val (.int dv2), .val (.int dv3), .val (.int dv4), .val (.ref b7), .val (.int zv0), .val (.int zv1), .val (.int zv2), .val (.ref b30), .val (.ref bx46_rb), .unset, .unset, .unset, .unset] [(.ref b52), (.ref b52)]))
  refine own_step (fun t k => XS.iconst X52.here hx rfl (hb hby at_153) k) ?_
  show own_G p.tables e below _ (T52.setTop (mkF m 154 #[.val (.int p1), .val (.int p2), .val (.int p3), .val (.int p4), .val (.int xx), .val (.int dv0), .val (.int dv1), .val (.int dv2), .val (.int dv3), .val (.int dv4), .val (.ref b7), .val (.int zv0), .val (.int zv1), .val (.int zv2), .val (.ref b30), .val (.ref bx46_rb), .unset, .unset, .unset, .unset] [(.int (0 : Int32)), (.ref b52), (.ref b52)]))
  refine own_step (fun t k => XS.iload X52.here hx rfl (hb hby at_154) rfl k) ?_
  show own_G p.tables e below _ (T52.setTop (mkF m 156 #[.val (.int p1), .val (.int p2), .val (.int p3), .val (.int p4), .val (.int xx), .val (.int dv0), .val (.int dv1), .val (.int dv2), .val (.int dv3), .val (.int dv4), .val (.ref b7), .val (.int zv0), .val (.int zv1), .val (.int zv2), .val (.ref b30), .val (.ref bx46_rb), .unset, .unset, .unset, .unset] [(.int zv0), (.int (0 : Int32)), (.ref b52), (.ref b52)]))
  obtain ⟨T60, h60, X60, e60, W60, c60, st60⟩ := own_iastore X52 hx hZ e52 c59 (own_inb (by decide) (Nat.le_of_ble_eq_true rfl)) (g := (mkF m 156 #[.val (.int p1), .val (.int p2), .val (.int p3), .val (.int p4), .val (.int xx), .val (.int dv0), .val (.int dv1), .val (.int dv2), .val (.int dv3), .val (.int dv4), .val (.ref b7), .val (.int zv0), .val (.int zv1), .val (.int zv2), .val (.ref b30), .val (.ref bx46_rb), .unset, .unset, .unset, .unset] [(.int zv0), (.int (0 : Int32)), (.ref b52), (.ref b52)])) rfl rfl (hb hby at_156)
  have N60 := Fr.snoc X60 N46 ge52
  have c61 : own_Ari Z h60 b52 .int [zv0, (0 : Int32), (0 : Int32)] := c60
  have c62 : own_Ari Z h60 b7 .int [dv0, dv1, dv2, dv3, dv4] := c56.other W60 ne53
  have c63 : own_Ari Z h60 b30 .int [zv0, zv1, zv2] := c57.other W60 ne54
  have c64 : own_Ari Z h60 bx46_rb .int [(([(0 : Int32), (own_blk ((own_cs dv0 dv1 dv2 dv3 dv4).getD 0 0) zv0 (0 : Int32)), (own_blk ((own_cs dv0 dv1 dv2 dv3 dv4).getD 1 0) zv1 (own_blk ((own_cs dv0 dv1 dv2 dv3 dv4).getD 0 0) zv0 (0 : Int32)))].getD dv0.toNatClampNeg 0) + (([(0 : Int32), (0 : Int32), (0 : Int32)].getD dv0.toNatClampNeg 0) / ([zv0, zv1, zv2].getD dv0.toNatClampNeg 0))), (([(0 : Int32), (own_blk ((own_cs dv0 dv1 dv2 dv3 dv4).getD 0 0) zv0 (0 : Int32)), (own_blk ((own_cs dv0 dv1 dv2 dv3 dv4).getD 1 0) zv1 (own_blk ((own_cs dv0 dv1 dv2 dv3 dv4).getD 0 0) zv0 (0 : Int32)))].getD dv1.toNatClampNeg 0) + (((own_inc [(0 : Int32), (0 : Int32), (0 : Int32)] dv0).getD dv1.toNatClampNeg 0) / ([zv0, zv1, zv2].getD dv1.toNatClampNeg 0))), (([(0 : Int32), (own_blk ((own_cs dv0 dv1 dv2 dv3 dv4).getD 0 0) zv0 (0 : Int32)), (own_blk ((own_cs dv0 dv1 dv2 dv3 dv4).getD 1 0) zv1 (own_blk ((own_cs dv0 dv1 dv2 dv3 dv4).getD 0 0) zv0 (0 : Int32)))].getD dv2.toNatClampNeg 0) + (((own_inc (own_inc [(0 : Int32), (0 : Int32), (0 : Int32)] dv0) dv1).getD dv2.toNatClampNeg 0) / ([zv0, zv1, zv2].getD dv2.toNatClampNeg 0))), (([(0 : Int32), (own_blk ((own_cs dv0 dv1 dv2 dv3 dv4).getD 0 0) zv0 (0 : Int32)), (own_blk ((own_cs dv0 dv1 dv2 dv3 dv4).getD 1 0) zv1 (own_blk ((own_cs dv0 dv1 dv2 dv3 dv4).getD 0 0) zv0 (0 : Int32)))].getD dv3.toNatClampNeg 0) + (((own_inc (own_inc (own_inc [(0 : Int32), (0 : Int32), (0 : Int32)] dv0) dv1) dv2).getD dv3.toNatClampNeg 0) / ([zv0, zv1, zv2].getD dv3.toNatClampNeg 0))), (([(0 : Int32), (own_blk ((own_cs dv0 dv1 dv2 dv3 dv4).getD 0 0) zv0 (0 : Int32)), (own_blk ((own_cs dv0 dv1 dv2 dv3 dv4).getD 1 0) zv1 (own_blk ((own_cs dv0 dv1 dv2 dv3 dv4).getD 0 0) zv0 (0 : Int32)))].getD dv4.toNatClampNeg 0) + (((own_inc (own_inc (own_inc (own_inc [(0 : Int32), (0 : Int32), (0 : Int32)] dv0) dv1) dv2) dv3).getD dv4.toNatClampNeg 0) / ([zv0, zv1, zv2].getD dv4.toNatClampNeg 0)))] := c58.other W60 ne55
  have K60 : Keep h0 h60 [] := K52.wr W60 (Or.inr sz52)
  refine own_step st60 ?_
  clear K52 N46 W60 X52 c56 c57 c58 c59 c60 e52 st60
  show own_G p.tables e below _ (T60.setTop (mkF m 157 #[.val (.int p1), .val (.int p2), .val (.int p3), .val (.int p4), .val (.int xx), .val (.int dv0), .val (.int dv1), .val (.int dv2), .val (.int dv3), .val (.int dv4), .val (.ref b7), .val (.int zv0), .val (.int zv1), .val (.int zv2), .val (.ref b30), .val (.ref bx46_rb), .unset, .unset, .unset, .unset] [(.ref b52)]))
  refine own_step (fun t k => XS.dup X60.here hx rfl (hb hby at_157) rfl rfl k) ?_
  show own_G p.tables e below _ (T60.setTop (mkF m 158 #[.val (.int p1), .val (.int p2), .val (.int p3), .val (.int p4), .val (.int xx), .val (.int dv0), .val (.int dv1), .val (.int dv2), .val (.int dv3), .val (.int dv4), .val (.ref b7), .val (.int zv0), .val (.int zv1), .val (.int zv2), .val (.ref b30), .val (.ref bx46_rb), .unset, .unset, .unset, .unset] [(.ref b52), (.ref b52)]))
  refine own_step (fun t k => XS.iconst X60.here hx rfl (hb hby at_158) k) ?_
  show own_G p.tables e below _ (T60.setTop (mkF m 159 #[.val (.int p1), .val (.int p2), .val (.int p3), .val (.int p4), .val (.int xx), .val (.int dv0), .val (.int dv1), .val (.int dv2), .val (.int dv3), .val (.int dv4), .val (.ref b7), .val (.int zv0), .val (.int zv1), .val (.int zv2), .val (.ref b30), .val (.ref bx46_rb), .unset, .unset, .unset, .unset] [(.int (1 : Int32)), (.ref b52), (.ref b52)]))
  refine own_step (fun t k => XS.iload X60.here hx rfl (hb hby at_159) rfl k) ?_
  show own_G p.tables e below _ (T60.setTop (mkF m 161 #[.val (.int p1), .val (.int p2), .val (.int p3), .val (.int p4), .val (.int xx), .val (.int dv0), .val (.int dv1), .val (.int dv2), .val (.int dv3), .val (.int dv4), .val (.ref b7), .val (.int zv0), .val (.int zv1), .val (.int zv2), .val (.ref b30), .val (.ref bx46_rb), .unset, .unset, .unset, .unset] [(.int zv1), (.int (1 : Int32)), (.ref b52), (.ref b52)]))
  obtain ⟨T66, h66, X66, e66, W66, c66, st66⟩ := own_iastore X60 hx hZ e60 c61 (own_inb (by decide) (Nat.le_of_ble_eq_true rfl)) (g := (mkF m 161 #[.val (.int p1), .val (.int p2), .val (.int p3), .val (.int p4), .val (.int xx), .val (.int dv0), .val (.int dv1), .val (.int dv2), .val (.int dv3), .val (.int dv4), .val (.ref b7), .val (.int zv0), .val (.int zv1), .val (.int zv2), .val (.ref b30), .val (.ref bx46_rb), .unset, .unset, .unset, .unset] [(.int zv1), (.int (1 : Int32)), (.ref b52), (.ref b52)])) rfl rfl (hb hby at_161)
  have N66 := Fr.snoc X66 N60 ge52
  have c67 : own_Ari Z h66 b52 .int [zv0, zv1, (0 : Int32)] := c66
  have c68 : own_Ari Z h66 b7 .int [dv0, dv1, dv2, dv3, dv4] := c62.other W66 ne53
  have c69 : own_Ari Z h66 b30 .int [zv0, zv1, zv2] := c63.other W66 ne54
  have c70 : own_Ari Z h66 bx46_rb .int [(([(0 : Int32), (own_blk ((own_cs dv0 dv1 dv2 dv3 dv4).getD 0 0) zv0 (0 : Int32)), (own_blk ((own_cs dv0 dv1 dv2 dv3 dv4).getD 1 0) zv1 (own_blk ((own_cs dv0 dv1 dv2 dv3 dv4).getD 0 0) zv0 (0 : Int32)))].getD dv0.toNatClampNeg 0) + (([(0 : Int32), (0 : Int32), (0 : Int32)].getD dv0.toNatClampNeg 0) / ([zv0, zv1, zv2].getD dv0.toNatClampNeg 0))), (([(0 : Int32), (own_blk ((own_cs dv0 dv1 dv2 dv3 dv4).getD 0 0) zv0 (0 : Int32)), (own_blk ((own_cs dv0 dv1 dv2 dv3 dv4).getD 1 0) zv1 (own_blk ((own_cs dv0 dv1 dv2 dv3 dv4).getD 0 0) zv0 (0 : Int32)))].getD dv1.toNatClampNeg 0) + (((own_inc [(0 : Int32), (0 : Int32), (0 : Int32)] dv0).getD dv1.toNatClampNeg 0) / ([zv0, zv1, zv2].getD dv1.toNatClampNeg 0))), (([(0 : Int32), (own_blk ((own_cs dv0 dv1 dv2 dv3 dv4).getD 0 0) zv0 (0 : Int32)), (own_blk ((own_cs dv0 dv1 dv2 dv3 dv4).getD 1 0) zv1 (own_blk ((own_cs dv0 dv1 dv2 dv3 dv4).getD 0 0) zv0 (0 : Int32)))].getD dv2.toNatClampNeg 0) + (((own_inc (own_inc [(0 : Int32), (0 : Int32), (0 : Int32)] dv0) dv1).getD dv2.toNatClampNeg 0) / ([zv0, zv1, zv2].getD dv2.toNatClampNeg 0))), (([(0 : Int32), (own_blk ((own_cs dv0 dv1 dv2 dv3 dv4).getD 0 0) zv0 (0 : Int32)), (own_blk ((own_cs dv0 dv1 dv2 dv3 dv4).getD 1 0) zv1 (own_blk ((own_cs dv0 dv1 dv2 dv3 dv4).getD 0 0) zv0 (0 : Int32)))].getD dv3.toNatClampNeg 0) + (((own_inc (own_inc (own_inc [(0 : Int32), (0 : Int32), (0 : Int32)] dv0) dv1) dv2).getD dv3.toNatClampNeg 0) / ([zv0, zv1, zv2].getD dv3.toNatClampNeg 0))), (([(0 : Int32), (own_blk ((own_cs dv0 dv1 dv2 dv3 dv4).getD 0 0) zv0 (0 : Int32)), (own_blk ((own_cs dv0 dv1 dv2 dv3 dv4).getD 1 0) zv1 (own_blk ((own_cs dv0 dv1 dv2 dv3 dv4).getD 0 0) zv0 (0 : Int32)))].getD dv4.toNatClampNeg 0) + (((own_inc (own_inc (own_inc (own_inc [(0 : Int32), (0 : Int32), (0 : Int32)] dv0) dv1) dv2) dv3).getD dv4.toNatClampNeg 0) / ([zv0, zv1, zv2].getD dv4.toNatClampNeg 0)))] := c64.other W66 ne55
  have K66 : Keep h0 h66 [] := K60.wr W66 (Or.inr sz52)
  refine own_step st66 ?_
  clear K60 N60 W66 X60 c61 c62 c63 c64 c66 e60 st66
  show own_G p.tables e below _ (T66.setTop (mkF m 162 #[.val (.int p1), .val (.int p2), .val (.int p3), .val (.int p4), .val (.int xx), .val (.int dv0), .val (.int dv1), .val (.int dv2), .val (.int dv3), .val (.int dv4), .val (.ref b7), .val (.int zv0), .val (.int zv1), .val (.int zv2), .val (.ref b30), .val (.ref bx46_rb), .unset, .unset, .unset, .unset] [(.ref b52)]))
  refine own_step (fun t k => XS.dup X66.here hx rfl (hb hby at_162) rfl rfl k) ?_
  show own_G p.tables e below _ (T66.setTop (mkF m 163 #[.val (.int p1), .val (.int p2), .val (.int p3), .val (.int p4), .val (.int xx), .val (.int dv0), .val (.int dv1), .val (.int dv2), .val (.int dv3), .val (.int dv4), .val (.ref b7), .val (.int zv0), .val (.int zv1), .val (.int zv2), .val (.ref b30), .val (.ref bx46_rb), .unset, .unset, .unset, .unset] [(.ref b52), (.ref b52)]))
  refine own_step (fun t k => XS.iconst X66.here hx rfl (hb hby at_163) k) ?_
  show own_G p.tables e below _ (T66.setTop (mkF m 164 #[.val (.int p1), .val (.int p2), .val (.int p3), .val (.int p4), .val (.int xx), .val (.int dv0), .val (.int dv1), .val (.int dv2), .val (.int dv3), .val (.int dv4), .val (.ref b7), .val (.int zv0), .val (.int zv1), .val (.int zv2), .val (.ref b30), .val (.ref bx46_rb), .unset, .unset, .unset, .unset] [(.int (2 : Int32)), (.ref b52), (.ref b52)]))
  refine own_step (fun t k => XS.iload X66.here hx rfl (hb hby at_164) rfl k) ?_
  show own_G p.tables e below _ (T66.setTop (mkF m 166 #[.val (.int p1), .val (.int p2), .val (.int p3), .val (.int p4), .val (.int xx), .val (.int dv0), .val (.int dv1), .val (.int dv2), .val (.int dv3), .val (.int dv4), .val (.ref b7), .val (.int zv0), .val (.int zv1), .val (.int zv2), .val (.ref b30), .val (.ref bx46_rb), .unset, .unset, .unset, .unset] [(.int zv2), (.int (2 : Int32)), (.ref b52), (.ref b52)]))
  obtain ⟨T72, h72, X72, e72, W72, c72, st72⟩ := own_iastore X66 hx hZ e66 c67 (own_inb (by decide) (Nat.le_of_ble_eq_true rfl)) (g := (mkF m 166 #[.val (.int p1), .val (.int p2), .val (.int p3), .val (.int p4), .val (.int xx), .val (.int dv0), .val (.int dv1), .val (.int dv2), .val (.int dv3), .val (.int dv4), .val (.ref b7), .val (.int zv0), .val (.int zv1), .val (.int zv2), .val (.ref b30), .val (.ref bx46_rb), .unset, .unset, .unset, .unset] [(.int zv2), (.int (2 : Int32)), (.ref b52), (.ref b52)])) rfl rfl (hb hby at_166)
  have N72 := Fr.snoc X72 N66 ge52
  have c73 : own_Ari Z h72 b52 .int [zv0, zv1, zv2] := c72
  have c74 : own_Ari Z h72 b7 .int [dv0, dv1, dv2, dv3, dv4] := c68.other W72 ne53
  have c75 : own_Ari Z h72 b30 .int [zv0, zv1, zv2] := c69.other W72 ne54
  have c76 : own_Ari Z h72 bx46_rb .int [(([(0 : Int32), (own_blk ((own_cs dv0 dv1 dv2 dv3 dv4).getD 0 0) zv0 (0 : Int32)), (own_blk ((own_cs dv0 dv1 dv2 dv3 dv4).getD 1 0) zv1 (own_blk ((own_cs dv0 dv1 dv2 dv3 dv4).getD 0 0) zv0 (0 : Int32)))].getD dv0.toNatClampNeg 0) + (([(0 : Int32), (0 : Int32), (0 : Int32)].getD dv0.toNatClampNeg 0) / ([zv0, zv1, zv2].getD dv0.toNatClampNeg 0))), (([(0 : Int32), (own_blk ((own_cs dv0 dv1 dv2 dv3 dv4).getD 0 0) zv0 (0 : Int32)), (own_blk ((own_cs dv0 dv1 dv2 dv3 dv4).getD 1 0) zv1 (own_blk ((own_cs dv0 dv1 dv2 dv3 dv4).getD 0 0) zv0 (0 : Int32)))].getD dv1.toNatClampNeg 0) + (((own_inc [(0 : Int32), (0 : Int32), (0 : Int32)] dv0).getD dv1.toNatClampNeg 0) / ([zv0, zv1, zv2].getD dv1.toNatClampNeg 0))), (([(0 : Int32), (own_blk ((own_cs dv0 dv1 dv2 dv3 dv4).getD 0 0) zv0 (0 : Int32)), (own_blk ((own_cs dv0 dv1 dv2 dv3 dv4).getD 1 0) zv1 (own_blk ((own_cs dv0 dv1 dv2 dv3 dv4).getD 0 0) zv0 (0 : Int32)))].getD dv2.toNatClampNeg 0) + (((own_inc (own_inc [(0 : Int32), (0 : Int32), (0 : Int32)] dv0) dv1).getD dv2.toNatClampNeg 0) / ([zv0, zv1, zv2].getD dv2.toNatClampNeg 0))), (([(0 : Int32), (own_blk ((own_cs dv0 dv1 dv2 dv3 dv4).getD 0 0) zv0 (0 : Int32)), (own_blk ((own_cs dv0 dv1 dv2 dv3 dv4).getD 1 0) zv1 (own_blk ((own_cs dv0 dv1 dv2 dv3 dv4).getD 0 0) zv0 (0 : Int32)))].getD dv3.toNatClampNeg 0) + (((own_inc (own_inc (own_inc [(0 : Int32), (0 : Int32), (0 : Int32)] dv0) dv1) dv2).getD dv3.toNatClampNeg 0) / ([zv0, zv1, zv2].getD dv3.toNatClampNeg 0))), (([(0 : Int32), (own_blk ((own_cs dv0 dv1 dv2 dv3 dv4).getD 0 0) zv0 (0 : Int32)), (own_blk ((own_cs dv0 dv1 dv2 dv3 dv4).getD 1 0) zv1 (own_blk ((own_cs dv0 dv1 dv2 dv3 dv4).getD 0 0) zv0 (0 : Int32)))].getD dv4.toNatClampNeg 0) + (((own_inc (own_inc (own_inc (own_inc [(0 : Int32), (0 : Int32), (0 : Int32)] dv0) dv1) dv2) dv3).getD dv4.toNatClampNeg 0) / ([zv0, zv1, zv2].getD dv4.toNatClampNeg 0)))] := c70.other W72 ne55
  have K72 : Keep h0 h72 [] := K66.wr W72 (Or.inr sz52)
  refine own_step st72 ?_
  clear K66 N66 W72 X66 c67 c68 c69 c70 c72 e66 st72
  show own_G p.tables e below _ (T72.setTop (mkF m 167 #[.val (.int p1), .val (.int p2), .val (.int p3), .val (.int p4), .val (.int xx), .val (.int dv0), .val (.int dv1), .val (.int dv2), .val (.int dv3), .val (.int dv4), .val (.ref b7), .val (.int zv0), .val (.int zv1), .val (.int zv2), .val (.ref b30), .val (.ref bx46_rb), .unset, .unset, .unset, .unset] [(.ref b52)]))
  refine own_step (fun t k => XS.astore X72.here hx rfl (hb hby at_167) rfl rfl (l' := #[.val (.int p1), .val (.int p2), .val (.int p3), .val (.int p4), .val (.int xx), .val (.int dv0), .val (.int dv1), .val (.int dv2), .val (.int dv3), .val (.int dv4), .val (.ref b7), .val (.int zv0), .val (.int zv1), .val (.int zv2), .val (.ref b30), .val (.ref bx46_rb), .val (.ref b52), .unset, .unset, .unset]) rfl k) ?_
  show own_G p.tables e below _ (T72.setTop (mkF m 169 #[.val (.int p1), .val (.int p2), .val (.int p3), .val (.int p4), .val (.int xx), .val (.int dv0), .val (.int dv1), .val (.int dv2), .val (.int dv3), .val (.int dv4), .val (.ref b7), .val (.int zv0), .val (.int zv1), .val (.int zv2), .val (.ref b30), .val (.ref bx46_rb), .val (.ref b52), .unset, .unset, .unset] []))
  refine own_step (fun t k => XS.aload X72.here hx rfl (hb hby at_169) rfl rfl k) ?_
  show own_G p.tables e below _ (T72.setTop (mkF m 171 #[.val (.int p1), .val (.int p2), .val (.int p3), .val (.int p4), .val (.int xx), .val (.int dv0), .val (.int dv1), .val (.int dv2), .val (.int dv3), .val (.int dv4), .val (.ref b7), .val (.int zv0), .val (.int zv1), .val (.int zv2), .val (.ref b30), .val (.ref bx46_rb), .val (.ref b52), .unset, .unset, .unset] [(.ref b7)]))
  refine own_step (fun t k => XS.iconst X72.here hx rfl (hb hby at_171) k) ?_
  show own_G p.tables e below _ (T72.setTop (mkF m 172 #[.val (.int p1), .val (.int p2), .val (.int p3), .val (.int p4), .val (.int xx), .val (.int dv0), .val (.int dv1), .val (.int dv2), .val (.int dv3), .val (.int dv4), .val (.ref b7), .val (.int zv0), .val (.int zv1), .val (.int zv2), .val (.ref b30), .val (.ref bx46_rb), .val (.ref b52), .unset, .unset, .unset] [(.int (5 : Int32)), (.ref b7)]))
  refine own_step (fun t k => XS.iconst X72.here hx rfl (hb hby at_172) k) ?_
  show own_G p.tables e below _ (T72.setTop (mkF m 173 #[.val (.int p1), .val (.int p2), .val (.int p3), .val (.int p4), .val (.int xx), .val (.int dv0), .val (.int dv1), .val (.int dv2), .val (.int dv3), .val (.int dv4), .val (.ref b7), .val (.int zv0), .val (.int zv1), .val (.int zv2), .val (.ref b30), .val (.ref bx46_rb), .val (.ref b52), .unset, .unset, .unset] [(.int (0 : Int32)), (.int (5 : Int32)), (.ref b7)]))
  obtain ⟨_, _, ⟨T78, L78, k78, n78⟩, -, X78, ⟨Lc78, hQ78, l78, y78, z78⟩, st78⟩ := Jvm.LawKit.callS X72 hx (y := (⟨"com/example/stevedore/stevedore/MoveGraphCopiesPinLaw", "before", "([III)I"⟩ : MethodName)) hown (mvT hZ (hw _ (List.mem_of_getElem? (i := 10) rfl))) (mvT hZ (hw _ (List.mem_of_getElem? (i := 11) rfl))) (mvT hZ (hw _ (List.mem_of_getElem? (i := 12) rfl))) (mvT hZ (hw _ (List.mem_of_getElem? (i := 13) rfl))) (by decide) (backOf (W := 0) (rm3_m5 l Z a0 hw [] b7 (0 : Int32) dv0 dv1 dv2 dv3 dv4 h72 n0 (Nat.le_trans Z0 K72.1) c74) hZ (hw _ (List.mem_of_getElem? (i := 13) rfl)) (hw _ (List.mem_of_getElem? (i := 12) rfl)) (by decide) (by decide)) (g := (mkF m 173 #[.val (.int p1), .val (.int p2), .val (.int p3), .val (.int p4), .val (.int xx), .val (.int dv0), .val (.int dv1), .val (.int dv2), .val (.int dv3), .val (.int dv4), .val (.ref b7), .val (.int zv0), .val (.int zv1), .val (.int zv2), .val (.ref b30), .val (.ref bx46_rb), .val (.ref b52), .unset, .unset, .unset] [(.int (0 : Int32)), (.int (5 : Int32)), (.ref b7)])) rfl (by rw [hml]; rfl) (argsL := [(.ref b7), (.int (5 : Int32)), (.int (0 : Int32))]) (rest := []) (lenOf pd_0_2 rfl) rfl (by show 2 * 0 + _ ≤ _; exact Nat.le_of_eq rfl) (hb hby at_173) (fun _ _ => ⟨rfl, e72, (by decide : 7 + 0 ≤ _), (by decide : 25 + 0 ≤ _)⟩)
  dsimp only [Pt.U, Pt.locs, Pt.cells, Pt.slots] at X78 l78 y78 z78 st78 hQ78
  subst y78 z78
  obtain ⟨rfl, N78q, e78⟩ := hQ78
  have N78 : Fr n0 L78 := by rw [l78]; exact Fr.app N72 N78q
  refine own_step st78 ?_
  show own_G p.tables e below _ (T78.setTop (mkF m 176 #[.val (.int p1), .val (.int p2), .val (.int p3), .val (.int p4), .val (.int xx), .val (.int dv0), .val (.int dv1), .val (.int dv2), .val (.int dv3), .val (.int dv4), .val (.ref b7), .val (.int zv0), .val (.int zv1), .val (.int zv2), .val (.ref b30), .val (.ref bx46_rb), .val (.ref b52), .unset, .unset, .unset] [(.int (own_st (own_st (own_st (own_st (own_st (0 : Int32) dv0 (0 : Int32)) dv1 (0 : Int32)) dv2 (0 : Int32)) dv3 (0 : Int32)) dv4 (0 : Int32)))]))
  refine own_step (fun t k => XS.iload X78.here hx rfl (hb hby at_176) rfl k) ?_
  show own_G p.tables e below _ (T78.setTop (mkF m 178 #[.val (.int p1), .val (.int p2), .val (.int p3), .val (.int p4), .val (.int xx), .val (.int dv0), .val (.int dv1), .val (.int dv2), .val (.int dv3), .val (.int dv4), .val (.ref b7), .val (.int zv0), .val (.int zv1), .val (.int zv2), .val (.ref b30), .val (.ref bx46_rb), .val (.ref b52), .unset, .unset, .unset] [(.int zv0), (.int (own_st (own_st (own_st (own_st (own_st (0 : Int32) dv0 (0 : Int32)) dv1 (0 : Int32)) dv2 (0 : Int32)) dv3 (0 : Int32)) dv4 (0 : Int32)))]))
  obtain ⟨_, _, ⟨T79, L79, k79, n79⟩, -, X79, ⟨Lc79, hQ79, l79, y79, z79⟩, st79⟩ := Jvm.LawKit.callS X78 hx (y := (⟨"com/example/stevedore/stevedore/MoveGraphCopiesPinLaw", "blocks", "(II)I"⟩ : MethodName)) hown (mvT hZ (hw _ (List.mem_of_getElem? (i := 14) rfl))) (mvT hZ (hw _ (List.mem_of_getElem? (i := 15) rfl))) (mvT hZ (hw _ (List.mem_of_getElem? (i := 12) rfl))) (mvT hZ (hw _ (List.mem_of_getElem? (i := 16) rfl))) (by decide) (backOf (W := 0) (rm4 l Z a0 hw [] (own_st (own_st (own_st (own_st (own_st (0 : Int32) dv0 (0 : Int32)) dv1 (0 : Int32)) dv2 (0 : Int32)) dv3 (0 : Int32)) dv4 (0 : Int32)) zv0 h72 n0 (Nat.le_trans Z0 K72.1) (own_nz1 hz0 : zv0 ≠ 0)) hZ (hw _ (List.mem_of_getElem? (i := 16) rfl)) (hw _ (List.mem_of_getElem? (i := 12) rfl)) (by decide) (by decide)) (g := (mkF m 178 #[.val (.int p1), .val (.int p2), .val (.int p3), .val (.int p4), .val (.int xx), .val (.int dv0), .val (.int dv1), .val (.int dv2), .val (.int dv3), .val (.int dv4), .val (.ref b7), .val (.int zv0), .val (.int zv1), .val (.int zv2), .val (.ref b30), .val (.ref bx46_rb), .val (.ref b52), .unset, .unset, .unset] [(.int zv0), (.int (own_st (own_st (own_st (own_st (own_st (0 : Int32) dv0 (0 : Int32)) dv1 (0 : Int32)) dv2 (0 : Int32)) dv3 (0 : Int32)) dv4 (0 : Int32)))])) rfl (by rw [hml]; rfl) (argsL := [(.int (own_st (own_st (own_st (own_st (own_st (0 : Int32) dv0 (0 : Int32)) dv1 (0 : Int32)) dv2 (0 : Int32)) dv3 (0 : Int32)) dv4 (0 : Int32))), (.int zv0)]) (rest := []) (lenOf pd_0_0 rfl) rfl (by show 2 * 0 + _ ≤ _; exact Nat.le_of_eq rfl) (hb hby at_178) (fun _ _ => ⟨rfl, e78, (by decide : 7 + 0 ≤ _), (by decide : 25 + 0 ≤ _)⟩)
  dsimp only [Pt.U, Pt.locs, Pt.cells, Pt.slots] at X79 l79 y79 z79 st79 hQ79
  subst y79 z79
  obtain ⟨rfl, N79q, e79⟩ := hQ79
  have N79 : Fr n0 L79 := by rw [l79]; exact Fr.app N78 N79q
  refine own_step st79 ?_
  clear N72 N78 N78q N79q X72 X78 e72 e78 st78 st79
  show own_G p.tables e below _ (T79.setTop (mkF m 181 #[.val (.int p1), .val (.int p2), .val (.int p3), .val (.int p4), .val (.int xx), .val (.int dv0), .val (.int dv1), .val (.int dv2), .val (.int dv3), .val (.int dv4), .val (.ref b7), .val (.int zv0), .val (.int zv1), .val (.int zv2), .val (.ref b30), .val (.ref bx46_rb), .val (.ref b52), .unset, .unset, .unset] [(.int (own_f4 (own_st (own_st (own_st (own_st (own_st (0 : Int32) dv0 (0 : Int32)) dv1 (0 : Int32)) dv2 (0 : Int32)) dv3 (0 : Int32)) dv4 (0 : Int32)) zv0))]))
  refine own_nm ((own_f4 (own_st (own_st (own_st (own_st (own_st (0 : Int32) dv0 (0 : Int32)) dv1 (0 : Int32)) dv2 (0 : Int32)) dv3 (0 : Int32)) dv4 (0 : Int32)) zv0) : Int32) (fun bk0 => T79.setTop (mkF m 181 #[.val (.int p1), .val (.int p2), .val (.int p3), .val (.int p4), .val (.int xx), .val (.int dv0), .val (.int dv1), .val (.int dv2), .val (.int dv3), .val (.int dv4), .val (.ref b7), .val (.int zv0), .val (.int zv1), .val (.int zv2), .val (.ref b30), .val (.ref bx46_rb), .val (.ref b52), .unset, .unset, .unset] [(.int bk0)])) ?_
  intro bk0 hd_bk0
  show own_G p.tables e below _ (T79.setTop (mkF m 181 #[.val (.int p1), .val (.int p2), .val (.int p3), .val (.int p4), .val (.int xx), .val (.int dv0), .val (.int dv1), .val (.int dv2), .val (.int dv3), .val (.int dv4), .val (.ref b7), .val (.int zv0), .val (.int zv1), .val (.int zv2), .val (.ref b30), .val (.ref bx46_rb), .val (.ref b52), .unset, .unset, .unset] [(.int bk0)]))
  refine own_step (fun t k => XS.istore X79.here hx rfl (hb hby at_181) rfl (l' := #[.val (.int p1), .val (.int p2), .val (.int p3), .val (.int p4), .val (.int xx), .val (.int dv0), .val (.int dv1), .val (.int dv2), .val (.int dv3), .val (.int dv4), .val (.ref b7), .val (.int zv0), .val (.int zv1), .val (.int zv2), .val (.ref b30), .val (.ref bx46_rb), .val (.ref b52), .val (.int bk0), .unset, .unset]) rfl k) ?_
  show own_G p.tables e below _ (T79.setTop (mkF m 183 #[.val (.int p1), .val (.int p2), .val (.int p3), .val (.int p4), .val (.int xx), .val (.int dv0), .val (.int dv1), .val (.int dv2), .val (.int dv3), .val (.int dv4), .val (.ref b7), .val (.int zv0), .val (.int zv1), .val (.int zv2), .val (.ref b30), .val (.ref bx46_rb), .val (.ref b52), .val (.int bk0), .unset, .unset] []))
  refine own_step (fun t k => XS.aload X79.here hx rfl (hb hby at_183) rfl rfl k) ?_
  show own_G p.tables e below _ (T79.setTop (mkF m 185 #[.val (.int p1), .val (.int p2), .val (.int p3), .val (.int p4), .val (.int xx), .val (.int dv0), .val (.int dv1), .val (.int dv2), .val (.int dv3), .val (.int dv4), .val (.ref b7), .val (.int zv0), .val (.int zv1), .val (.int zv2), .val (.ref b30), .val (.ref bx46_rb), .val (.ref b52), .val (.int bk0), .unset, .unset] [(.ref b7)]))
  refine own_step (fun t k => XS.iconst X79.here hx rfl (hb hby at_185) k) ?_
  show own_G p.tables e below _ (T79.setTop (mkF m 186 #[.val (.int p1), .val (.int p2), .val (.int p3), .val (.int p4), .val (.int xx), .val (.int dv0), .val (.int dv1), .val (.int dv2), .val (.int dv3), .val (.int dv4), .val (.ref b7), .val (.int zv0), .val (.int zv1), .val (.int zv2), .val (.ref b30), .val (.ref bx46_rb), .val (.ref b52), .val (.int bk0), .unset, .unset] [(.int (5 : Int32)), (.ref b7)]))
  refine own_step (fun t k => XS.iconst X79.here hx rfl (hb hby at_186) k) ?_
  show own_G p.tables e below _ (T79.setTop (mkF m 187 #[.val (.int p1), .val (.int p2), .val (.int p3), .val (.int p4), .val (.int xx), .val (.int dv0), .val (.int dv1), .val (.int dv2), .val (.int dv3), .val (.int dv4), .val (.ref b7), .val (.int zv0), .val (.int zv1), .val (.int zv2), .val (.ref b30), .val (.ref bx46_rb), .val (.ref b52), .val (.int bk0), .unset, .unset] [(.int (1 : Int32)), (.int (5 : Int32)), (.ref b7)]))
  obtain ⟨_, _, ⟨T81, L81, k81, n81⟩, -, X81, ⟨Lc81, hQ81, l81, y81, z81⟩, st81⟩ := Jvm.LawKit.callS X79 hx (y := (⟨"com/example/stevedore/stevedore/MoveGraphCopiesPinLaw", "before", "([III)I"⟩ : MethodName)) hown (mvT hZ (hw _ (List.mem_of_getElem? (i := 10) rfl))) (mvT hZ (hw _ (List.mem_of_getElem? (i := 11) rfl))) (mvT hZ (hw _ (List.mem_of_getElem? (i := 12) rfl))) (mvT hZ (hw _ (List.mem_of_getElem? (i := 13) rfl))) (by decide) (backOf (W := 0) (rm3_m5 l Z a0 hw [] b7 (1 : Int32) dv0 dv1 dv2 dv3 dv4 h72 n0 (Nat.le_trans Z0 K72.1) c74) hZ (hw _ (List.mem_of_getElem? (i := 13) rfl)) (hw _ (List.mem_of_getElem? (i := 12) rfl)) (by decide) (by decide)) (g := (mkF m 187 #[.val (.int p1), .val (.int p2), .val (.int p3), .val (.int p4), .val (.int xx), .val (.int dv0), .val (.int dv1), .val (.int dv2), .val (.int dv3), .val (.int dv4), .val (.ref b7), .val (.int zv0), .val (.int zv1), .val (.int zv2), .val (.ref b30), .val (.ref bx46_rb), .val (.ref b52), .val (.int bk0), .unset, .unset] [(.int (1 : Int32)), (.int (5 : Int32)), (.ref b7)])) rfl (by rw [hml]; rfl) (argsL := [(.ref b7), (.int (5 : Int32)), (.int (1 : Int32))]) (rest := []) (lenOf pd_0_2 rfl) rfl (by show 2 * 0 + _ ≤ _; exact Nat.le_of_eq rfl) (hb hby at_187) (fun _ _ => ⟨rfl, e79, (by decide : 7 + 0 ≤ _), (by decide : 25 + 0 ≤ _)⟩)
  dsimp only [Pt.U, Pt.locs, Pt.cells, Pt.slots] at X81 l81 y81 z81 st81 hQ81
  subst y81 z81
  obtain ⟨rfl, N81q, e81⟩ := hQ81
  have N81 : Fr n0 L81 := by rw [l81]; exact Fr.app N79 N81q
  refine own_step st81 ?_
  show own_G p.tables e below _ (T81.setTop (mkF m 190 #[.val (.int p1), .val (.int p2), .val (.int p3), .val (.int p4), .val (.int xx), .val (.int dv0), .val (.int dv1), .val (.int dv2), .val (.int dv3), .val (.int dv4), .val (.ref b7), .val (.int zv0), .val (.int zv1), .val (.int zv2), .val (.ref b30), .val (.ref bx46_rb), .val (.ref b52), .val (.int bk0), .unset, .unset] [(.int (own_st (own_st (own_st (own_st (own_st (0 : Int32) dv0 (1 : Int32)) dv1 (1 : Int32)) dv2 (1 : Int32)) dv3 (1 : Int32)) dv4 (1 : Int32)))]))
  refine own_step (fun t k => XS.iload X81.here hx rfl (hb hby at_190) rfl k) ?_
  show own_G p.tables e below _ (T81.setTop (mkF m 192 #[.val (.int p1), .val (.int p2), .val (.int p3), .val (.int p4), .val (.int xx), .val (.int dv0), .val (.int dv1), .val (.int dv2), .val (.int dv3), .val (.int dv4), .val (.ref b7), .val (.int zv0), .val (.int zv1), .val (.int zv2), .val (.ref b30), .val (.ref bx46_rb), .val (.ref b52), .val (.int bk0), .unset, .unset] [(.int zv1), (.int (own_st (own_st (own_st (own_st (own_st (0 : Int32) dv0 (1 : Int32)) dv1 (1 : Int32)) dv2 (1 : Int32)) dv3 (1 : Int32)) dv4 (1 : Int32)))]))
  obtain ⟨_, _, ⟨T82, L82, k82, n82⟩, -, X82, ⟨Lc82, hQ82, l82, y82, z82⟩, st82⟩ := Jvm.LawKit.callS X81 hx (y := (⟨"com/example/stevedore/stevedore/MoveGraphCopiesPinLaw", "blocks", "(II)I"⟩ : MethodName)) hown (mvT hZ (hw _ (List.mem_of_getElem? (i := 14) rfl))) (mvT hZ (hw _ (List.mem_of_getElem? (i := 15) rfl))) (mvT hZ (hw _ (List.mem_of_getElem? (i := 12) rfl))) (mvT hZ (hw _ (List.mem_of_getElem? (i := 16) rfl))) (by decide) (backOf (W := 0) (rm4 l Z a0 hw [] (own_st (own_st (own_st (own_st (own_st (0 : Int32) dv0 (1 : Int32)) dv1 (1 : Int32)) dv2 (1 : Int32)) dv3 (1 : Int32)) dv4 (1 : Int32)) zv1 h72 n0 (Nat.le_trans Z0 K72.1) (own_nz1 hz1 : zv1 ≠ 0)) hZ (hw _ (List.mem_of_getElem? (i := 16) rfl)) (hw _ (List.mem_of_getElem? (i := 12) rfl)) (by decide) (by decide)) (g := (mkF m 192 #[.val (.int p1), .val (.int p2), .val (.int p3), .val (.int p4), .val (.int xx), .val (.int dv0), .val (.int dv1), .val (.int dv2), .val (.int dv3), .val (.int dv4), .val (.ref b7), .val (.int zv0), .val (.int zv1), .val (.int zv2), .val (.ref b30), .val (.ref bx46_rb), .val (.ref b52), .val (.int bk0), .unset, .unset] [(.int zv1), (.int (own_st (own_st (own_st (own_st (own_st (0 : Int32) dv0 (1 : Int32)) dv1 (1 : Int32)) dv2 (1 : Int32)) dv3 (1 : Int32)) dv4 (1 : Int32)))])) rfl (by rw [hml]; rfl) (argsL := [(.int (own_st (own_st (own_st (own_st (own_st (0 : Int32) dv0 (1 : Int32)) dv1 (1 : Int32)) dv2 (1 : Int32)) dv3 (1 : Int32)) dv4 (1 : Int32))), (.int zv1)]) (rest := []) (lenOf pd_0_0 rfl) rfl (by show 2 * 0 + _ ≤ _; exact Nat.le_of_eq rfl) (hb hby at_192) (fun _ _ => ⟨rfl, e81, (by decide : 7 + 0 ≤ _), (by decide : 25 + 0 ≤ _)⟩)
  dsimp only [Pt.U, Pt.locs, Pt.cells, Pt.slots] at X82 l82 y82 z82 st82 hQ82
  subst y82 z82
  obtain ⟨rfl, N82q, e82⟩ := hQ82
  have N82 : Fr n0 L82 := by rw [l82]; exact Fr.app N81 N82q
  refine own_step st82 ?_
  clear N79 N81 N81q N82q X79 X81 e79 e81 st81 st82
  show own_G p.tables e below _ (T82.setTop (mkF m 195 #[.val (.int p1), .val (.int p2), .val (.int p3), .val (.int p4), .val (.int xx), .val (.int dv0), .val (.int dv1), .val (.int dv2), .val (.int dv3), .val (.int dv4), .val (.ref b7), .val (.int zv0), .val (.int zv1), .val (.int zv2), .val (.ref b30), .val (.ref bx46_rb), .val (.ref b52), .val (.int bk0), .unset, .unset] [(.int (own_f4 (own_st (own_st (own_st (own_st (own_st (0 : Int32) dv0 (1 : Int32)) dv1 (1 : Int32)) dv2 (1 : Int32)) dv3 (1 : Int32)) dv4 (1 : Int32)) zv1))]))
  refine own_nm ((own_f4 (own_st (own_st (own_st (own_st (own_st (0 : Int32) dv0 (1 : Int32)) dv1 (1 : Int32)) dv2 (1 : Int32)) dv3 (1 : Int32)) dv4 (1 : Int32)) zv1) : Int32) (fun bk1 => T82.setTop (mkF m 195 #[.val (.int p1), .val (.int p2), .val (.int p3), .val (.int p4), .val (.int xx), .val (.int dv0), .val (.int dv1), .val (.int dv2), .val (.int dv3), .val (.int dv4), .val (.ref b7), .val (.int zv0), .val (.int zv1), .val (.int zv2), .val (.ref b30), .val (.ref bx46_rb), .val (.ref b52), .val (.int bk0), .unset, .unset] [(.int bk1)])) ?_
  intro bk1 hd_bk1
  show own_G p.tables e below _ (T82.setTop (mkF m 195 #[.val (.int p1), .val (.int p2), .val (.int p3), .val (.int p4), .val (.int xx), .val (.int dv0), .val (.int dv1), .val (.int dv2), .val (.int dv3), .val (.int dv4), .val (.ref b7), .val (.int zv0), .val (.int zv1), .val (.int zv2), .val (.ref b30), .val (.ref bx46_rb), .val (.ref b52), .val (.int bk0), .unset, .unset] [(.int bk1)]))
  refine own_step (fun t k => XS.istore X82.here hx rfl (hb hby at_195) rfl (l' := #[.val (.int p1), .val (.int p2), .val (.int p3), .val (.int p4), .val (.int xx), .val (.int dv0), .val (.int dv1), .val (.int dv2), .val (.int dv3), .val (.int dv4), .val (.ref b7), .val (.int zv0), .val (.int zv1), .val (.int zv2), .val (.ref b30), .val (.ref bx46_rb), .val (.ref b52), .val (.int bk0), .val (.int bk1), .unset]) rfl k) ?_
  show own_G p.tables e below _ (T82.setTop (mkF m 197 #[.val (.int p1), .val (.int p2), .val (.int p3), .val (.int p4), .val (.int xx), .val (.int dv0), .val (.int dv1), .val (.int dv2), .val (.int dv3), .val (.int dv4), .val (.ref b7), .val (.int zv0), .val (.int zv1), .val (.int zv2), .val (.ref b30), .val (.ref bx46_rb), .val (.ref b52), .val (.int bk0), .val (.int bk1), .unset] []))
  refine own_step (fun t k => XS.iconst X82.here hx rfl (hb hby at_197) k) ?_
  show own_G p.tables e below _ (T82.setTop (mkF m 198 #[.val (.int p1), .val (.int p2), .val (.int p3), .val (.int p4), .val (.int xx), .val (.int dv0), .val (.int dv1), .val (.int dv2), .val (.int dv3), .val (.int dv4), .val (.ref b7), .val (.int zv0), .val (.int zv1), .val (.int zv2), .val (.ref b30), .val (.ref bx46_rb), .val (.ref b52), .val (.int bk0), .val (.int bk1), .unset] [(.int (3 : Int32))]))
  obtain ⟨T84, h84, k84, X84, e84, E84, A84, st84⟩ := newP X82 hx hZ (hw _ (List.mem_of_getElem? (i := 1) rfl)) e82 (g := (mkF m 198 #[.val (.int p1), .val (.int p2), .val (.int p3), .val (.int p4), .val (.int xx), .val (.int dv0), .val (.int dv1), .val (.int dv2), .val (.int dv3), .val (.int dv4), .val (.ref b7), .val (.int zv0), .val (.int zv1), .val (.int zv2), .val (.ref b30), .val (.ref bx46_rb), .val (.ref b52), .val (.int bk0), .val (.int bk1), .unset] [(.int (3 : Int32))])) rfl (hb hby at_198) rfl (by decide) (cap := 3) (by decide) (by decide) (by decide) (by decide)
  obtain ⟨b84, g84⟩ : ∃ z, z = h72.size := ⟨_, rfl⟩
  have ne85 : b7 ≠ b84 := Nat.ne_of_lt (Nat.lt_of_lt_of_le c74.lt (Nat.le_of_eq g84.symm))
  have ne86 : b30 ≠ b84 := Nat.ne_of_lt (Nat.lt_of_lt_of_le c75.lt (Nat.le_of_eq g84.symm))
  have ne87 : bx46_rb ≠ b84 := Nat.ne_of_lt (Nat.lt_of_lt_of_le c76.lt (Nat.le_of_eq g84.symm))
  have ne88 : b52 ≠ b84 := Nat.ne_of_lt (Nat.lt_of_lt_of_le c73.lt (Nat.le_of_eq g84.symm))
  have sz84 : h0.size ≤ b84 := Nat.le_trans K72.1 (Nat.le_of_eq g84.symm)
  have ge84 : n0 ≤ b84 := Nat.le_trans Z0 sz84
  have c89 : own_Ari Z h84 b7 .int [dv0, dv1, dv2, dv3, dv4] := c74.ext E84
  have c90 : own_Ari Z h84 b30 .int [zv0, zv1, zv2] := c75.ext E84
  have c91 : own_Ari Z h84 bx46_rb .int [(([(0 : Int32), (own_blk ((own_cs dv0 dv1 dv2 dv3 dv4).getD 0 0) zv0 (0 : Int32)), (own_blk ((own_cs dv0 dv1 dv2 dv3 dv4).getD 1 0) zv1 (own_blk ((own_cs dv0 dv1 dv2 dv3 dv4).getD 0 0) zv0 (0 : Int32)))].getD dv0.toNatClampNeg 0) + (([(0 : Int32), (0 : Int32), (0 : Int32)].getD dv0.toNatClampNeg 0) / ([zv0, zv1, zv2].getD dv0.toNatClampNeg 0))), (([(0 : Int32), (own_blk ((own_cs dv0 dv1 dv2 dv3 dv4).getD 0 0) zv0 (0 : Int32)), (own_blk ((own_cs dv0 dv1 dv2 dv3 dv4).getD 1 0) zv1 (own_blk ((own_cs dv0 dv1 dv2 dv3 dv4).getD 0 0) zv0 (0 : Int32)))].getD dv1.toNatClampNeg 0) + (((own_inc [(0 : Int32), (0 : Int32), (0 : Int32)] dv0).getD dv1.toNatClampNeg 0) / ([zv0, zv1, zv2].getD dv1.toNatClampNeg 0))), (([(0 : Int32), (own_blk ((own_cs dv0 dv1 dv2 dv3 dv4).getD 0 0) zv0 (0 : Int32)), (own_blk ((own_cs dv0 dv1 dv2 dv3 dv4).getD 1 0) zv1 (own_blk ((own_cs dv0 dv1 dv2 dv3 dv4).getD 0 0) zv0 (0 : Int32)))].getD dv2.toNatClampNeg 0) + (((own_inc (own_inc [(0 : Int32), (0 : Int32), (0 : Int32)] dv0) dv1).getD dv2.toNatClampNeg 0) / ([zv0, zv1, zv2].getD dv2.toNatClampNeg 0))), (([(0 : Int32), (own_blk ((own_cs dv0 dv1 dv2 dv3 dv4).getD 0 0) zv0 (0 : Int32)), (own_blk ((own_cs dv0 dv1 dv2 dv3 dv4).getD 1 0) zv1 (own_blk ((own_cs dv0 dv1 dv2 dv3 dv4).getD 0 0) zv0 (0 : Int32)))].getD dv3.toNatClampNeg 0) + (((own_inc (own_inc (own_inc [(0 : Int32), (0 : Int32), (0 : Int32)] dv0) dv1) dv2).getD dv3.toNatClampNeg 0) / ([zv0, zv1, zv2].getD dv3.toNatClampNeg 0))), (([(0 : Int32), (own_blk ((own_cs dv0 dv1 dv2 dv3 dv4).getD 0 0) zv0 (0 : Int32)), (own_blk ((own_cs dv0 dv1 dv2 dv3 dv4).getD 1 0) zv1 (own_blk ((own_cs dv0 dv1 dv2 dv3 dv4).getD 0 0) zv0 (0 : Int32)))].getD dv4.toNatClampNeg 0) + (((own_inc (own_inc (own_inc (own_inc [(0 : Int32), (0 : Int32), (0 : Int32)] dv0) dv1) dv2) dv3).getD dv4.toNatClampNeg 0) / ([zv0, zv1, zv2].getD dv4.toNatClampNeg 0)))] := c76.ext E84
  have c92 : own_Ari Z h84 b52 .int [zv0, zv1, zv2] := c73.ext E84
  have K84 : Keep h0 h84 [] := K72.ext E84
  rw [← g84] at A84 st84
  have c93 : own_Ari Z h84 b84 .int [(0 : Int32), (0 : Int32), (0 : Int32)] := own_Ari_new (ty := .int) A84 (by decide) rfl
  refine own_step st84 ?_
  clear A84 E84 K72 X82 c73 c74 c75 c76 e82 g84 st84
  show own_G p.tables e below _ (T84.setTop (mkF m 200 #[.val (.int p1), .val (.int p2), .val (.int p3), .val (.int p4), .val (.int xx), .val (.int dv0), .val (.int dv1), .val (.int dv2), .val (.int dv3), .val (.int dv4), .val (.ref b7), .val (.int zv0), .val (.int zv1), .val (.int zv2), .val (.ref b30), .val (.ref bx46_rb), .val (.ref b52), .val (.int bk0), .val (.int bk1), .unset] [(.ref b84)]))
  refine own_step (fun t k => XS.dup X84.here hx rfl (hb hby at_200) rfl rfl k) ?_
  show own_G p.tables e below _ (T84.setTop (mkF m 201 #[.val (.int p1), .val (.int p2), .val (.int p3), .val (.int p4), .val (.int xx), .val (.int dv0), .val (.int dv1), .val (.int dv2), .val (.int dv3), .val (.int dv4), .val (.ref b7), .val (.int zv0), .val (.int zv1), .val (.int zv2), .val (.ref b30), .val (.ref bx46_rb), .val (.ref b52), .val (.int bk0), .val (.int bk1), .unset] [(.ref b84), (.ref b84)]))
  refine own_step (fun t k => XS.iconst X84.here hx rfl (hb hby at_201) k) ?_
  show own_G p.tables e below _ (T84.setTop (mkF m 202 #[.val (.int p1), .val (.int p2), .val (.int p3), .val (.int p4), .val (.int xx), .val (.int dv0), .val (.int dv1), .val (.int dv2), .val (.int dv3), .val (.int dv4), .val (.ref b7), .val (.int zv0), .val (.int zv1), .val (.int zv2), .val (.ref b30), .val (.ref bx46_rb), .val (.ref b52), .val (.int bk0), .val (.int bk1), .unset] [(.int (0 : Int32)), (.ref b84), (.ref b84)]))
  refine own_step (fun t k => XS.iconst X84.here hx rfl (hb hby at_202) k) ?_
  show own_G p.tables e below _ (T84.setTop (mkF m 203 #[.val (.int p1), .val (.int p2), .val (.int p3), .val (.int p4), .val (.int xx), .val (.int dv0), .val (.int dv1), .val (.int dv2), .val (.int dv3), .val (.int dv4), .val (.ref b7), .val (.int zv0), .val (.int zv1), .val (.int zv2), .val (.ref b30), .val (.ref bx46_rb), .val (.ref b52), .val (.int bk0), .val (.int bk1), .unset] [(.int (0 : Int32)), (.int (0 : Int32)), (.ref b84), (.ref b84)]))
  obtain ⟨T94, h94, X94, e94, W94, c94, st94⟩ := own_iastore X84 hx hZ e84 c93 (own_inb (by decide) (Nat.le_of_ble_eq_true rfl)) (g := (mkF m 203 #[.val (.int p1), .val (.int p2), .val (.int p3), .val (.int p4), .val (.int xx), .val (.int dv0), .val (.int dv1), .val (.int dv2), .val (.int dv3), .val (.int dv4), .val (.ref b7), .val (.int zv0), .val (.int zv1), .val (.int zv2), .val (.ref b30), .val (.ref bx46_rb), .val (.ref b52), .val (.int bk0), .val (.int bk1), .unset] [(.int (0 : Int32)), (.int (0 : Int32)), (.ref b84), (.ref b84)])) rfl rfl (hb hby at_203)
  have N94 := Fr.snoc X94 N82 ge84
  have c95 : own_Ari Z h94 b84 .int [(0 : Int32), (0 : Int32), (0 : Int32)] := c94
  have c96 : own_Ari Z h94 b7 .int [dv0, dv1, dv2, dv3, dv4] := c89.other W94 ne85
  have c97 : own_Ari Z h94 b30 .int [zv0, zv1, zv2] := c90.other W94 ne86
  have c98 : own_Ari Z h94 bx46_rb .int [(([(0 : Int32), (own_blk ((own_cs dv0 dv1 dv2 dv3 dv4).getD 0 0) zv0 (0 : Int32)), (own_blk ((own_cs dv0 dv1 dv2 dv3 dv4).getD 1 0) zv1 (own_blk ((own_cs dv0 dv1 dv2 dv3 dv4).getD 0 0) zv0 (0 : Int32)))].getD dv0.toNatClampNeg 0) + (([(0 : Int32), (0 : Int32), (0 : Int32)].getD dv0.toNatClampNeg 0) / ([zv0, zv1, zv2].getD dv0.toNatClampNeg 0))), (([(0 : Int32), (own_blk ((own_cs dv0 dv1 dv2 dv3 dv4).getD 0 0) zv0 (0 : Int32)), (own_blk ((own_cs dv0 dv1 dv2 dv3 dv4).getD 1 0) zv1 (own_blk ((own_cs dv0 dv1 dv2 dv3 dv4).getD 0 0) zv0 (0 : Int32)))].getD dv1.toNatClampNeg 0) + (((own_inc [(0 : Int32), (0 : Int32), (0 : Int32)] dv0).getD dv1.toNatClampNeg 0) / ([zv0, zv1, zv2].getD dv1.toNatClampNeg 0))), (([(0 : Int32), (own_blk ((own_cs dv0 dv1 dv2 dv3 dv4).getD 0 0) zv0 (0 : Int32)), (own_blk ((own_cs dv0 dv1 dv2 dv3 dv4).getD 1 0) zv1 (own_blk ((own_cs dv0 dv1 dv2 dv3 dv4).getD 0 0) zv0 (0 : Int32)))].getD dv2.toNatClampNeg 0) + (((own_inc (own_inc [(0 : Int32), (0 : Int32), (0 : Int32)] dv0) dv1).getD dv2.toNatClampNeg 0) / ([zv0, zv1, zv2].getD dv2.toNatClampNeg 0))), (([(0 : Int32), (own_blk ((own_cs dv0 dv1 dv2 dv3 dv4).getD 0 0) zv0 (0 : Int32)), (own_blk ((own_cs dv0 dv1 dv2 dv3 dv4).getD 1 0) zv1 (own_blk ((own_cs dv0 dv1 dv2 dv3 dv4).getD 0 0) zv0 (0 : Int32)))].getD dv3.toNatClampNeg 0) + (((own_inc (own_inc (own_inc [(0 : Int32), (0 : Int32), (0 : Int32)] dv0) dv1) dv2).getD dv3.toNatClampNeg 0) / ([zv0, zv1, zv2].getD dv3.toNatClampNeg 0))), (([(0 : Int32), (own_blk ((own_cs dv0 dv1 dv2 dv3 dv4).getD 0 0) zv0 (0 : Int32)), (own_blk ((own_cs dv0 dv1 dv2 dv3 dv4).getD 1 0) zv1 (own_blk ((own_cs dv0 dv1 dv2 dv3 dv4).getD 0 0) zv0 (0 : Int32)))].getD dv4.toNatClampNeg 0) + (((own_inc (own_inc (own_inc (own_inc [(0 : Int32), (0 : Int32), (0 : Int32)] dv0) dv1) dv2) dv3).getD dv4.toNatClampNeg 0) / ([zv0, zv1, zv2].getD dv4.toNatClampNeg 0)))] := c91.other W94 ne87
  have c99 : own_Ari Z h94 b52 .int [zv0, zv1, zv2] := c92.other W94 ne88
  have K94 : Keep h0 h94 [] := K84.wr W94 (Or.inr sz84)
  refine own_step st94 ?_
  clear K84 N82 W94 X84 c89 c90 c91 c92 c93 c94 e84 st94
  show own_G p.tables e below _ (T94.setTop (mkF m 204 #[.val (.int p1), .val (.int p2), .val (.int p3), .val (.int p4), .val (.int xx), .val (.int dv0), .val (.int dv1), .val (.int dv2), .val (.int dv3), .val (.int dv4), .val (.ref b7), .val (.int zv0), .val (.int zv1), .val (.int zv2), .val (.ref b30), .val (.ref bx46_rb), .val (.ref b52), .val (.int bk0), .val (.int bk1), .unset] [(.ref b84)]))
  refine own_step (fun t k => XS.dup X94.here hx rfl (hb hby at_204) rfl rfl k) ?_
  show own_G p.tables e below _ (T94.setTop (mkF m 205 #[.val (.int p1), .val (.int p2), .val (.int p3), .val (.int p4), .val (.int xx), .val (.int dv0), .val (.int dv1), .val (.int dv2), .val (.int dv3), .val (.int dv4), .val (.ref b7), .val (.int zv0), .val (.int zv1), .val (.int zv2), .val (.ref b30), .val (.ref bx46_rb), .val (.ref b52), .val (.int bk0), .val (.int bk1), .unset] [(.ref b84), (.ref b84)]))
  refine own_step (fun t k => XS.iconst X94.here hx rfl (hb hby at_205) k) ?_
  show own_G p.tables e below _ (T94.setTop (mkF m 206 #[.val (.int p1), .val (.int p2), .val (.int p3), .val (.int p4), .val (.int xx), .val (.int dv0), .val (.int dv1), .val (.int dv2), .val (.int dv3), .val (.int dv4), .val (.ref b7), .val (.int zv0), .val (.int zv1), .val (.int zv2), .val (.ref b30), .val (.ref bx46_rb), .val (.ref b52), .val (.int bk0), .val (.int bk1), .unset] [(.int (1 : Int32)), (.ref b84), (.ref b84)]))
  refine own_step (fun t k => XS.iload X94.here hx rfl (hb hby at_206) rfl k) ?_
  show own_G p.tables e below _ (T94.setTop (mkF m 208 #[.val (.int p1), .val (.int p2), .val (.int p3), .val (.int p4), .val (.int xx), .val (.int dv0), .val (.int dv1), .val (.int dv2), .val (.int dv3), .val (.int dv4), .val (.ref b7), .val (.int zv0), .val (.int zv1), .val (.int zv2), .val (.ref b30), .val (.ref bx46_rb), .val (.ref b52), .val (.int bk0), .val (.int bk1), .unset] [(.int bk0), (.int (1 : Int32)), (.ref b84), (.ref b84)]))
  obtain ⟨T101, h101, X101, e101, W101, c101, st101⟩ := own_iastore X94 hx hZ e94 c95 (own_inb (by decide) (Nat.le_of_ble_eq_true rfl)) (g := (mkF m 208 #[.val (.int p1), .val (.int p2), .val (.int p3), .val (.int p4), .val (.int xx), .val (.int dv0), .val (.int dv1), .val (.int dv2), .val (.int dv3), .val (.int dv4), .val (.ref b7), .val (.int zv0), .val (.int zv1), .val (.int zv2), .val (.ref b30), .val (.ref bx46_rb), .val (.ref b52), .val (.int bk0), .val (.int bk1), .unset] [(.int bk0), (.int (1 : Int32)), (.ref b84), (.ref b84)])) rfl rfl (hb hby at_208)
  have N101 := Fr.snoc X101 N94 ge84
  have c102 : own_Ari Z h101 b84 .int [(0 : Int32), bk0, (0 : Int32)] := c101
  have c103 : own_Ari Z h101 b7 .int [dv0, dv1, dv2, dv3, dv4] := c96.other W101 ne85
  have c104 : own_Ari Z h101 b30 .int [zv0, zv1, zv2] := c97.other W101 ne86
  have c105 : own_Ari Z h101 bx46_rb .int [(([(0 : Int32), (own_blk ((own_cs dv0 dv1 dv2 dv3 dv4).getD 0 0) zv0 (0 : Int32)), (own_blk ((own_cs dv0 dv1 dv2 dv3 dv4).getD 1 0) zv1 (own_blk ((own_cs dv0 dv1 dv2 dv3 dv4).getD 0 0) zv0 (0 : Int32)))].getD dv0.toNatClampNeg 0) + (([(0 : Int32), (0 : Int32), (0 : Int32)].getD dv0.toNatClampNeg 0) / ([zv0, zv1, zv2].getD dv0.toNatClampNeg 0))), (([(0 : Int32), (own_blk ((own_cs dv0 dv1 dv2 dv3 dv4).getD 0 0) zv0 (0 : Int32)), (own_blk ((own_cs dv0 dv1 dv2 dv3 dv4).getD 1 0) zv1 (own_blk ((own_cs dv0 dv1 dv2 dv3 dv4).getD 0 0) zv0 (0 : Int32)))].getD dv1.toNatClampNeg 0) + (((own_inc [(0 : Int32), (0 : Int32), (0 : Int32)] dv0).getD dv1.toNatClampNeg 0) / ([zv0, zv1, zv2].getD dv1.toNatClampNeg 0))), (([(0 : Int32), (own_blk ((own_cs dv0 dv1 dv2 dv3 dv4).getD 0 0) zv0 (0 : Int32)), (own_blk ((own_cs dv0 dv1 dv2 dv3 dv4).getD 1 0) zv1 (own_blk ((own_cs dv0 dv1 dv2 dv3 dv4).getD 0 0) zv0 (0 : Int32)))].getD dv2.toNatClampNeg 0) + (((own_inc (own_inc [(0 : Int32), (0 : Int32), (0 : Int32)] dv0) dv1).getD dv2.toNatClampNeg 0) / ([zv0, zv1, zv2].getD dv2.toNatClampNeg 0))), (([(0 : Int32), (own_blk ((own_cs dv0 dv1 dv2 dv3 dv4).getD 0 0) zv0 (0 : Int32)), (own_blk ((own_cs dv0 dv1 dv2 dv3 dv4).getD 1 0) zv1 (own_blk ((own_cs dv0 dv1 dv2 dv3 dv4).getD 0 0) zv0 (0 : Int32)))].getD dv3.toNatClampNeg 0) + (((own_inc (own_inc (own_inc [(0 : Int32), (0 : Int32), (0 : Int32)] dv0) dv1) dv2).getD dv3.toNatClampNeg 0) / ([zv0, zv1, zv2].getD dv3.toNatClampNeg 0))), (([(0 : Int32), (own_blk ((own_cs dv0 dv1 dv2 dv3 dv4).getD 0 0) zv0 (0 : Int32)), (own_blk ((own_cs dv0 dv1 dv2 dv3 dv4).getD 1 0) zv1 (own_blk ((own_cs dv0 dv1 dv2 dv3 dv4).getD 0 0) zv0 (0 : Int32)))].getD dv4.toNatClampNeg 0) + (((own_inc (own_inc (own_inc (own_inc [(0 : Int32), (0 : Int32), (0 : Int32)] dv0) dv1) dv2) dv3).getD dv4.toNatClampNeg 0) / ([zv0, zv1, zv2].getD dv4.toNatClampNeg 0)))] := c98.other W101 ne87
  have c106 : own_Ari Z h101 b52 .int [zv0, zv1, zv2] := c99.other W101 ne88
  have K101 : Keep h0 h101 [] := K94.wr W101 (Or.inr sz84)
  refine own_step st101 ?_
  clear K94 N94 W101 X94 c101 c95 c96 c97 c98 c99 e94 st101
  show own_G p.tables e below _ (T101.setTop (mkF m 209 #[.val (.int p1), .val (.int p2), .val (.int p3), .val (.int p4), .val (.int xx), .val (.int dv0), .val (.int dv1), .val (.int dv2), .val (.int dv3), .val (.int dv4), .val (.ref b7), .val (.int zv0), .val (.int zv1), .val (.int zv2), .val (.ref b30), .val (.ref bx46_rb), .val (.ref b52), .val (.int bk0), .val (.int bk1), .unset] [(.ref b84)]))
  refine own_step (fun t k => XS.dup X101.here hx rfl (hb hby at_209) rfl rfl k) ?_
  show own_G p.tables e below _ (T101.setTop (mkF m 210 #[.val (.int p1), .val (.int p2), .val (.int p3), .val (.int p4), .val (.int xx), .val (.int dv0), .val (.int dv1), .val (.int dv2), .val (.int dv3), .val (.int dv4), .val (.ref b7), .val (.int zv0), .val (.int zv1), .val (.int zv2), .val (.ref b30), .val (.ref bx46_rb), .val (.ref b52), .val (.int bk0), .val (.int bk1), .unset] [(.ref b84), (.ref b84)]))
  refine own_step (fun t k => XS.iconst X101.here hx rfl (hb hby at_210) k) ?_
  show own_G p.tables e below _ (T101.setTop (mkF m 211 #[.val (.int p1), .val (.int p2), .val (.int p3), .val (.int p4), .val (.int xx), .val (.int dv0), .val (.int dv1), .val (.int dv2), .val (.int dv3), .val (.int dv4), .val (.ref b7), .val (.int zv0), .val (.int zv1), .val (.int zv2), .val (.ref b30), .val (.ref bx46_rb), .val (.ref b52), .val (.int bk0), .val (.int bk1), .unset] [(.int (2 : Int32)), (.ref b84), (.ref b84)]))
  refine own_step (fun t k => XS.iload X101.here hx rfl (hb hby at_211) rfl k) ?_
  show own_G p.tables e below _ (T101.setTop (mkF m 213 #[.val (.int p1), .val (.int p2), .val (.int p3), .val (.int p4), .val (.int xx), .val (.int dv0), .val (.int dv1), .val (.int dv2), .val (.int dv3), .val (.int dv4), .val (.ref b7), .val (.int zv0), .val (.int zv1), .val (.int zv2), .val (.ref b30), .val (.ref bx46_rb), .val (.ref b52), .val (.int bk0), .val (.int bk1), .unset] [(.int bk0), (.int (2 : Int32)), (.ref b84), (.ref b84)]))
  refine own_step (fun t k => XS.iload X101.here hx rfl (hb hby at_213) rfl k) ?_
  show own_G p.tables e below _ (T101.setTop (mkF m 215 #[.val (.int p1), .val (.int p2), .val (.int p3), .val (.int p4), .val (.int xx), .val (.int dv0), .val (.int dv1), .val (.int dv2), .val (.int dv3), .val (.int dv4), .val (.ref b7), .val (.int zv0), .val (.int zv1), .val (.int zv2), .val (.ref b30), .val (.ref bx46_rb), .val (.ref b52), .val (.int bk0), .val (.int bk1), .unset] [(.int bk1), (.int bk0), (.int (2 : Int32)), (.ref b84), (.ref b84)]))
  refine own_step (fun t k => XS.iadd X101.here hx rfl (hb hby at_215) rfl k) ?_
  show own_G p.tables e below _ (T101.setTop (mkF m 216 #[.val (.int p1), .val (.int p2), .val (.int p3), .val (.int p4), .val (.int xx), .val (.int dv0), .val (.int dv1), .val (.int dv2), .val (.int dv3), .val (.int dv4), .val (.ref b7), .val (.int zv0), .val (.int zv1), .val (.int zv2), .val (.ref b30), .val (.ref bx46_rb), .val (.ref b52), .val (.int bk0), .val (.int bk1), .unset] [(.int (bk0 + bk1)), (.int (2 : Int32)), (.ref b84), (.ref b84)]))
  obtain ⟨T108, h108, X108, e108, W108, c108, st108⟩ := own_iastore X101 hx hZ e101 c102 (own_inb (by decide) (Nat.le_of_ble_eq_true rfl)) (g := (mkF m 216 #[.val (.int p1), .val (.int p2), .val (.int p3), .val (.int p4), .val (.int xx), .val (.int dv0), .val (.int dv1), .val (.int dv2), .val (.int dv3), .val (.int dv4), .val (.ref b7), .val (.int zv0), .val (.int zv1), .val (.int zv2), .val (.ref b30), .val (.ref bx46_rb), .val (.ref b52), .val (.int bk0), .val (.int bk1), .unset] [(.int (bk0 + bk1)), (.int (2 : Int32)), (.ref b84), (.ref b84)])) rfl rfl (hb hby at_216)
  have N108 := Fr.snoc X108 N101 ge84
  have c109 : own_Ari Z h108 b84 .int [(0 : Int32), bk0, (bk0 + bk1)] := c108
  have c110 : own_Ari Z h108 b7 .int [dv0, dv1, dv2, dv3, dv4] := c103.other W108 ne85
  have c111 : own_Ari Z h108 b30 .int [zv0, zv1, zv2] := c104.other W108 ne86
  have c112 : own_Ari Z h108 bx46_rb .int [(([(0 : Int32), (own_blk ((own_cs dv0 dv1 dv2 dv3 dv4).getD 0 0) zv0 (0 : Int32)), (own_blk ((own_cs dv0 dv1 dv2 dv3 dv4).getD 1 0) zv1 (own_blk ((own_cs dv0 dv1 dv2 dv3 dv4).getD 0 0) zv0 (0 : Int32)))].getD dv0.toNatClampNeg 0) + (([(0 : Int32), (0 : Int32), (0 : Int32)].getD dv0.toNatClampNeg 0) / ([zv0, zv1, zv2].getD dv0.toNatClampNeg 0))), (([(0 : Int32), (own_blk ((own_cs dv0 dv1 dv2 dv3 dv4).getD 0 0) zv0 (0 : Int32)), (own_blk ((own_cs dv0 dv1 dv2 dv3 dv4).getD 1 0) zv1 (own_blk ((own_cs dv0 dv1 dv2 dv3 dv4).getD 0 0) zv0 (0 : Int32)))].getD dv1.toNatClampNeg 0) + (((own_inc [(0 : Int32), (0 : Int32), (0 : Int32)] dv0).getD dv1.toNatClampNeg 0) / ([zv0, zv1, zv2].getD dv1.toNatClampNeg 0))), (([(0 : Int32), (own_blk ((own_cs dv0 dv1 dv2 dv3 dv4).getD 0 0) zv0 (0 : Int32)), (own_blk ((own_cs dv0 dv1 dv2 dv3 dv4).getD 1 0) zv1 (own_blk ((own_cs dv0 dv1 dv2 dv3 dv4).getD 0 0) zv0 (0 : Int32)))].getD dv2.toNatClampNeg 0) + (((own_inc (own_inc [(0 : Int32), (0 : Int32), (0 : Int32)] dv0) dv1).getD dv2.toNatClampNeg 0) / ([zv0, zv1, zv2].getD dv2.toNatClampNeg 0))), (([(0 : Int32), (own_blk ((own_cs dv0 dv1 dv2 dv3 dv4).getD 0 0) zv0 (0 : Int32)), (own_blk ((own_cs dv0 dv1 dv2 dv3 dv4).getD 1 0) zv1 (own_blk ((own_cs dv0 dv1 dv2 dv3 dv4).getD 0 0) zv0 (0 : Int32)))].getD dv3.toNatClampNeg 0) + (((own_inc (own_inc (own_inc [(0 : Int32), (0 : Int32), (0 : Int32)] dv0) dv1) dv2).getD dv3.toNatClampNeg 0) / ([zv0, zv1, zv2].getD dv3.toNatClampNeg 0))), (([(0 : Int32), (own_blk ((own_cs dv0 dv1 dv2 dv3 dv4).getD 0 0) zv0 (0 : Int32)), (own_blk ((own_cs dv0 dv1 dv2 dv3 dv4).getD 1 0) zv1 (own_blk ((own_cs dv0 dv1 dv2 dv3 dv4).getD 0 0) zv0 (0 : Int32)))].getD dv4.toNatClampNeg 0) + (((own_inc (own_inc (own_inc (own_inc [(0 : Int32), (0 : Int32), (0 : Int32)] dv0) dv1) dv2) dv3).getD dv4.toNatClampNeg 0) / ([zv0, zv1, zv2].getD dv4.toNatClampNeg 0)))] := c105.other W108 ne87
  have c113 : own_Ari Z h108 b52 .int [zv0, zv1, zv2] := c106.other W108 ne88
  have K108 : Keep h0 h108 [] := K101.wr W108 (Or.inr sz84)
  refine own_step st108 ?_
  clear K101 N101 W108 X101 c102 c103 c104 c105 c106 c108 e101 st108
  show own_G p.tables e below _ (T108.setTop (mkF m 217 #[.val (.int p1), .val (.int p2), .val (.int p3), .val (.int p4), .val (.int xx), .val (.int dv0), .val (.int dv1), .val (.int dv2), .val (.int dv3), .val (.int dv4), .val (.ref b7), .val (.int zv0), .val (.int zv1), .val (.int zv2), .val (.ref b30), .val (.ref bx46_rb), .val (.ref b52), .val (.int bk0), .val (.int bk1), .unset] [(.ref b84)]))
  refine own_step (fun t k => XS.astore X108.here hx rfl (hb hby at_217) rfl rfl (l' := #[.val (.int p1), .val (.int p2), .val (.int p3), .val (.int p4), .val (.int xx), .val (.int dv0), .val (.int dv1), .val (.int dv2), .val (.int dv3), .val (.int dv4), .val (.ref b7), .val (.int zv0), .val (.int zv1), .val (.int zv2), .val (.ref b30), .val (.ref bx46_rb), .val (.ref b52), .val (.int bk0), .val (.int bk1), .val (.ref b84)]) rfl k) ?_
  show own_G p.tables e below _ (T108.setTop (mkF m 219 #[.val (.int p1), .val (.int p2), .val (.int p3), .val (.int p4), .val (.int xx), .val (.int dv0), .val (.int dv1), .val (.int dv2), .val (.int dv3), .val (.int dv4), .val (.ref b7), .val (.int zv0), .val (.int zv1), .val (.int zv2), .val (.ref b30), .val (.ref bx46_rb), .val (.ref b52), .val (.int bk0), .val (.int bk1), .val (.ref b84)] []))
  refine own_step (fun t k => XS.aload X108.here hx rfl (hb hby at_219) rfl rfl k) ?_
  show own_G p.tables e below _ (T108.setTop (mkF m 221 #[.val (.int p1), .val (.int p2), .val (.int p3), .val (.int p4), .val (.int xx), .val (.int dv0), .val (.int dv1), .val (.int dv2), .val (.int dv3), .val (.int dv4), .val (.ref b7), .val (.int zv0), .val (.int zv1), .val (.int zv2), .val (.ref b30), .val (.ref bx46_rb), .val (.ref b52), .val (.int bk0), .val (.int bk1), .val (.ref b84)] [(.ref bx46_rb)]))
  refine own_step (fun t k => XS.aload X108.here hx rfl (hb hby at_221) rfl rfl k) ?_
  show own_G p.tables e below _ (T108.setTop (mkF m 223 #[.val (.int p1), .val (.int p2), .val (.int p3), .val (.int p4), .val (.int xx), .val (.int dv0), .val (.int dv1), .val (.int dv2), .val (.int dv3), .val (.int dv4), .val (.ref b7), .val (.int zv0), .val (.int zv1), .val (.int zv2), .val (.ref b30), .val (.ref bx46_rb), .val (.ref b52), .val (.int bk0), .val (.int bk1), .val (.ref b84)] [(.ref b7), (.ref bx46_rb)]))
  refine own_step (fun t k => XS.aload X108.here hx rfl (hb hby at_223) rfl rfl k) ?_
  show own_G p.tables e below _ (T108.setTop (mkF m 225 #[.val (.int p1), .val (.int p2), .val (.int p3), .val (.int p4), .val (.int xx), .val (.int dv0), .val (.int dv1), .val (.int dv2), .val (.int dv3), .val (.int dv4), .val (.ref b7), .val (.int zv0), .val (.int zv1), .val (.int zv2), .val (.ref b30), .val (.ref bx46_rb), .val (.ref b52), .val (.int bk0), .val (.int bk1), .val (.ref b84)] [(.ref b52), (.ref b7), (.ref bx46_rb)]))
  refine own_step (fun t k => XS.aload X108.here hx rfl (hb hby at_225) rfl rfl k) ?_
  show own_G p.tables e below _ (T108.setTop (mkF m 227 #[.val (.int p1), .val (.int p2), .val (.int p3), .val (.int p4), .val (.int xx), .val (.int dv0), .val (.int dv1), .val (.int dv2), .val (.int dv3), .val (.int dv4), .val (.ref b7), .val (.int zv0), .val (.int zv1), .val (.int zv2), .val (.ref b30), .val (.ref bx46_rb), .val (.ref b52), .val (.int bk0), .val (.int bk1), .val (.ref b84)] [(.ref b84), (.ref b52), (.ref b7), (.ref bx46_rb)]))
  refine own_step (fun t k => XS.iconst X108.here hx rfl (hb hby at_227) k) ?_
  show own_G p.tables e below _ (T108.setTop (mkF m 228 #[.val (.int p1), .val (.int p2), .val (.int p3), .val (.int p4), .val (.int xx), .val (.int dv0), .val (.int dv1), .val (.int dv2), .val (.int dv3), .val (.int dv4), .val (.ref b7), .val (.int zv0), .val (.int zv1), .val (.int zv2), .val (.ref b30), .val (.ref bx46_rb), .val (.ref b52), .val (.int bk0), .val (.int bk1), .val (.ref b84)] [(.int (0 : Int32)), (.ref b84), (.ref b52), (.ref b7), (.ref bx46_rb)]))
  obtain ⟨_, _, ⟨T115, L115, k115, n115⟩, -, X115, ⟨Lc115, hQ115, l115, y115, z115⟩, st115⟩ := Jvm.LawKit.callS X108 hx (y := (⟨"com/example/stevedore/stevedore/MoveGraphCopiesPinLaw", "ok", "([I[I[I[II)Z"⟩ : MethodName)) hown (mvT hZ (hw _ (List.mem_of_getElem? (i := 17) rfl))) (mvT hZ (hw _ (List.mem_of_getElem? (i := 18) rfl))) (mvT hZ (hw _ (List.mem_of_getElem? (i := 12) rfl))) (mvT hZ (hw _ (List.mem_of_getElem? (i := 19) rfl))) (by decide) (backOf (W := 0) (rm5_m0 l Z a0 hw [] bx46_rb b7 b52 b84 dv0 dv1 dv2 dv3 dv4 zv0 zv1 zv2 (([(0 : Int32), (own_blk ((own_cs dv0 dv1 dv2 dv3 dv4).getD 0 0) zv0 (0 : Int32)), (own_blk ((own_cs dv0 dv1 dv2 dv3 dv4).getD 1 0) zv1 (own_blk ((own_cs dv0 dv1 dv2 dv3 dv4).getD 0 0) zv0 (0 : Int32)))].getD dv0.toNatClampNeg 0) + (([(0 : Int32), (0 : Int32), (0 : Int32)].getD dv0.toNatClampNeg 0) / ([zv0, zv1, zv2].getD dv0.toNatClampNeg 0))) (([(0 : Int32), (own_blk ((own_cs dv0 dv1 dv2 dv3 dv4).getD 0 0) zv0 (0 : Int32)), (own_blk ((own_cs dv0 dv1 dv2 dv3 dv4).getD 1 0) zv1 (own_blk ((own_cs dv0 dv1 dv2 dv3 dv4).getD 0 0) zv0 (0 : Int32)))].getD dv1.toNatClampNeg 0) + (((own_inc [(0 : Int32), (0 : Int32), (0 : Int32)] dv0).getD dv1.toNatClampNeg 0) / ([zv0, zv1, zv2].getD dv1.toNatClampNeg 0))) (([(0 : Int32), (own_blk ((own_cs dv0 dv1 dv2 dv3 dv4).getD 0 0) zv0 (0 : Int32)), (own_blk ((own_cs dv0 dv1 dv2 dv3 dv4).getD 1 0) zv1 (own_blk ((own_cs dv0 dv1 dv2 dv3 dv4).getD 0 0) zv0 (0 : Int32)))].getD dv2.toNatClampNeg 0) + (((own_inc (own_inc [(0 : Int32), (0 : Int32), (0 : Int32)] dv0) dv1).getD dv2.toNatClampNeg 0) / ([zv0, zv1, zv2].getD dv2.toNatClampNeg 0))) (([(0 : Int32), (own_blk ((own_cs dv0 dv1 dv2 dv3 dv4).getD 0 0) zv0 (0 : Int32)), (own_blk ((own_cs dv0 dv1 dv2 dv3 dv4).getD 1 0) zv1 (own_blk ((own_cs dv0 dv1 dv2 dv3 dv4).getD 0 0) zv0 (0 : Int32)))].getD dv3.toNatClampNeg 0) + (((own_inc (own_inc (own_inc [(0 : Int32), (0 : Int32), (0 : Int32)] dv0) dv1) dv2).getD dv3.toNatClampNeg 0) / ([zv0, zv1, zv2].getD dv3.toNatClampNeg 0))) (([(0 : Int32), (own_blk ((own_cs dv0 dv1 dv2 dv3 dv4).getD 0 0) zv0 (0 : Int32)), (own_blk ((own_cs dv0 dv1 dv2 dv3 dv4).getD 1 0) zv1 (own_blk ((own_cs dv0 dv1 dv2 dv3 dv4).getD 0 0) zv0 (0 : Int32)))].getD dv4.toNatClampNeg 0) + (((own_inc (own_inc (own_inc (own_inc [(0 : Int32), (0 : Int32), (0 : Int32)] dv0) dv1) dv2) dv3).getD dv4.toNatClampNeg 0) / ([zv0, zv1, zv2].getD dv4.toNatClampNeg 0))) (0 : Int32) bk0 (bk0 + bk1) h108 n0 (Nat.le_trans Z0 K108.1) c112 c110 c113 c109 (hx0 : own_3 dv0) (own_nz1 hz0 : zv0 ≠ 0) (own_nz1 hz1 : zv1 ≠ 0) (own_nz1 hz2 : zv2 ≠ 0) (own_main0 hx0 hx1 hx2 hx3 hx4 hz0 hz1 hd_bk0 hd_bk1 : (([(0 : Int32), (own_blk ((own_cs dv0 dv1 dv2 dv3 dv4).getD 0 0) zv0 (0 : Int32)), (own_blk ((own_cs dv0 dv1 dv2 dv3 dv4).getD 1 0) zv1 (own_blk ((own_cs dv0 dv1 dv2 dv3 dv4).getD 0 0) zv0 (0 : Int32)))].getD dv0.toNatClampNeg 0) + (([(0 : Int32), (0 : Int32), (0 : Int32)].getD dv0.toNatClampNeg 0) / ([zv0, zv1, zv2].getD dv0.toNatClampNeg 0))) = (([(0 : Int32), bk0, (bk0 + bk1)].getD dv0.toNatClampNeg 0) + ((0 : Int32) / ([zv0, zv1, zv2].getD dv0.toNatClampNeg 0))))) hZ (hw _ (List.mem_of_getElem? (i := 19) rfl)) (hw _ (List.mem_of_getElem? (i := 12) rfl)) (by decide) (by decide)) (g := (mkF m 228 #[.val (.int p1), .val (.int p2), .val (.int p3), .val (.int p4), .val (.int xx), .val (.int dv0), .val (.int dv1), .val (.int dv2), .val (.int dv3), .val (.int dv4), .val (.ref b7), .val (.int zv0), .val (.int zv1), .val (.int zv2), .val (.ref b30), .val (.ref bx46_rb), .val (.ref b52), .val (.int bk0), .val (.int bk1), .val (.ref b84)] [(.int (0 : Int32)), (.ref b84), (.ref b52), (.ref b7), (.ref bx46_rb)])) rfl (by rw [hml]; rfl) (argsL := [(.ref bx46_rb), (.ref b7), (.ref b52), (.ref b84), (.int (0 : Int32))]) (rest := []) (lenOf pd_0_3 rfl) rfl (by show 2 * 0 + _ ≤ _; exact Nat.le_of_eq rfl) (hb hby at_228) (fun _ _ => ⟨rfl, e108, (by decide : 8 + 0 ≤ _), (by decide : 28 + 0 ≤ _)⟩)
  dsimp only [Pt.U, Pt.locs, Pt.cells, Pt.slots] at X115 l115 y115 z115 st115 hQ115
  subst y115 z115
  obtain ⟨rfl, N115q, e115⟩ := hQ115
  have N115 : Fr n0 L115 := by rw [l115]; exact Fr.app N108 N115q
  refine own_step st115 ?_
  show own_G p.tables e below _ (T115.setTop (mkF m 231 #[.val (.int p1), .val (.int p2), .val (.int p3), .val (.int p4), .val (.int xx), .val (.int dv0), .val (.int dv1), .val (.int dv2), .val (.int dv3), .val (.int dv4), .val (.ref b7), .val (.int zv0), .val (.int zv1), .val (.int zv2), .val (.ref b30), .val (.ref bx46_rb), .val (.ref b52), .val (.int bk0), .val (.int bk1), .val (.ref b84)] [(.int (1 : Int32))]))
  have hk116 : ¬ ((1 : Int32) = (0 : Int32)) := (by decide)
  refine own_step (fun t k => XS.ifNo X115.here hx rfl (hb hby at_231) rfl ((if0 _ _).trans (feq hk116).1) k) ?_
  show own_G p.tables e below _ (T115.setTop (mkF m 234 #[.val (.int p1), .val (.int p2), .val (.int p3), .val (.int p4), .val (.int xx), .val (.int dv0), .val (.int dv1), .val (.int dv2), .val (.int dv3), .val (.int dv4), .val (.ref b7), .val (.int zv0), .val (.int zv1), .val (.int zv2), .val (.ref b30), .val (.ref bx46_rb), .val (.ref b52), .val (.int bk0), .val (.int bk1), .val (.ref b84)] []))
  refine own_step (fun t k => XS.aload X115.here hx rfl (hb hby at_234) rfl rfl k) ?_
  show own_G p.tables e below _ (T115.setTop (mkF m 236 #[.val (.int p1), .val (.int p2), .val (.int p3), .val (.int p4), .val (.int xx), .val (.int dv0), .val (.int dv1), .val (.int dv2), .val (.int dv3), .val (.int dv4), .val (.ref b7), .val (.int zv0), .val (.int zv1), .val (.int zv2), .val (.ref b30), .val (.ref bx46_rb), .val (.ref b52), .val (.int bk0), .val (.int bk1), .val (.ref b84)] [(.ref bx46_rb)]))
  refine own_step (fun t k => XS.aload X115.here hx rfl (hb hby at_236) rfl rfl k) ?_
  show own_G p.tables e below _ (T115.setTop (mkF m 238 #[.val (.int p1), .val (.int p2), .val (.int p3), .val (.int p4), .val (.int xx), .val (.int dv0), .val (.int dv1), .val (.int dv2), .val (.int dv3), .val (.int dv4), .val (.ref b7), .val (.int zv0), .val (.int zv1), .val (.int zv2), .val (.ref b30), .val (.ref bx46_rb), .val (.ref b52), .val (.int bk0), .val (.int bk1), .val (.ref b84)] [(.ref b7), (.ref bx46_rb)]))
  refine own_step (fun t k => XS.aload X115.here hx rfl (hb hby at_238) rfl rfl k) ?_
  show own_G p.tables e below _ (T115.setTop (mkF m 240 #[.val (.int p1), .val (.int p2), .val (.int p3), .val (.int p4), .val (.int xx), .val (.int dv0), .val (.int dv1), .val (.int dv2), .val (.int dv3), .val (.int dv4), .val (.ref b7), .val (.int zv0), .val (.int zv1), .val (.int zv2), .val (.ref b30), .val (.ref bx46_rb), .val (.ref b52), .val (.int bk0), .val (.int bk1), .val (.ref b84)] [(.ref b52), (.ref b7), (.ref bx46_rb)]))
  refine own_step (fun t k => XS.aload X115.here hx rfl (hb hby at_240) rfl rfl k) ?_
  show own_G p.tables e below _ (T115.setTop (mkF m 242 #[.val (.int p1), .val (.int p2), .val (.int p3), .val (.int p4), .val (.int xx), .val (.int dv0), .val (.int dv1), .val (.int dv2), .val (.int dv3), .val (.int dv4), .val (.ref b7), .val (.int zv0), .val (.int zv1), .val (.int zv2), .val (.ref b30), .val (.ref bx46_rb), .val (.ref b52), .val (.int bk0), .val (.int bk1), .val (.ref b84)] [(.ref b84), (.ref b52), (.ref b7), (.ref bx46_rb)]))
  refine own_step (fun t k => XS.iconst X115.here hx rfl (hb hby at_242) k) ?_
  show own_G p.tables e below _ (T115.setTop (mkF m 243 #[.val (.int p1), .val (.int p2), .val (.int p3), .val (.int p4), .val (.int xx), .val (.int dv0), .val (.int dv1), .val (.int dv2), .val (.int dv3), .val (.int dv4), .val (.ref b7), .val (.int zv0), .val (.int zv1), .val (.int zv2), .val (.ref b30), .val (.ref bx46_rb), .val (.ref b52), .val (.int bk0), .val (.int bk1), .val (.ref b84)] [(.int (1 : Int32)), (.ref b84), (.ref b52), (.ref b7), (.ref bx46_rb)]))
  obtain ⟨_, _, ⟨T117, L117, k117, n117⟩, -, X117, ⟨Lc117, hQ117, l117, y117, z117⟩, st117⟩ := Jvm.LawKit.callS X115 hx (y := (⟨"com/example/stevedore/stevedore/MoveGraphCopiesPinLaw", "ok", "([I[I[I[II)Z"⟩ : MethodName)) hown (mvT hZ (hw _ (List.mem_of_getElem? (i := 17) rfl))) (mvT hZ (hw _ (List.mem_of_getElem? (i := 18) rfl))) (mvT hZ (hw _ (List.mem_of_getElem? (i := 12) rfl))) (mvT hZ (hw _ (List.mem_of_getElem? (i := 19) rfl))) (by decide) (backOf (W := 0) (rm5_m1 l Z a0 hw [] bx46_rb b7 b52 b84 dv0 dv1 dv2 dv3 dv4 zv0 zv1 zv2 (([(0 : Int32), (own_blk ((own_cs dv0 dv1 dv2 dv3 dv4).getD 0 0) zv0 (0 : Int32)), (own_blk ((own_cs dv0 dv1 dv2 dv3 dv4).getD 1 0) zv1 (own_blk ((own_cs dv0 dv1 dv2 dv3 dv4).getD 0 0) zv0 (0 : Int32)))].getD dv0.toNatClampNeg 0) + (([(0 : Int32), (0 : Int32), (0 : Int32)].getD dv0.toNatClampNeg 0) / ([zv0, zv1, zv2].getD dv0.toNatClampNeg 0))) (([(0 : Int32), (own_blk ((own_cs dv0 dv1 dv2 dv3 dv4).getD 0 0) zv0 (0 : Int32)), (own_blk ((own_cs dv0 dv1 dv2 dv3 dv4).getD 1 0) zv1 (own_blk ((own_cs dv0 dv1 dv2 dv3 dv4).getD 0 0) zv0 (0 : Int32)))].getD dv1.toNatClampNeg 0) + (((own_inc [(0 : Int32), (0 : Int32), (0 : Int32)] dv0).getD dv1.toNatClampNeg 0) / ([zv0, zv1, zv2].getD dv1.toNatClampNeg 0))) (([(0 : Int32), (own_blk ((own_cs dv0 dv1 dv2 dv3 dv4).getD 0 0) zv0 (0 : Int32)), (own_blk ((own_cs dv0 dv1 dv2 dv3 dv4).getD 1 0) zv1 (own_blk ((own_cs dv0 dv1 dv2 dv3 dv4).getD 0 0) zv0 (0 : Int32)))].getD dv2.toNatClampNeg 0) + (((own_inc (own_inc [(0 : Int32), (0 : Int32), (0 : Int32)] dv0) dv1).getD dv2.toNatClampNeg 0) / ([zv0, zv1, zv2].getD dv2.toNatClampNeg 0))) (([(0 : Int32), (own_blk ((own_cs dv0 dv1 dv2 dv3 dv4).getD 0 0) zv0 (0 : Int32)), (own_blk ((own_cs dv0 dv1 dv2 dv3 dv4).getD 1 0) zv1 (own_blk ((own_cs dv0 dv1 dv2 dv3 dv4).getD 0 0) zv0 (0 : Int32)))].getD dv3.toNatClampNeg 0) + (((own_inc (own_inc (own_inc [(0 : Int32), (0 : Int32), (0 : Int32)] dv0) dv1) dv2).getD dv3.toNatClampNeg 0) / ([zv0, zv1, zv2].getD dv3.toNatClampNeg 0))) (([(0 : Int32), (own_blk ((own_cs dv0 dv1 dv2 dv3 dv4).getD 0 0) zv0 (0 : Int32)), (own_blk ((own_cs dv0 dv1 dv2 dv3 dv4).getD 1 0) zv1 (own_blk ((own_cs dv0 dv1 dv2 dv3 dv4).getD 0 0) zv0 (0 : Int32)))].getD dv4.toNatClampNeg 0) + (((own_inc (own_inc (own_inc (own_inc [(0 : Int32), (0 : Int32), (0 : Int32)] dv0) dv1) dv2) dv3).getD dv4.toNatClampNeg 0) / ([zv0, zv1, zv2].getD dv4.toNatClampNeg 0))) (0 : Int32) bk0 (bk0 + bk1) h108 n0 (Nat.le_trans Z0 K108.1) c112 c110 c113 c109 (hx1 : own_3 dv1) (own_nz1 hz0 : zv0 ≠ 0) (own_nz1 hz1 : zv1 ≠ 0) (own_nz1 hz2 : zv2 ≠ 0) (own_main1 hx0 hx1 hx2 hx3 hx4 hz0 hz1 hd_bk0 hd_bk1 : (([(0 : Int32), (own_blk ((own_cs dv0 dv1 dv2 dv3 dv4).getD 0 0) zv0 (0 : Int32)), (own_blk ((own_cs dv0 dv1 dv2 dv3 dv4).getD 1 0) zv1 (own_blk ((own_cs dv0 dv1 dv2 dv3 dv4).getD 0 0) zv0 (0 : Int32)))].getD dv1.toNatClampNeg 0) + (((own_inc [(0 : Int32), (0 : Int32), (0 : Int32)] dv0).getD dv1.toNatClampNeg 0) / ([zv0, zv1, zv2].getD dv1.toNatClampNeg 0))) = (([(0 : Int32), bk0, (bk0 + bk1)].getD dv1.toNatClampNeg 0) + ((own_st (0 : Int32) dv0 dv1) / ([zv0, zv1, zv2].getD dv1.toNatClampNeg 0))))) hZ (hw _ (List.mem_of_getElem? (i := 19) rfl)) (hw _ (List.mem_of_getElem? (i := 12) rfl)) (by decide) (by decide)) (g := (mkF m 243 #[.val (.int p1), .val (.int p2), .val (.int p3), .val (.int p4), .val (.int xx), .val (.int dv0), .val (.int dv1), .val (.int dv2), .val (.int dv3), .val (.int dv4), .val (.ref b7), .val (.int zv0), .val (.int zv1), .val (.int zv2), .val (.ref b30), .val (.ref bx46_rb), .val (.ref b52), .val (.int bk0), .val (.int bk1), .val (.ref b84)] [(.int (1 : Int32)), (.ref b84), (.ref b52), (.ref b7), (.ref bx46_rb)])) rfl (by rw [hml]; rfl) (argsL := [(.ref bx46_rb), (.ref b7), (.ref b52), (.ref b84), (.int (1 : Int32))]) (rest := []) (lenOf pd_0_3 rfl) rfl (by show 2 * 0 + _ ≤ _; exact Nat.le_of_eq rfl) (hb hby at_243) (fun _ _ => ⟨rfl, e115, (by decide : 8 + 0 ≤ _), (by decide : 28 + 0 ≤ _)⟩)
  dsimp only [Pt.U, Pt.locs, Pt.cells, Pt.slots] at X117 l117 y117 z117 st117 hQ117
  subst y117 z117
  obtain ⟨rfl, N117q, e117⟩ := hQ117
  have N117 : Fr n0 L117 := by rw [l117]; exact Fr.app N115 N117q
  refine own_step st117 ?_
  clear N108 N115 N115q N117q X108 X115 e108 e115 hk116 st115 st117
  show own_G p.tables e below _ (T117.setTop (mkF m 246 #[.val (.int p1), .val (.int p2), .val (.int p3), .val (.int p4), .val (.int xx), .val (.int dv0), .val (.int dv1), .val (.int dv2), .val (.int dv3), .val (.int dv4), .val (.ref b7), .val (.int zv0), .val (.int zv1), .val (.int zv2), .val (.ref b30), .val (.ref bx46_rb), .val (.ref b52), .val (.int bk0), .val (.int bk1), .val (.ref b84)] [(.int (1 : Int32))]))
  have hk118 : ¬ ((1 : Int32) = (0 : Int32)) := (by decide)
  refine own_step (fun t k => XS.ifNo X117.here hx rfl (hb hby at_246) rfl ((if0 _ _).trans (feq hk118).1) k) ?_
  show own_G p.tables e below _ (T117.setTop (mkF m 249 #[.val (.int p1), .val (.int p2), .val (.int p3), .val (.int p4), .val (.int xx), .val (.int dv0), .val (.int dv1), .val (.int dv2), .val (.int dv3), .val (.int dv4), .val (.ref b7), .val (.int zv0), .val (.int zv1), .val (.int zv2), .val (.ref b30), .val (.ref bx46_rb), .val (.ref b52), .val (.int bk0), .val (.int bk1), .val (.ref b84)] []))
  refine own_step (fun t k => XS.aload X117.here hx rfl (hb hby at_249) rfl rfl k) ?_
  show own_G p.tables e below _ (T117.setTop (mkF m 251 #[.val (.int p1), .val (.int p2), .val (.int p3), .val (.int p4), .val (.int xx), .val (.int dv0), .val (.int dv1), .val (.int dv2), .val (.int dv3), .val (.int dv4), .val (.ref b7), .val (.int zv0), .val (.int zv1), .val (.int zv2), .val (.ref b30), .val (.ref bx46_rb), .val (.ref b52), .val (.int bk0), .val (.int bk1), .val (.ref b84)] [(.ref bx46_rb)]))
  refine own_step (fun t k => XS.aload X117.here hx rfl (hb hby at_251) rfl rfl k) ?_
  show own_G p.tables e below _ (T117.setTop (mkF m 253 #[.val (.int p1), .val (.int p2), .val (.int p3), .val (.int p4), .val (.int xx), .val (.int dv0), .val (.int dv1), .val (.int dv2), .val (.int dv3), .val (.int dv4), .val (.ref b7), .val (.int zv0), .val (.int zv1), .val (.int zv2), .val (.ref b30), .val (.ref bx46_rb), .val (.ref b52), .val (.int bk0), .val (.int bk1), .val (.ref b84)] [(.ref b7), (.ref bx46_rb)]))
  refine own_step (fun t k => XS.aload X117.here hx rfl (hb hby at_253) rfl rfl k) ?_
  show own_G p.tables e below _ (T117.setTop (mkF m 255 #[.val (.int p1), .val (.int p2), .val (.int p3), .val (.int p4), .val (.int xx), .val (.int dv0), .val (.int dv1), .val (.int dv2), .val (.int dv3), .val (.int dv4), .val (.ref b7), .val (.int zv0), .val (.int zv1), .val (.int zv2), .val (.ref b30), .val (.ref bx46_rb), .val (.ref b52), .val (.int bk0), .val (.int bk1), .val (.ref b84)] [(.ref b52), (.ref b7), (.ref bx46_rb)]))
  refine own_step (fun t k => XS.aload X117.here hx rfl (hb hby at_255) rfl rfl k) ?_
  show own_G p.tables e below _ (T117.setTop (mkF m 257 #[.val (.int p1), .val (.int p2), .val (.int p3), .val (.int p4), .val (.int xx), .val (.int dv0), .val (.int dv1), .val (.int dv2), .val (.int dv3), .val (.int dv4), .val (.ref b7), .val (.int zv0), .val (.int zv1), .val (.int zv2), .val (.ref b30), .val (.ref bx46_rb), .val (.ref b52), .val (.int bk0), .val (.int bk1), .val (.ref b84)] [(.ref b84), (.ref b52), (.ref b7), (.ref bx46_rb)]))
  refine own_step (fun t k => XS.iconst X117.here hx rfl (hb hby at_257) k) ?_
  show own_G p.tables e below _ (T117.setTop (mkF m 258 #[.val (.int p1), .val (.int p2), .val (.int p3), .val (.int p4), .val (.int xx), .val (.int dv0), .val (.int dv1), .val (.int dv2), .val (.int dv3), .val (.int dv4), .val (.ref b7), .val (.int zv0), .val (.int zv1), .val (.int zv2), .val (.ref b30), .val (.ref bx46_rb), .val (.ref b52), .val (.int bk0), .val (.int bk1), .val (.ref b84)] [(.int (2 : Int32)), (.ref b84), (.ref b52), (.ref b7), (.ref bx46_rb)]))
  obtain ⟨_, _, ⟨T119, L119, k119, n119⟩, -, X119, ⟨Lc119, hQ119, l119, y119, z119⟩, st119⟩ := Jvm.LawKit.callS X117 hx (y := (⟨"com/example/stevedore/stevedore/MoveGraphCopiesPinLaw", "ok", "([I[I[I[II)Z"⟩ : MethodName)) hown (mvT hZ (hw _ (List.mem_of_getElem? (i := 17) rfl))) (mvT hZ (hw _ (List.mem_of_getElem? (i := 18) rfl))) (mvT hZ (hw _ (List.mem_of_getElem? (i := 12) rfl))) (mvT hZ (hw _ (List.mem_of_getElem? (i := 19) rfl))) (by decide) (backOf (W := 0) (rm5_m2 l Z a0 hw [] bx46_rb b7 b52 b84 dv0 dv1 dv2 dv3 dv4 zv0 zv1 zv2 (([(0 : Int32), (own_blk ((own_cs dv0 dv1 dv2 dv3 dv4).getD 0 0) zv0 (0 : Int32)), (own_blk ((own_cs dv0 dv1 dv2 dv3 dv4).getD 1 0) zv1 (own_blk ((own_cs dv0 dv1 dv2 dv3 dv4).getD 0 0) zv0 (0 : Int32)))].getD dv0.toNatClampNeg 0) + (([(0 : Int32), (0 : Int32), (0 : Int32)].getD dv0.toNatClampNeg 0) / ([zv0, zv1, zv2].getD dv0.toNatClampNeg 0))) (([(0 : Int32), (own_blk ((own_cs dv0 dv1 dv2 dv3 dv4).getD 0 0) zv0 (0 : Int32)), (own_blk ((own_cs dv0 dv1 dv2 dv3 dv4).getD 1 0) zv1 (own_blk ((own_cs dv0 dv1 dv2 dv3 dv4).getD 0 0) zv0 (0 : Int32)))].getD dv1.toNatClampNeg 0) + (((own_inc [(0 : Int32), (0 : Int32), (0 : Int32)] dv0).getD dv1.toNatClampNeg 0) / ([zv0, zv1, zv2].getD dv1.toNatClampNeg 0))) (([(0 : Int32), (own_blk ((own_cs dv0 dv1 dv2 dv3 dv4).getD 0 0) zv0 (0 : Int32)), (own_blk ((own_cs dv0 dv1 dv2 dv3 dv4).getD 1 0) zv1 (own_blk ((own_cs dv0 dv1 dv2 dv3 dv4).getD 0 0) zv0 (0 : Int32)))].getD dv2.toNatClampNeg 0) + (((own_inc (own_inc [(0 : Int32), (0 : Int32), (0 : Int32)] dv0) dv1).getD dv2.toNatClampNeg 0) / ([zv0, zv1, zv2].getD dv2.toNatClampNeg 0))) (([(0 : Int32), (own_blk ((own_cs dv0 dv1 dv2 dv3 dv4).getD 0 0) zv0 (0 : Int32)), (own_blk ((own_cs dv0 dv1 dv2 dv3 dv4).getD 1 0) zv1 (own_blk ((own_cs dv0 dv1 dv2 dv3 dv4).getD 0 0) zv0 (0 : Int32)))].getD dv3.toNatClampNeg 0) + (((own_inc (own_inc (own_inc [(0 : Int32), (0 : Int32), (0 : Int32)] dv0) dv1) dv2).getD dv3.toNatClampNeg 0) / ([zv0, zv1, zv2].getD dv3.toNatClampNeg 0))) (([(0 : Int32), (own_blk ((own_cs dv0 dv1 dv2 dv3 dv4).getD 0 0) zv0 (0 : Int32)), (own_blk ((own_cs dv0 dv1 dv2 dv3 dv4).getD 1 0) zv1 (own_blk ((own_cs dv0 dv1 dv2 dv3 dv4).getD 0 0) zv0 (0 : Int32)))].getD dv4.toNatClampNeg 0) + (((own_inc (own_inc (own_inc (own_inc [(0 : Int32), (0 : Int32), (0 : Int32)] dv0) dv1) dv2) dv3).getD dv4.toNatClampNeg 0) / ([zv0, zv1, zv2].getD dv4.toNatClampNeg 0))) (0 : Int32) bk0 (bk0 + bk1) h108 n0 (Nat.le_trans Z0 K108.1) c112 c110 c113 c109 (hx2 : own_3 dv2) (own_nz1 hz0 : zv0 ≠ 0) (own_nz1 hz1 : zv1 ≠ 0) (own_nz1 hz2 : zv2 ≠ 0) (own_main2 hx0 hx1 hx2 hx3 hx4 hz0 hz1 hd_bk0 hd_bk1 : (([(0 : Int32), (own_blk ((own_cs dv0 dv1 dv2 dv3 dv4).getD 0 0) zv0 (0 : Int32)), (own_blk ((own_cs dv0 dv1 dv2 dv3 dv4).getD 1 0) zv1 (own_blk ((own_cs dv0 dv1 dv2 dv3 dv4).getD 0 0) zv0 (0 : Int32)))].getD dv2.toNatClampNeg 0) + (((own_inc (own_inc [(0 : Int32), (0 : Int32), (0 : Int32)] dv0) dv1).getD dv2.toNatClampNeg 0) / ([zv0, zv1, zv2].getD dv2.toNatClampNeg 0))) = (([(0 : Int32), bk0, (bk0 + bk1)].getD dv2.toNatClampNeg 0) + ((own_st (own_st (0 : Int32) dv0 dv2) dv1 dv2) / ([zv0, zv1, zv2].getD dv2.toNatClampNeg 0))))) hZ (hw _ (List.mem_of_getElem? (i := 19) rfl)) (hw _ (List.mem_of_getElem? (i := 12) rfl)) (by decide) (by decide)) (g := (mkF m 258 #[.val (.int p1), .val (.int p2), .val (.int p3), .val (.int p4), .val (.int xx), .val (.int dv0), .val (.int dv1), .val (.int dv2), .val (.int dv3), .val (.int dv4), .val (.ref b7), .val (.int zv0), .val (.int zv1), .val (.int zv2), .val (.ref b30), .val (.ref bx46_rb), .val (.ref b52), .val (.int bk0), .val (.int bk1), .val (.ref b84)] [(.int (2 : Int32)), (.ref b84), (.ref b52), (.ref b7), (.ref bx46_rb)])) rfl (by rw [hml]; rfl) (argsL := [(.ref bx46_rb), (.ref b7), (.ref b52), (.ref b84), (.int (2 : Int32))]) (rest := []) (lenOf pd_0_3 rfl) rfl (by show 2 * 0 + _ ≤ _; exact Nat.le_of_eq rfl) (hb hby at_258) (fun _ _ => ⟨rfl, e117, (by decide : 8 + 0 ≤ _), (by decide : 28 + 0 ≤ _)⟩)
  dsimp only [Pt.U, Pt.locs, Pt.cells, Pt.slots] at X119 l119 y119 z119 st119 hQ119
  subst y119 z119
  obtain ⟨rfl, N119q, e119⟩ := hQ119
  have N119 : Fr n0 L119 := by rw [l119]; exact Fr.app N117 N119q
  refine own_step st119 ?_
  show own_G p.tables e below _ (T119.setTop (mkF m 261 #[.val (.int p1), .val (.int p2), .val (.int p3), .val (.int p4), .val (.int xx), .val (.int dv0), .val (.int dv1), .val (.int dv2), .val (.int dv3), .val (.int dv4), .val (.ref b7), .val (.int zv0), .val (.int zv1), .val (.int zv2), .val (.ref b30), .val (.ref bx46_rb), .val (.ref b52), .val (.int bk0), .val (.int bk1), .val (.ref b84)] [(.int (1 : Int32))]))
  have hk120 : ¬ ((1 : Int32) = (0 : Int32)) := (by decide)
  refine own_step (fun t k => XS.ifNo X119.here hx rfl (hb hby at_261) rfl ((if0 _ _).trans (feq hk120).1) k) ?_
  show own_G p.tables e below _ (T119.setTop (mkF m 264 #[.val (.int p1), .val (.int p2), .val (.int p3), .val (.int p4), .val (.int xx), .val (.int dv0), .val (.int dv1), .val (.int dv2), .val (.int dv3), .val (.int dv4), .val (.ref b7), .val (.int zv0), .val (.int zv1), .val (.int zv2), .val (.ref b30), .val (.ref bx46_rb), .val (.ref b52), .val (.int bk0), .val (.int bk1), .val (.ref b84)] []))
  refine own_step (fun t k => XS.aload X119.here hx rfl (hb hby at_264) rfl rfl k) ?_
  show own_G p.tables e below _ (T119.setTop (mkF m 266 #[.val (.int p1), .val (.int p2), .val (.int p3), .val (.int p4), .val (.int xx), .val (.int dv0), .val (.int dv1), .val (.int dv2), .val (.int dv3), .val (.int dv4), .val (.ref b7), .val (.int zv0), .val (.int zv1), .val (.int zv2), .val (.ref b30), .val (.ref bx46_rb), .val (.ref b52), .val (.int bk0), .val (.int bk1), .val (.ref b84)] [(.ref bx46_rb)]))
  refine own_step (fun t k => XS.aload X119.here hx rfl (hb hby at_266) rfl rfl k) ?_
  show own_G p.tables e below _ (T119.setTop (mkF m 268 #[.val (.int p1), .val (.int p2), .val (.int p3), .val (.int p4), .val (.int xx), .val (.int dv0), .val (.int dv1), .val (.int dv2), .val (.int dv3), .val (.int dv4), .val (.ref b7), .val (.int zv0), .val (.int zv1), .val (.int zv2), .val (.ref b30), .val (.ref bx46_rb), .val (.ref b52), .val (.int bk0), .val (.int bk1), .val (.ref b84)] [(.ref b7), (.ref bx46_rb)]))
  refine own_step (fun t k => XS.aload X119.here hx rfl (hb hby at_268) rfl rfl k) ?_
  show own_G p.tables e below _ (T119.setTop (mkF m 270 #[.val (.int p1), .val (.int p2), .val (.int p3), .val (.int p4), .val (.int xx), .val (.int dv0), .val (.int dv1), .val (.int dv2), .val (.int dv3), .val (.int dv4), .val (.ref b7), .val (.int zv0), .val (.int zv1), .val (.int zv2), .val (.ref b30), .val (.ref bx46_rb), .val (.ref b52), .val (.int bk0), .val (.int bk1), .val (.ref b84)] [(.ref b52), (.ref b7), (.ref bx46_rb)]))
  refine own_step (fun t k => XS.aload X119.here hx rfl (hb hby at_270) rfl rfl k) ?_
  show own_G p.tables e below _ (T119.setTop (mkF m 272 #[.val (.int p1), .val (.int p2), .val (.int p3), .val (.int p4), .val (.int xx), .val (.int dv0), .val (.int dv1), .val (.int dv2), .val (.int dv3), .val (.int dv4), .val (.ref b7), .val (.int zv0), .val (.int zv1), .val (.int zv2), .val (.ref b30), .val (.ref bx46_rb), .val (.ref b52), .val (.int bk0), .val (.int bk1), .val (.ref b84)] [(.ref b84), (.ref b52), (.ref b7), (.ref bx46_rb)]))
  refine own_step (fun t k => XS.iconst X119.here hx rfl (hb hby at_272) k) ?_
  show own_G p.tables e below _ (T119.setTop (mkF m 273 #[.val (.int p1), .val (.int p2), .val (.int p3), .val (.int p4), .val (.int xx), .val (.int dv0), .val (.int dv1), .val (.int dv2), .val (.int dv3), .val (.int dv4), .val (.ref b7), .val (.int zv0), .val (.int zv1), .val (.int zv2), .val (.ref b30), .val (.ref bx46_rb), .val (.ref b52), .val (.int bk0), .val (.int bk1), .val (.ref b84)] [(.int (3 : Int32)), (.ref b84), (.ref b52), (.ref b7), (.ref bx46_rb)]))
  obtain ⟨_, _, ⟨T121, L121, k121, n121⟩, -, X121, ⟨Lc121, hQ121, l121, y121, z121⟩, st121⟩ := Jvm.LawKit.callS X119 hx (y := (⟨"com/example/stevedore/stevedore/MoveGraphCopiesPinLaw", "ok", "([I[I[I[II)Z"⟩ : MethodName)) hown (mvT hZ (hw _ (List.mem_of_getElem? (i := 17) rfl))) (mvT hZ (hw _ (List.mem_of_getElem? (i := 18) rfl))) (mvT hZ (hw _ (List.mem_of_getElem? (i := 12) rfl))) (mvT hZ (hw _ (List.mem_of_getElem? (i := 19) rfl))) (by decide) (backOf (W := 0) (rm5_m3 l Z a0 hw [] bx46_rb b7 b52 b84 dv0 dv1 dv2 dv3 dv4 zv0 zv1 zv2 (([(0 : Int32), (own_blk ((own_cs dv0 dv1 dv2 dv3 dv4).getD 0 0) zv0 (0 : Int32)), (own_blk ((own_cs dv0 dv1 dv2 dv3 dv4).getD 1 0) zv1 (own_blk ((own_cs dv0 dv1 dv2 dv3 dv4).getD 0 0) zv0 (0 : Int32)))].getD dv0.toNatClampNeg 0) + (([(0 : Int32), (0 : Int32), (0 : Int32)].getD dv0.toNatClampNeg 0) / ([zv0, zv1, zv2].getD dv0.toNatClampNeg 0))) (([(0 : Int32), (own_blk ((own_cs dv0 dv1 dv2 dv3 dv4).getD 0 0) zv0 (0 : Int32)), (own_blk ((own_cs dv0 dv1 dv2 dv3 dv4).getD 1 0) zv1 (own_blk ((own_cs dv0 dv1 dv2 dv3 dv4).getD 0 0) zv0 (0 : Int32)))].getD dv1.toNatClampNeg 0) + (((own_inc [(0 : Int32), (0 : Int32), (0 : Int32)] dv0).getD dv1.toNatClampNeg 0) / ([zv0, zv1, zv2].getD dv1.toNatClampNeg 0))) (([(0 : Int32), (own_blk ((own_cs dv0 dv1 dv2 dv3 dv4).getD 0 0) zv0 (0 : Int32)), (own_blk ((own_cs dv0 dv1 dv2 dv3 dv4).getD 1 0) zv1 (own_blk ((own_cs dv0 dv1 dv2 dv3 dv4).getD 0 0) zv0 (0 : Int32)))].getD dv2.toNatClampNeg 0) + (((own_inc (own_inc [(0 : Int32), (0 : Int32), (0 : Int32)] dv0) dv1).getD dv2.toNatClampNeg 0) / ([zv0, zv1, zv2].getD dv2.toNatClampNeg 0))) (([(0 : Int32), (own_blk ((own_cs dv0 dv1 dv2 dv3 dv4).getD 0 0) zv0 (0 : Int32)), (own_blk ((own_cs dv0 dv1 dv2 dv3 dv4).getD 1 0) zv1 (own_blk ((own_cs dv0 dv1 dv2 dv3 dv4).getD 0 0) zv0 (0 : Int32)))].getD dv3.toNatClampNeg 0) + (((own_inc (own_inc (own_inc [(0 : Int32), (0 : Int32), (0 : Int32)] dv0) dv1) dv2).getD dv3.toNatClampNeg 0) / ([zv0, zv1, zv2].getD dv3.toNatClampNeg 0))) (([(0 : Int32), (own_blk ((own_cs dv0 dv1 dv2 dv3 dv4).getD 0 0) zv0 (0 : Int32)), (own_blk ((own_cs dv0 dv1 dv2 dv3 dv4).getD 1 0) zv1 (own_blk ((own_cs dv0 dv1 dv2 dv3 dv4).getD 0 0) zv0 (0 : Int32)))].getD dv4.toNatClampNeg 0) + (((own_inc (own_inc (own_inc (own_inc [(0 : Int32), (0 : Int32), (0 : Int32)] dv0) dv1) dv2) dv3).getD dv4.toNatClampNeg 0) / ([zv0, zv1, zv2].getD dv4.toNatClampNeg 0))) (0 : Int32) bk0 (bk0 + bk1) h108 n0 (Nat.le_trans Z0 K108.1) c112 c110 c113 c109 (hx3 : own_3 dv3) (own_nz1 hz0 : zv0 ≠ 0) (own_nz1 hz1 : zv1 ≠ 0) (own_nz1 hz2 : zv2 ≠ 0) (own_main3 hx0 hx1 hx2 hx3 hx4 hz0 hz1 hd_bk0 hd_bk1 : (([(0 : Int32), (own_blk ((own_cs dv0 dv1 dv2 dv3 dv4).getD 0 0) zv0 (0 : Int32)), (own_blk ((own_cs dv0 dv1 dv2 dv3 dv4).getD 1 0) zv1 (own_blk ((own_cs dv0 dv1 dv2 dv3 dv4).getD 0 0) zv0 (0 : Int32)))].getD dv3.toNatClampNeg 0) + (((own_inc (own_inc (own_inc [(0 : Int32), (0 : Int32), (0 : Int32)] dv0) dv1) dv2).getD dv3.toNatClampNeg 0) / ([zv0, zv1, zv2].getD dv3.toNatClampNeg 0))) = (([(0 : Int32), bk0, (bk0 + bk1)].getD dv3.toNatClampNeg 0) + ((own_st (own_st (own_st (0 : Int32) dv0 dv3) dv1 dv3) dv2 dv3) / ([zv0, zv1, zv2].getD dv3.toNatClampNeg 0))))) hZ (hw _ (List.mem_of_getElem? (i := 19) rfl)) (hw _ (List.mem_of_getElem? (i := 12) rfl)) (by decide) (by decide)) (g := (mkF m 273 #[.val (.int p1), .val (.int p2), .val (.int p3), .val (.int p4), .val (.int xx), .val (.int dv0), .val (.int dv1), .val (.int dv2), .val (.int dv3), .val (.int dv4), .val (.ref b7), .val (.int zv0), .val (.int zv1), .val (.int zv2), .val (.ref b30), .val (.ref bx46_rb), .val (.ref b52), .val (.int bk0), .val (.int bk1), .val (.ref b84)] [(.int (3 : Int32)), (.ref b84), (.ref b52), (.ref b7), (.ref bx46_rb)])) rfl (by rw [hml]; rfl) (argsL := [(.ref bx46_rb), (.ref b7), (.ref b52), (.ref b84), (.int (3 : Int32))]) (rest := []) (lenOf pd_0_3 rfl) rfl (by show 2 * 0 + _ ≤ _; exact Nat.le_of_eq rfl) (hb hby at_273) (fun _ _ => ⟨rfl, e119, (by decide : 8 + 0 ≤ _), (by decide : 28 + 0 ≤ _)⟩)
  dsimp only [Pt.U, Pt.locs, Pt.cells, Pt.slots] at X121 l121 y121 z121 st121 hQ121
  subst y121 z121
  obtain ⟨rfl, N121q, e121⟩ := hQ121
  have N121 : Fr n0 L121 := by rw [l121]; exact Fr.app N119 N121q
  refine own_step st121 ?_
  clear N117 N119 N119q N121q X117 X119 e117 e119 hk118 hk120 st119 st121
  show own_G p.tables e below _ (T121.setTop (mkF m 276 #[.val (.int p1), .val (.int p2), .val (.int p3), .val (.int p4), .val (.int xx), .val (.int dv0), .val (.int dv1), .val (.int dv2), .val (.int dv3), .val (.int dv4), .val (.ref b7), .val (.int zv0), .val (.int zv1), .val (.int zv2), .val (.ref b30), .val (.ref bx46_rb), .val (.ref b52), .val (.int bk0), .val (.int bk1), .val (.ref b84)] [(.int (1 : Int32))]))
  have hk122 : ¬ ((1 : Int32) = (0 : Int32)) := (by decide)
  refine own_step (fun t k => XS.ifNo X121.here hx rfl (hb hby at_276) rfl ((if0 _ _).trans (feq hk122).1) k) ?_
  show own_G p.tables e below _ (T121.setTop (mkF m 279 #[.val (.int p1), .val (.int p2), .val (.int p3), .val (.int p4), .val (.int xx), .val (.int dv0), .val (.int dv1), .val (.int dv2), .val (.int dv3), .val (.int dv4), .val (.ref b7), .val (.int zv0), .val (.int zv1), .val (.int zv2), .val (.ref b30), .val (.ref bx46_rb), .val (.ref b52), .val (.int bk0), .val (.int bk1), .val (.ref b84)] []))
  refine own_step (fun t k => XS.aload X121.here hx rfl (hb hby at_279) rfl rfl k) ?_
  show own_G p.tables e below _ (T121.setTop (mkF m 281 #[.val (.int p1), .val (.int p2), .val (.int p3), .val (.int p4), .val (.int xx), .val (.int dv0), .val (.int dv1), .val (.int dv2), .val (.int dv3), .val (.int dv4), .val (.ref b7), .val (.int zv0), .val (.int zv1), .val (.int zv2), .val (.ref b30), .val (.ref bx46_rb), .val (.ref b52), .val (.int bk0), .val (.int bk1), .val (.ref b84)] [(.ref bx46_rb)]))
  refine own_step (fun t k => XS.aload X121.here hx rfl (hb hby at_281) rfl rfl k) ?_
  show own_G p.tables e below _ (T121.setTop (mkF m 283 #[.val (.int p1), .val (.int p2), .val (.int p3), .val (.int p4), .val (.int xx), .val (.int dv0), .val (.int dv1), .val (.int dv2), .val (.int dv3), .val (.int dv4), .val (.ref b7), .val (.int zv0), .val (.int zv1), .val (.int zv2), .val (.ref b30), .val (.ref bx46_rb), .val (.ref b52), .val (.int bk0), .val (.int bk1), .val (.ref b84)] [(.ref b7), (.ref bx46_rb)]))
  refine own_step (fun t k => XS.aload X121.here hx rfl (hb hby at_283) rfl rfl k) ?_
  show own_G p.tables e below _ (T121.setTop (mkF m 285 #[.val (.int p1), .val (.int p2), .val (.int p3), .val (.int p4), .val (.int xx), .val (.int dv0), .val (.int dv1), .val (.int dv2), .val (.int dv3), .val (.int dv4), .val (.ref b7), .val (.int zv0), .val (.int zv1), .val (.int zv2), .val (.ref b30), .val (.ref bx46_rb), .val (.ref b52), .val (.int bk0), .val (.int bk1), .val (.ref b84)] [(.ref b52), (.ref b7), (.ref bx46_rb)]))
  refine own_step (fun t k => XS.aload X121.here hx rfl (hb hby at_285) rfl rfl k) ?_
  show own_G p.tables e below _ (T121.setTop (mkF m 287 #[.val (.int p1), .val (.int p2), .val (.int p3), .val (.int p4), .val (.int xx), .val (.int dv0), .val (.int dv1), .val (.int dv2), .val (.int dv3), .val (.int dv4), .val (.ref b7), .val (.int zv0), .val (.int zv1), .val (.int zv2), .val (.ref b30), .val (.ref bx46_rb), .val (.ref b52), .val (.int bk0), .val (.int bk1), .val (.ref b84)] [(.ref b84), (.ref b52), (.ref b7), (.ref bx46_rb)]))
  refine own_step (fun t k => XS.iconst X121.here hx rfl (hb hby at_287) k) ?_
  show own_G p.tables e below _ (T121.setTop (mkF m 288 #[.val (.int p1), .val (.int p2), .val (.int p3), .val (.int p4), .val (.int xx), .val (.int dv0), .val (.int dv1), .val (.int dv2), .val (.int dv3), .val (.int dv4), .val (.ref b7), .val (.int zv0), .val (.int zv1), .val (.int zv2), .val (.ref b30), .val (.ref bx46_rb), .val (.ref b52), .val (.int bk0), .val (.int bk1), .val (.ref b84)] [(.int (4 : Int32)), (.ref b84), (.ref b52), (.ref b7), (.ref bx46_rb)]))
  obtain ⟨_, _, ⟨T123, L123, k123, n123⟩, -, X123, ⟨Lc123, hQ123, l123, y123, z123⟩, st123⟩ := Jvm.LawKit.callS X121 hx (y := (⟨"com/example/stevedore/stevedore/MoveGraphCopiesPinLaw", "ok", "([I[I[I[II)Z"⟩ : MethodName)) hown (mvT hZ (hw _ (List.mem_of_getElem? (i := 17) rfl))) (mvT hZ (hw _ (List.mem_of_getElem? (i := 18) rfl))) (mvT hZ (hw _ (List.mem_of_getElem? (i := 12) rfl))) (mvT hZ (hw _ (List.mem_of_getElem? (i := 19) rfl))) (by decide) (backOf (W := 0) (rm5_m4 l Z a0 hw [] bx46_rb b7 b52 b84 dv0 dv1 dv2 dv3 dv4 zv0 zv1 zv2 (([(0 : Int32), (own_blk ((own_cs dv0 dv1 dv2 dv3 dv4).getD 0 0) zv0 (0 : Int32)), (own_blk ((own_cs dv0 dv1 dv2 dv3 dv4).getD 1 0) zv1 (own_blk ((own_cs dv0 dv1 dv2 dv3 dv4).getD 0 0) zv0 (0 : Int32)))].getD dv0.toNatClampNeg 0) + (([(0 : Int32), (0 : Int32), (0 : Int32)].getD dv0.toNatClampNeg 0) / ([zv0, zv1, zv2].getD dv0.toNatClampNeg 0))) (([(0 : Int32), (own_blk ((own_cs dv0 dv1 dv2 dv3 dv4).getD 0 0) zv0 (0 : Int32)), (own_blk ((own_cs dv0 dv1 dv2 dv3 dv4).getD 1 0) zv1 (own_blk ((own_cs dv0 dv1 dv2 dv3 dv4).getD 0 0) zv0 (0 : Int32)))].getD dv1.toNatClampNeg 0) + (((own_inc [(0 : Int32), (0 : Int32), (0 : Int32)] dv0).getD dv1.toNatClampNeg 0) / ([zv0, zv1, zv2].getD dv1.toNatClampNeg 0))) (([(0 : Int32), (own_blk ((own_cs dv0 dv1 dv2 dv3 dv4).getD 0 0) zv0 (0 : Int32)), (own_blk ((own_cs dv0 dv1 dv2 dv3 dv4).getD 1 0) zv1 (own_blk ((own_cs dv0 dv1 dv2 dv3 dv4).getD 0 0) zv0 (0 : Int32)))].getD dv2.toNatClampNeg 0) + (((own_inc (own_inc [(0 : Int32), (0 : Int32), (0 : Int32)] dv0) dv1).getD dv2.toNatClampNeg 0) / ([zv0, zv1, zv2].getD dv2.toNatClampNeg 0))) (([(0 : Int32), (own_blk ((own_cs dv0 dv1 dv2 dv3 dv4).getD 0 0) zv0 (0 : Int32)), (own_blk ((own_cs dv0 dv1 dv2 dv3 dv4).getD 1 0) zv1 (own_blk ((own_cs dv0 dv1 dv2 dv3 dv4).getD 0 0) zv0 (0 : Int32)))].getD dv3.toNatClampNeg 0) + (((own_inc (own_inc (own_inc [(0 : Int32), (0 : Int32), (0 : Int32)] dv0) dv1) dv2).getD dv3.toNatClampNeg 0) / ([zv0, zv1, zv2].getD dv3.toNatClampNeg 0))) (([(0 : Int32), (own_blk ((own_cs dv0 dv1 dv2 dv3 dv4).getD 0 0) zv0 (0 : Int32)), (own_blk ((own_cs dv0 dv1 dv2 dv3 dv4).getD 1 0) zv1 (own_blk ((own_cs dv0 dv1 dv2 dv3 dv4).getD 0 0) zv0 (0 : Int32)))].getD dv4.toNatClampNeg 0) + (((own_inc (own_inc (own_inc (own_inc [(0 : Int32), (0 : Int32), (0 : Int32)] dv0) dv1) dv2) dv3).getD dv4.toNatClampNeg 0) / ([zv0, zv1, zv2].getD dv4.toNatClampNeg 0))) (0 : Int32) bk0 (bk0 + bk1) h108 n0 (Nat.le_trans Z0 K108.1) c112 c110 c113 c109 (hx4 : own_3 dv4) (own_nz1 hz0 : zv0 ≠ 0) (own_nz1 hz1 : zv1 ≠ 0) (own_nz1 hz2 : zv2 ≠ 0) (own_main4 hx0 hx1 hx2 hx3 hx4 hz0 hz1 hd_bk0 hd_bk1 : (([(0 : Int32), (own_blk ((own_cs dv0 dv1 dv2 dv3 dv4).getD 0 0) zv0 (0 : Int32)), (own_blk ((own_cs dv0 dv1 dv2 dv3 dv4).getD 1 0) zv1 (own_blk ((own_cs dv0 dv1 dv2 dv3 dv4).getD 0 0) zv0 (0 : Int32)))].getD dv4.toNatClampNeg 0) + (((own_inc (own_inc (own_inc (own_inc [(0 : Int32), (0 : Int32), (0 : Int32)] dv0) dv1) dv2) dv3).getD dv4.toNatClampNeg 0) / ([zv0, zv1, zv2].getD dv4.toNatClampNeg 0))) = (([(0 : Int32), bk0, (bk0 + bk1)].getD dv4.toNatClampNeg 0) + ((own_st (own_st (own_st (own_st (0 : Int32) dv0 dv4) dv1 dv4) dv2 dv4) dv3 dv4) / ([zv0, zv1, zv2].getD dv4.toNatClampNeg 0))))) hZ (hw _ (List.mem_of_getElem? (i := 19) rfl)) (hw _ (List.mem_of_getElem? (i := 12) rfl)) (by decide) (by decide)) (g := (mkF m 288 #[.val (.int p1), .val (.int p2), .val (.int p3), .val (.int p4), .val (.int xx), .val (.int dv0), .val (.int dv1), .val (.int dv2), .val (.int dv3), .val (.int dv4), .val (.ref b7), .val (.int zv0), .val (.int zv1), .val (.int zv2), .val (.ref b30), .val (.ref bx46_rb), .val (.ref b52), .val (.int bk0), .val (.int bk1), .val (.ref b84)] [(.int (4 : Int32)), (.ref b84), (.ref b52), (.ref b7), (.ref bx46_rb)])) rfl (by rw [hml]; rfl) (argsL := [(.ref bx46_rb), (.ref b7), (.ref b52), (.ref b84), (.int (4 : Int32))]) (rest := []) (lenOf pd_0_3 rfl) rfl (by show 2 * 0 + _ ≤ _; exact Nat.le_of_eq rfl) (hb hby at_288) (fun _ _ => ⟨rfl, e121, (by decide : 8 + 0 ≤ _), (by decide : 28 + 0 ≤ _)⟩)
  dsimp only [Pt.U, Pt.locs, Pt.cells, Pt.slots] at X123 l123 y123 z123 st123 hQ123
  subst y123 z123
  obtain ⟨rfl, N123q, e123⟩ := hQ123
  have N123 : Fr n0 L123 := by rw [l123]; exact Fr.app N121 N123q
  refine own_step st123 ?_
  show own_G p.tables e below _ (T123.setTop (mkF m 291 #[.val (.int p1), .val (.int p2), .val (.int p3), .val (.int p4), .val (.int xx), .val (.int dv0), .val (.int dv1), .val (.int dv2), .val (.int dv3), .val (.int dv4), .val (.ref b7), .val (.int zv0), .val (.int zv1), .val (.int zv2), .val (.ref b30), .val (.ref bx46_rb), .val (.ref b52), .val (.int bk0), .val (.int bk1), .val (.ref b84)] [(.int (1 : Int32))]))
  have hk124 : ¬ ((1 : Int32) = (0 : Int32)) := (by decide)
  refine own_step (fun t k => XS.ifNo X123.here hx rfl (hb hby at_291) rfl ((if0 _ _).trans (feq hk124).1) k) ?_
  show own_G p.tables e below _ (T123.setTop (mkF m 294 #[.val (.int p1), .val (.int p2), .val (.int p3), .val (.int p4), .val (.int xx), .val (.int dv0), .val (.int dv1), .val (.int dv2), .val (.int dv3), .val (.int dv4), .val (.ref b7), .val (.int zv0), .val (.int zv1), .val (.int zv2), .val (.ref b30), .val (.ref bx46_rb), .val (.ref b52), .val (.int bk0), .val (.int bk1), .val (.ref b84)] []))
  refine own_step (fun t k => XS.iconst X123.here hx rfl (hb hby at_294) k) ?_
  show own_G p.tables e below _ (T123.setTop (mkF m 295 #[.val (.int p1), .val (.int p2), .val (.int p3), .val (.int p4), .val (.int xx), .val (.int dv0), .val (.int dv1), .val (.int dv2), .val (.int dv3), .val (.int dv4), .val (.ref b7), .val (.int zv0), .val (.int zv1), .val (.int zv2), .val (.ref b30), .val (.ref bx46_rb), .val (.ref b52), .val (.int bk0), .val (.int bk1), .val (.ref b84)] [(.int (1 : Int32))]))
  refine own_step (fun t k => XS.goto X123.here hx rfl (pc0 := 295) (pc' := 299) rfl (hb hby at_295) (by decide) (by decide) k) ?_
  show own_G p.tables e below _ (T123.setTop (mkF m 299 #[.val (.int p1), .val (.int p2), .val (.int p3), .val (.int p4), .val (.int xx), .val (.int dv0), .val (.int dv1), .val (.int dv2), .val (.int dv3), .val (.int dv4), .val (.ref b7), .val (.int zv0), .val (.int zv1), .val (.int zv2), .val (.ref b30), .val (.ref bx46_rb), .val (.ref b52), .val (.int bk0), .val (.int bk1), .val (.ref b84)] [(.int (1 : Int32))]))
  obtain ⟨fs, hr, hrun, hended, hW, hsame⟩ := X123.leave (v := some (.int (1 : Int32))) (fun h => by rw [Bd.returns] at h; cases h)
  refine own_done (retN X123 hx (t := .boolean) Bd.returns (by simp) (hb hby at_299) hr) hrun hended ⟨_, _, rfl, ?_, ⟨_, rfl⟩, hW, hsame.mono (by decide) (by decide)⟩
  show Q0 Z p1 p2 p3 p4 h0 n0 _ T123.heap _
  rw [e123]
  exact ⟨rfl, N123⟩
set_option maxRecDepth 65536 in
set_option maxHeartbeats 40000000 in
theorem comes_1 {Post : Tables → Env → Array Value → State → Outcome → State → Prop} (hpost : ∀ tb e args s v u, (limb_1_1.after args s (.returned v) u = true ∧ limb_1_2.after args s (.returned v) u = true ∧ True) → FrameEnd s (.returned v) u (Jvm.fieldLocs frame_1_writes args s ++ Jvm.arrayLocs frame_1_arrays args s ++ Jvm.staticLocs frame_1_statics s) 24 128 → Post tb e args s (.returned v) u) :
    ArmFor flags0 classFile x code maxLocals ret World_1 tables_1 room_1 Calls_1 rest_1 Pre_1 Post := by
  intro l hfl _ _ p e ha hc hk s m args below hf hA hF happ hP
  obtain ⟨hcalls, hrest, hpre⟩ := hP
  obtain ⟨-, -, -, hnamed, -, -, -, hat⟩ := (Spec.applies_iff hf).mp happ
  obtain ⟨hg, hn⟩ := and_e (Cond.before_iff.mp (show (Jvm.Cond.and given_1 narrow_1).before args s = true from hpre))
  obtain ⟨g1, g2⟩ := and_e hg
  obtain ⟨g3, g4⟩ := and_e g2
  obtain ⟨g5, g6⟩ := and_e g4
  obtain ⟨g7, g8⟩ := and_e g6
  obtain ⟨w0, w1, w2, w3, rfl⟩ : ∃ w0 w1 w2 w3 : Value, args = #[w0, w1, w2, w3] := by
    have hs : args.size = 4 := by simpa [Cond.value, given_1] using g1
    obtain ⟨L⟩ := args
    match L, hs with
    | [w0, w1, w2, w3], _ => exact ⟨w0, w1, w2, w3, rfl⟩
  have hw := fun d (hd : d ∈ tables_1) => atoms_spec (ws := Jvm.Cond.code x code maxLocals ret :: tables_1) hat d (List.mem_cons_of_mem _ hd)
  obtain ⟨i0, ei0⟩ := is_v g3
  obtain rfl : w0 = (.int i0) := Option.some.inj ei0
  obtain ⟨i1, ei1⟩ := is_v g5
  obtain rfl : w1 = (.int i1) := Option.some.inj ei1
  obtain ⟨i2, ei2⟩ := is_v g7
  obtain rfl : w2 = (.int i2) := Option.some.inj ei2
  obtain ⟨i3, ei3⟩ := is_v g8
  obtain rfl : w3 = (.int i3) := Option.some.inj ei3
  obtain ⟨n, o, h1, h2, h3, _, L, rfl, ⟨rfl, N⟩, hq⟩ := rm0 l s _ hw tables_1 i0 i1 i2 i3 s.heap s.heap.size (Nat.le_refl _)  p e ha hc hk s m _ below hf ((Spec.applies_iff_loose hf).mp happ).1 ⟨rfl, State.Warmed39.refl s, rfl⟩ trivial
  refine ⟨n, _, h1, h2, h3, hpost _ _ _ _ _ _ ⟨Cond.after_iff.mpr rfl, Cond.after_iff.mpr (eq_i res_at (Term.int_eval (1)) rfl), trivial⟩ ⟨hq.1, hq.2.1, (hq.2.2.sift fun y hy => Or.inr (N y hy)).mono (by decide) (by decide)⟩⟩
theorem main_1_1 : Claimed_1_1 := comes_1 fun _ _ _ _ _ _ h hF => ⟨h.1, hF⟩
theorem main_1_2 : Claimed_1_2 := comes_1 fun _ _ _ _ _ _ h hF => ⟨h.2.1, hF⟩
end Jvm.Pilot.@@N@@
namespace Jvm.Pilot.@@N@@
open Jvm Jvm.ClassFile Sem Op Lib Jvm.Free Jvm.Stand Jvm.Pilot.@@N@@.Jvm.D
/-! MADE BY PROGRAM (witnessworld.py) out of the Statement's table words and the real class files: 11 classes; the members and pool entries that the words name. The judged class is class 1, her method 1. -/
namespace start1
open Jvm.ClassFile
def u (s : String) : CpInfo := .utf8 (stringToUtf16 s)
/-- a pool by its gaps: so many unusable entries, then the entry; so many at the end -/
def gap : Nat → List CpInfo → List CpInfo
  | 0, r => r
  | n + 1, r => .unusable :: gap n r
def poolList (es : List (Nat × CpInfo)) (last : Nat) : List CpInfo := es.foldr (fun e r => gap e.1 (e.2 :: r)) (gap last [])
def pool (es : List (Nat × CpInfo)) (last : Nat) : Array CpInfo := ⟨poolList es last⟩
def fileOf (pool : Array CpInfo) (this : Nat) (attrs : Array Attribute := #[]) (ms : Array MethodInfo := #[]) (fl : Nat := 33) (sup : Nat := 0) (ifs : Array Nat := #[]) (fds : Array FieldInfo := #[]) : ClassFile where
  minorVersion := 0
  majorVersion := 65
  constantPool := pool
  accessFlags := fl
  thisClass := this
  superClass := sup
  interfaces := ifs
  fields := fds
  methods := ms
  attributes := attrs
def plain (name : String) (sup : Option ClassId) : Class where
  name := name
  kind := .ordinary
  loader := none
  accessFlags := 33
  super := sup
  interfaces := #[]
  cf := none
  fields := #[]
  methods := #[]
  instanceTypes := #[]
  staticTypes := #[]
  resolved := #[]
  callSites := []
  init := .initialized
  statics := none
  mirror := none

def pool0 : Array CpInfo := pool [(5, u "<init>"), (0, u "()V"), (1, .class_ 10), (1, u "java/lang/Object")] 113

def k0m0 : Method := { name := "<init>", desc := "()V", sig := { parameters := [], returnType := none }, accessFlags := 1, code := none }
/-- java/lang/Object -/
def k0 : Class := { plain "java/lang/Object" none with
  accessFlags := 33
  interfaces := #[]
  cf := some (fileOf pool0 8 #[] #[{ accessFlags := 1, nameIndex := 5, descriptorIndex := 6, attributes := #[] }] 33 0 #[] #[])
  fields := #[]
  methods := #[k0m0]
  instanceTypes := #[]
  staticTypes := #[]
  resolved := Array.replicate 124 none
  statics := none }

def pool1 : Array CpInfo := pool [(2, .class_ 4), (1, u "java/lang/Object"), (0, u "<init>"), (0, u "()V"), (0, .integer 2147483647), (0, .methodref 9 10), (0, .class_ 11), (0, .nameAndType 12 13), (0, u "java/lang/Math"), (0, u "max"), (0, u "(II)I"), (0, .methodref 15 16), (0, .class_ 17), (0, .nameAndType 18 19), (0, u "com/example/stevedore/stevedore/MoveGraph"), (0, u "copies"), (0, u "([I[I)[I"), (0, .methodref 21 22), (0, .class_ 23), (0, .nameAndType 24 25), (0, u "com/example/stevedore/stevedore/MoveGraphCopiesPinLaw"), (0, u "before"), (0, u "([III)I"), (0, .methodref 21 27), (0, .nameAndType 28 13), (0, u "blocks"), (0, .methodref 21 30), (0, .nameAndType 31 32), (0, u "ok"), (0, u "([I[I[I[II)Z"), (2, u "law"), (0, u "(IIII)Z")] 5

def k1m0 : Method := { name := "<init>", desc := "()V", sig := { parameters := [], returnType := none }, accessFlags := 1, code := none }
def k1c1 : Code := { maxStack := 5, maxLocals := 20, code := code, exceptionTable := #[], attributes := #[] }
def k1m1 : Method := { name := "law", desc := "(IIII)Z", sig := { parameters := [.int, .int, .int, .int], returnType := some .boolean }, accessFlags := 9, code := some k1c1 }
def k1c2 : Code := { maxStack := 5, maxLocals := 6, code := method_3_code, exceptionTable := #[], attributes := #[] }
def k1m2 : Method := { name := "ok", desc := "([I[I[I[II)Z", sig := { parameters := [(.array .int), (.array .int), (.array .int), (.array .int), .int], returnType := some .boolean }, accessFlags := 10, code := some k1c2 }
def k1c3 : Code := { maxStack := 3, maxLocals := 2, code := method_4_code, exceptionTable := #[], attributes := #[] }
def k1m3 : Method := { name := "blocks", desc := "(II)I", sig := { parameters := [.int, .int], returnType := some .int }, accessFlags := 10, code := some k1c3 }
def k1c4 : Code := { maxStack := 2, maxLocals := 4, code := method_5_code, exceptionTable := #[], attributes := #[] }
def k1m4 : Method := { name := "before", desc := "([III)I", sig := { parameters := [(.array .int), .int, .int], returnType := some .int }, accessFlags := 10, code := some k1c4 }
/-- com/example/stevedore/stevedore/MoveGraphCopiesPinLaw -/
def k1 : Class := { plain "com/example/stevedore/stevedore/MoveGraphCopiesPinLaw" (some 0) with
  accessFlags := 49
  interfaces := #[]
  cf := some (fileOf pool1 21 #[] #[{ accessFlags := 1, nameIndex := 5, descriptorIndex := 6, attributes := #[] }, { accessFlags := 9, nameIndex := 35, descriptorIndex := 36, attributes := #[] }, { accessFlags := 10, nameIndex := 31, descriptorIndex := 32, attributes := #[] }, { accessFlags := 10, nameIndex := 28, descriptorIndex := 13, attributes := #[] }, { accessFlags := 10, nameIndex := 24, descriptorIndex := 25, attributes := #[] }] 49 2 #[] #[])
  fields := #[]
  methods := #[k1m0, k1m1, k1m2, k1m3, k1m4]
  instanceTypes := #[]
  staticTypes := #[]
  resolved := Array.replicate 42 none
  statics := none }

def pool2 : Array CpInfo := pool [(1, .class_ 2), (0, u "java/lang/Math"), (1, .class_ 6), (1, u "java/lang/Object"), (0, u "<init>"), (0, u "()V"), (89, .class_ 100), (1, u "java/lang/Math$RandomNumberGeneratorHolder"), (71, u "negativeZeroFloatBits"), (0, u "J"), (2, u "negativeZeroDoubleBits"), (21, u "max"), (46, u "$assertionsDisabled"), (0, u "Z"), (88, u "(II)I"), (2, u "twoToTheDoubleScaleDown"), (0, u "D"), (4, u "twoToTheDoubleScaleUp"), (9, u "E"), (3, u "PI"), (2, u "TAU"), (2, u "DEGREES_TO_RADIANS"), (0, u "RADIANS_TO_DEGREES")] 94

def k2m0 : Method := { name := "<init>", desc := "()V", sig := { parameters := [], returnType := none }, accessFlags := 2, code := none }
def k2c1 : Code := { maxStack := 2, maxLocals := 2, code := jdk_29_method_65_code, exceptionTable := #[], attributes := #[] }
def k2m1 : Method := { name := "max", desc := "(II)I", sig := { parameters := [.int, .int], returnType := some .int }, accessFlags := 9, code := some k2c1 }
/-- java/lang/Math -/
def k2 : Class := { plain "java/lang/Math" (some 0) with
  accessFlags := 49
  interfaces := #[]
  cf := some (fileOf pool2 1 #[.nestMembers #[98]] #[{ accessFlags := 2, nameIndex := 7, descriptorIndex := 8, attributes := #[] }, { accessFlags := 9, nameIndex := 198, descriptorIndex := 335, attributes := #[] }] 49 4 #[] #[{ accessFlags := 25, nameIndex := 354, descriptorIndex := 339, attributes := #[] }, { accessFlags := 25, nameIndex := 358, descriptorIndex := 339, attributes := #[] }, { accessFlags := 25, nameIndex := 361, descriptorIndex := 339, attributes := #[] }, { accessFlags := 26, nameIndex := 364, descriptorIndex := 339, attributes := #[] }, { accessFlags := 26, nameIndex := 365, descriptorIndex := 339, attributes := #[] }, { accessFlags := 26, nameIndex := 172, descriptorIndex := 173, attributes := #[] }, { accessFlags := 26, nameIndex := 176, descriptorIndex := 173, attributes := #[] }, { accessFlags := 8, nameIndex := 344, descriptorIndex := 339, attributes := #[] }, { accessFlags := 8, nameIndex := 338, descriptorIndex := 339, attributes := #[] }, { accessFlags := 4120, nameIndex := 245, descriptorIndex := 246, attributes := #[] }])
  fields := #[{ name := "E", type := .double, accessFlags := 25, slot := 0, constantValue := 0 }, { name := "PI", type := .double, accessFlags := 25, slot := 1, constantValue := 0 }, { name := "TAU", type := .double, accessFlags := 25, slot := 2, constantValue := 0 }, { name := "DEGREES_TO_RADIANS", type := .double, accessFlags := 26, slot := 3, constantValue := 0 }, { name := "RADIANS_TO_DEGREES", type := .double, accessFlags := 26, slot := 4, constantValue := 0 }, { name := "negativeZeroFloatBits", type := .long, accessFlags := 26, slot := 5, constantValue := 0 }, { name := "negativeZeroDoubleBits", type := .long, accessFlags := 26, slot := 6, constantValue := 0 }, { name := "twoToTheDoubleScaleUp", type := .double, accessFlags := 8, slot := 7, constantValue := 0 }, { name := "twoToTheDoubleScaleDown", type := .double, accessFlags := 8, slot := 8, constantValue := 0 }, { name := "$assertionsDisabled", type := .boolean, accessFlags := 4120, slot := 9, constantValue := 0 }]
  methods := #[k2m0, k2m1]
  instanceTypes := #[]
  staticTypes := #[.double, .double, .double, .double, .double, .long, .long, .double, .double, .boolean]
  resolved := Array.replicate 460 none
  statics := none }

def pool3 : Array CpInfo := pool [(2, .class_ 4), (1, u "java/lang/Object"), (0, u "<init>"), (0, u "()V"), (0, .class_ 8), (0, u "java/lang/Record")] 13

def k3m0 : Method := { name := "<init>", desc := "()V", sig := { parameters := [], returnType := none }, accessFlags := 4, code := none }
/-- java/lang/Record -/
def k3 : Class := { plain "java/lang/Record" (some 0) with
  accessFlags := 1057
  interfaces := #[]
  cf := some (fileOf pool3 7 #[] #[{ accessFlags := 4, nameIndex := 5, descriptorIndex := 6, attributes := #[] }] 1057 2 #[] #[])
  fields := #[]
  methods := #[k3m0]
  instanceTypes := #[]
  staticTypes := #[]
  resolved := Array.replicate 22 none
  statics := none }

def pool4 : Array CpInfo := pool [(2, .class_ 4), (1, u "java/lang/Record"), (3, .class_ 10), (1, u "com/example/stevedore/stevedore/MoveGraph"), (0, u "from"), (0, u "[I"), (2, u "to"), (2, u "limit"), (2, u "send"), (2, u "receive"), (2, u "free"), (93, u "copies"), (0, u "([I[I)[I"), (43, u "PARTS"), (0, u "I"), (2, u "SENDING"), (1, u "RECEIVING"), (1, u "BOTH")] 40

def k4c0 : Code := { maxStack := 8, maxLocals := 10, code := prog_15_method_18_code, exceptionTable := #[], attributes := #[] }
def k4m0 : Method := { name := "copies", desc := "([I[I)[I", sig := { parameters := [(.array .int), (.array .int)], returnType := some (.array .int) }, accessFlags := 8, code := some k4c0 }
/-- com/example/stevedore/stevedore/MoveGraph -/
def k4 : Class := { plain "com/example/stevedore/stevedore/MoveGraph" (some 3) with
  accessFlags := 48
  interfaces := #[]
  cf := some (fileOf pool4 8 #[] #[{ accessFlags := 8, nameIndex := 121, descriptorIndex := 122, attributes := #[] }] 48 2 #[] #[{ accessFlags := 18, nameIndex := 11, descriptorIndex := 12, attributes := #[] }, { accessFlags := 18, nameIndex := 15, descriptorIndex := 12, attributes := #[] }, { accessFlags := 18, nameIndex := 18, descriptorIndex := 12, attributes := #[] }, { accessFlags := 18, nameIndex := 21, descriptorIndex := 12, attributes := #[] }, { accessFlags := 18, nameIndex := 24, descriptorIndex := 12, attributes := #[] }, { accessFlags := 18, nameIndex := 27, descriptorIndex := 12, attributes := #[] }, { accessFlags := 26, nameIndex := 166, descriptorIndex := 167, attributes := #[] }, { accessFlags := 26, nameIndex := 170, descriptorIndex := 167, attributes := #[] }, { accessFlags := 26, nameIndex := 172, descriptorIndex := 167, attributes := #[] }, { accessFlags := 26, nameIndex := 174, descriptorIndex := 167, attributes := #[] }])
  fields := #[{ name := "from", type := (.array .int), accessFlags := 18, slot := 0, constantValue := 0 }, { name := "to", type := (.array .int), accessFlags := 18, slot := 1, constantValue := 0 }, { name := "limit", type := (.array .int), accessFlags := 18, slot := 2, constantValue := 0 }, { name := "send", type := (.array .int), accessFlags := 18, slot := 3, constantValue := 0 }, { name := "receive", type := (.array .int), accessFlags := 18, slot := 4, constantValue := 0 }, { name := "free", type := (.array .int), accessFlags := 18, slot := 5, constantValue := 0 }, { name := "PARTS", type := .int, accessFlags := 26, slot := 0, constantValue := 0 }, { name := "SENDING", type := .int, accessFlags := 26, slot := 1, constantValue := 0 }, { name := "RECEIVING", type := .int, accessFlags := 26, slot := 2, constantValue := 0 }, { name := "BOTH", type := .int, accessFlags := 26, slot := 3, constantValue := 0 }]
  methods := #[k4m0]
  instanceTypes := #[(.array .int), (.array .int), (.array .int), (.array .int), (.array .int), (.array .int)]
  staticTypes := #[.int, .int, .int, .int]
  resolved := Array.replicate 215 none
  statics := none }

def pool5 : Array CpInfo := pool [(1, u "java/lang/Cloneable"), (0, .class_ 1), (0, u "java/lang/Object"), (0, .class_ 3)] 3

/-- java/lang/Cloneable -/
def k5 : Class := { plain "java/lang/Cloneable" (some 0) with
  accessFlags := 1537
  interfaces := #[]
  cf := some (fileOf pool5 2 #[] #[] 1537 4 #[] #[])
  fields := #[]
  methods := #[]
  instanceTypes := #[]
  staticTypes := #[]
  resolved := Array.replicate 8 none
  statics := none }

def pool6 : Array CpInfo := pool [(1, u "java/io/Serializable"), (0, .class_ 1), (0, u "java/lang/Object"), (0, .class_ 3)] 3

/-- java/io/Serializable -/
def k6 : Class := { plain "java/io/Serializable" (some 0) with
  accessFlags := 1537
  interfaces := #[]
  cf := some (fileOf pool6 2 #[] #[] 1537 4 #[] #[])
  fields := #[]
  methods := #[]
  instanceTypes := #[]
  staticTypes := #[]
  resolved := Array.replicate 8 none
  statics := none }

/-- the primitive byte -/
def k7 : Class := { plain "byte" none with kind := .primitive 'B', accessFlags := 0x411 }
/-- [B -/
def k8 : Class := { plain "[B" (some 0) with kind := .array 7 .byte, interfaces := #[5, 6], accessFlags := 1041 }

/-- the primitive int -/
def k9 : Class := { plain "int" none with kind := .primitive 'I', accessFlags := 0x411 }
/-- [I -/
def k10 : Class := { plain "[I" (some 0) with kind := .array 9 .int, interfaces := #[5, 6], accessFlags := 1041 }

def heap : Heap := #[]
def classes : Array Class := #[k0, k1, k2, k3, k4, k5, k6, k7, k8, k9, k10]
def interned : List (Array UInt16 × Addr) := []
def slotsUsed : Nat := 0
def theMethod : MethodId := ⟨1, 1⟩
def args0 : Array Value := #[.int 5, .int 7, .int 1, .int 2]
def aboutOver (below : List Frame) : State where
  vm := { classes := classes, interned := interned.toArray }
  heap := heap
  slotsUsed := slotsUsed
  threads := #[{ frames := .invoking theMethod args0 :: below }]
def below0 : List Frame := [.native { method := ⟨0, 0⟩, args := #[] }]
def about1 : State := aboutOver below0
def p0 : Program := .bare "" "" ""
def e0 : Env := launch0.env 0 0 0
theorem w_frames : about1.frames = Frame.invoking theMethod args0 :: below0 := rfl
set_option maxRecDepth 65536 in
theorem w_args : argsFit about1.vm theMethod args0 = true := by decide +kernel
set_option maxRecDepth 65536 in
theorem w_heap : heapFits about1 = true := by decide +kernel
set_option maxRecDepth 65536 in
theorem w_runnable : about1.curStatus? = some .runnable := by decide +kernel
set_option maxRecDepth 65536 in
theorem w_alone : about1.alone = true := by decide +kernel
set_option maxRecDepth 65536 in
theorem w_named : about1.methodNamed? x = some theMethod := by decide +kernel
set_option maxRecDepth 65536 in
theorem w_hears : about1.hears theMethod below0 = true := by decide +kernel
set_option maxRecDepth 65536 in
theorem w_ripe : about1.ripe theMethod args0 below0 = true := by decide +kernel
theorem w_running : about1.status = .running := rfl
set_option maxRecDepth 65536 in
theorem w_room : about1.hasRoom e0.platform room_1 = true :=
  launch0.hasRoom_least _ room_1 (by decide +kernel) (by decide +kernel) (by decide +kernel) (by decide +kernel) (by decide +kernel) (by decide +kernel)
theorem allAtoms_all (ts : List Jvm.Cond) (a : Array Jvm.Value) (st : Jvm.State) : (allAtoms ts).before a st = ts.all (fun c => c.before a st) := by
  induction ts with
  | nil => rfl
  | cons c t ih =>
    show (Jvm.Cond.and c (allAtoms t)).before a st = _
    rw [Jvm.Cond.before_and, ih, List.all_cons]
def words1 : List Jvm.Cond := Jvm.Cond.code x code maxLocals ret :: tables_1
/-- a 'code' word, met by the world's own term for the bytes: nothing is compared byte by byte -/
theorem code_word {y : MethodName} {bytes : ByteArray} {mx : Nat} {rt : Option FieldType} {a : Array Value} {s : State} {m : MethodId} {meth : Method} {c : Code} (h1 : s.methodNamed? y = some m) (h2 : s.vm.method? m = some meth) (h3 : meth.code = some c) (h4 : c.code = bytes)
    (h5 : (c.maxLocals == mx && c.exceptionTable.isEmpty && decide (c.maxStack ≤ mostOperands) && decide (meth.sig.returnType = rt) && !meth.locks && decide (parseMethodDescriptor y.desc = some meth.sig)) = true) : (Jvm.Cond.code y bytes mx rt).before a s = true := by
  simp only [Bool.and_eq_true, beq_iff_eq, Bool.not_eq_true', decide_eq_true_eq] at h5
  obtain ⟨⟨⟨⟨⟨g1, g2⟩, g3⟩, g4⟩, g5⟩, g6⟩ := h5
  simp [Cond.before, Cond.holds, Cond.value, h1, h2, h3, h4, g1, g2, g3, g4, g5, g6]
def isCode : Jvm.Cond → Bool
  | .code _ _ _ _ => true
  | _ => false
theorem all_split {L : List Jvm.Cond} {P : Jvm.Cond → Bool} (h1 : L.all (fun c => isCode c || P c) = true) (h2 : ∀ c ∈ L.filter isCode, P c = true) : L.all P = true := by
  refine List.all_eq_true.mpr fun c hc => ?_
  have h := List.all_eq_true.mp h1 c hc
  rcases Bool.eq_false_or_eq_true (isCode c) with hi | hi
  · exact h2 c (List.mem_filter.mpr ⟨hc, hi⟩)
  · simpa [hi] using h
set_option maxRecDepth 65536 in
theorem w_c0 : (Jvm.Cond.code x code maxLocals ret).before args0 about1 = true := code_word (m := ⟨1, 1⟩) (meth := k1m1) (c := k1c1) (by decide +kernel) rfl rfl rfl (by decide +kernel)
set_option maxRecDepth 65536 in
theorem w_c1 : (Jvm.Cond.code ({ cls := "java/lang/Math", name := "max", desc := "(II)I" } : Jvm.MethodName) jdk_29_method_65_code (2 : Nat) (Option.some Jvm.ClassFile.FieldType.int)).before args0 about1 = true := code_word (m := ⟨2, 1⟩) (meth := k2m1) (c := k2c1) (by decide +kernel) rfl rfl rfl (by decide +kernel)
set_option maxRecDepth 65536 in
theorem w_c2 : (Jvm.Cond.code ({ cls := "com/example/stevedore/stevedore/MoveGraph", name := "copies", desc := "([I[I)[I" } : Jvm.MethodName) prog_15_method_18_code (10 : Nat) (Option.some (Jvm.ClassFile.FieldType.array Jvm.ClassFile.FieldType.int))).before args0 about1 = true := code_word (m := ⟨4, 0⟩) (meth := k4m0) (c := k4c0) (by decide +kernel) rfl rfl rfl (by decide +kernel)
set_option maxRecDepth 65536 in
theorem w_c3 : (Jvm.Cond.code ({ cls := "com/example/stevedore/stevedore/MoveGraphCopiesPinLaw", name := "before", desc := "([III)I" } : Jvm.MethodName) method_5_code (4 : Nat) (Option.some Jvm.ClassFile.FieldType.int)).before args0 about1 = true := code_word (m := ⟨1, 4⟩) (meth := k1m4) (c := k1c4) (by decide +kernel) rfl rfl rfl (by decide +kernel)
set_option maxRecDepth 65536 in
theorem w_c4 : (Jvm.Cond.code ({ cls := "com/example/stevedore/stevedore/MoveGraphCopiesPinLaw", name := "blocks", desc := "(II)I" } : Jvm.MethodName) method_4_code (2 : Nat) (Option.some Jvm.ClassFile.FieldType.int)).before args0 about1 = true := code_word (m := ⟨1, 3⟩) (meth := k1m3) (c := k1c3) (by decide +kernel) rfl rfl rfl (by decide +kernel)
set_option maxRecDepth 65536 in
theorem w_c5 : (Jvm.Cond.code ({ cls := "com/example/stevedore/stevedore/MoveGraphCopiesPinLaw", name := "ok", desc := "([I[I[I[II)Z" } : Jvm.MethodName) method_3_code (6 : Nat) (Option.some Jvm.ClassFile.FieldType.boolean)).before args0 about1 = true := code_word (m := ⟨1, 2⟩) (meth := k1m2) (c := k1c2) (by decide +kernel) rfl rfl rfl (by decide +kernel)
def codes1 : List Jvm.Cond := [Jvm.Cond.code x code maxLocals ret, Jvm.Cond.code ({ cls := "java/lang/Math", name := "max", desc := "(II)I" } : Jvm.MethodName) jdk_29_method_65_code (2 : Nat) (Option.some Jvm.ClassFile.FieldType.int), Jvm.Cond.code ({ cls := "com/example/stevedore/stevedore/MoveGraph", name := "copies", desc := "([I[I)[I" } : Jvm.MethodName) prog_15_method_18_code (10 : Nat) (Option.some (Jvm.ClassFile.FieldType.array Jvm.ClassFile.FieldType.int)), Jvm.Cond.code ({ cls := "com/example/stevedore/stevedore/MoveGraphCopiesPinLaw", name := "before", desc := "([III)I" } : Jvm.MethodName) method_5_code (4 : Nat) (Option.some Jvm.ClassFile.FieldType.int), Jvm.Cond.code ({ cls := "com/example/stevedore/stevedore/MoveGraphCopiesPinLaw", name := "blocks", desc := "(II)I" } : Jvm.MethodName) method_4_code (2 : Nat) (Option.some Jvm.ClassFile.FieldType.int), Jvm.Cond.code ({ cls := "com/example/stevedore/stevedore/MoveGraphCopiesPinLaw", name := "ok", desc := "([I[I[I[II)Z" } : Jvm.MethodName) method_3_code (6 : Nat) (Option.some Jvm.ClassFile.FieldType.boolean)]
set_option maxRecDepth 65536 in
theorem codes_eq : words1.filter isCode = codes1 := rfl
theorem w_codes : ∀ c ∈ words1.filter isCode, c.before args0 about1 = true := by
  rw [codes_eq]
  intro c hc
  simp only [codes1, List.mem_cons, List.not_mem_nil, or_false] at hc
  rcases hc with rfl | rfl | rfl | rfl | rfl | rfl
  · exact w_c0
  · exact w_c1
  · exact w_c2
  · exact w_c3
  · exact w_c4
  · exact w_c5
set_option maxRecDepth 65536 in
theorem w_t1 : words1.all (fun c => isCode c || c.before args0 about1) = true := by decide +kernel
theorem w_tables : (allAtoms (Jvm.Cond.code x code maxLocals ret :: tables_1)).before args0 about1 = true := by
  rw [allAtoms_all]
  show words1.all (fun c => c.before args0 about1) = true
  refine all_split ?_ w_codes
  rw [w_t1]
set_option maxRecDepth 65536 in
theorem w_case : (Jvm.Cond.and given_1 narrow_1).before args0 about1 = true := by decide +kernel
theorem w_applies : (headSpec (Jvm.Cond.code x code maxLocals ret :: tables_1) room_1).applies x e0.platform about1 = true :=
  (Spec.applies_iff w_frames).mpr ⟨w_running, w_runnable, w_alone, w_named, w_hears, w_ripe, w_room, w_tables⟩
theorem atStart : AtStart classFile x code maxLocals ret World_1 tables_1 room_1 Calls_1 rest_1 Pre_1 launch0 p0 e0 about1 theMethod args0 below0 :=
  ⟨lists_1, trivial, launch0.admits_env _ _ _, launch0.least_env, fairChoices_fair.cas, fairChoices_fair.clock, w_frames, w_args, w_heap, w_applies, trivial, trivial, w_case⟩
end start1
theorem witness_1 : WitnessClaimed_1 := ⟨start1.p0, start1.e0, start1.about1, start1.theMethod, start1.args0, start1.below0, start1.atStart⟩
end Jvm.Pilot.@@N@@
