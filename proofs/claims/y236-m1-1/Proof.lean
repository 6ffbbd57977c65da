import JvmDerived
import JvmDerived.Pilot.@@N@@Statement
import JvmDerived.Pilot.@@N@@Code
set_option linter.unusedVariables false
set_option linter.unusedSimpArgs false
@@BLOCK:NumsL.lean.txt@@
namespace Jvm.RoadKit
open Sem ClassFile Op Lib Jvm.Stand Jvm.Free Jvm.LawKit
section New
variable {p : Program} {l : Launch} {e : Env} {R : Room} {s : State} {m : MethodId} {args : Array Value} {below : List Frame} {meth : Method} {c : Code} {T : State} {locs : List Loc} {cells slots : Nat}
theorem retI (X : Stand p l e R s m args below meth c T locs cells slots) (hx : p.tables.exec = Jvm.exec) {pc : Nat} {Ls : Array Slot} {z : Int32} {rest : List Value} (hret : meth.sig.returnType = some .int) (hd : decode c.code pc = .ok (.ireturn, 1)) {fs : List Frame}
    (hl : ∀ (f : JFrame) (acts : List Action), f.method = m → f.locked = none → f.entered = [] → (doReturn e (T.setTop f) acts (some (.int z))).1 = T.setFrames fs) : Steps p.tables e below (T.setTop (mkF m pc Ls (.int z :: rest))) (T.setFrames fs) := by
  have hm' : T.vm.method? m = some meth := X.method'
  have hn : narrow .int (.int z) = .int z := rfl
  show Steps p.tables e below (T.setTop { method := m, pc := pc, locals := Ls, stack := _ :: rest, locked := none }) _
  jvm_step X.here [X.here.top, hx, hd, hm', hret, hn]
  first | (intro acts; rw [hl _ acts rfl rfl rfl]) | rw [hl _ _ rfl rfl rfl]
  exact Steps.refl _
theorem own_retJ (X : Stand p l e R s m args below meth c T locs cells slots) (hx : p.tables.exec = Jvm.exec) {pc : Nat} {Ls : Array Slot} {z : Int64} {rest : List Value} (hret : meth.sig.returnType = some .long) (hd : decode c.code pc = .ok (.lreturn, 1)) {fs : List Frame}
    (hl : ∀ (f : JFrame) (acts : List Action), f.method = m → f.locked = none → f.entered = [] → (doReturn e (T.setTop f) acts (some (.long z))).1 = T.setFrames fs) : Steps p.tables e below (T.setTop (mkF m pc Ls (.long z :: rest))) (T.setFrames fs) := by
  have hm' : T.vm.method? m = some meth := X.method'
  show Steps p.tables e below (T.setTop { method := m, pc := pc, locals := Ls, stack := _ :: rest, locked := none }) _
  jvm_step X.here [X.here.top, hx, hd, hm', hret, narrow]
  first | (intro acts; rw [hl _ acts rfl rfl rfl]) | rw [hl _ _ rfl rfl rfl]
  exact Steps.refl _
theorem own_retA (X : Stand p l e R s m args below meth c T locs cells slots) (hx : p.tables.exec = Jvm.exec) {pc : Nat} {Ls : Array Slot} {b : Addr} {t : FieldType} {rest : List Value} (hret : meth.sig.returnType = some t) (ht : t.isReference = true) (hb0 : b = b) (hd : decode c.code pc = .ok (.areturn, 1)) {fs : List Frame}
    (hl : ∀ (f : JFrame) (acts : List Action), f.method = m → f.locked = none → f.entered = [] → (doReturn e (T.setTop f) acts (some (.ref b))).1 = T.setFrames fs) : Steps p.tables e below (T.setTop (mkF m pc Ls (.ref b :: rest))) (T.setFrames fs) := by
  have hm' : T.vm.method? m = some meth := X.method'
  show Steps p.tables e below (T.setTop { method := m, pc := pc, locals := Ls, stack := _ :: rest, locked := none }) _
  jvm_step X.here [X.here.top, hx, hd, hm', hret, Value.isRef, ht]
  first | (intro acts; rw [hl _ acts rfl rfl rfl]) | rw [hl _ _ rfl rfl rfl]
  exact Steps.refl _
end New
/-- a walk's goal at the state A -/
def own_G (tb : Tables) (e : Env) (below : List Frame) (P : Outcome → State → Prop) (A : State) : Prop := ∃ s₂ o, Steps tb e below A s₂ ∧ s₂.status = .running ∧ Ended s₂ below o ∧ P o s₂
section Go
variable {tb : Tables} {e : Env} {below : List Frame} {P : Outcome → State → Prop} {A B : State}
theorem own_step (h : ∀ t, Steps tb e below B t → Steps tb e below A t) (k : own_G tb e below P B) : own_G tb e below P A := by
  obtain ⟨s₂, o, h1, h2⟩ := k
  exact ⟨s₂, o, h _ h1, h2⟩
theorem own_start (h : ∀ t, Steps tb e below B t → Steps tb e below A t) (k : own_G tb e below P B) : ∃ s₂ o, Steps tb e below A s₂ ∧ s₂.status = .running ∧ Ended s₂ below o ∧ P o s₂ := own_step h k
theorem own_done {s₂ : State} {o : Outcome} (h1 : Steps tb e below A s₂) (h2 : s₂.status = .running) (h3 : Ended s₂ below o) (h4 : P o s₂) : own_G tb e below P A := ⟨s₂, o, h1, h2, h3, h4⟩
theorem own_nm {α : Type} (x : α) (F : α → State) (h : ∀ v, v = x → own_G tb e below P (F v)) : own_G tb e below P (F x) := h x rfl
theorem own_gen (h : ∀ P', P' = P → own_G tb e below P' A) : own_G tb e below P A := h P rfl
theorem own_imp (h : own_G tb e below P B → own_G tb e below P A) (k : own_G tb e below P B) : own_G tb e below P A := h k
end Go
/-- an array of ints (bytes, chars, shorts) by its members; a long[] by its members -/
def own_Ari (Z : State) (h : Heap) (a : Addr) (ty : FieldType) (vs : List Int32) : Prop := ∃ c : Cell, Arr Z h a c ty ∧ c.slots.toList = vs.map Value.int ∧ vs.length < 2 ^ 31
def own_Arj (Z : State) (h : Heap) (a : Addr) (vs : List Int64) : Prop := ∃ c : Cell, Arr Z h a c .long ∧ c.slots.toList = vs.map Value.long ∧ vs.length < 2 ^ 31
def own_Inb (j : Int32) (n : Nat) : Prop := ¬ j < 0 ∧ j.toNatClampNeg < n
theorem own_inb {j : Int32} {n : Nat} (h1 : ¬ j < 0) (h2 : j.toNatClampNeg < n) : own_Inb j n := ⟨h1, h2⟩
section ArrFacts
variable {Z : State} {h h' : Heap} {a b : Addr} {ty : FieldType} {vs : List Int32} {us : List Int64} {sl : Nat} {v : Value} {L : List Addr}
theorem own_Ari.lt (F : own_Ari Z h a ty vs) : a < h.size := by obtain ⟨c, A, -⟩ := F; exact A.lt
theorem own_Ari.ext (F : own_Ari Z h a ty vs) (E : Ext h h') : own_Ari Z h' a ty vs := by obtain ⟨c, A, r⟩ := F; exact ⟨c, A.ext E, r⟩
theorem own_Ari.other (F : own_Ari Z h b ty vs) (W : Wr h h' a sl v) (q : b ≠ a) : own_Ari Z h' b ty vs := by obtain ⟨c, A, r⟩ := F; exact ⟨c, A.other W q, r⟩
theorem own_Ari.keep (F : own_Ari Z h a ty vs) (K : Keep h h' L) (q : a ∉ L) : own_Ari Z h' a ty vs := by obtain ⟨c, A, r⟩ := F; exact ⟨c, ⟨K.2.1 a c A.1 q, A.2⟩, r⟩
theorem own_Arj.lt (F : own_Arj Z h a us) : a < h.size := by obtain ⟨c, A, -⟩ := F; exact A.lt
theorem own_Arj.ext (F : own_Arj Z h a us) (E : Ext h h') : own_Arj Z h' a us := by obtain ⟨c, A, r⟩ := F; exact ⟨c, A.ext E, r⟩
theorem own_Arj.other (F : own_Arj Z h b us) (W : Wr h h' a sl v) (q : b ≠ a) : own_Arj Z h' b us := by obtain ⟨c, A, r⟩ := F; exact ⟨c, A.other W q, r⟩
theorem own_Arj.keep (F : own_Arj Z h a us) (K : Keep h h' L) (q : a ∉ L) : own_Arj Z h' a us := by obtain ⟨c, A, r⟩ := F; exact ⟨c, ⟨K.2.1 a c A.1 q, A.2⟩, r⟩
theorem own_Ari_new {cA : ClassId} {n : Int32} (A : Arr Z h b (newA cA ty n) ty) (hn : ¬ n < 0) (hd : defaultValue ty = .int 0) : own_Ari Z h b ty (List.replicate n.toNatClampNeg 0) :=
  ⟨_, A, by simp [newA, hd], by rw [List.length_replicate]; exact (back32 hn).2⟩
theorem own_Arj_new {cA : ClassId} {n : Int32} (A : Arr Z h b (newA cA .long n) .long) (hn : ¬ n < 0) : own_Arj Z h b (List.replicate n.toNatClampNeg 0) :=
  ⟨_, A, by simp [newA, defaultValue], by rw [List.length_replicate]; exact (back32 hn).2⟩
theorem own_szI {c : Cell} (S : c.slots.toList = vs.map Value.int) : c.slots.size = vs.length := by have := congrArg List.length S; simpa using this
theorem own_szJ {c : Cell} (S : c.slots.toList = us.map Value.long) : c.slots.size = us.length := by have := congrArg List.length S; simpa using this
theorem own_atI {c : Cell} {k : Nat} (S : c.slots.toList = vs.map Value.int) (hk : k < vs.length) : c.slots[k]? = some (.int (vs.getD k 0)) := by
  rw [← Array.getElem?_toList, S, List.getElem?_map, List.getD_eq_getElem?_getD, List.getElem?_eq_getElem hk]; rfl
theorem own_atJ {c : Cell} {k : Nat} (S : c.slots.toList = us.map Value.long) (hk : k < us.length) : c.slots[k]? = some (.long (us.getD k 0)) := by
  rw [← Array.getElem?_toList, S, List.getElem?_map, List.getD_eq_getElem?_getD, List.getElem?_eq_getElem hk]; rfl
theorem own_setI {c : Cell} {k : Nat} {x : Int32} (A : Arr Z h a c ty) (S : c.slots.toList = vs.map Value.int) (hl : vs.length < 2 ^ 31) (W : Wr h h' a k (.int x)) : own_Ari Z h' a ty (vs.set k x) :=
  ⟨_, A.same W, by simp [Cell.setSlot, S, List.map_set], by rw [List.length_set]; exact hl⟩
theorem own_setJ {c : Cell} {k : Nat} {x : Int64} (A : Arr Z h a c .long) (S : c.slots.toList = us.map Value.long) (hl : us.length < 2 ^ 31) (W : Wr h h' a k (.long x)) : own_Arj Z h' a (us.set k x) :=
  ⟨_, A.same W, by simp [Cell.setSlot, S, List.map_set], by rw [List.length_set]; exact hl⟩
end ArrFacts
section ArrSteps
variable {p : Program} {l : Launch} {e : Env} {R : Room} {s : State} {m : MethodId} {args : Array Value} {below : List Frame} {meth : Method} {c : Code} {T : State} {locs : List Loc} {cells slots : Nat} {Z : State} {h : Heap} {a : Addr} {vs : List Int32} {us : List Int64} {j : Int32} {g : JFrame} {rest : List Value}
theorem own_iaload (X : Stand p l e R s m args below meth c T locs cells slots) (hx : p.tables.exec = Jvm.exec) (hZ : Z.Warmed39 s.vm) (eT : T.heap = h) (F : own_Ari Z h a .int vs) (q : own_Inb j vs.length) (hg : g.method = m) (hs : g.stack = .int j :: .ref a :: rest) (hd : decode c.code g.pc = .ok (.iaload, 1)) :
    ∀ target, Steps p.tables e below (T.setTop { g with pc := g.pc + 1, stack := .int (vs.getD j.toNatClampNeg 0) :: rest }) target → Steps p.tables e below (T.setTop g) target := by
  obtain ⟨cl, A, S, hl⟩ := F
  have z := own_szI S
  exact X.iaload hx (by rw [eT]; exact A.1) (State.isArrayOf_alike hZ.alike A.2.1) A.2.2 (fun y => y.elim q.1 fun w => by have := q.2; omega) (own_atI S q.2) hg hs hd
theorem own_baload (X : Stand p l e R s m args below meth c T locs cells slots) (hx : p.tables.exec = Jvm.exec) (hZ : Z.Warmed39 s.vm) (eT : T.heap = h) (F : own_Ari Z h a .byte vs) (q : own_Inb j vs.length) (hg : g.method = m) (hs : g.stack = .int j :: .ref a :: rest) (hd : decode c.code g.pc = .ok (.baload, 1)) :
    ∀ target, Steps p.tables e below (T.setTop { g with pc := g.pc + 1, stack := .int (vs.getD j.toNatClampNeg 0) :: rest }) target → Steps p.tables e below (T.setTop g) target := by
  obtain ⟨cl, A, S, hl⟩ := F
  have z := own_szI S
  exact X.baloadBytes hx (by rw [eT]; exact A.1) (State.isArrayOf_alike hZ.alike A.2.1) A.2.2 (fun y => y.elim q.1 fun w => by have := q.2; omega) (own_atI S q.2) hg hs hd
theorem own_laload (X : Stand p l e R s m args below meth c T locs cells slots) (hx : p.tables.exec = Jvm.exec) (hZ : Z.Warmed39 s.vm) (eT : T.heap = h) (F : own_Arj Z h a us) (q : own_Inb j us.length) (hg : g.method = m) (hs : g.stack = .int j :: .ref a :: rest) (hd : decode c.code g.pc = .ok (.laload, 1)) :
    ∀ target, Steps p.tables e below (T.setTop { g with pc := g.pc + 1, stack := .long (us.getD j.toNatClampNeg 0) :: rest }) target → Steps p.tables e below (T.setTop g) target := by
  obtain ⟨cl, A, S, hl⟩ := F
  have z := own_szJ S
  exact X.laload hx (by rw [eT]; exact A.1) (State.isArrayOf_alike hZ.alike A.2.1) A.2.2 (fun y => y.elim q.1 fun w => by have := q.2; omega) (own_atJ S q.2) hg hs hd
theorem own_lenI {ty : FieldType} (X : Stand p l e R s m args below meth c T locs cells slots) (hx : p.tables.exec = Jvm.exec) (hZ : Z.Warmed39 s.vm) (eT : T.heap = h) (F : own_Ari Z h a ty vs) (hg : g.method = m) (hs : g.stack = .ref a :: rest) (hd : decode c.code g.pc = .ok (.arraylength, 1)) :
    ∀ target, Steps p.tables e below (T.setTop { g with pc := g.pc + 1, stack := .int vs.length.toInt32 :: rest }) target → Steps p.tables e below (T.setTop g) target := by
  obtain ⟨cl, A, S, hl⟩ := F
  have z := own_szI S
  have k := X.arraylength hx (by rw [eT]; exact A.1) (State.isArrayOf_alike hZ.alike A.2.1) hg hs hd
  rw [z] at k
  exact k
theorem own_lenJ (X : Stand p l e R s m args below meth c T locs cells slots) (hx : p.tables.exec = Jvm.exec) (hZ : Z.Warmed39 s.vm) (eT : T.heap = h) (F : own_Arj Z h a us) (hg : g.method = m) (hs : g.stack = .ref a :: rest) (hd : decode c.code g.pc = .ok (.arraylength, 1)) :
    ∀ target, Steps p.tables e below (T.setTop { g with pc := g.pc + 1, stack := .int us.length.toInt32 :: rest }) target → Steps p.tables e below (T.setTop g) target := by
  obtain ⟨cl, A, S, hl⟩ := F
  have z := own_szJ S
  have k := X.arraylength hx (by rw [eT]; exact A.1) (State.isArrayOf_alike hZ.alike A.2.1) hg hs hd
  rw [z] at k
  exact k
theorem own_iastore {x : Int32} (X : Stand p l e R s m args below meth c T locs cells slots) (hx : p.tables.exec = Jvm.exec) (hZ : Z.Warmed39 s.vm) (eT : T.heap = h) (F : own_Ari Z h a .int vs) (q : own_Inb j vs.length) (hg : g.method = m) (hs : g.stack = .int x :: .int j :: .ref a :: rest) (hd : decode c.code g.pc = .ok (.iastore, 1)) :
    ∃ T' h', Stand p l e R s m args below meth c T' (locs ++ [⟨a, j.toNatClampNeg⟩]) cells slots ∧ T'.heap = h' ∧ Wr h h' a j.toNatClampNeg (.int x) ∧ own_Ari Z h' a .int (vs.set j.toNatClampNeg x) ∧
      ∀ target, Steps p.tables e below (T'.setTop { g with pc := g.pc + 1, stack := rest }) target → Steps p.tables e below (T.setTop g) target := by
  obtain ⟨cl, A, S, hl⟩ := F
  have z := own_szI S
  obtain ⟨T', h', X', e', W, st⟩ := stI X hx hZ eT A (j := j) (x := x) (fun y => y.elim q.1 fun w => by have := q.2; omega) hg hs hd
  exact ⟨T', h', X', e', W, own_setI A S hl W, st⟩
theorem own_bastore {x : Int32} (X : Stand p l e R s m args below meth c T locs cells slots) (hx : p.tables.exec = Jvm.exec) (hZ : Z.Warmed39 s.vm) (eT : T.heap = h) (F : own_Ari Z h a .byte vs) (q : own_Inb j vs.length) (hg : g.method = m) (hs : g.stack = .int x :: .int j :: .ref a :: rest) (hd : decode c.code g.pc = .ok (.bastore, 1)) :
    ∃ T' h', Stand p l e R s m args below meth c T' (locs ++ [⟨a, j.toNatClampNeg⟩]) cells slots ∧ T'.heap = h' ∧ Wr h h' a j.toNatClampNeg (.int (nar .byte x)) ∧ own_Ari Z h' a .byte (vs.set j.toNatClampNeg (nar .byte x)) ∧
      ∀ target, Steps p.tables e below (T'.setTop { g with pc := g.pc + 1, stack := rest }) target → Steps p.tables e below (T.setTop g) target := by
  obtain ⟨cl, A, S, hl⟩ := F
  have z := own_szI S
  obtain ⟨T', h', X', e', W, st⟩ := stB X hx hZ eT A (j := j) (x := x) (fun y => y.elim q.1 fun w => by have := q.2; omega) hg hs hd
  exact ⟨T', h', X', e', W, own_setI A S hl W, st⟩
theorem own_lastore {x : Int64} (X : Stand p l e R s m args below meth c T locs cells slots) (hx : p.tables.exec = Jvm.exec) (hZ : Z.Warmed39 s.vm) (eT : T.heap = h) (F : own_Arj Z h a us) (q : own_Inb j us.length) (hg : g.method = m) (hs : g.stack = .long x :: .int j :: .ref a :: rest) (hd : decode c.code g.pc = .ok (.lastore, 1)) :
    ∃ T' h', Stand p l e R s m args below meth c T' (locs ++ [⟨a, j.toNatClampNeg⟩]) cells slots ∧ T'.heap = h' ∧ Wr h h' a j.toNatClampNeg (.long x) ∧ own_Arj Z h' a (us.set j.toNatClampNeg x) ∧
      ∀ target, Steps p.tables e below (T'.setTop { g with pc := g.pc + 1, stack := rest }) target → Steps p.tables e below (T.setTop g) target := by
  obtain ⟨cl, A, S, hl⟩ := F
  have z := own_szJ S
  obtain ⟨T', h', X', e', W, st⟩ := stJ X hx hZ eT A (j := j) (x := x) (fun y => y.elim q.1 fun w => by have := q.2; omega) hg hs hd
  exact ⟨T', h', X', e', W, own_setJ A S hl W, st⟩
theorem own_cloneI {a0 : Array Value} {own : String} {index : Nat} (X : Stand p l e R s m args below meth c T locs cells slots) (hx : p.tables.exec = Jvm.exec) (hZ : Z.Warmed39 s.vm) (hown : s.vm.findClass own = some m.cls)
    (w1 : (Cond.methodLink own index ⟨"[I", "clone", "()Ljava/lang/Object;"⟩).before a0 Z = true) (w2 : (Cond.sameMethod "[I" "java/lang/Object" "clone" "()Ljava/lang/Object;").before a0 Z = true) (w3 : (Cond.native ⟨"java/lang/Object", "clone", "()Ljava/lang/Object;"⟩).before a0 Z = true)
    (w4 : (Cond.instanceMethod ⟨"java/lang/Object", "clone", "()Ljava/lang/Object;"⟩).before a0 Z = true) (w5 : (Cond.selects "[I" ⟨"[I", "clone", "()Ljava/lang/Object;"⟩ ⟨"java/lang/Object", "clone", "()Ljava/lang/Object;"⟩).before a0 Z = true) (w6 : (Cond.castable "[I" "java/lang/Cloneable").before a0 Z = true)
    (eT : T.heap = h) (F : own_Ari Z h a .int vs) (E : Exa Z h a "[I") (hg : g.method = m) (hsize : g.locals.size = c.maxLocals) (hs : g.stack = .ref a :: rest) (hd : decode c.code g.pc = .ok (.invokevirtual index, 3))
    (hf : 1 ≤ R.frames) {W cap : Nat} (hW : 2 * g.monitorRoom + (rest.map fun v => v.category).sum ≤ W) (hl : W + 14 ≤ R.locals) (hcap : vs.length ≤ cap) (hc : cells + 1 ≤ R.cells) (hsl : slots + cap ≤ R.slots) :
    ∃ T' h', Stand p l e R s m args below meth c T' locs (cells + 1) (slots + cap) ∧ T'.heap = h' ∧ Ext h h' ∧ own_Ari Z h' h.size .int vs ∧ Exa Z h' h.size "[I" ∧
      ∀ target, Steps p.tables e below (T'.setTop { g with pc := g.pc + 3, stack := .ref h.size :: rest }) target → Steps p.tables e below (T.setTop g) target := by
  obtain ⟨cl, A, S, hl'⟩ := F
  have z := own_szI S
  have FC : FitC Z cl := fitC_of A fun i hi v hv => by
    rw [own_atI S (by omega)] at hv
    cases hv; rfl
  obtain ⟨T', h', X', e', ex, A', E', st⟩ := cloneA X hx hZ hown w1 w2 w3 w4 w5 w6 eT A E FC hg hsize hs hd hf hW hl (by rw [z]; exact hcap) hc hsl
  exact ⟨T', h', X', e', ex, ⟨cloneOf cl, A', S, hl'⟩, E', st⟩
end ArrSteps

end Jvm.RoadKit
namespace Jvm.Pilot.@@N@@
open Jvm Jvm.ClassFile Sem Op Lib Jvm.Free Jvm.Stand Jvm.LawKit Jvm.RoadKit Bundle Jvm.Pilot.@@N@@.Jvm.D


theorem own_u (x : Int32) : (x.toInt = (x.toUInt32.toNat : Int) ∧ x.toUInt32.toNat < 2 ^ 31) ∨ (x.toInt = (x.toUInt32.toNat : Int) - 2 ^ 32 ∧ 2 ^ 31 ≤ x.toUInt32.toNat ∧ x.toUInt32.toNat < 2 ^ 32) := by
  have h : x.toInt = x.toUInt32.toBitVec.toInt := rfl
  have hn : x.toUInt32.toBitVec.toNat = x.toUInt32.toNat := rfl
  have hl := x.toUInt32.toNat_lt
  rw [h, BitVec.toInt_eq_toNat_cond, hn]
  split <;> omega
theorem own_us (x : Int32) (n : UInt32) (k : Nat) (hn : n.toNat % 32 = k) (hk : 1 ≤ k) : ((x.toUInt32 >>> n).toInt32).toInt = ((x.toUInt32.toNat / 2 ^ k : Nat) : Int) := by
  have e : (x.toUInt32 >>> n).toNat = x.toUInt32.toNat / 2 ^ k := by rw [UInt32.toNat_shiftRight, Nat.shiftRight_eq_div_pow, hn]
  have hl := x.toUInt32.toNat_lt
  have h2 : x.toUInt32.toNat / 2 ^ k < 2 ^ 31 := by
    have : x.toUInt32.toNat / 2 ^ k ≤ x.toUInt32.toNat / 2 ^ 1 := Nat.div_le_div_left (Nat.pow_le_pow_right (by decide) hk) (by decide)
    omega
  have q := own_u (x.toUInt32 >>> n).toInt32
  have r : (x.toUInt32 >>> n).toInt32.toUInt32.toNat = (x.toUInt32 >>> n).toNat := rfl
  rw [r, e] at q
  omega
theorem own_c16 {v : Int32} (h : 0 ≤ v.toInt ∧ v.toInt ≤ 65535) : v.toUInt32.toUInt16.toUInt32.toInt32 = v := by
  have q := own_u v
  have e : v.toUInt32.toUInt16.toUInt32 = v.toUInt32 := by
    refine UInt32.toNat_inj.mp ?_
    rw [UInt16.toNat_toUInt32, UInt32.toNat_toUInt16]
    omega
  rw [e]; rfl
theorem own_chr {v : Int32} (h : 0 ≤ v.toInt ∧ v.toInt ≤ 127) : nar .char (v.toUInt32.toUInt16.toUInt32.toInt32) = v := by
  have e := own_c16 (v := v) ⟨h.1, by omega⟩
  rw [e]
  exact e
theorem own_remI (x y : Int32) (hx : 0 ≤ x.toInt) (hy : 0 < y.toInt) : (x - (x / y) * y).toInt = x.toInt % y.toInt := by
  have d := Jvm.Kit.i32_div (x := x) (y := y) (by omega)
  rw [Int.tdiv_eq_ediv_of_nonneg hx] at d
  have r := x.toInt_lt
  have k1 : 0 ≤ x.toInt / y.toInt := Int.ediv_nonneg hx (by omega)
  have k2 : x.toInt / y.toInt * y.toInt ≤ x.toInt := Int.ediv_mul_le _ (by omega)
  have k3 : 0 ≤ x.toInt / y.toInt * y.toInt := Int.mul_nonneg k1 (by omega)
  have m := Jvm.Kit.i32_mul (p := x / y) (q := y) (by rw [d]; omega) (by rw [d]; omega)
  have s := Jvm.Kit.i32_sub (p := x) (q := x / y * y) (by rw [m, d]; omega) (by rw [m, d]; omega)
  rw [s, m, d]
  have := Int.emod_add_mul_ediv x.toInt y.toInt
  rw [Int.mul_comm] at this
  omega

theorem own_ib {f t k : Int32} {n : Nat} (hr : 0 ≤ f.toInt ∧ f.toInt ≤ t.toInt ∧ t.toInt ≤ (n : Int) ∧ n ≤ 3) (hk : 0 ≤ k.toInt) (h : k < (t - f)) : own_Inb (f + k) n := by
  have s := Jvm.Kit.i32_sub (p := t) (q := f) (by omega) (by omega)
  rw [Int32.lt_iff_toInt_lt, s] at h
  have a := Jvm.Kit.i32_add (p := f) (q := k) (by omega) (by omega)
  refine own_inb ?_ ?_
  · rw [Int32.lt_iff_toInt_lt, a]
    have e0 : (0 : Int32).toInt = 0 := rfl
    omega
  · show Int.toNat _ < n
    rw [a]; omega
theorem own_byte (x : Int32) : 0 ≤ (nar .byte ((x &&& (127 : Int32)).toInt8.toInt32)).toInt ∧ (nar .byte ((x &&& (127 : Int32)).toInt8.toInt32)).toInt ≤ 127 := by
  have h : (x &&& 127).toInt = x.toInt % 2 ^ 7 := Jvm.Kit.i32_mask x 127 (k := 7) (by decide) (by decide)
  have e : nar .byte ((x &&& (127 : Int32)).toInt8.toInt32) = (x &&& (127 : Int32)).toInt8.toInt32 := by
    show ((x &&& (127 : Int32)).toInt8.toInt32).toInt8.toInt32 = _
    rw [Int8.toInt8_toInt32]
  rw [e, Int8.toInt_toInt32, Int32.toInt_toInt8, h, Int.bmod_def]
  omega
theorem own_buf3 {x y z : Int32} (hx : 0 ≤ x.toInt ∧ x.toInt ≤ 127) (hy : 0 ≤ y.toInt ∧ y.toInt ≤ 127) (hz : 0 ≤ z.toInt ∧ z.toInt ≤ 127) : ∀ i, 0 ≤ ([x, y, z].getD i 0).toInt ∧ ([x, y, z].getD i 0).toInt ≤ 127 := fun i =>
  match i with
  | 0 => hx
  | 1 => hy
  | 2 => hz
  | n + 3 => by show 0 ≤ (0 : Int32).toInt ∧ (0 : Int32).toInt ≤ 127; decide
theorem own_m31 (x : Int32) : (x &&& (2147483647 : Int32)).toInt = x.toInt % 2 ^ 31 := Jvm.Kit.i32_mask x 2147483647 (k := 31) (by decide) (by decide)
theorem own_f4r (r f : Int32) (hf : f = (r &&& (2147483647 : Int32)) - ((r &&& (2147483647 : Int32)) / (4 : Int32)) * (4 : Int32)) : 0 ≤ f.toInt ∧ f.toInt ≤ 3 := by
  have m := own_m31 r
  have e4 : (4 : Int32).toInt = 4 := rfl
  have q := own_remI (r &&& (2147483647 : Int32)) 4 (by omega) (by rw [e4]; omega)
  rw [← hf, e4] at q
  omega
theorem own_nz (f : Int32) (h : 0 ≤ f.toInt ∧ f.toInt ≤ 3) : ((4 : Int32) - f).toInt = 4 - f.toInt := by
  have e4 : (4 : Int32).toInt = 4 := rfl
  rw [← e4]; exact Jvm.Kit.i32_sub (by omega) (by omega)
theorem own_nz0 (f : Int32) (h : 0 ≤ f.toInt ∧ f.toInt ≤ 3) : ((4 : Int32) - f) ≠ 0 := fun q => by
  have := own_nz f h
  rw [q] at this
  have e0 : (0 : Int32).toInt = 0 := rfl
  omega
theorem own_t4r (r f t : Int32) (h : 0 ≤ f.toInt ∧ f.toInt ≤ 3) (ht : t = f + (((r.toUInt32 >>> ((8 : Int32) &&& 31).toUInt32).toInt32) - (((r.toUInt32 >>> ((8 : Int32) &&& 31).toUInt32).toInt32) / ((4 : Int32) - f)) * ((4 : Int32) - f))) : f.toInt ≤ t.toInt ∧ t.toInt ≤ 3 := by
  have u := own_us r ((8 : Int32) &&& 31).toUInt32 8 (by decide) (by decide)
  have n := own_nz f h
  have q := own_remI ((r.toUInt32 >>> ((8 : Int32) &&& 31).toUInt32).toInt32) ((4 : Int32) - f) (by rw [u]; omega) (by rw [n]; omega)
  have b1 := Int.emod_nonneg ((r.toUInt32 >>> ((8 : Int32) &&& 31).toUInt32).toInt32).toInt (b := ((4 : Int32) - f).toInt) (by rw [n]; omega)
  have b2 := Int.emod_lt_of_pos ((r.toUInt32 >>> ((8 : Int32) &&& 31).toUInt32).toInt32).toInt (b := ((4 : Int32) - f).toInt) (by rw [n]; omega)
  rw [← q] at b1 b2
  rw [n] at b2
  have a := Jvm.Kit.i32_add (p := f) (q := (((r.toUInt32 >>> ((8 : Int32) &&& 31).toUInt32).toInt32) - (((r.toUInt32 >>> ((8 : Int32) &&& 31).toUInt32).toInt32) / ((4 : Int32) - f)) * ((4 : Int32) - f))) (by omega) (by omega)
  rw [← ht] at a
  omega
theorem own_hr (r f t : Int32) (n : Nat) (hn : n = 3) (hf : f = (r &&& (2147483647 : Int32)) - ((r &&& (2147483647 : Int32)) / (4 : Int32)) * (4 : Int32)) (ht : t = f + (((r.toUInt32 >>> ((8 : Int32) &&& 31).toUInt32).toInt32) - (((r.toUInt32 >>> ((8 : Int32) &&& 31).toUInt32).toInt32) / ((4 : Int32) - f)) * ((4 : Int32) - f))) : 0 ≤ f.toInt ∧ f.toInt ≤ t.toInt ∧ t.toInt ≤ (n : Int) ∧ n ≤ 3 := by
  have a := own_f4r r f hf
  have b := own_t4r r f t a ht
  subst hn
  omega

theorem d1_0 : decode method_2_code 0 = .ok (.iconst 3, 1) := by decide +kernel
theorem d1_1 : decode method_2_code 1 = .ok (.newarray .byte, 2) := by decide +kernel
theorem d1_3 : decode method_2_code 3 = .ok (.astore_n 1, 1) := by decide +kernel
theorem d1_4 : decode method_2_code 4 = .ok (.aload_n 1, 1) := by decide +kernel
theorem d1_5 : decode method_2_code 5 = .ok (.iconst 0, 1) := by decide +kernel
theorem d1_6 : decode method_2_code 6 = .ok (.iload_n 0, 1) := by decide +kernel
theorem d1_7 : decode method_2_code 7 = .ok (.bipush 127, 2) := by decide +kernel
theorem d1_9 : decode method_2_code 9 = .ok (.iand, 1) := by decide +kernel
theorem d1_10 : decode method_2_code 10 = .ok (.i2b, 1) := by decide +kernel
theorem d1_11 : decode method_2_code 11 = .ok (.bastore, 1) := by decide +kernel
theorem d1_12 : decode method_2_code 12 = .ok (.aload_n 1, 1) := by decide +kernel
theorem d1_13 : decode method_2_code 13 = .ok (.iconst 1, 1) := by decide +kernel
theorem d1_14 : decode method_2_code 14 = .ok (.iload_n 0, 1) := by decide +kernel
theorem d1_15 : decode method_2_code 15 = .ok (.bipush 8, 2) := by decide +kernel
theorem d1_17 : decode method_2_code 17 = .ok (.iushr, 1) := by decide +kernel
theorem d1_18 : decode method_2_code 18 = .ok (.bipush 127, 2) := by decide +kernel
theorem d1_20 : decode method_2_code 20 = .ok (.iand, 1) := by decide +kernel
theorem d1_21 : decode method_2_code 21 = .ok (.i2b, 1) := by decide +kernel
theorem d1_22 : decode method_2_code 22 = .ok (.bastore, 1) := by decide +kernel
theorem d1_23 : decode method_2_code 23 = .ok (.aload_n 1, 1) := by decide +kernel
theorem d1_24 : decode method_2_code 24 = .ok (.iconst 2, 1) := by decide +kernel
theorem d1_25 : decode method_2_code 25 = .ok (.iload_n 0, 1) := by decide +kernel
theorem d1_26 : decode method_2_code 26 = .ok (.bipush 16, 2) := by decide +kernel
theorem d1_28 : decode method_2_code 28 = .ok (.iushr, 1) := by decide +kernel
theorem d1_29 : decode method_2_code 29 = .ok (.bipush 127, 2) := by decide +kernel
theorem d1_31 : decode method_2_code 31 = .ok (.iand, 1) := by decide +kernel
theorem d1_32 : decode method_2_code 32 = .ok (.i2b, 1) := by decide +kernel
theorem d1_33 : decode method_2_code 33 = .ok (.bastore, 1) := by decide +kernel
theorem d1_34 : decode method_2_code 34 = .ok (.aload_n 1, 1) := by decide +kernel
theorem d1_35 : decode method_2_code 35 = .ok (.areturn, 1) := by decide +kernel
theorem pn_1 : plainName "com/example/prudentia/prudentia/csv/AsciiTextOfPinLaw" = true := by first | (simp [plainName, overriddenIn]; done) | decide +kernel
theorem ef_1 (m : MethodId) (p1 : Int32) : entryFrame m #[(.int p1)] 2 = mkF m 0 #[.val (.int p1), .unset] [] := by first | (simp [entryFrame, mkF, argsToLocals, Value.category]; done) | rfl
def Q1 (Z : State) (p1 : Int32) (h0 : Heap) (n0 : Nat) (v : Option Value) (h : Heap) (L : List Loc) : Prop := ∃ (rb : Addr), v = some (.ref rb) ∧ Fr n0 L ∧ Keep h0 h [] ∧ own_Ari Z h rb .byte [(nar .byte ((p1 &&& (127 : Int32)).toInt8.toInt32)), (nar .byte ((((p1.toUInt32 >>> ((8 : Int32) &&& 31).toUInt32).toInt32) &&& (127 : Int32)).toInt8.toInt32)), (nar .byte ((((p1.toUInt32 >>> ((16 : Int32) &&& 31).toUInt32).toInt32) &&& (127 : Int32)).toInt8.toInt32))] ∧ h0.size ≤ rb
set_option maxRecDepth 65536 in
set_option maxHeartbeats 40000000 in
theorem rm1 (l : Launch) (Z : State) (a0 : Array Value) (hw : ∀ d ∈ tables_1, d.before a0 Z = true) (ws : List Jvm.Cond) (p1 : Int32) (h0 : Heap) (n0 : Nat) (Z0 : n0 ≤ h0.size) :
    MetFree l (⟨"com/example/prudentia/prudentia/csv/AsciiTextOfPinLaw", "buf", "(I)[B"⟩ : MethodName) (head1 (Jvm.Cond.code (⟨"com/example/prudentia/prudentia/csv/AsciiTextOfPinLaw", "buf", "(I)[B"⟩ : MethodName) method_2_code 2 (some (.array .byte)) :: ws) ({ frames := 0, cells := 1, slots := 3, locals := 0 } : Room)) (fun a U => a = #[(.int p1)] ∧ Z.Warmed39 U.vm ∧ U.heap = h0) (fun _ _ _ _ _ => True) (fun _ U o U' => ∃ v L, o = .returned v ∧ Q1 Z p1 h0 n0 v U'.heap L ∧ FrameEnd U o U' L ({ frames := 0, cells := 1, slots := 3, locals := 0 } : Room).cells ({ frames := 0, cells := 1, slots := 3, locals := 0 } : Room).slots) := by
  refine MetFree.of_bodySF (plainFor_of_name pn_1) hisR ?_
  intro p e s m args below meth c s₁ Bd hml0 hP hK
  obtain ⟨rfl, hZ, hh⟩ := hP
  have hx := Bd.exec
  have hby := Bd.bytes
  have hml : c.maxLocals = 2 := hml0
  have hown : s.vm.findClass "com/example/prudentia/prudentia/csv/AsciiTextOfPinLaw" = some m.cls := findClass_of_methodNamed Bd.named
  have hnm := (name_of_methodNamed Bd.named Bd.method).1
  have X0 : Stand p l e ({ frames := 0, cells := 1, slots := 3, locals := 0 } : Room) s m #[(.int p1)] below meth c s₁ [] 0 0 := Stand.of_body Bd
  have e0 : s₁.heap = h0 := by rw [← hh, Bd.state]; rfl
  have N0 := Fr.nil n0
  refine own_start (fun t k => castTop (ef_1 m p1) k) ?_
  show own_G p.tables e below _ (s₁.setTop (mkF m 0 #[.val (.int p1), .unset] []))
  refine own_step (fun t k => XS.iconst X0.here hx rfl (hb hby d1_0) k) ?_
  show own_G p.tables e below _ (s₁.setTop (mkF m 1 #[.val (.int p1), .unset] [(.int (3 : Int32))]))
  obtain ⟨T1, h1, k1, X1, e1, E1, A1, st1⟩ := newP X0 hx hZ (hw _ (List.mem_of_getElem? (i := 4) rfl)) e0 (g := (mkF m 1 #[.val (.int p1), .unset] [(.int (3 : Int32))])) rfl (hb hby d1_1) rfl (by decide) (cap := 3) (by decide) (by decide) (by decide) (by decide)
  obtain ⟨b1, g1⟩ : ∃ z, z = h0.size := ⟨_, rfl⟩
  have sz1 : h0.size ≤ b1 := Nat.le_trans (Keep.refl h0 []).1 (Nat.le_of_eq g1.symm)
  have ge1 : n0 ≤ b1 := Nat.le_trans Z0 sz1
  have K1 : Keep h0 h1 [] := (Keep.refl h0 []).ext E1
  rw [← g1] at A1 st1
  have c2 : own_Ari Z h1 b1 .byte [(0 : Int32), (0 : Int32), (0 : Int32)] := own_Ari_new (ty := .byte) A1 (by decide) rfl
  refine own_step st1 ?_
  show own_G p.tables e below _ (T1.setTop (mkF m 3 #[.val (.int p1), .unset] [(.ref b1)]))
  refine own_step (fun t k => XS.astoreN X1.here hx rfl (hb hby d1_3) rfl rfl (l' := #[.val (.int p1), .val (.ref b1)]) rfl k) ?_
  show own_G p.tables e below _ (T1.setTop (mkF m 4 #[.val (.int p1), .val (.ref b1)] []))
  refine own_step (fun t k => XS.aloadN X1.here hx rfl (hb hby d1_4) rfl rfl k) ?_
  show own_G p.tables e below _ (T1.setTop (mkF m 5 #[.val (.int p1), .val (.ref b1)] [(.ref b1)]))
  refine own_step (fun t k => XS.iconst X1.here hx rfl (hb hby d1_5) k) ?_
  show own_G p.tables e below _ (T1.setTop (mkF m 6 #[.val (.int p1), .val (.ref b1)] [(.int (0 : Int32)), (.ref b1)]))
  refine own_step (fun t k => XS.iloadN X1.here hx rfl (hb hby d1_6) rfl k) ?_
  show own_G p.tables e below _ (T1.setTop (mkF m 7 #[.val (.int p1), .val (.ref b1)] [(.int p1), (.int (0 : Int32)), (.ref b1)]))
  refine own_step (fun t k => XS.bipush X1.here hx rfl (hb hby d1_7) k) ?_
  show own_G p.tables e below _ (T1.setTop (mkF m 9 #[.val (.int p1), .val (.ref b1)] [(.int (127 : Int32)), (.int p1), (.int (0 : Int32)), (.ref b1)]))
  refine own_step (fun t k => XS.iand X1.here hx rfl (hb hby d1_9) rfl k) ?_
  show own_G p.tables e below _ (T1.setTop (mkF m 10 #[.val (.int p1), .val (.ref b1)] [(.int (p1 &&& (127 : Int32))), (.int (0 : Int32)), (.ref b1)]))
  refine own_step (fun t k => XS.i2b X1.here hx rfl (hb hby d1_10) rfl k) ?_
  show own_G p.tables e below _ (T1.setTop (mkF m 11 #[.val (.int p1), .val (.ref b1)] [(.int ((p1 &&& (127 : Int32)).toInt8.toInt32)), (.int (0 : Int32)), (.ref b1)]))
  obtain ⟨T3, h3, X3, e3, W3, c3, st3⟩ := own_bastore X1 hx hZ e1 c2 (own_inb (by decide) (Nat.le_of_ble_eq_true rfl)) (g := (mkF m 11 #[.val (.int p1), .val (.ref b1)] [(.int ((p1 &&& (127 : Int32)).toInt8.toInt32)), (.int (0 : Int32)), (.ref b1)])) rfl rfl (hb hby d1_11)
  have N3 := Fr.snoc X3 N0 ge1
  have c4 : own_Ari Z h3 b1 .byte [(nar .byte ((p1 &&& (127 : Int32)).toInt8.toInt32)), (0 : Int32), (0 : Int32)] := c3
  have K3 : Keep h0 h3 [] := K1.wr W3 (Or.inr sz1)
  refine own_step st3 ?_
  show own_G p.tables e below _ (T3.setTop (mkF m 12 #[.val (.int p1), .val (.ref b1)] []))
  refine own_step (fun t k => XS.aloadN X3.here hx rfl (hb hby d1_12) rfl rfl k) ?_
  show own_G p.tables e below _ (T3.setTop (mkF m 13 #[.val (.int p1), .val (.ref b1)] [(.ref b1)]))
  refine own_step (fun t k => XS.iconst X3.here hx rfl (hb hby d1_13) k) ?_
  show own_G p.tables e below _ (T3.setTop (mkF m 14 #[.val (.int p1), .val (.ref b1)] [(.int (1 : Int32)), (.ref b1)]))
  refine own_step (fun t k => XS.iloadN X3.here hx rfl (hb hby d1_14) rfl k) ?_
  show own_G p.tables e below _ (T3.setTop (mkF m 15 #[.val (.int p1), .val (.ref b1)] [(.int p1), (.int (1 : Int32)), (.ref b1)]))
  refine own_step (fun t k => XS.bipush X3.here hx rfl (hb hby d1_15) k) ?_
  show own_G p.tables e below _ (T3.setTop (mkF m 17 #[.val (.int p1), .val (.ref b1)] [(.int (8 : Int32)), (.int p1), (.int (1 : Int32)), (.ref b1)]))
  refine own_step (fun t k => XS.iushr X3.here hx rfl (hb hby d1_17) rfl k) ?_
  show own_G p.tables e below _ (T3.setTop (mkF m 18 #[.val (.int p1), .val (.ref b1)] [(.int ((p1.toUInt32 >>> ((8 : Int32) &&& 31).toUInt32).toInt32)), (.int (1 : Int32)), (.ref b1)]))
  refine own_step (fun t k => XS.bipush X3.here hx rfl (hb hby d1_18) k) ?_
  show own_G p.tables e below _ (T3.setTop (mkF m 20 #[.val (.int p1), .val (.ref b1)] [(.int (127 : Int32)), (.int ((p1.toUInt32 >>> ((8 : Int32) &&& 31).toUInt32).toInt32)), (.int (1 : Int32)), (.ref b1)]))
  refine own_step (fun t k => XS.iand X3.here hx rfl (hb hby d1_20) rfl k) ?_
  show own_G p.tables e below _ (T3.setTop (mkF m 21 #[.val (.int p1), .val (.ref b1)] [(.int (((p1.toUInt32 >>> ((8 : Int32) &&& 31).toUInt32).toInt32) &&& (127 : Int32))), (.int (1 : Int32)), (.ref b1)]))
  refine own_step (fun t k => XS.i2b X3.here hx rfl (hb hby d1_21) rfl k) ?_
  show own_G p.tables e below _ (T3.setTop (mkF m 22 #[.val (.int p1), .val (.ref b1)] [(.int ((((p1.toUInt32 >>> ((8 : Int32) &&& 31).toUInt32).toInt32) &&& (127 : Int32)).toInt8.toInt32)), (.int (1 : Int32)), (.ref b1)]))
  obtain ⟨T6, h6, X6, e6, W6, c6, st6⟩ := own_bastore X3 hx hZ e3 c4 (own_inb (by decide) (Nat.le_of_ble_eq_true rfl)) (g := (mkF m 22 #[.val (.int p1), .val (.ref b1)] [(.int ((((p1.toUInt32 >>> ((8 : Int32) &&& 31).toUInt32).toInt32) &&& (127 : Int32)).toInt8.toInt32)), (.int (1 : Int32)), (.ref b1)])) rfl rfl (hb hby d1_22)
  have N6 := Fr.snoc X6 N3 ge1
  have c7 : own_Ari Z h6 b1 .byte [(nar .byte ((p1 &&& (127 : Int32)).toInt8.toInt32)), (nar .byte ((((p1.toUInt32 >>> ((8 : Int32) &&& 31).toUInt32).toInt32) &&& (127 : Int32)).toInt8.toInt32)), (0 : Int32)] := c6
  have K6 : Keep h0 h6 [] := K3.wr W6 (Or.inr sz1)
  refine own_step st6 ?_
  show own_G p.tables e below _ (T6.setTop (mkF m 23 #[.val (.int p1), .val (.ref b1)] []))
  refine own_step (fun t k => XS.aloadN X6.here hx rfl (hb hby d1_23) rfl rfl k) ?_
  show own_G p.tables e below _ (T6.setTop (mkF m 24 #[.val (.int p1), .val (.ref b1)] [(.ref b1)]))
  refine own_step (fun t k => XS.iconst X6.here hx rfl (hb hby d1_24) k) ?_
  show own_G p.tables e below _ (T6.setTop (mkF m 25 #[.val (.int p1), .val (.ref b1)] [(.int (2 : Int32)), (.ref b1)]))
  refine own_step (fun t k => XS.iloadN X6.here hx rfl (hb hby d1_25) rfl k) ?_
  show own_G p.tables e below _ (T6.setTop (mkF m 26 #[.val (.int p1), .val (.ref b1)] [(.int p1), (.int (2 : Int32)), (.ref b1)]))
  refine own_step (fun t k => XS.bipush X6.here hx rfl (hb hby d1_26) k) ?_
  show own_G p.tables e below _ (T6.setTop (mkF m 28 #[.val (.int p1), .val (.ref b1)] [(.int (16 : Int32)), (.int p1), (.int (2 : Int32)), (.ref b1)]))
  refine own_step (fun t k => XS.iushr X6.here hx rfl (hb hby d1_28) rfl k) ?_
  show own_G p.tables e below _ (T6.setTop (mkF m 29 #[.val (.int p1), .val (.ref b1)] [(.int ((p1.toUInt32 >>> ((16 : Int32) &&& 31).toUInt32).toInt32)), (.int (2 : Int32)), (.ref b1)]))
  refine own_step (fun t k => XS.bipush X6.here hx rfl (hb hby d1_29) k) ?_
  show own_G p.tables e below _ (T6.setTop (mkF m 31 #[.val (.int p1), .val (.ref b1)] [(.int (127 : Int32)), (.int ((p1.toUInt32 >>> ((16 : Int32) &&& 31).toUInt32).toInt32)), (.int (2 : Int32)), (.ref b1)]))
  refine own_step (fun t k => XS.iand X6.here hx rfl (hb hby d1_31) rfl k) ?_
  show own_G p.tables e below _ (T6.setTop (mkF m 32 #[.val (.int p1), .val (.ref b1)] [(.int (((p1.toUInt32 >>> ((16 : Int32) &&& 31).toUInt32).toInt32) &&& (127 : Int32))), (.int (2 : Int32)), (.ref b1)]))
  refine own_step (fun t k => XS.i2b X6.here hx rfl (hb hby d1_32) rfl k) ?_
  show own_G p.tables e below _ (T6.setTop (mkF m 33 #[.val (.int p1), .val (.ref b1)] [(.int ((((p1.toUInt32 >>> ((16 : Int32) &&& 31).toUInt32).toInt32) &&& (127 : Int32)).toInt8.toInt32)), (.int (2 : Int32)), (.ref b1)]))
  obtain ⟨T9, h9, X9, e9, W9, c9, st9⟩ := own_bastore X6 hx hZ e6 c7 (own_inb (by decide) (Nat.le_of_ble_eq_true rfl)) (g := (mkF m 33 #[.val (.int p1), .val (.ref b1)] [(.int ((((p1.toUInt32 >>> ((16 : Int32) &&& 31).toUInt32).toInt32) &&& (127 : Int32)).toInt8.toInt32)), (.int (2 : Int32)), (.ref b1)])) rfl rfl (hb hby d1_33)
  have N9 := Fr.snoc X9 N6 ge1
  have c10 : own_Ari Z h9 b1 .byte [(nar .byte ((p1 &&& (127 : Int32)).toInt8.toInt32)), (nar .byte ((((p1.toUInt32 >>> ((8 : Int32) &&& 31).toUInt32).toInt32) &&& (127 : Int32)).toInt8.toInt32)), (nar .byte ((((p1.toUInt32 >>> ((16 : Int32) &&& 31).toUInt32).toInt32) &&& (127 : Int32)).toInt8.toInt32))] := c9
  have K9 : Keep h0 h9 [] := K6.wr W9 (Or.inr sz1)
  refine own_step st9 ?_
  show own_G p.tables e below _ (T9.setTop (mkF m 34 #[.val (.int p1), .val (.ref b1)] []))
  refine own_step (fun t k => XS.aloadN X9.here hx rfl (hb hby d1_34) rfl rfl k) ?_
  show own_G p.tables e below _ (T9.setTop (mkF m 35 #[.val (.int p1), .val (.ref b1)] [(.ref b1)]))
  obtain ⟨fs, hr, hrun, hended, hW, hsame⟩ := X9.leave (v := some (.ref b1)) (fun h => by rw [Bd.returns] at h; cases h)
  refine own_done (own_retA X9 hx Bd.returns (by decide) rfl (hb hby d1_35) hr) hrun hended ⟨_, _, rfl, ?_, ⟨_, rfl⟩, hW, hsame.mono (by decide) (by decide)⟩
  show Q1 Z p1 h0 n0 _ T9.heap _
  rw [e9]
  exact ⟨b1, rfl, N9, K9, c10, sz1⟩
theorem d2_0 : decode prog_6_method_1_code 0 = .ok (.aload_n 0, 1) := by decide +kernel
theorem d2_1 : decode prog_6_method_1_code 1 = .ok (.invokespecial 1, 3) := by decide +kernel
theorem d2_4 : decode prog_6_method_1_code 4 = .ok (.return_, 1) := by decide +kernel
theorem pn_2 : plainName "com/example/prudentia/prudentia/csv/AsciiText" = true := by first | (simp [plainName, overriddenIn]; done) | decide +kernel
theorem ef_2 (m : MethodId) (a1 : Addr) : entryFrame m #[(.ref a1)] 1 = mkF m 0 #[.val (.ref a1)] [] := by first | (simp [entryFrame, mkF, argsToLocals, Value.category]; done) | rfl
def Q2 (Z : State) (a1 : Addr) (h0 : Heap) (n0 : Nat) (v : Option Value) (h : Heap) (L : List Loc) : Prop := v = none ∧ Fr n0 L ∧ h = h0
set_option maxRecDepth 65536 in
set_option maxHeartbeats 40000000 in
theorem rm2 (l : Launch) (Z : State) (a0 : Array Value) (hw : ∀ d ∈ tables_1, d.before a0 Z = true) (ws : List Jvm.Cond) (a1 : Addr) (h0 : Heap) (n0 : Nat) (Z0 : n0 ≤ h0.size) :
    MetFree l (⟨"com/example/prudentia/prudentia/csv/AsciiText", "<init>", "()V"⟩ : MethodName) (head1 (Jvm.Cond.code (⟨"com/example/prudentia/prudentia/csv/AsciiText", "<init>", "()V"⟩ : MethodName) prog_6_method_1_code 1 none :: ws) ({ frames := 1, cells := 0, slots := 0, locals := 12 } : Room)) (fun a U => a = #[(.ref a1)] ∧ Z.Warmed39 U.vm ∧ U.heap = h0) (fun _ _ _ _ _ => True) (fun _ U o U' => ∃ v L, o = .returned v ∧ Q2 Z a1 h0 n0 v U'.heap L ∧ FrameEnd U o U' L ({ frames := 1, cells := 0, slots := 0, locals := 12 } : Room).cells ({ frames := 1, cells := 0, slots := 0, locals := 12 } : Room).slots) := by
  refine MetFree.of_bodySF (plainFor_of_name pn_2) hisR ?_
  intro p e s m args below meth c s₁ Bd hml0 hP hK
  obtain ⟨rfl, hZ, hh⟩ := hP
  have hx := Bd.exec
  have hby := Bd.bytes
  have hml : c.maxLocals = 1 := hml0
  have hown : s.vm.findClass "com/example/prudentia/prudentia/csv/AsciiText" = some m.cls := findClass_of_methodNamed Bd.named
  have hnm := (name_of_methodNamed Bd.named Bd.method).1
  have X0 : Stand p l e ({ frames := 1, cells := 0, slots := 0, locals := 12 } : Room) s m #[(.ref a1)] below meth c s₁ [] 0 0 := Stand.of_body Bd
  have e0 : s₁.heap = h0 := by rw [← hh, Bd.state]; rfl
  have N0 := Fr.nil n0
  refine own_start (fun t k => castTop (ef_2 m a1) k) ?_
  show own_G p.tables e below _ (s₁.setTop (mkF m 0 #[.val (.ref a1)] []))
  refine own_step (fun t k => XS.aloadN X0.here hx rfl (hb hby d2_0) rfl rfl k) ?_
  show own_G p.tables e below _ (s₁.setTop (mkF m 1 #[.val (.ref a1)] [(.ref a1)]))
  obtain ⟨T1, X1, e1, st1⟩ := initO X0 hx hZ hown (hw _ (List.mem_of_getElem? (i := 12) rfl)) (hw _ (List.mem_of_getElem? (i := 13) rfl)) (hw _ (List.mem_of_getElem? (i := 14) rfl)) e0 (g := (mkF m 1 #[.val (.ref a1)] [(.ref a1)])) rfl (by rw [hml]; rfl) rfl (hb hby d2_1) (by decide) (W := 0) (by show 2 * 0 + _ ≤ _; exact Nat.le_of_eq rfl) (by decide)
  refine own_step st1 ?_
  show own_G p.tables e below _ (T1.setTop (mkF m 4 #[.val (.ref a1)] []))
  obtain ⟨fs, hr, hrun, hended, hW, hsame⟩ := X1.leave (v := none) (fun _ => rfl)
  refine own_done (X1.returnOut hx Bd.returns (hb hby d2_4) hr) hrun hended ⟨_, _, rfl, ?_, ⟨_, rfl⟩, hW, hsame.mono (by decide) (by decide)⟩
  show Q2 Z a1 h0 n0 _ T1.heap _
  rw [e1]
  exact ⟨rfl, N0, rfl⟩
theorem d4_0 : decode prog_6_method_2_code 0 = .ok (.aload_n 0, 1) := by decide +kernel
theorem d4_1 : decode prog_6_method_2_code 1 = .ok (.aload_n 1, 1) := by decide +kernel
theorem d4_2 : decode prog_6_method_2_code 2 = .ok (.putfield 7, 3) := by decide +kernel
theorem d4_5 : decode prog_6_method_2_code 5 = .ok (.aload_n 0, 1) := by decide +kernel
theorem d4_6 : decode prog_6_method_2_code 6 = .ok (.iload_n 2, 1) := by decide +kernel
theorem d4_7 : decode prog_6_method_2_code 7 = .ok (.putfield 13, 3) := by decide +kernel
theorem d4_10 : decode prog_6_method_2_code 10 = .ok (.aload_n 0, 1) := by decide +kernel
theorem d4_11 : decode prog_6_method_2_code 11 = .ok (.iload_n 3, 1) := by decide +kernel
theorem d4_12 : decode prog_6_method_2_code 12 = .ok (.iload_n 2, 1) := by decide +kernel
theorem d4_13 : decode prog_6_method_2_code 13 = .ok (.isub, 1) := by decide +kernel
theorem d4_14 : decode prog_6_method_2_code 14 = .ok (.putfield 17, 3) := by decide +kernel
theorem d4_17 : decode prog_6_method_2_code 17 = .ok (.aload_n 0, 1) := by decide +kernel
theorem d4_18 : decode prog_6_method_2_code 18 = .ok (.areturn, 1) := by decide +kernel
theorem pn_4 : plainName "com/example/prudentia/prudentia/csv/AsciiText" = true := by first | (simp [plainName, overriddenIn]; done) | decide +kernel
theorem ef_4 (m : MethodId) (a1 : Addr) (a2 : Addr) (p3 : Int32) (p4 : Int32) : entryFrame m #[(.ref a1), (.ref a2), (.int p3), (.int p4)] 4 = mkF m 0 #[.val (.ref a1), .val (.ref a2), .val (.int p3), .val (.int p4)] [] := by first | (simp [entryFrame, mkF, argsToLocals, Value.category]; done) | rfl
def Q4 (Z : State) (a1 : Addr) (a2 : Addr) (p3 : Int32) (p4 : Int32) (u_bytes_a1 : Value) (u_start_a1 : Value) (u_length_a1 : Value) (h0 : Heap) (n0 : Nat) (v : Option Value) (h : Heap) (L : List Loc) : Prop := v = some (.ref a1) ∧ Fr n0 L ∧ Keep h0 h [a1] ∧ Fld Z h a1 "com/example/prudentia/prudentia/csv/AsciiText" "bytes" "[B" (.ref a2) ∧ Fld Z h a1 "com/example/prudentia/prudentia/csv/AsciiText" "start" "I" (.int p3) ∧ Fld Z h a1 "com/example/prudentia/prudentia/csv/AsciiText" "length" "I" (.int (p4 - p3))
set_option maxRecDepth 65536 in
set_option maxHeartbeats 40000000 in
theorem rm4 (l : Launch) (Z : State) (a0 : Array Value) (hw : ∀ d ∈ tables_1, d.before a0 Z = true) (ws : List Jvm.Cond) (a1 : Addr) (a2 : Addr) (p3 : Int32) (p4 : Int32) (u_bytes_a1 : Value) (u_start_a1 : Value) (u_length_a1 : Value) (h0 : Heap) (n0 : Nat) (Z0 : n0 ≤ h0.size) (fp0 : Exa Z h0 a1 "com/example/prudentia/prudentia/csv/AsciiText") (fp1 : Fld Z h0 a1 "com/example/prudentia/prudentia/csv/AsciiText" "bytes" "[B" u_bytes_a1) (fp2 : Fld Z h0 a1 "com/example/prudentia/prudentia/csv/AsciiText" "start" "I" u_start_a1) (fp3 : Fld Z h0 a1 "com/example/prudentia/prudentia/csv/AsciiText" "length" "I" u_length_a1) (g_a1 : n0 ≤ a1) :
    MetFree l (⟨"com/example/prudentia/prudentia/csv/AsciiText", "of", "([BII)Lcom/example/prudentia/prudentia/csv/AsciiText;"⟩ : MethodName) (head1 (Jvm.Cond.code (⟨"com/example/prudentia/prudentia/csv/AsciiText", "of", "([BII)Lcom/example/prudentia/prudentia/csv/AsciiText;"⟩ : MethodName) prog_6_method_2_code 4 (some (.object "com/example/prudentia/prudentia/csv/AsciiText")) :: ws) ({ frames := 0, cells := 0, slots := 0, locals := 0 } : Room)) (fun a U => a = #[(.ref a1), (.ref a2), (.int p3), (.int p4)] ∧ Z.Warmed39 U.vm ∧ U.heap = h0) (fun _ _ _ _ _ => True) (fun _ U o U' => ∃ v L, o = .returned v ∧ Q4 Z a1 a2 p3 p4 u_bytes_a1 u_start_a1 u_length_a1 h0 n0 v U'.heap L ∧ FrameEnd U o U' L ({ frames := 0, cells := 0, slots := 0, locals := 0 } : Room).cells ({ frames := 0, cells := 0, slots := 0, locals := 0 } : Room).slots) := by
  refine MetFree.of_bodySF (plainFor_of_name pn_4) hisR ?_
  intro p e s m args below meth c s₁ Bd hml0 hP hK
  obtain ⟨rfl, hZ, hh⟩ := hP
  have hx := Bd.exec
  have hby := Bd.bytes
  have hml : c.maxLocals = 4 := hml0
  have hown : s.vm.findClass "com/example/prudentia/prudentia/csv/AsciiText" = some m.cls := findClass_of_methodNamed Bd.named
  have hnm := (name_of_methodNamed Bd.named Bd.method).1
  have X0 : Stand p l e ({ frames := 0, cells := 0, slots := 0, locals := 0 } : Room) s m #[(.ref a1), (.ref a2), (.int p3), (.int p4)] below meth c s₁ [] 0 0 := Stand.of_body Bd
  have e0 : s₁.heap = h0 := by rw [← hh, Bd.state]; rfl
  have N0 := Fr.nil n0
  refine own_start (fun t k => castTop (ef_4 m a1 a2 p3 p4) k) ?_
  show own_G p.tables e below _ (s₁.setTop (mkF m 0 #[.val (.ref a1), .val (.ref a2), .val (.int p3), .val (.int p4)] []))
  refine own_step (fun t k => XS.aloadN X0.here hx rfl (hb hby d4_0) rfl rfl k) ?_
  show own_G p.tables e below _ (s₁.setTop (mkF m 1 #[.val (.ref a1), .val (.ref a2), .val (.int p3), .val (.int p4)] [(.ref a1)]))
  refine own_step (fun t k => XS.aloadN X0.here hx rfl (hb hby d4_1) rfl rfl k) ?_
  show own_G p.tables e below _ (s₁.setTop (mkF m 2 #[.val (.ref a1), .val (.ref a2), .val (.int p3), .val (.int p4)] [(.ref a2), (.ref a1)]))
  obtain ⟨T1, h1, X1, e1, W1, st1⟩ := putF X0 hx hZ hown (host := "") (Or.inl (hw _ (List.mem_of_getElem? (i := 20) rfl))) Via.refl e0 fp1 fp0 (Or.inl (hw _ (List.mem_of_getElem? (i := 21) rfl))) (hw _ (List.mem_of_getElem? (i := 7) rfl)) (ty := (.array .byte)) (by decide) rfl rfl (g := (mkF m 2 #[.val (.ref a1), .val (.ref a2), .val (.int p3), .val (.int p4)] [(.ref a2), (.ref a1)])) rfl rfl (hb hby d4_2)
  have N1 := Fr.snoc X1 N0 g_a1
  have c2 : Fld Z h1 a1 "com/example/prudentia/prudentia/csv/AsciiText" "bytes" "[B" (.ref a2) := fp1.same W1
  have c3 : Exa Z h1 a1 "com/example/prudentia/prudentia/csv/AsciiText" := fp0.wr W1
  have c5 : Fld Z h1 a1 "com/example/prudentia/prudentia/csv/AsciiText" "start" "I" u_start_a1 := fp2.other W1 (Or.inr (slot_ne (Or.inl (hw _ (List.mem_of_getElem? (i := 23) rfl))) (Or.inl (hw _ (List.mem_of_getElem? (i := 21) rfl))) (by decide) (t := .int) (t' := (.array .byte)) (by decide) (by decide)))
  have c6 : Fld Z h1 a1 "com/example/prudentia/prudentia/csv/AsciiText" "length" "I" u_length_a1 := fp3.other W1 (Or.inr (slot_ne (Or.inl (hw _ (List.mem_of_getElem? (i := 25) rfl))) (Or.inl (hw _ (List.mem_of_getElem? (i := 21) rfl))) (by decide) (t := .int) (t' := (.array .byte)) (by decide) (by decide)))
  have K1 : Keep h0 h1 [a1] := (Keep.refl h0 [a1]).wr W1 (Or.inl (List.mem_of_getElem? (i := 0) rfl))
  refine own_step st1 ?_
  show own_G p.tables e below _ (T1.setTop (mkF m 5 #[.val (.ref a1), .val (.ref a2), .val (.int p3), .val (.int p4)] []))
  refine own_step (fun t k => XS.aloadN X1.here hx rfl (hb hby d4_5) rfl rfl k) ?_
  show own_G p.tables e below _ (T1.setTop (mkF m 6 #[.val (.ref a1), .val (.ref a2), .val (.int p3), .val (.int p4)] [(.ref a1)]))
  refine own_step (fun t k => XS.iloadN X1.here hx rfl (hb hby d4_6) rfl k) ?_
  show own_G p.tables e below _ (T1.setTop (mkF m 7 #[.val (.ref a1), .val (.ref a2), .val (.int p3), .val (.int p4)] [(.int p3), (.ref a1)]))
  obtain ⟨T7, h7, X7, e7, W7, st7⟩ := putF X1 hx hZ hown (host := "") (Or.inl (hw _ (List.mem_of_getElem? (i := 22) rfl))) Via.refl e1 c5 c3 (Or.inl (hw _ (List.mem_of_getElem? (i := 23) rfl))) (hw _ (List.mem_of_getElem? (i := 7) rfl)) (ty := .int) (by decide) rfl rfl (g := (mkF m 7 #[.val (.ref a1), .val (.ref a2), .val (.int p3), .val (.int p4)] [(.int p3), (.ref a1)])) rfl rfl (hb hby d4_7)
  have N7 := Fr.snoc X7 N1 g_a1
  have c8 : Fld Z h7 a1 "com/example/prudentia/prudentia/csv/AsciiText" "start" "I" (.int p3) := c5.same W7
  have c9 : Exa Z h7 a1 "com/example/prudentia/prudentia/csv/AsciiText" := c3.wr W7
  have c10 : Fld Z h7 a1 "com/example/prudentia/prudentia/csv/AsciiText" "bytes" "[B" (.ref a2) := c2.other W7 (Or.inr (slot_ne (Or.inl (hw _ (List.mem_of_getElem? (i := 21) rfl))) (Or.inl (hw _ (List.mem_of_getElem? (i := 23) rfl))) (by decide) (t := (.array .byte)) (t' := .int) (by decide) (by decide)))
  have c12 : Fld Z h7 a1 "com/example/prudentia/prudentia/csv/AsciiText" "length" "I" u_length_a1 := c6.other W7 (Or.inr (slot_ne (Or.inl (hw _ (List.mem_of_getElem? (i := 25) rfl))) (Or.inl (hw _ (List.mem_of_getElem? (i := 23) rfl))) (by decide) (t := .int) (t' := .int) (by decide) (by decide)))
  have K7 : Keep h0 h7 [a1] := K1.wr W7 (Or.inl (List.mem_of_getElem? (i := 0) rfl))
  refine own_step st7 ?_
  show own_G p.tables e below _ (T7.setTop (mkF m 10 #[.val (.ref a1), .val (.ref a2), .val (.int p3), .val (.int p4)] []))
  refine own_step (fun t k => XS.aloadN X7.here hx rfl (hb hby d4_10) rfl rfl k) ?_
  show own_G p.tables e below _ (T7.setTop (mkF m 11 #[.val (.ref a1), .val (.ref a2), .val (.int p3), .val (.int p4)] [(.ref a1)]))
  refine own_step (fun t k => XS.iloadN X7.here hx rfl (hb hby d4_11) rfl k) ?_
  show own_G p.tables e below _ (T7.setTop (mkF m 12 #[.val (.ref a1), .val (.ref a2), .val (.int p3), .val (.int p4)] [(.int p4), (.ref a1)]))
  refine own_step (fun t k => XS.iloadN X7.here hx rfl (hb hby d4_12) rfl k) ?_
  show own_G p.tables e below _ (T7.setTop (mkF m 13 #[.val (.ref a1), .val (.ref a2), .val (.int p3), .val (.int p4)] [(.int p3), (.int p4), (.ref a1)]))
  refine own_step (fun t k => XS.isub X7.here hx rfl (hb hby d4_13) rfl k) ?_
  show own_G p.tables e below _ (T7.setTop (mkF m 14 #[.val (.ref a1), .val (.ref a2), .val (.int p3), .val (.int p4)] [(.int (p4 - p3)), (.ref a1)]))
  obtain ⟨T13, h13, X13, e13, W13, st13⟩ := putF X7 hx hZ hown (host := "") (Or.inl (hw _ (List.mem_of_getElem? (i := 24) rfl))) Via.refl e7 c12 c9 (Or.inl (hw _ (List.mem_of_getElem? (i := 25) rfl))) (hw _ (List.mem_of_getElem? (i := 7) rfl)) (ty := .int) (by decide) rfl rfl (g := (mkF m 14 #[.val (.ref a1), .val (.ref a2), .val (.int p3), .val (.int p4)] [(.int (p4 - p3)), (.ref a1)])) rfl rfl (hb hby d4_14)
  have N13 := Fr.snoc X13 N7 g_a1
  have c14 : Fld Z h13 a1 "com/example/prudentia/prudentia/csv/AsciiText" "length" "I" (.int (p4 - p3)) := c12.same W13
  have c15 : Exa Z h13 a1 "com/example/prudentia/prudentia/csv/AsciiText" := c9.wr W13
  have c16 : Fld Z h13 a1 "com/example/prudentia/prudentia/csv/AsciiText" "bytes" "[B" (.ref a2) := c10.other W13 (Or.inr (slot_ne (Or.inl (hw _ (List.mem_of_getElem? (i := 21) rfl))) (Or.inl (hw _ (List.mem_of_getElem? (i := 25) rfl))) (by decide) (t := (.array .byte)) (t' := .int) (by decide) (by decide)))
  have c17 : Fld Z h13 a1 "com/example/prudentia/prudentia/csv/AsciiText" "start" "I" (.int p3) := c8.other W13 (Or.inr (slot_ne (Or.inl (hw _ (List.mem_of_getElem? (i := 23) rfl))) (Or.inl (hw _ (List.mem_of_getElem? (i := 25) rfl))) (by decide) (t := .int) (t' := .int) (by decide) (by decide)))
  have K13 : Keep h0 h13 [a1] := K7.wr W13 (Or.inl (List.mem_of_getElem? (i := 0) rfl))
  refine own_step st13 ?_
  show own_G p.tables e below _ (T13.setTop (mkF m 17 #[.val (.ref a1), .val (.ref a2), .val (.int p3), .val (.int p4)] []))
  refine own_step (fun t k => XS.aloadN X13.here hx rfl (hb hby d4_17) rfl rfl k) ?_
  show own_G p.tables e below _ (T13.setTop (mkF m 18 #[.val (.ref a1), .val (.ref a2), .val (.int p3), .val (.int p4)] [(.ref a1)]))
  obtain ⟨fs, hr, hrun, hended, hW, hsame⟩ := X13.leave (v := some (.ref a1)) (fun h => by rw [Bd.returns] at h; cases h)
  refine own_done (own_retA X13 hx Bd.returns (by decide) rfl (hb hby d4_18) hr) hrun hended ⟨_, _, rfl, ?_, ⟨_, rfl⟩, hW, hsame.mono (by decide) (by decide)⟩
  show Q4 Z a1 a2 p3 p4 u_bytes_a1 u_start_a1 u_length_a1 h0 n0 _ T13.heap _
  rw [e13]
  exact ⟨rfl, N13, K13, c16, c17, c14⟩
theorem d6_0 : decode prog_6_method_3_code 0 = .ok (.aload_n 0, 1) := by decide +kernel
theorem d6_1 : decode prog_6_method_3_code 1 = .ok (.getfield 17, 3) := by decide +kernel
theorem d6_4 : decode prog_6_method_3_code 4 = .ok (.ireturn, 1) := by decide +kernel
theorem pn_6 : plainName "com/example/prudentia/prudentia/csv/AsciiText" = true := by first | (simp [plainName, overriddenIn]; done) | decide +kernel
theorem ef_6 (m : MethodId) (a1 : Addr) : entryFrame m #[(.ref a1)] 1 = mkF m 0 #[.val (.ref a1)] [] := by first | (simp [entryFrame, mkF, argsToLocals, Value.category]; done) | rfl
def Q6 (Z : State) (a1 : Addr) (u_length_a1 : Int32) (h0 : Heap) (n0 : Nat) (v : Option Value) (h : Heap) (L : List Loc) : Prop := v = some (.int u_length_a1) ∧ Fr n0 L ∧ h = h0
set_option maxRecDepth 65536 in
set_option maxHeartbeats 40000000 in
theorem rm6 (l : Launch) (Z : State) (a0 : Array Value) (hw : ∀ d ∈ tables_1, d.before a0 Z = true) (ws : List Jvm.Cond) (a1 : Addr) (u_length_a1 : Int32) (h0 : Heap) (n0 : Nat) (Z0 : n0 ≤ h0.size) (fp0 : Fld Z h0 a1 "com/example/prudentia/prudentia/csv/AsciiText" "length" "I" (.int u_length_a1)) :
    MetFree l (⟨"com/example/prudentia/prudentia/csv/AsciiText", "length", "()I"⟩ : MethodName) (head1 (Jvm.Cond.code (⟨"com/example/prudentia/prudentia/csv/AsciiText", "length", "()I"⟩ : MethodName) prog_6_method_3_code 1 (some .int) :: ws) ({ frames := 0, cells := 0, slots := 0, locals := 0 } : Room)) (fun a U => a = #[(.ref a1)] ∧ Z.Warmed39 U.vm ∧ U.heap = h0) (fun _ _ _ _ _ => True) (fun _ U o U' => ∃ v L, o = .returned v ∧ Q6 Z a1 u_length_a1 h0 n0 v U'.heap L ∧ FrameEnd U o U' L ({ frames := 0, cells := 0, slots := 0, locals := 0 } : Room).cells ({ frames := 0, cells := 0, slots := 0, locals := 0 } : Room).slots) := by
  refine MetFree.of_bodySF (plainFor_of_name pn_6) hisR ?_
  intro p e s m args below meth c s₁ Bd hml0 hP hK
  obtain ⟨rfl, hZ, hh⟩ := hP
  have hx := Bd.exec
  have hby := Bd.bytes
  have hml : c.maxLocals = 1 := hml0
  have hown : s.vm.findClass "com/example/prudentia/prudentia/csv/AsciiText" = some m.cls := findClass_of_methodNamed Bd.named
  have hnm := (name_of_methodNamed Bd.named Bd.method).1
  have X0 : Stand p l e ({ frames := 0, cells := 0, slots := 0, locals := 0 } : Room) s m #[(.ref a1)] below meth c s₁ [] 0 0 := Stand.of_body Bd
  have e0 : s₁.heap = h0 := by rw [← hh, Bd.state]; rfl
  have N0 := Fr.nil n0
  refine own_start (fun t k => castTop (ef_6 m a1) k) ?_
  show own_G p.tables e below _ (s₁.setTop (mkF m 0 #[.val (.ref a1)] []))
  refine own_step (fun t k => XS.aloadN X0.here hx rfl (hb hby d6_0) rfl rfl k) ?_
  show own_G p.tables e below _ (s₁.setTop (mkF m 1 #[.val (.ref a1)] [(.ref a1)]))
  obtain ⟨T1, X1, e1, st1⟩ := getF X0 hx hZ hown (host := "") (Or.inl (hw _ (List.mem_of_getElem? (i := 24) rfl))) Via.refl e0 fp0 (g := (mkF m 1 #[.val (.ref a1)] [(.ref a1)])) rfl rfl (hb hby d6_1)
  refine own_step st1 ?_
  show own_G p.tables e below _ (T1.setTop (mkF m 4 #[.val (.ref a1)] [(.int u_length_a1)]))
  obtain ⟨fs, hr, hrun, hended, hW, hsame⟩ := X1.leave (v := some (.int u_length_a1)) (fun h => by rw [Bd.returns] at h; cases h)
  refine own_done (retI X1 hx Bd.returns (hb hby d6_4) hr) hrun hended ⟨_, _, rfl, ?_, ⟨_, rfl⟩, hW, hsame.mono (by decide) (by decide)⟩
  show Q6 Z a1 u_length_a1 h0 n0 _ T1.heap _
  rw [e1]
  exact ⟨congrArg (fun z => some (Value.int z)) (show u_length_a1 = u_length_a1 from rfl), N0, rfl⟩
theorem d7_0 : decode prog_6_method_4_code 0 = .ok (.iload_n 1, 1) := by decide +kernel
theorem d7_1 : decode prog_6_method_4_code 1 = .ok (.ifCond .lt 11, 3) := by decide +kernel
theorem d7_4 : decode prog_6_method_4_code 4 = .ok (.iload_n 1, 1) := by decide +kernel
theorem d7_5 : decode prog_6_method_4_code 5 = .ok (.aload_n 0, 1) := by decide +kernel
theorem d7_6 : decode prog_6_method_4_code 6 = .ok (.getfield 17, 3) := by decide +kernel
theorem d7_9 : decode prog_6_method_4_code 9 = .ok (.if_icmp .lt 21, 3) := by decide +kernel
theorem d7_30 : decode prog_6_method_4_code 30 = .ok (.aload_n 0, 1) := by decide +kernel
theorem d7_31 : decode prog_6_method_4_code 31 = .ok (.getfield 7, 3) := by decide +kernel
theorem d7_34 : decode prog_6_method_4_code 34 = .ok (.aload_n 0, 1) := by decide +kernel
theorem d7_35 : decode prog_6_method_4_code 35 = .ok (.getfield 13, 3) := by decide +kernel
theorem d7_38 : decode prog_6_method_4_code 38 = .ok (.iload_n 1, 1) := by decide +kernel
theorem d7_39 : decode prog_6_method_4_code 39 = .ok (.iadd, 1) := by decide +kernel
theorem d7_40 : decode prog_6_method_4_code 40 = .ok (.baload, 1) := by decide +kernel
theorem d7_41 : decode prog_6_method_4_code 41 = .ok (.i2c, 1) := by decide +kernel
theorem d7_42 : decode prog_6_method_4_code 42 = .ok (.ireturn, 1) := by decide +kernel
theorem pn_7 : plainName "com/example/prudentia/prudentia/csv/AsciiText" = true := by first | (simp [plainName, overriddenIn]; done) | decide +kernel
theorem ef_7 (m : MethodId) (a1 : Addr) (p2 : Int32) : entryFrame m #[(.ref a1), (.int p2)] 2 = mkF m 0 #[.val (.ref a1), .val (.int p2)] [] := by first | (simp [entryFrame, mkF, argsToLocals, Value.category]; done) | rfl
def Q7 (Z : State) (a1 : Addr) (p2 : Int32) (u_length_a1 : Int32) (u_bytes_a1 : Addr) (u_start_a1 : Int32) (vs_u_bytes_a1 : List Int32) (h0 : Heap) (n0 : Nat) (v : Option Value) (h : Heap) (L : List Loc) : Prop := v = some (.int (nar .char ((vs_u_bytes_a1.getD (u_start_a1 + p2).toNatClampNeg 0).toUInt32.toUInt16.toUInt32.toInt32))) ∧ Fr n0 L ∧ h = h0
set_option maxRecDepth 65536 in
set_option maxHeartbeats 40000000 in
theorem rm7 (l : Launch) (Z : State) (a0 : Array Value) (hw : ∀ d ∈ tables_1, d.before a0 Z = true) (ws : List Jvm.Cond) (a1 : Addr) (p2 : Int32) (u_length_a1 : Int32) (u_bytes_a1 : Addr) (u_start_a1 : Int32) (vs_u_bytes_a1 : List Int32) (h0 : Heap) (n0 : Nat) (Z0 : n0 ≤ h0.size) (fp0 : Fld Z h0 a1 "com/example/prudentia/prudentia/csv/AsciiText" "length" "I" (.int u_length_a1)) (fp1 : Fld Z h0 a1 "com/example/prudentia/prudentia/csv/AsciiText" "bytes" "[B" (.ref u_bytes_a1)) (fp2 : Fld Z h0 a1 "com/example/prudentia/prudentia/csv/AsciiText" "start" "I" (.int u_start_a1)) (fp3 : own_Ari Z h0 u_bytes_a1 .byte vs_u_bytes_a1) (hp0 : ¬ (p2 < (0 : Int32))) (hp1 : p2 < u_length_a1) (hbb : own_Inb (u_start_a1 + p2) vs_u_bytes_a1.length) :
    MetFree l (⟨"com/example/prudentia/prudentia/csv/AsciiText", "charAt", "(I)C"⟩ : MethodName) (head1 (Jvm.Cond.code (⟨"com/example/prudentia/prudentia/csv/AsciiText", "charAt", "(I)C"⟩ : MethodName) prog_6_method_4_code 2 (some .char) :: ws) ({ frames := 0, cells := 0, slots := 0, locals := 0 } : Room)) (fun a U => a = #[(.ref a1), (.int p2)] ∧ Z.Warmed39 U.vm ∧ U.heap = h0) (fun _ _ _ _ _ => True) (fun _ U o U' => ∃ v L, o = .returned v ∧ Q7 Z a1 p2 u_length_a1 u_bytes_a1 u_start_a1 vs_u_bytes_a1 h0 n0 v U'.heap L ∧ FrameEnd U o U' L ({ frames := 0, cells := 0, slots := 0, locals := 0 } : Room).cells ({ frames := 0, cells := 0, slots := 0, locals := 0 } : Room).slots) := by
  refine MetFree.of_bodySF (plainFor_of_name pn_7) hisR ?_
  intro p e s m args below meth c s₁ Bd hml0 hP hK
  obtain ⟨rfl, hZ, hh⟩ := hP
  have hx := Bd.exec
  have hby := Bd.bytes
  have hml : c.maxLocals = 2 := hml0
  have hown : s.vm.findClass "com/example/prudentia/prudentia/csv/AsciiText" = some m.cls := findClass_of_methodNamed Bd.named
  have hnm := (name_of_methodNamed Bd.named Bd.method).1
  have X0 : Stand p l e ({ frames := 0, cells := 0, slots := 0, locals := 0 } : Room) s m #[(.ref a1), (.int p2)] below meth c s₁ [] 0 0 := Stand.of_body Bd
  have e0 : s₁.heap = h0 := by rw [← hh, Bd.state]; rfl
  have N0 := Fr.nil n0
  refine own_start (fun t k => castTop (ef_7 m a1 p2) k) ?_
  show own_G p.tables e below _ (s₁.setTop (mkF m 0 #[.val (.ref a1), .val (.int p2)] []))
  refine own_step (fun t k => XS.iloadN X0.here hx rfl (hb hby d7_0) rfl k) ?_
  show own_G p.tables e below _ (s₁.setTop (mkF m 1 #[.val (.ref a1), .val (.int p2)] [(.int p2)]))
  have hk1 : ¬ (p2 < (0 : Int32)) := hp0
  refine own_step (fun t k => XS.ifNo X0.here hx rfl (hb hby d7_1) rfl ((if0 _ _).trans (flt hk1).1) k) ?_
  show own_G p.tables e below _ (s₁.setTop (mkF m 4 #[.val (.ref a1), .val (.int p2)] []))
  refine own_step (fun t k => XS.iloadN X0.here hx rfl (hb hby d7_4) rfl k) ?_
  show own_G p.tables e below _ (s₁.setTop (mkF m 5 #[.val (.ref a1), .val (.int p2)] [(.int p2)]))
  refine own_step (fun t k => XS.aloadN X0.here hx rfl (hb hby d7_5) rfl rfl k) ?_
  show own_G p.tables e below _ (s₁.setTop (mkF m 6 #[.val (.ref a1), .val (.int p2)] [(.ref a1), (.int p2)]))
  obtain ⟨T2, X2, e2, st2⟩ := getF X0 hx hZ hown (host := "") (Or.inl (hw _ (List.mem_of_getElem? (i := 24) rfl))) Via.refl e0 fp0 (g := (mkF m 6 #[.val (.ref a1), .val (.int p2)] [(.ref a1), (.int p2)])) rfl rfl (hb hby d7_6)
  refine own_step st2 ?_
  show own_G p.tables e below _ (T2.setTop (mkF m 9 #[.val (.ref a1), .val (.int p2)] [(.int u_length_a1), (.int p2)]))
  have hk3 : p2 < u_length_a1 := hp1
  refine own_step (fun t k => XS.icmpYes X2.here hx rfl (pc0 := 9) (pc' := 30) rfl (hb hby d7_9) rfl ((tlt hk3).1) (by decide) (by decide) k) ?_
  show own_G p.tables e below _ (T2.setTop (mkF m 30 #[.val (.ref a1), .val (.int p2)] []))
  refine own_step (fun t k => XS.aloadN X2.here hx rfl (hb hby d7_30) rfl rfl k) ?_
  show own_G p.tables e below _ (T2.setTop (mkF m 31 #[.val (.ref a1), .val (.int p2)] [(.ref a1)]))
  obtain ⟨T4, X4, e4, st4⟩ := getF X2 hx hZ hown (host := "") (Or.inl (hw _ (List.mem_of_getElem? (i := 20) rfl))) Via.refl e2 fp1 (g := (mkF m 31 #[.val (.ref a1), .val (.int p2)] [(.ref a1)])) rfl rfl (hb hby d7_31)
  refine own_step st4 ?_
  show own_G p.tables e below _ (T4.setTop (mkF m 34 #[.val (.ref a1), .val (.int p2)] [(.ref u_bytes_a1)]))
  refine own_step (fun t k => XS.aloadN X4.here hx rfl (hb hby d7_34) rfl rfl k) ?_
  show own_G p.tables e below _ (T4.setTop (mkF m 35 #[.val (.ref a1), .val (.int p2)] [(.ref a1), (.ref u_bytes_a1)]))
  obtain ⟨T5, X5, e5, st5⟩ := getF X4 hx hZ hown (host := "") (Or.inl (hw _ (List.mem_of_getElem? (i := 22) rfl))) Via.refl e4 fp2 (g := (mkF m 35 #[.val (.ref a1), .val (.int p2)] [(.ref a1), (.ref u_bytes_a1)])) rfl rfl (hb hby d7_35)
  refine own_step st5 ?_
  show own_G p.tables e below _ (T5.setTop (mkF m 38 #[.val (.ref a1), .val (.int p2)] [(.int u_start_a1), (.ref u_bytes_a1)]))
  refine own_step (fun t k => XS.iloadN X5.here hx rfl (hb hby d7_38) rfl k) ?_
  show own_G p.tables e below _ (T5.setTop (mkF m 39 #[.val (.ref a1), .val (.int p2)] [(.int p2), (.int u_start_a1), (.ref u_bytes_a1)]))
  refine own_step (fun t k => XS.iadd X5.here hx rfl (hb hby d7_39) rfl k) ?_
  show own_G p.tables e below _ (T5.setTop (mkF m 40 #[.val (.ref a1), .val (.int p2)] [(.int (u_start_a1 + p2)), (.ref u_bytes_a1)]))
  refine own_step (own_baload X5 hx hZ e5 fp3 hbb (g := (mkF m 40 #[.val (.ref a1), .val (.int p2)] [(.int (u_start_a1 + p2)), (.ref u_bytes_a1)])) rfl rfl (hb hby d7_40)) ?_
  show own_G p.tables e below _ (T5.setTop (mkF m 41 #[.val (.ref a1), .val (.int p2)] [(.int (vs_u_bytes_a1.getD (u_start_a1 + p2).toNatClampNeg 0))]))
  refine own_step (fun t k => XS.i2c X5.here hx rfl (hb hby d7_41) rfl k) ?_
  show own_G p.tables e below _ (T5.setTop (mkF m 42 #[.val (.ref a1), .val (.int p2)] [(.int ((vs_u_bytes_a1.getD (u_start_a1 + p2).toNatClampNeg 0).toUInt32.toUInt16.toUInt32.toInt32))]))
  obtain ⟨fs, hr, hrun, hended, hW, hsame⟩ := X5.leave (v := some (.int (nar .char ((vs_u_bytes_a1.getD (u_start_a1 + p2).toNatClampNeg 0).toUInt32.toUInt16.toUInt32.toInt32)))) (fun h => by rw [Bd.returns] at h; cases h)
  refine own_done (retN X5 hx (t := .char) Bd.returns (by simp) (hb hby d7_42) hr) hrun hended ⟨_, _, rfl, ?_, ⟨_, rfl⟩, hW, hsame.mono (by decide) (by decide)⟩
  show Q7 Z a1 p2 u_length_a1 u_bytes_a1 u_start_a1 vs_u_bytes_a1 h0 n0 _ T5.heap _
  rw [e5]
  exact ⟨congrArg (fun z => some (Value.int z)) (show (nar .char ((vs_u_bytes_a1.getD (u_start_a1 + p2).toNatClampNeg 0).toUInt32.toUInt16.toUInt32.toInt32)) = (nar .char ((vs_u_bytes_a1.getD (u_start_a1 + p2).toNatClampNeg 0).toUInt32.toUInt16.toUInt32.toInt32)) from rfl), N0, rfl⟩
theorem d5_0 : decode method_3_code 0 = .ok (.iload_n 3, 1) := by decide +kernel
theorem d5_1 : decode method_3_code 1 = .ok (.iload_n 2, 1) := by decide +kernel
theorem d5_2 : decode method_3_code 2 = .ok (.isub, 1) := by decide +kernel
theorem d5_3 : decode method_3_code 3 = .ok (.istore 4, 2) := by decide +kernel
theorem d5_5 : decode method_3_code 5 = .ok (.aload_n 0, 1) := by decide +kernel
theorem d5_6 : decode method_3_code 6 = .ok (.invokevirtual 7, 3) := by decide +kernel
theorem d5_9 : decode method_3_code 9 = .ok (.iload 4, 2) := by decide +kernel
theorem d5_11 : decode method_3_code 11 = .ok (.if_icmp .eq 5, 3) := by decide +kernel
theorem d5_16 : decode method_3_code 16 = .ok (.iload 4, 2) := by decide +kernel
theorem d5_18 : decode method_3_code 18 = .ok (.ifCond .le 16, 3) := by decide +kernel
theorem d5_21 : decode method_3_code 21 = .ok (.aload_n 0, 1) := by decide +kernel
theorem d5_22 : decode method_3_code 22 = .ok (.iconst 0, 1) := by decide +kernel
theorem d5_23 : decode method_3_code 23 = .ok (.invokevirtual 13, 3) := by decide +kernel
theorem d5_26 : decode method_3_code 26 = .ok (.aload_n 1, 1) := by decide +kernel
theorem d5_27 : decode method_3_code 27 = .ok (.iload_n 2, 1) := by decide +kernel
theorem d5_28 : decode method_3_code 28 = .ok (.baload, 1) := by decide +kernel
theorem d5_29 : decode method_3_code 29 = .ok (.if_icmp .eq 5, 3) := by decide +kernel
theorem d5_34 : decode method_3_code 34 = .ok (.iload 4, 2) := by decide +kernel
theorem d5_36 : decode method_3_code 36 = .ok (.iconst 1, 1) := by decide +kernel
theorem d5_37 : decode method_3_code 37 = .ok (.if_icmp .le 18, 3) := by decide +kernel
theorem d5_40 : decode method_3_code 40 = .ok (.aload_n 0, 1) := by decide +kernel
theorem d5_41 : decode method_3_code 41 = .ok (.iconst 1, 1) := by decide +kernel
theorem d5_42 : decode method_3_code 42 = .ok (.invokevirtual 13, 3) := by decide +kernel
theorem d5_45 : decode method_3_code 45 = .ok (.aload_n 1, 1) := by decide +kernel
theorem d5_46 : decode method_3_code 46 = .ok (.iload_n 2, 1) := by decide +kernel
theorem d5_47 : decode method_3_code 47 = .ok (.iconst 1, 1) := by decide +kernel
theorem d5_48 : decode method_3_code 48 = .ok (.iadd, 1) := by decide +kernel
theorem d5_49 : decode method_3_code 49 = .ok (.baload, 1) := by decide +kernel
theorem d5_50 : decode method_3_code 50 = .ok (.if_icmp .eq 5, 3) := by decide +kernel
theorem d5_55 : decode method_3_code 55 = .ok (.iload 4, 2) := by decide +kernel
theorem d5_57 : decode method_3_code 57 = .ok (.iconst 2, 1) := by decide +kernel
theorem d5_58 : decode method_3_code 58 = .ok (.if_icmp .le 18, 3) := by decide +kernel
theorem d5_61 : decode method_3_code 61 = .ok (.aload_n 0, 1) := by decide +kernel
theorem d5_62 : decode method_3_code 62 = .ok (.iconst 2, 1) := by decide +kernel
theorem d5_63 : decode method_3_code 63 = .ok (.invokevirtual 13, 3) := by decide +kernel
theorem d5_66 : decode method_3_code 66 = .ok (.aload_n 1, 1) := by decide +kernel
theorem d5_67 : decode method_3_code 67 = .ok (.iload_n 2, 1) := by decide +kernel
theorem d5_68 : decode method_3_code 68 = .ok (.iconst 2, 1) := by decide +kernel
theorem d5_69 : decode method_3_code 69 = .ok (.iadd, 1) := by decide +kernel
theorem d5_70 : decode method_3_code 70 = .ok (.baload, 1) := by decide +kernel
theorem d5_71 : decode method_3_code 71 = .ok (.if_icmp .eq 5, 3) := by decide +kernel
theorem d5_76 : decode method_3_code 76 = .ok (.iconst 1, 1) := by decide +kernel
theorem d5_77 : decode method_3_code 77 = .ok (.ireturn, 1) := by decide +kernel
theorem pn_5 : plainName "com/example/prudentia/prudentia/csv/AsciiTextOfPinLaw" = true := by first | (simp [plainName, overriddenIn]; done) | decide +kernel
theorem pd_5_0 : parseMethodDescriptor "()I" = some ⟨[], some .int⟩ := by decide +kernel
theorem pd_5_1 : parseMethodDescriptor "(I)C" = some ⟨[.int], some .char⟩ := by decide +kernel
theorem ef_5 (m : MethodId) (a1 : Addr) (a2 : Addr) (p3 : Int32) (p4 : Int32) : entryFrame m #[(.ref a1), (.ref a2), (.int p3), (.int p4)] 5 = mkF m 0 #[.val (.ref a1), .val (.ref a2), .val (.int p3), .val (.int p4), .unset] [] := by first | (simp [entryFrame, mkF, argsToLocals, Value.category]; done) | rfl
def Q5 (Z : State) (a1 : Addr) (a2 : Addr) (p3 : Int32) (p4 : Int32) (vs_a2 : List Int32) (h0 : Heap) (n0 : Nat) (v : Option Value) (h : Heap) (L : List Loc) : Prop := v = some (.int (1 : Int32)) ∧ Fr n0 L ∧ h = h0
set_option maxRecDepth 65536 in
set_option maxHeartbeats 40000000 in
theorem rm5 (l : Launch) (Z : State) (a0 : Array Value) (hw : ∀ d ∈ tables_1, d.before a0 Z = true) (ws : List Jvm.Cond) (a1 : Addr) (a2 : Addr) (p3 : Int32) (p4 : Int32) (vs_a2 : List Int32) (h0 : Heap) (n0 : Nat) (Z0 : n0 ≤ h0.size) (fp0 : Exa Z h0 a1 "com/example/prudentia/prudentia/csv/AsciiText") (fp1 : Fld Z h0 a1 "com/example/prudentia/prudentia/csv/AsciiText" "bytes" "[B" (.ref a2)) (fp2 : Fld Z h0 a1 "com/example/prudentia/prudentia/csv/AsciiText" "start" "I" (.int p3)) (fp3 : Fld Z h0 a1 "com/example/prudentia/prudentia/csv/AsciiText" "length" "I" (.int (p4 - p3))) (fp4 : own_Ari Z h0 a2 .byte vs_a2) (hr : 0 ≤ p3.toInt ∧ p3.toInt ≤ p4.toInt ∧ p4.toInt ≤ (vs_a2.length : Int) ∧ vs_a2.length ≤ 3) (hv : ∀ i, 0 ≤ (vs_a2.getD i 0).toInt ∧ (vs_a2.getD i 0).toInt ≤ 127) :
    MetFree l (⟨"com/example/prudentia/prudentia/csv/AsciiTextOfPinLaw", "sees", "(Lcom/example/prudentia/prudentia/csv/AsciiText;[BII)Z"⟩ : MethodName) (head1 (Jvm.Cond.code (⟨"com/example/prudentia/prudentia/csv/AsciiTextOfPinLaw", "sees", "(Lcom/example/prudentia/prudentia/csv/AsciiText;[BII)Z"⟩ : MethodName) method_3_code 5 (some .boolean) :: ws) ({ frames := 1, cells := 0, slots := 0, locals := 13 } : Room)) (fun a U => a = #[(.ref a1), (.ref a2), (.int p3), (.int p4)] ∧ Z.Warmed39 U.vm ∧ U.heap = h0) (fun _ _ _ _ _ => True) (fun _ U o U' => ∃ v L, o = .returned v ∧ Q5 Z a1 a2 p3 p4 vs_a2 h0 n0 v U'.heap L ∧ FrameEnd U o U' L ({ frames := 1, cells := 0, slots := 0, locals := 13 } : Room).cells ({ frames := 1, cells := 0, slots := 0, locals := 13 } : Room).slots) := by
  refine MetFree.of_bodySF (plainFor_of_name pn_5) hisR ?_
  intro p e s m args below meth c s₁ Bd hml0 hP hK
  obtain ⟨rfl, hZ, hh⟩ := hP
  have hx := Bd.exec
  have hby := Bd.bytes
  have hml : c.maxLocals = 5 := hml0
  have hown : s.vm.findClass "com/example/prudentia/prudentia/csv/AsciiTextOfPinLaw" = some m.cls := findClass_of_methodNamed Bd.named
  have hnm := (name_of_methodNamed Bd.named Bd.method).1
  have X0 : Stand p l e ({ frames := 1, cells := 0, slots := 0, locals := 13 } : Room) s m #[(.ref a1), (.ref a2), (.int p3), (.int p4)] below meth c s₁ [] 0 0 := Stand.of_body Bd
  have e0 : s₁.heap = h0 := by rw [← hh, Bd.state]; rfl
  have N0 := Fr.nil n0
  refine own_start (fun t k => castTop (ef_5 m a1 a2 p3 p4) k) ?_
  show own_G p.tables e below _ (s₁.setTop (mkF m 0 #[.val (.ref a1), .val (.ref a2), .val (.int p3), .val (.int p4), .unset] []))
  refine own_step (fun t k => XS.iloadN X0.here hx rfl (hb hby d5_0) rfl k) ?_
  show own_G p.tables e below _ (s₁.setTop (mkF m 1 #[.val (.ref a1), .val (.ref a2), .val (.int p3), .val (.int p4), .unset] [(.int p4)]))
  refine own_step (fun t k => XS.iloadN X0.here hx rfl (hb hby d5_1) rfl k) ?_
  show own_G p.tables e below _ (s₁.setTop (mkF m 2 #[.val (.ref a1), .val (.ref a2), .val (.int p3), .val (.int p4), .unset] [(.int p3), (.int p4)]))
  refine own_step (fun t k => XS.isub X0.here hx rfl (hb hby d5_2) rfl k) ?_
  show own_G p.tables e below _ (s₁.setTop (mkF m 3 #[.val (.ref a1), .val (.ref a2), .val (.int p3), .val (.int p4), .unset] [(.int (p4 - p3))]))
  refine own_step (fun t k => XS.istore X0.here hx rfl (hb hby d5_3) rfl (l' := #[.val (.ref a1), .val (.ref a2), .val (.int p3), .val (.int p4), .val (.int (p4 - p3))]) rfl k) ?_
  show own_G p.tables e below _ (s₁.setTop (mkF m 5 #[.val (.ref a1), .val (.ref a2), .val (.int p3), .val (.int p4), .val (.int (p4 - p3))] []))
  refine own_step (fun t k => XS.aloadN X0.here hx rfl (hb hby d5_5) rfl rfl k) ?_
  show own_G p.tables e below _ (s₁.setTop (mkF m 6 #[.val (.ref a1), .val (.ref a2), .val (.int p3), .val (.int p4), .val (.int (p4 - p3))] [(.ref a1)]))
  obtain ⟨cq1, kq1, q1a, q1b, q1c⟩ := isOf hZ e0 fp0
  obtain ⟨_, _, ⟨T1, L1, k1, n1⟩, -, X1, ⟨Lc1, hQ1, l1, y1, z1⟩, st1⟩ := X0.virtualBack hx (y := (⟨"com/example/prudentia/prudentia/csv/AsciiText", "length", "()I"⟩ : MethodName)) (z := (⟨"com/example/prudentia/prudentia/csv/AsciiText", "length", "()I"⟩ : MethodName)) hown (mvT hZ (hw _ (List.mem_of_getElem? (i := 29) rfl))) (mvT hZ (hw _ (List.mem_of_getElem? (i := 30) rfl))) (notFace_of_selects (args := #[]) (mvT hZ (hw _ (List.mem_of_getElem? (i := 32) rfl)))) (mvT hZ (hw _ (List.mem_of_getElem? (i := 32) rfl))) (mvT hZ (hw _ (List.mem_of_getElem? (i := 31) rfl))) (by decide) (backOf (W := 0) (rm6 l Z a0 hw [] a1 (p4 - p3) h0 n0 (Nat.le_trans Z0 (Keep.refl h0 []).1) fp3) hZ (hw _ (List.mem_of_getElem? (i := 33) rfl)) (hw _ (List.mem_of_getElem? (i := 8) rfl)) (by decide) (by decide)) q1a q1c (g := (mkF m 6 #[.val (.ref a1), .val (.ref a2), .val (.int p3), .val (.int p4), .val (.int (p4 - p3))] [(.ref a1)])) rfl (by rw [hml]; rfl) (Steps.refl _) (argsL := []) (rest := []) (lenOf pd_5_0 rfl) rfl (by show 2 * 0 + _ ≤ _; exact Nat.le_of_eq rfl) (hb hby d5_6) (fun _ _ => ⟨rfl, e0, (by decide : 0 + 0 ≤ _), (by decide : 0 + 0 ≤ _)⟩)
  dsimp only [Pt.U, Pt.locs, Pt.cells, Pt.slots] at X1 l1 y1 z1 st1 hQ1
  subst l1 y1 z1
  obtain ⟨rfl, N1q, e1⟩ := hQ1
  have N1 := Fr.app N0 N1q
  refine own_step (fun t k => st1.trans k) ?_
  show own_G p.tables e below _ (T1.setTop (mkF m 9 #[.val (.ref a1), .val (.ref a2), .val (.int p3), .val (.int p4), .val (.int (p4 - p3))] [(.int (p4 - p3))]))
  refine own_step (fun t k => XS.iload X1.here hx rfl (hb hby d5_9) rfl k) ?_
  show own_G p.tables e below _ (T1.setTop (mkF m 11 #[.val (.ref a1), .val (.ref a2), .val (.int p3), .val (.int p4), .val (.int (p4 - p3))] [(.int (p4 - p3)), (.int (p4 - p3))]))
  have hk2 : (p4 - p3) = (p4 - p3) := rfl
  refine own_step (fun t k => XS.icmpYes X1.here hx rfl (pc0 := 11) (pc' := 16) rfl (hb hby d5_11) rfl ((teq hk2).1) (by decide) (by decide) k) ?_
  show own_G p.tables e below _ (T1.setTop (mkF m 16 #[.val (.ref a1), .val (.ref a2), .val (.int p3), .val (.int p4), .val (.int (p4 - p3))] []))
  refine own_step (fun t k => XS.iload X1.here hx rfl (hb hby d5_16) rfl k) ?_
  show own_G p.tables e below _ (T1.setTop (mkF m 18 #[.val (.ref a1), .val (.ref a2), .val (.int p3), .val (.int p4), .val (.int (p4 - p3))] [(.int (p4 - p3))]))
  by_cases hc3 : (0 : Int32) < (p4 - p3)
  · skip
    refine own_step (fun t k => XS.ifNo X1.here hx rfl (hb hby d5_18) rfl ((if0 _ _).trans (tlt hc3).2.2.2) k) ?_
    show own_G p.tables e below _ (T1.setTop (mkF m 21 #[.val (.ref a1), .val (.ref a2), .val (.int p3), .val (.int p4), .val (.int (p4 - p3))] []))
    refine own_step (fun t k => XS.aloadN X1.here hx rfl (hb hby d5_21) rfl rfl k) ?_
    show own_G p.tables e below _ (T1.setTop (mkF m 22 #[.val (.ref a1), .val (.ref a2), .val (.int p3), .val (.int p4), .val (.int (p4 - p3))] [(.ref a1)]))
    refine own_step (fun t k => XS.iconst X1.here hx rfl (hb hby d5_22) k) ?_
    show own_G p.tables e below _ (T1.setTop (mkF m 23 #[.val (.ref a1), .val (.ref a2), .val (.int p3), .val (.int p4), .val (.int (p4 - p3))] [(.int (0 : Int32)), (.ref a1)]))
    obtain ⟨cq4, kq4, q4a, q4b, q4c⟩ := isOf hZ e1 fp0
    obtain ⟨_, _, ⟨T4, L4, k4, n4⟩, -, X4, ⟨Lc4, hQ4, l4, y4, z4⟩, st4⟩ := X1.virtualBack hx (y := (⟨"com/example/prudentia/prudentia/csv/AsciiText", "charAt", "(I)C"⟩ : MethodName)) (z := (⟨"com/example/prudentia/prudentia/csv/AsciiText", "charAt", "(I)C"⟩ : MethodName)) hown (mvT hZ (hw _ (List.mem_of_getElem? (i := 34) rfl))) (mvT hZ (hw _ (List.mem_of_getElem? (i := 35) rfl))) (notFace_of_selects (args := #[]) (mvT hZ (hw _ (List.mem_of_getElem? (i := 37) rfl)))) (mvT hZ (hw _ (List.mem_of_getElem? (i := 37) rfl))) (mvT hZ (hw _ (List.mem_of_getElem? (i := 36) rfl))) (by decide) (backOf (W := 0) (rm7 l Z a0 hw [] a1 (0 : Int32) (p4 - p3) a2 p3 vs_a2 h0 n0 (Nat.le_trans Z0 (Keep.refl h0 []).1) fp3 fp1 fp2 fp4 ((by decide) : ¬ ((0 : Int32) < (0 : Int32))) (hc3 : (0 : Int32) < (p4 - p3)) (own_ib hr (by decide) hc3 : own_Inb (p3 + (0 : Int32)) vs_a2.length)) hZ (hw _ (List.mem_of_getElem? (i := 38) rfl)) (hw _ (List.mem_of_getElem? (i := 8) rfl)) (by decide) (by decide)) q4a q4c (g := (mkF m 23 #[.val (.ref a1), .val (.ref a2), .val (.int p3), .val (.int p4), .val (.int (p4 - p3))] [(.int (0 : Int32)), (.ref a1)])) rfl (by rw [hml]; rfl) (Steps.refl _) (argsL := [(.int (0 : Int32))]) (rest := []) (lenOf pd_5_1 rfl) rfl (by show 2 * 0 + _ ≤ _; exact Nat.le_of_eq rfl) (hb hby d5_23) (fun _ _ => ⟨rfl, e1, (by decide : 0 + 0 ≤ _), (by decide : 0 + 0 ≤ _)⟩)
    dsimp only [Pt.U, Pt.locs, Pt.cells, Pt.slots] at X4 l4 y4 z4 st4 hQ4
    subst l4 y4 z4
    obtain ⟨rfl, N4q, e4⟩ := hQ4
    have N4 := Fr.app N1 N4q
    refine own_step (fun t k => st4.trans k) ?_
    show own_G p.tables e below _ (T4.setTop (mkF m 26 #[.val (.ref a1), .val (.ref a2), .val (.int p3), .val (.int p4), .val (.int (p4 - p3))] [(.int (nar .char ((vs_a2.getD (p3 + (0 : Int32)).toNatClampNeg 0).toUInt32.toUInt16.toUInt32.toInt32)))]))
    refine own_step (fun t k => XS.aloadN X4.here hx rfl (hb hby d5_26) rfl rfl k) ?_
    show own_G p.tables e below _ (T4.setTop (mkF m 27 #[.val (.ref a1), .val (.ref a2), .val (.int p3), .val (.int p4), .val (.int (p4 - p3))] [(.ref a2), (.int (nar .char ((vs_a2.getD (p3 + (0 : Int32)).toNatClampNeg 0).toUInt32.toUInt16.toUInt32.toInt32)))]))
    refine own_step (fun t k => XS.iloadN X4.here hx rfl (hb hby d5_27) rfl k) ?_
    show own_G p.tables e below _ (T4.setTop (mkF m 28 #[.val (.ref a1), .val (.ref a2), .val (.int p3), .val (.int p4), .val (.int (p4 - p3))] [(.int p3), (.ref a2), (.int (nar .char ((vs_a2.getD (p3 + (0 : Int32)).toNatClampNeg 0).toUInt32.toUInt16.toUInt32.toInt32)))]))
    refine own_step (own_baload X4 hx hZ e4 fp4 (Int32.add_zero p3 ▸ own_ib hr (by decide) hc3) (g := (mkF m 28 #[.val (.ref a1), .val (.ref a2), .val (.int p3), .val (.int p4), .val (.int (p4 - p3))] [(.int p3), (.ref a2), (.int (nar .char ((vs_a2.getD (p3 + (0 : Int32)).toNatClampNeg 0).toUInt32.toUInt16.toUInt32.toInt32)))])) rfl rfl (hb hby d5_28)) ?_
    show own_G p.tables e below _ (T4.setTop (mkF m 29 #[.val (.ref a1), .val (.ref a2), .val (.int p3), .val (.int p4), .val (.int (p4 - p3))] [(.int (vs_a2.getD p3.toNatClampNeg 0)), (.int (nar .char ((vs_a2.getD (p3 + (0 : Int32)).toNatClampNeg 0).toUInt32.toUInt16.toUInt32.toInt32)))]))
    have hk5 : (nar .char ((vs_a2.getD (p3 + (0 : Int32)).toNatClampNeg 0).toUInt32.toUInt16.toUInt32.toInt32)) = (vs_a2.getD p3.toNatClampNeg 0) := (by rw [Int32.add_zero]; exact own_chr (hv _))
    refine own_step (fun t k => XS.icmpYes X4.here hx rfl (pc0 := 29) (pc' := 34) rfl (hb hby d5_29) rfl ((teq hk5).1) (by decide) (by decide) k) ?_
    show own_G p.tables e below _ (T4.setTop (mkF m 34 #[.val (.ref a1), .val (.ref a2), .val (.int p3), .val (.int p4), .val (.int (p4 - p3))] []))
    refine own_step (fun t k => XS.iload X4.here hx rfl (hb hby d5_34) rfl k) ?_
    show own_G p.tables e below _ (T4.setTop (mkF m 36 #[.val (.ref a1), .val (.ref a2), .val (.int p3), .val (.int p4), .val (.int (p4 - p3))] [(.int (p4 - p3))]))
    refine own_step (fun t k => XS.iconst X4.here hx rfl (hb hby d5_36) k) ?_
    show own_G p.tables e below _ (T4.setTop (mkF m 37 #[.val (.ref a1), .val (.ref a2), .val (.int p3), .val (.int p4), .val (.int (p4 - p3))] [(.int (1 : Int32)), (.int (p4 - p3))]))
    by_cases hc6 : (1 : Int32) < (p4 - p3)
    · skip
      refine own_step (fun t k => XS.icmpNo X4.here hx rfl (hb hby d5_37) rfl ((tlt hc6).2.2.2) k) ?_
      show own_G p.tables e below _ (T4.setTop (mkF m 40 #[.val (.ref a1), .val (.ref a2), .val (.int p3), .val (.int p4), .val (.int (p4 - p3))] []))
      refine own_step (fun t k => XS.aloadN X4.here hx rfl (hb hby d5_40) rfl rfl k) ?_
      show own_G p.tables e below _ (T4.setTop (mkF m 41 #[.val (.ref a1), .val (.ref a2), .val (.int p3), .val (.int p4), .val (.int (p4 - p3))] [(.ref a1)]))
      refine own_step (fun t k => XS.iconst X4.here hx rfl (hb hby d5_41) k) ?_
      show own_G p.tables e below _ (T4.setTop (mkF m 42 #[.val (.ref a1), .val (.ref a2), .val (.int p3), .val (.int p4), .val (.int (p4 - p3))] [(.int (1 : Int32)), (.ref a1)]))
      obtain ⟨cq7, kq7, q7a, q7b, q7c⟩ := isOf hZ e4 fp0
      obtain ⟨_, _, ⟨T7, L7, k7, n7⟩, -, X7, ⟨Lc7, hQ7, l7, y7, z7⟩, st7⟩ := X4.virtualBack hx (y := (⟨"com/example/prudentia/prudentia/csv/AsciiText", "charAt", "(I)C"⟩ : MethodName)) (z := (⟨"com/example/prudentia/prudentia/csv/AsciiText", "charAt", "(I)C"⟩ : MethodName)) hown (mvT hZ (hw _ (List.mem_of_getElem? (i := 34) rfl))) (mvT hZ (hw _ (List.mem_of_getElem? (i := 35) rfl))) (notFace_of_selects (args := #[]) (mvT hZ (hw _ (List.mem_of_getElem? (i := 37) rfl)))) (mvT hZ (hw _ (List.mem_of_getElem? (i := 37) rfl))) (mvT hZ (hw _ (List.mem_of_getElem? (i := 36) rfl))) (by decide) (backOf (W := 0) (rm7 l Z a0 hw [] a1 (1 : Int32) (p4 - p3) a2 p3 vs_a2 h0 n0 (Nat.le_trans Z0 (Keep.refl h0 []).1) fp3 fp1 fp2 fp4 ((by decide) : ¬ ((1 : Int32) < (0 : Int32))) (hc6 : (1 : Int32) < (p4 - p3)) (own_ib hr (by decide) hc6 : own_Inb (p3 + (1 : Int32)) vs_a2.length)) hZ (hw _ (List.mem_of_getElem? (i := 38) rfl)) (hw _ (List.mem_of_getElem? (i := 8) rfl)) (by decide) (by decide)) q7a q7c (g := (mkF m 42 #[.val (.ref a1), .val (.ref a2), .val (.int p3), .val (.int p4), .val (.int (p4 - p3))] [(.int (1 : Int32)), (.ref a1)])) rfl (by rw [hml]; rfl) (Steps.refl _) (argsL := [(.int (1 : Int32))]) (rest := []) (lenOf pd_5_1 rfl) rfl (by show 2 * 0 + _ ≤ _; exact Nat.le_of_eq rfl) (hb hby d5_42) (fun _ _ => ⟨rfl, e4, (by decide : 0 + 0 ≤ _), (by decide : 0 + 0 ≤ _)⟩)
      dsimp only [Pt.U, Pt.locs, Pt.cells, Pt.slots] at X7 l7 y7 z7 st7 hQ7
      subst l7 y7 z7
      obtain ⟨rfl, N7q, e7⟩ := hQ7
      have N7 := Fr.app N4 N7q
      refine own_step (fun t k => st7.trans k) ?_
      show own_G p.tables e below _ (T7.setTop (mkF m 45 #[.val (.ref a1), .val (.ref a2), .val (.int p3), .val (.int p4), .val (.int (p4 - p3))] [(.int (nar .char ((vs_a2.getD (p3 + (1 : Int32)).toNatClampNeg 0).toUInt32.toUInt16.toUInt32.toInt32)))]))
      refine own_step (fun t k => XS.aloadN X7.here hx rfl (hb hby d5_45) rfl rfl k) ?_
      show own_G p.tables e below _ (T7.setTop (mkF m 46 #[.val (.ref a1), .val (.ref a2), .val (.int p3), .val (.int p4), .val (.int (p4 - p3))] [(.ref a2), (.int (nar .char ((vs_a2.getD (p3 + (1 : Int32)).toNatClampNeg 0).toUInt32.toUInt16.toUInt32.toInt32)))]))
      refine own_step (fun t k => XS.iloadN X7.here hx rfl (hb hby d5_46) rfl k) ?_
      show own_G p.tables e below _ (T7.setTop (mkF m 47 #[.val (.ref a1), .val (.ref a2), .val (.int p3), .val (.int p4), .val (.int (p4 - p3))] [(.int p3), (.ref a2), (.int (nar .char ((vs_a2.getD (p3 + (1 : Int32)).toNatClampNeg 0).toUInt32.toUInt16.toUInt32.toInt32)))]))
      refine own_step (fun t k => XS.iconst X7.here hx rfl (hb hby d5_47) k) ?_
      show own_G p.tables e below _ (T7.setTop (mkF m 48 #[.val (.ref a1), .val (.ref a2), .val (.int p3), .val (.int p4), .val (.int (p4 - p3))] [(.int (1 : Int32)), (.int p3), (.ref a2), (.int (nar .char ((vs_a2.getD (p3 + (1 : Int32)).toNatClampNeg 0).toUInt32.toUInt16.toUInt32.toInt32)))]))
      refine own_step (fun t k => XS.iadd X7.here hx rfl (hb hby d5_48) rfl k) ?_
      show own_G p.tables e below _ (T7.setTop (mkF m 49 #[.val (.ref a1), .val (.ref a2), .val (.int p3), .val (.int p4), .val (.int (p4 - p3))] [(.int (p3 + (1 : Int32))), (.ref a2), (.int (nar .char ((vs_a2.getD (p3 + (1 : Int32)).toNatClampNeg 0).toUInt32.toUInt16.toUInt32.toInt32)))]))
      refine own_step (own_baload X7 hx hZ e7 fp4 (own_ib hr (by decide) hc6) (g := (mkF m 49 #[.val (.ref a1), .val (.ref a2), .val (.int p3), .val (.int p4), .val (.int (p4 - p3))] [(.int (p3 + (1 : Int32))), (.ref a2), (.int (nar .char ((vs_a2.getD (p3 + (1 : Int32)).toNatClampNeg 0).toUInt32.toUInt16.toUInt32.toInt32)))])) rfl rfl (hb hby d5_49)) ?_
      show own_G p.tables e below _ (T7.setTop (mkF m 50 #[.val (.ref a1), .val (.ref a2), .val (.int p3), .val (.int p4), .val (.int (p4 - p3))] [(.int (vs_a2.getD (p3 + (1 : Int32)).toNatClampNeg 0)), (.int (nar .char ((vs_a2.getD (p3 + (1 : Int32)).toNatClampNeg 0).toUInt32.toUInt16.toUInt32.toInt32)))]))
      have hk8 : (nar .char ((vs_a2.getD (p3 + (1 : Int32)).toNatClampNeg 0).toUInt32.toUInt16.toUInt32.toInt32)) = (vs_a2.getD (p3 + (1 : Int32)).toNatClampNeg 0) := own_chr (hv _)
      refine own_step (fun t k => XS.icmpYes X7.here hx rfl (pc0 := 50) (pc' := 55) rfl (hb hby d5_50) rfl ((teq hk8).1) (by decide) (by decide) k) ?_
      show own_G p.tables e below _ (T7.setTop (mkF m 55 #[.val (.ref a1), .val (.ref a2), .val (.int p3), .val (.int p4), .val (.int (p4 - p3))] []))
      refine own_step (fun t k => XS.iload X7.here hx rfl (hb hby d5_55) rfl k) ?_
      show own_G p.tables e below _ (T7.setTop (mkF m 57 #[.val (.ref a1), .val (.ref a2), .val (.int p3), .val (.int p4), .val (.int (p4 - p3))] [(.int (p4 - p3))]))
      refine own_step (fun t k => XS.iconst X7.here hx rfl (hb hby d5_57) k) ?_
      show own_G p.tables e below _ (T7.setTop (mkF m 58 #[.val (.ref a1), .val (.ref a2), .val (.int p3), .val (.int p4), .val (.int (p4 - p3))] [(.int (2 : Int32)), (.int (p4 - p3))]))
      by_cases hc9 : (2 : Int32) < (p4 - p3)
      · skip
        refine own_step (fun t k => XS.icmpNo X7.here hx rfl (hb hby d5_58) rfl ((tlt hc9).2.2.2) k) ?_
        show own_G p.tables e below _ (T7.setTop (mkF m 61 #[.val (.ref a1), .val (.ref a2), .val (.int p3), .val (.int p4), .val (.int (p4 - p3))] []))
        refine own_step (fun t k => XS.aloadN X7.here hx rfl (hb hby d5_61) rfl rfl k) ?_
        show own_G p.tables e below _ (T7.setTop (mkF m 62 #[.val (.ref a1), .val (.ref a2), .val (.int p3), .val (.int p4), .val (.int (p4 - p3))] [(.ref a1)]))
        refine own_step (fun t k => XS.iconst X7.here hx rfl (hb hby d5_62) k) ?_
        show own_G p.tables e below _ (T7.setTop (mkF m 63 #[.val (.ref a1), .val (.ref a2), .val (.int p3), .val (.int p4), .val (.int (p4 - p3))] [(.int (2 : Int32)), (.ref a1)]))
        obtain ⟨cq10, kq10, q10a, q10b, q10c⟩ := isOf hZ e7 fp0
        obtain ⟨_, _, ⟨T10, L10, k10, n10⟩, -, X10, ⟨Lc10, hQ10, l10, y10, z10⟩, st10⟩ := X7.virtualBack hx (y := (⟨"com/example/prudentia/prudentia/csv/AsciiText", "charAt", "(I)C"⟩ : MethodName)) (z := (⟨"com/example/prudentia/prudentia/csv/AsciiText", "charAt", "(I)C"⟩ : MethodName)) hown (mvT hZ (hw _ (List.mem_of_getElem? (i := 34) rfl))) (mvT hZ (hw _ (List.mem_of_getElem? (i := 35) rfl))) (notFace_of_selects (args := #[]) (mvT hZ (hw _ (List.mem_of_getElem? (i := 37) rfl)))) (mvT hZ (hw _ (List.mem_of_getElem? (i := 37) rfl))) (mvT hZ (hw _ (List.mem_of_getElem? (i := 36) rfl))) (by decide) (backOf (W := 0) (rm7 l Z a0 hw [] a1 (2 : Int32) (p4 - p3) a2 p3 vs_a2 h0 n0 (Nat.le_trans Z0 (Keep.refl h0 []).1) fp3 fp1 fp2 fp4 ((by decide) : ¬ ((2 : Int32) < (0 : Int32))) (hc9 : (2 : Int32) < (p4 - p3)) (own_ib hr (by decide) hc9 : own_Inb (p3 + (2 : Int32)) vs_a2.length)) hZ (hw _ (List.mem_of_getElem? (i := 38) rfl)) (hw _ (List.mem_of_getElem? (i := 8) rfl)) (by decide) (by decide)) q10a q10c (g := (mkF m 63 #[.val (.ref a1), .val (.ref a2), .val (.int p3), .val (.int p4), .val (.int (p4 - p3))] [(.int (2 : Int32)), (.ref a1)])) rfl (by rw [hml]; rfl) (Steps.refl _) (argsL := [(.int (2 : Int32))]) (rest := []) (lenOf pd_5_1 rfl) rfl (by show 2 * 0 + _ ≤ _; exact Nat.le_of_eq rfl) (hb hby d5_63) (fun _ _ => ⟨rfl, e7, (by decide : 0 + 0 ≤ _), (by decide : 0 + 0 ≤ _)⟩)
        dsimp only [Pt.U, Pt.locs, Pt.cells, Pt.slots] at X10 l10 y10 z10 st10 hQ10
        subst l10 y10 z10
        obtain ⟨rfl, N10q, e10⟩ := hQ10
        have N10 := Fr.app N7 N10q
        refine own_step (fun t k => st10.trans k) ?_
        show own_G p.tables e below _ (T10.setTop (mkF m 66 #[.val (.ref a1), .val (.ref a2), .val (.int p3), .val (.int p4), .val (.int (p4 - p3))] [(.int (nar .char ((vs_a2.getD (p3 + (2 : Int32)).toNatClampNeg 0).toUInt32.toUInt16.toUInt32.toInt32)))]))
        refine own_step (fun t k => XS.aloadN X10.here hx rfl (hb hby d5_66) rfl rfl k) ?_
        show own_G p.tables e below _ (T10.setTop (mkF m 67 #[.val (.ref a1), .val (.ref a2), .val (.int p3), .val (.int p4), .val (.int (p4 - p3))] [(.ref a2), (.int (nar .char ((vs_a2.getD (p3 + (2 : Int32)).toNatClampNeg 0).toUInt32.toUInt16.toUInt32.toInt32)))]))
        refine own_step (fun t k => XS.iloadN X10.here hx rfl (hb hby d5_67) rfl k) ?_
        show own_G p.tables e below _ (T10.setTop (mkF m 68 #[.val (.ref a1), .val (.ref a2), .val (.int p3), .val (.int p4), .val (.int (p4 - p3))] [(.int p3), (.ref a2), (.int (nar .char ((vs_a2.getD (p3 + (2 : Int32)).toNatClampNeg 0).toUInt32.toUInt16.toUInt32.toInt32)))]))
        refine own_step (fun t k => XS.iconst X10.here hx rfl (hb hby d5_68) k) ?_
        show own_G p.tables e below _ (T10.setTop (mkF m 69 #[.val (.ref a1), .val (.ref a2), .val (.int p3), .val (.int p4), .val (.int (p4 - p3))] [(.int (2 : Int32)), (.int p3), (.ref a2), (.int (nar .char ((vs_a2.getD (p3 + (2 : Int32)).toNatClampNeg 0).toUInt32.toUInt16.toUInt32.toInt32)))]))
        refine own_step (fun t k => XS.iadd X10.here hx rfl (hb hby d5_69) rfl k) ?_
        show own_G p.tables e below _ (T10.setTop (mkF m 70 #[.val (.ref a1), .val (.ref a2), .val (.int p3), .val (.int p4), .val (.int (p4 - p3))] [(.int (p3 + (2 : Int32))), (.ref a2), (.int (nar .char ((vs_a2.getD (p3 + (2 : Int32)).toNatClampNeg 0).toUInt32.toUInt16.toUInt32.toInt32)))]))
        refine own_step (own_baload X10 hx hZ e10 fp4 (own_ib hr (by decide) hc9) (g := (mkF m 70 #[.val (.ref a1), .val (.ref a2), .val (.int p3), .val (.int p4), .val (.int (p4 - p3))] [(.int (p3 + (2 : Int32))), (.ref a2), (.int (nar .char ((vs_a2.getD (p3 + (2 : Int32)).toNatClampNeg 0).toUInt32.toUInt16.toUInt32.toInt32)))])) rfl rfl (hb hby d5_70)) ?_
        show own_G p.tables e below _ (T10.setTop (mkF m 71 #[.val (.ref a1), .val (.ref a2), .val (.int p3), .val (.int p4), .val (.int (p4 - p3))] [(.int (vs_a2.getD (p3 + (2 : Int32)).toNatClampNeg 0)), (.int (nar .char ((vs_a2.getD (p3 + (2 : Int32)).toNatClampNeg 0).toUInt32.toUInt16.toUInt32.toInt32)))]))
        have hk11 : (nar .char ((vs_a2.getD (p3 + (2 : Int32)).toNatClampNeg 0).toUInt32.toUInt16.toUInt32.toInt32)) = (vs_a2.getD (p3 + (2 : Int32)).toNatClampNeg 0) := own_chr (hv _)
        refine own_step (fun t k => XS.icmpYes X10.here hx rfl (pc0 := 71) (pc' := 76) rfl (hb hby d5_71) rfl ((teq hk11).1) (by decide) (by decide) k) ?_
        show own_G p.tables e below _ (T10.setTop (mkF m 76 #[.val (.ref a1), .val (.ref a2), .val (.int p3), .val (.int p4), .val (.int (p4 - p3))] []))
        refine own_step (fun t k => XS.iconst X10.here hx rfl (hb hby d5_76) k) ?_
        show own_G p.tables e below _ (T10.setTop (mkF m 77 #[.val (.ref a1), .val (.ref a2), .val (.int p3), .val (.int p4), .val (.int (p4 - p3))] [(.int (1 : Int32))]))
        obtain ⟨fs, hr, hrun, hended, hW, hsame⟩ := X10.leave (v := some (.int (1 : Int32))) (fun h => by rw [Bd.returns] at h; cases h)
        refine own_done (retN X10 hx (t := .boolean) Bd.returns (by simp) (hb hby d5_77) hr) hrun hended ⟨_, _, rfl, ?_, ⟨_, rfl⟩, hW, hsame.mono (by decide) (by decide)⟩
        show Q5 Z a1 a2 p3 p4 vs_a2 h0 n0 _ T10.heap _
        rw [e10]
        exact ⟨congrArg (fun z => some (Value.int z)) (show (1 : Int32) = (1 : Int32) from rfl), N10, rfl⟩
      · skip
        refine own_step (fun t k => XS.icmpYes X7.here hx rfl (pc0 := 58) (pc' := 76) rfl (hb hby d5_58) rfl ((flt hc9).2.2.2) (by decide) (by decide) k) ?_
        show own_G p.tables e below _ (T7.setTop (mkF m 76 #[.val (.ref a1), .val (.ref a2), .val (.int p3), .val (.int p4), .val (.int (p4 - p3))] []))
        refine own_step (fun t k => XS.iconst X7.here hx rfl (hb hby d5_76) k) ?_
        show own_G p.tables e below _ (T7.setTop (mkF m 77 #[.val (.ref a1), .val (.ref a2), .val (.int p3), .val (.int p4), .val (.int (p4 - p3))] [(.int (1 : Int32))]))
        obtain ⟨fs, hr, hrun, hended, hW, hsame⟩ := X7.leave (v := some (.int (1 : Int32))) (fun h => by rw [Bd.returns] at h; cases h)
        refine own_done (retN X7 hx (t := .boolean) Bd.returns (by simp) (hb hby d5_77) hr) hrun hended ⟨_, _, rfl, ?_, ⟨_, rfl⟩, hW, hsame.mono (by decide) (by decide)⟩
        show Q5 Z a1 a2 p3 p4 vs_a2 h0 n0 _ T7.heap _
        rw [e7]
        exact ⟨congrArg (fun z => some (Value.int z)) (show (1 : Int32) = (1 : Int32) from rfl), N7, rfl⟩
    · skip
      refine own_step (fun t k => XS.icmpYes X4.here hx rfl (pc0 := 37) (pc' := 55) rfl (hb hby d5_37) rfl ((flt hc6).2.2.2) (by decide) (by decide) k) ?_
      show own_G p.tables e below _ (T4.setTop (mkF m 55 #[.val (.ref a1), .val (.ref a2), .val (.int p3), .val (.int p4), .val (.int (p4 - p3))] []))
      refine own_step (fun t k => XS.iload X4.here hx rfl (hb hby d5_55) rfl k) ?_
      show own_G p.tables e below _ (T4.setTop (mkF m 57 #[.val (.ref a1), .val (.ref a2), .val (.int p3), .val (.int p4), .val (.int (p4 - p3))] [(.int (p4 - p3))]))
      refine own_step (fun t k => XS.iconst X4.here hx rfl (hb hby d5_57) k) ?_
      show own_G p.tables e below _ (T4.setTop (mkF m 58 #[.val (.ref a1), .val (.ref a2), .val (.int p3), .val (.int p4), .val (.int (p4 - p3))] [(.int (2 : Int32)), (.int (p4 - p3))]))
      by_cases hc12 : (2 : Int32) < (p4 - p3)
      · skip
        refine own_step (fun t k => XS.icmpNo X4.here hx rfl (hb hby d5_58) rfl ((tlt hc12).2.2.2) k) ?_
        show own_G p.tables e below _ (T4.setTop (mkF m 61 #[.val (.ref a1), .val (.ref a2), .val (.int p3), .val (.int p4), .val (.int (p4 - p3))] []))
        refine own_step (fun t k => XS.aloadN X4.here hx rfl (hb hby d5_61) rfl rfl k) ?_
        show own_G p.tables e below _ (T4.setTop (mkF m 62 #[.val (.ref a1), .val (.ref a2), .val (.int p3), .val (.int p4), .val (.int (p4 - p3))] [(.ref a1)]))
        refine own_step (fun t k => XS.iconst X4.here hx rfl (hb hby d5_62) k) ?_
        show own_G p.tables e below _ (T4.setTop (mkF m 63 #[.val (.ref a1), .val (.ref a2), .val (.int p3), .val (.int p4), .val (.int (p4 - p3))] [(.int (2 : Int32)), (.ref a1)]))
        obtain ⟨cq13, kq13, q13a, q13b, q13c⟩ := isOf hZ e4 fp0
        obtain ⟨_, _, ⟨T13, L13, k13, n13⟩, -, X13, ⟨Lc13, hQ13, l13, y13, z13⟩, st13⟩ := X4.virtualBack hx (y := (⟨"com/example/prudentia/prudentia/csv/AsciiText", "charAt", "(I)C"⟩ : MethodName)) (z := (⟨"com/example/prudentia/prudentia/csv/AsciiText", "charAt", "(I)C"⟩ : MethodName)) hown (mvT hZ (hw _ (List.mem_of_getElem? (i := 34) rfl))) (mvT hZ (hw _ (List.mem_of_getElem? (i := 35) rfl))) (notFace_of_selects (args := #[]) (mvT hZ (hw _ (List.mem_of_getElem? (i := 37) rfl)))) (mvT hZ (hw _ (List.mem_of_getElem? (i := 37) rfl))) (mvT hZ (hw _ (List.mem_of_getElem? (i := 36) rfl))) (by decide) (backOf (W := 0) (rm7 l Z a0 hw [] a1 (2 : Int32) (p4 - p3) a2 p3 vs_a2 h0 n0 (Nat.le_trans Z0 (Keep.refl h0 []).1) fp3 fp1 fp2 fp4 ((by decide) : ¬ ((2 : Int32) < (0 : Int32))) (hc12 : (2 : Int32) < (p4 - p3)) (own_ib hr (by decide) hc12 : own_Inb (p3 + (2 : Int32)) vs_a2.length)) hZ (hw _ (List.mem_of_getElem? (i := 38) rfl)) (hw _ (List.mem_of_getElem? (i := 8) rfl)) (by decide) (by decide)) q13a q13c (g := (mkF m 63 #[.val (.ref a1), .val (.ref a2), .val (.int p3), .val (.int p4), .val (.int (p4 - p3))] [(.int (2 : Int32)), (.ref a1)])) rfl (by rw [hml]; rfl) (Steps.refl _) (argsL := [(.int (2 : Int32))]) (rest := []) (lenOf pd_5_1 rfl) rfl (by show 2 * 0 + _ ≤ _; exact Nat.le_of_eq rfl) (hb hby d5_63) (fun _ _ => ⟨rfl, e4, (by decide : 0 + 0 ≤ _), (by decide : 0 + 0 ≤ _)⟩)
        dsimp only [Pt.U, Pt.locs, Pt.cells, Pt.slots] at X13 l13 y13 z13 st13 hQ13
        subst l13 y13 z13
        obtain ⟨rfl, N13q, e13⟩ := hQ13
        have N13 := Fr.app N4 N13q
        refine own_step (fun t k => st13.trans k) ?_
        show own_G p.tables e below _ (T13.setTop (mkF m 66 #[.val (.ref a1), .val (.ref a2), .val (.int p3), .val (.int p4), .val (.int (p4 - p3))] [(.int (nar .char ((vs_a2.getD (p3 + (2 : Int32)).toNatClampNeg 0).toUInt32.toUInt16.toUInt32.toInt32)))]))
        refine own_step (fun t k => XS.aloadN X13.here hx rfl (hb hby d5_66) rfl rfl k) ?_
        show own_G p.tables e below _ (T13.setTop (mkF m 67 #[.val (.ref a1), .val (.ref a2), .val (.int p3), .val (.int p4), .val (.int (p4 - p3))] [(.ref a2), (.int (nar .char ((vs_a2.getD (p3 + (2 : Int32)).toNatClampNeg 0).toUInt32.toUInt16.toUInt32.toInt32)))]))
        refine own_step (fun t k => XS.iloadN X13.here hx rfl (hb hby d5_67) rfl k) ?_
        show own_G p.tables e below _ (T13.setTop (mkF m 68 #[.val (.ref a1), .val (.ref a2), .val (.int p3), .val (.int p4), .val (.int (p4 - p3))] [(.int p3), (.ref a2), (.int (nar .char ((vs_a2.getD (p3 + (2 : Int32)).toNatClampNeg 0).toUInt32.toUInt16.toUInt32.toInt32)))]))
        refine own_step (fun t k => XS.iconst X13.here hx rfl (hb hby d5_68) k) ?_
        show own_G p.tables e below _ (T13.setTop (mkF m 69 #[.val (.ref a1), .val (.ref a2), .val (.int p3), .val (.int p4), .val (.int (p4 - p3))] [(.int (2 : Int32)), (.int p3), (.ref a2), (.int (nar .char ((vs_a2.getD (p3 + (2 : Int32)).toNatClampNeg 0).toUInt32.toUInt16.toUInt32.toInt32)))]))
        refine own_step (fun t k => XS.iadd X13.here hx rfl (hb hby d5_69) rfl k) ?_
        show own_G p.tables e below _ (T13.setTop (mkF m 70 #[.val (.ref a1), .val (.ref a2), .val (.int p3), .val (.int p4), .val (.int (p4 - p3))] [(.int (p3 + (2 : Int32))), (.ref a2), (.int (nar .char ((vs_a2.getD (p3 + (2 : Int32)).toNatClampNeg 0).toUInt32.toUInt16.toUInt32.toInt32)))]))
        refine own_step (own_baload X13 hx hZ e13 fp4 (own_ib hr (by decide) hc12) (g := (mkF m 70 #[.val (.ref a1), .val (.ref a2), .val (.int p3), .val (.int p4), .val (.int (p4 - p3))] [(.int (p3 + (2 : Int32))), (.ref a2), (.int (nar .char ((vs_a2.getD (p3 + (2 : Int32)).toNatClampNeg 0).toUInt32.toUInt16.toUInt32.toInt32)))])) rfl rfl (hb hby d5_70)) ?_
        show own_G p.tables e below _ (T13.setTop (mkF m 71 #[.val (.ref a1), .val (.ref a2), .val (.int p3), .val (.int p4), .val (.int (p4 - p3))] [(.int (vs_a2.getD (p3 + (2 : Int32)).toNatClampNeg 0)), (.int (nar .char ((vs_a2.getD (p3 + (2 : Int32)).toNatClampNeg 0).toUInt32.toUInt16.toUInt32.toInt32)))]))
        have hk14 : (nar .char ((vs_a2.getD (p3 + (2 : Int32)).toNatClampNeg 0).toUInt32.toUInt16.toUInt32.toInt32)) = (vs_a2.getD (p3 + (2 : Int32)).toNatClampNeg 0) := own_chr (hv _)
        refine own_step (fun t k => XS.icmpYes X13.here hx rfl (pc0 := 71) (pc' := 76) rfl (hb hby d5_71) rfl ((teq hk14).1) (by decide) (by decide) k) ?_
        show own_G p.tables e below _ (T13.setTop (mkF m 76 #[.val (.ref a1), .val (.ref a2), .val (.int p3), .val (.int p4), .val (.int (p4 - p3))] []))
        refine own_step (fun t k => XS.iconst X13.here hx rfl (hb hby d5_76) k) ?_
        show own_G p.tables e below _ (T13.setTop (mkF m 77 #[.val (.ref a1), .val (.ref a2), .val (.int p3), .val (.int p4), .val (.int (p4 - p3))] [(.int (1 : Int32))]))
        obtain ⟨fs, hr, hrun, hended, hW, hsame⟩ := X13.leave (v := some (.int (1 : Int32))) (fun h => by rw [Bd.returns] at h; cases h)
        refine own_done (retN X13 hx (t := .boolean) Bd.returns (by simp) (hb hby d5_77) hr) hrun hended ⟨_, _, rfl, ?_, ⟨_, rfl⟩, hW, hsame.mono (by decide) (by decide)⟩
        show Q5 Z a1 a2 p3 p4 vs_a2 h0 n0 _ T13.heap _
        rw [e13]
        exact ⟨congrArg (fun z => some (Value.int z)) (show (1 : Int32) = (1 : Int32) from rfl), N13, rfl⟩
      · skip
        refine own_step (fun t k => XS.icmpYes X4.here hx rfl (pc0 := 58) (pc' := 76) rfl (hb hby d5_58) rfl ((flt hc12).2.2.2) (by decide) (by decide) k) ?_
        show own_G p.tables e below _ (T4.setTop (mkF m 76 #[.val (.ref a1), .val (.ref a2), .val (.int p3), .val (.int p4), .val (.int (p4 - p3))] []))
        refine own_step (fun t k => XS.iconst X4.here hx rfl (hb hby d5_76) k) ?_
        show own_G p.tables e below _ (T4.setTop (mkF m 77 #[.val (.ref a1), .val (.ref a2), .val (.int p3), .val (.int p4), .val (.int (p4 - p3))] [(.int (1 : Int32))]))
        obtain ⟨fs, hr, hrun, hended, hW, hsame⟩ := X4.leave (v := some (.int (1 : Int32))) (fun h => by rw [Bd.returns] at h; cases h)
        refine own_done (retN X4 hx (t := .boolean) Bd.returns (by simp) (hb hby d5_77) hr) hrun hended ⟨_, _, rfl, ?_, ⟨_, rfl⟩, hW, hsame.mono (by decide) (by decide)⟩
        show Q5 Z a1 a2 p3 p4 vs_a2 h0 n0 _ T4.heap _
        rw [e4]
        exact ⟨congrArg (fun z => some (Value.int z)) (show (1 : Int32) = (1 : Int32) from rfl), N4, rfl⟩
  · skip
    refine own_step (fun t k => XS.ifYes X1.here hx rfl (pc0 := 18) (pc' := 34) rfl (hb hby d5_18) rfl ((if0 _ _).trans (flt hc3).2.2.2) (by decide) (by decide) k) ?_
    show own_G p.tables e below _ (T1.setTop (mkF m 34 #[.val (.ref a1), .val (.ref a2), .val (.int p3), .val (.int p4), .val (.int (p4 - p3))] []))
    refine own_step (fun t k => XS.iload X1.here hx rfl (hb hby d5_34) rfl k) ?_
    show own_G p.tables e below _ (T1.setTop (mkF m 36 #[.val (.ref a1), .val (.ref a2), .val (.int p3), .val (.int p4), .val (.int (p4 - p3))] [(.int (p4 - p3))]))
    refine own_step (fun t k => XS.iconst X1.here hx rfl (hb hby d5_36) k) ?_
    show own_G p.tables e below _ (T1.setTop (mkF m 37 #[.val (.ref a1), .val (.ref a2), .val (.int p3), .val (.int p4), .val (.int (p4 - p3))] [(.int (1 : Int32)), (.int (p4 - p3))]))
    by_cases hc15 : (1 : Int32) < (p4 - p3)
    · skip
      refine own_step (fun t k => XS.icmpNo X1.here hx rfl (hb hby d5_37) rfl ((tlt hc15).2.2.2) k) ?_
      show own_G p.tables e below _ (T1.setTop (mkF m 40 #[.val (.ref a1), .val (.ref a2), .val (.int p3), .val (.int p4), .val (.int (p4 - p3))] []))
      refine own_step (fun t k => XS.aloadN X1.here hx rfl (hb hby d5_40) rfl rfl k) ?_
      show own_G p.tables e below _ (T1.setTop (mkF m 41 #[.val (.ref a1), .val (.ref a2), .val (.int p3), .val (.int p4), .val (.int (p4 - p3))] [(.ref a1)]))
      refine own_step (fun t k => XS.iconst X1.here hx rfl (hb hby d5_41) k) ?_
      show own_G p.tables e below _ (T1.setTop (mkF m 42 #[.val (.ref a1), .val (.ref a2), .val (.int p3), .val (.int p4), .val (.int (p4 - p3))] [(.int (1 : Int32)), (.ref a1)]))
      obtain ⟨cq16, kq16, q16a, q16b, q16c⟩ := isOf hZ e1 fp0
      obtain ⟨_, _, ⟨T16, L16, k16, n16⟩, -, X16, ⟨Lc16, hQ16, l16, y16, z16⟩, st16⟩ := X1.virtualBack hx (y := (⟨"com/example/prudentia/prudentia/csv/AsciiText", "charAt", "(I)C"⟩ : MethodName)) (z := (⟨"com/example/prudentia/prudentia/csv/AsciiText", "charAt", "(I)C"⟩ : MethodName)) hown (mvT hZ (hw _ (List.mem_of_getElem? (i := 34) rfl))) (mvT hZ (hw _ (List.mem_of_getElem? (i := 35) rfl))) (notFace_of_selects (args := #[]) (mvT hZ (hw _ (List.mem_of_getElem? (i := 37) rfl)))) (mvT hZ (hw _ (List.mem_of_getElem? (i := 37) rfl))) (mvT hZ (hw _ (List.mem_of_getElem? (i := 36) rfl))) (by decide) (backOf (W := 0) (rm7 l Z a0 hw [] a1 (1 : Int32) (p4 - p3) a2 p3 vs_a2 h0 n0 (Nat.le_trans Z0 (Keep.refl h0 []).1) fp3 fp1 fp2 fp4 ((by decide) : ¬ ((1 : Int32) < (0 : Int32))) (hc15 : (1 : Int32) < (p4 - p3)) (own_ib hr (by decide) hc15 : own_Inb (p3 + (1 : Int32)) vs_a2.length)) hZ (hw _ (List.mem_of_getElem? (i := 38) rfl)) (hw _ (List.mem_of_getElem? (i := 8) rfl)) (by decide) (by decide)) q16a q16c (g := (mkF m 42 #[.val (.ref a1), .val (.ref a2), .val (.int p3), .val (.int p4), .val (.int (p4 - p3))] [(.int (1 : Int32)), (.ref a1)])) rfl (by rw [hml]; rfl) (Steps.refl _) (argsL := [(.int (1 : Int32))]) (rest := []) (lenOf pd_5_1 rfl) rfl (by show 2 * 0 + _ ≤ _; exact Nat.le_of_eq rfl) (hb hby d5_42) (fun _ _ => ⟨rfl, e1, (by decide : 0 + 0 ≤ _), (by decide : 0 + 0 ≤ _)⟩)
      dsimp only [Pt.U, Pt.locs, Pt.cells, Pt.slots] at X16 l16 y16 z16 st16 hQ16
      subst l16 y16 z16
      obtain ⟨rfl, N16q, e16⟩ := hQ16
      have N16 := Fr.app N1 N16q
      refine own_step (fun t k => st16.trans k) ?_
      show own_G p.tables e below _ (T16.setTop (mkF m 45 #[.val (.ref a1), .val (.ref a2), .val (.int p3), .val (.int p4), .val (.int (p4 - p3))] [(.int (nar .char ((vs_a2.getD (p3 + (1 : Int32)).toNatClampNeg 0).toUInt32.toUInt16.toUInt32.toInt32)))]))
      refine own_step (fun t k => XS.aloadN X16.here hx rfl (hb hby d5_45) rfl rfl k) ?_
      show own_G p.tables e below _ (T16.setTop (mkF m 46 #[.val (.ref a1), .val (.ref a2), .val (.int p3), .val (.int p4), .val (.int (p4 - p3))] [(.ref a2), (.int (nar .char ((vs_a2.getD (p3 + (1 : Int32)).toNatClampNeg 0).toUInt32.toUInt16.toUInt32.toInt32)))]))
      refine own_step (fun t k => XS.iloadN X16.here hx rfl (hb hby d5_46) rfl k) ?_
      show own_G p.tables e below _ (T16.setTop (mkF m 47 #[.val (.ref a1), .val (.ref a2), .val (.int p3), .val (.int p4), .val (.int (p4 - p3))] [(.int p3), (.ref a2), (.int (nar .char ((vs_a2.getD (p3 + (1 : Int32)).toNatClampNeg 0).toUInt32.toUInt16.toUInt32.toInt32)))]))
      refine own_step (fun t k => XS.iconst X16.here hx rfl (hb hby d5_47) k) ?_
      show own_G p.tables e below _ (T16.setTop (mkF m 48 #[.val (.ref a1), .val (.ref a2), .val (.int p3), .val (.int p4), .val (.int (p4 - p3))] [(.int (1 : Int32)), (.int p3), (.ref a2), (.int (nar .char ((vs_a2.getD (p3 + (1 : Int32)).toNatClampNeg 0).toUInt32.toUInt16.toUInt32.toInt32)))]))
      refine own_step (fun t k => XS.iadd X16.here hx rfl (hb hby d5_48) rfl k) ?_
      show own_G p.tables e below _ (T16.setTop (mkF m 49 #[.val (.ref a1), .val (.ref a2), .val (.int p3), .val (.int p4), .val (.int (p4 - p3))] [(.int (p3 + (1 : Int32))), (.ref a2), (.int (nar .char ((vs_a2.getD (p3 + (1 : Int32)).toNatClampNeg 0).toUInt32.toUInt16.toUInt32.toInt32)))]))
      refine own_step (own_baload X16 hx hZ e16 fp4 (own_ib hr (by decide) hc15) (g := (mkF m 49 #[.val (.ref a1), .val (.ref a2), .val (.int p3), .val (.int p4), .val (.int (p4 - p3))] [(.int (p3 + (1 : Int32))), (.ref a2), (.int (nar .char ((vs_a2.getD (p3 + (1 : Int32)).toNatClampNeg 0).toUInt32.toUInt16.toUInt32.toInt32)))])) rfl rfl (hb hby d5_49)) ?_
      show own_G p.tables e below _ (T16.setTop (mkF m 50 #[.val (.ref a1), .val (.ref a2), .val (.int p3), .val (.int p4), .val (.int (p4 - p3))] [(.int (vs_a2.getD (p3 + (1 : Int32)).toNatClampNeg 0)), (.int (nar .char ((vs_a2.getD (p3 + (1 : Int32)).toNatClampNeg 0).toUInt32.toUInt16.toUInt32.toInt32)))]))
      have hk17 : (nar .char ((vs_a2.getD (p3 + (1 : Int32)).toNatClampNeg 0).toUInt32.toUInt16.toUInt32.toInt32)) = (vs_a2.getD (p3 + (1 : Int32)).toNatClampNeg 0) := own_chr (hv _)
      refine own_step (fun t k => XS.icmpYes X16.here hx rfl (pc0 := 50) (pc' := 55) rfl (hb hby d5_50) rfl ((teq hk17).1) (by decide) (by decide) k) ?_
      show own_G p.tables e below _ (T16.setTop (mkF m 55 #[.val (.ref a1), .val (.ref a2), .val (.int p3), .val (.int p4), .val (.int (p4 - p3))] []))
      refine own_step (fun t k => XS.iload X16.here hx rfl (hb hby d5_55) rfl k) ?_
      show own_G p.tables e below _ (T16.setTop (mkF m 57 #[.val (.ref a1), .val (.ref a2), .val (.int p3), .val (.int p4), .val (.int (p4 - p3))] [(.int (p4 - p3))]))
      refine own_step (fun t k => XS.iconst X16.here hx rfl (hb hby d5_57) k) ?_
      show own_G p.tables e below _ (T16.setTop (mkF m 58 #[.val (.ref a1), .val (.ref a2), .val (.int p3), .val (.int p4), .val (.int (p4 - p3))] [(.int (2 : Int32)), (.int (p4 - p3))]))
      by_cases hc18 : (2 : Int32) < (p4 - p3)
      · skip
        refine own_step (fun t k => XS.icmpNo X16.here hx rfl (hb hby d5_58) rfl ((tlt hc18).2.2.2) k) ?_
        show own_G p.tables e below _ (T16.setTop (mkF m 61 #[.val (.ref a1), .val (.ref a2), .val (.int p3), .val (.int p4), .val (.int (p4 - p3))] []))
        refine own_step (fun t k => XS.aloadN X16.here hx rfl (hb hby d5_61) rfl rfl k) ?_
        show own_G p.tables e below _ (T16.setTop (mkF m 62 #[.val (.ref a1), .val (.ref a2), .val (.int p3), .val (.int p4), .val (.int (p4 - p3))] [(.ref a1)]))
        refine own_step (fun t k => XS.iconst X16.here hx rfl (hb hby d5_62) k) ?_
        show own_G p.tables e below _ (T16.setTop (mkF m 63 #[.val (.ref a1), .val (.ref a2), .val (.int p3), .val (.int p4), .val (.int (p4 - p3))] [(.int (2 : Int32)), (.ref a1)]))
        obtain ⟨cq19, kq19, q19a, q19b, q19c⟩ := isOf hZ e16 fp0
        obtain ⟨_, _, ⟨T19, L19, k19, n19⟩, -, X19, ⟨Lc19, hQ19, l19, y19, z19⟩, st19⟩ := X16.virtualBack hx (y := (⟨"com/example/prudentia/prudentia/csv/AsciiText", "charAt", "(I)C"⟩ : MethodName)) (z := (⟨"com/example/prudentia/prudentia/csv/AsciiText", "charAt", "(I)C"⟩ : MethodName)) hown (mvT hZ (hw _ (List.mem_of_getElem? (i := 34) rfl))) (mvT hZ (hw _ (List.mem_of_getElem? (i := 35) rfl))) (notFace_of_selects (args := #[]) (mvT hZ (hw _ (List.mem_of_getElem? (i := 37) rfl)))) (mvT hZ (hw _ (List.mem_of_getElem? (i := 37) rfl))) (mvT hZ (hw _ (List.mem_of_getElem? (i := 36) rfl))) (by decide) (backOf (W := 0) (rm7 l Z a0 hw [] a1 (2 : Int32) (p4 - p3) a2 p3 vs_a2 h0 n0 (Nat.le_trans Z0 (Keep.refl h0 []).1) fp3 fp1 fp2 fp4 ((by decide) : ¬ ((2 : Int32) < (0 : Int32))) (hc18 : (2 : Int32) < (p4 - p3)) (own_ib hr (by decide) hc18 : own_Inb (p3 + (2 : Int32)) vs_a2.length)) hZ (hw _ (List.mem_of_getElem? (i := 38) rfl)) (hw _ (List.mem_of_getElem? (i := 8) rfl)) (by decide) (by decide)) q19a q19c (g := (mkF m 63 #[.val (.ref a1), .val (.ref a2), .val (.int p3), .val (.int p4), .val (.int (p4 - p3))] [(.int (2 : Int32)), (.ref a1)])) rfl (by rw [hml]; rfl) (Steps.refl _) (argsL := [(.int (2 : Int32))]) (rest := []) (lenOf pd_5_1 rfl) rfl (by show 2 * 0 + _ ≤ _; exact Nat.le_of_eq rfl) (hb hby d5_63) (fun _ _ => ⟨rfl, e16, (by decide : 0 + 0 ≤ _), (by decide : 0 + 0 ≤ _)⟩)
        dsimp only [Pt.U, Pt.locs, Pt.cells, Pt.slots] at X19 l19 y19 z19 st19 hQ19
        subst l19 y19 z19
        obtain ⟨rfl, N19q, e19⟩ := hQ19
        have N19 := Fr.app N16 N19q
        refine own_step (fun t k => st19.trans k) ?_
        show own_G p.tables e below _ (T19.setTop (mkF m 66 #[.val (.ref a1), .val (.ref a2), .val (.int p3), .val (.int p4), .val (.int (p4 - p3))] [(.int (nar .char ((vs_a2.getD (p3 + (2 : Int32)).toNatClampNeg 0).toUInt32.toUInt16.toUInt32.toInt32)))]))
        refine own_step (fun t k => XS.aloadN X19.here hx rfl (hb hby d5_66) rfl rfl k) ?_
        show own_G p.tables e below _ (T19.setTop (mkF m 67 #[.val (.ref a1), .val (.ref a2), .val (.int p3), .val (.int p4), .val (.int (p4 - p3))] [(.ref a2), (.int (nar .char ((vs_a2.getD (p3 + (2 : Int32)).toNatClampNeg 0).toUInt32.toUInt16.toUInt32.toInt32)))]))
        refine own_step (fun t k => XS.iloadN X19.here hx rfl (hb hby d5_67) rfl k) ?_
        show own_G p.tables e below _ (T19.setTop (mkF m 68 #[.val (.ref a1), .val (.ref a2), .val (.int p3), .val (.int p4), .val (.int (p4 - p3))] [(.int p3), (.ref a2), (.int (nar .char ((vs_a2.getD (p3 + (2 : Int32)).toNatClampNeg 0).toUInt32.toUInt16.toUInt32.toInt32)))]))
        refine own_step (fun t k => XS.iconst X19.here hx rfl (hb hby d5_68) k) ?_
        show own_G p.tables e below _ (T19.setTop (mkF m 69 #[.val (.ref a1), .val (.ref a2), .val (.int p3), .val (.int p4), .val (.int (p4 - p3))] [(.int (2 : Int32)), (.int p3), (.ref a2), (.int (nar .char ((vs_a2.getD (p3 + (2 : Int32)).toNatClampNeg 0).toUInt32.toUInt16.toUInt32.toInt32)))]))
        refine own_step (fun t k => XS.iadd X19.here hx rfl (hb hby d5_69) rfl k) ?_
        show own_G p.tables e below _ (T19.setTop (mkF m 70 #[.val (.ref a1), .val (.ref a2), .val (.int p3), .val (.int p4), .val (.int (p4 - p3))] [(.int (p3 + (2 : Int32))), (.ref a2), (.int (nar .char ((vs_a2.getD (p3 + (2 : Int32)).toNatClampNeg 0).toUInt32.toUInt16.toUInt32.toInt32)))]))
        refine own_step (own_baload X19 hx hZ e19 fp4 (own_ib hr (by decide) hc18) (g := (mkF m 70 #[.val (.ref a1), .val (.ref a2), .val (.int p3), .val (.int p4), .val (.int (p4 - p3))] [(.int (p3 + (2 : Int32))), (.ref a2), (.int (nar .char ((vs_a2.getD (p3 + (2 : Int32)).toNatClampNeg 0).toUInt32.toUInt16.toUInt32.toInt32)))])) rfl rfl (hb hby d5_70)) ?_
        show own_G p.tables e below _ (T19.setTop (mkF m 71 #[.val (.ref a1), .val (.ref a2), .val (.int p3), .val (.int p4), .val (.int (p4 - p3))] [(.int (vs_a2.getD (p3 + (2 : Int32)).toNatClampNeg 0)), (.int (nar .char ((vs_a2.getD (p3 + (2 : Int32)).toNatClampNeg 0).toUInt32.toUInt16.toUInt32.toInt32)))]))
        have hk20 : (nar .char ((vs_a2.getD (p3 + (2 : Int32)).toNatClampNeg 0).toUInt32.toUInt16.toUInt32.toInt32)) = (vs_a2.getD (p3 + (2 : Int32)).toNatClampNeg 0) := own_chr (hv _)
        refine own_step (fun t k => XS.icmpYes X19.here hx rfl (pc0 := 71) (pc' := 76) rfl (hb hby d5_71) rfl ((teq hk20).1) (by decide) (by decide) k) ?_
        show own_G p.tables e below _ (T19.setTop (mkF m 76 #[.val (.ref a1), .val (.ref a2), .val (.int p3), .val (.int p4), .val (.int (p4 - p3))] []))
        refine own_step (fun t k => XS.iconst X19.here hx rfl (hb hby d5_76) k) ?_
        show own_G p.tables e below _ (T19.setTop (mkF m 77 #[.val (.ref a1), .val (.ref a2), .val (.int p3), .val (.int p4), .val (.int (p4 - p3))] [(.int (1 : Int32))]))
        obtain ⟨fs, hr, hrun, hended, hW, hsame⟩ := X19.leave (v := some (.int (1 : Int32))) (fun h => by rw [Bd.returns] at h; cases h)
        refine own_done (retN X19 hx (t := .boolean) Bd.returns (by simp) (hb hby d5_77) hr) hrun hended ⟨_, _, rfl, ?_, ⟨_, rfl⟩, hW, hsame.mono (by decide) (by decide)⟩
        show Q5 Z a1 a2 p3 p4 vs_a2 h0 n0 _ T19.heap _
        rw [e19]
        exact ⟨congrArg (fun z => some (Value.int z)) (show (1 : Int32) = (1 : Int32) from rfl), N19, rfl⟩
      · skip
        refine own_step (fun t k => XS.icmpYes X16.here hx rfl (pc0 := 58) (pc' := 76) rfl (hb hby d5_58) rfl ((flt hc18).2.2.2) (by decide) (by decide) k) ?_
        show own_G p.tables e below _ (T16.setTop (mkF m 76 #[.val (.ref a1), .val (.ref a2), .val (.int p3), .val (.int p4), .val (.int (p4 - p3))] []))
        refine own_step (fun t k => XS.iconst X16.here hx rfl (hb hby d5_76) k) ?_
        show own_G p.tables e below _ (T16.setTop (mkF m 77 #[.val (.ref a1), .val (.ref a2), .val (.int p3), .val (.int p4), .val (.int (p4 - p3))] [(.int (1 : Int32))]))
        obtain ⟨fs, hr, hrun, hended, hW, hsame⟩ := X16.leave (v := some (.int (1 : Int32))) (fun h => by rw [Bd.returns] at h; cases h)
        refine own_done (retN X16 hx (t := .boolean) Bd.returns (by simp) (hb hby d5_77) hr) hrun hended ⟨_, _, rfl, ?_, ⟨_, rfl⟩, hW, hsame.mono (by decide) (by decide)⟩
        show Q5 Z a1 a2 p3 p4 vs_a2 h0 n0 _ T16.heap _
        rw [e16]
        exact ⟨congrArg (fun z => some (Value.int z)) (show (1 : Int32) = (1 : Int32) from rfl), N16, rfl⟩
    · skip
      refine own_step (fun t k => XS.icmpYes X1.here hx rfl (pc0 := 37) (pc' := 55) rfl (hb hby d5_37) rfl ((flt hc15).2.2.2) (by decide) (by decide) k) ?_
      show own_G p.tables e below _ (T1.setTop (mkF m 55 #[.val (.ref a1), .val (.ref a2), .val (.int p3), .val (.int p4), .val (.int (p4 - p3))] []))
      refine own_step (fun t k => XS.iload X1.here hx rfl (hb hby d5_55) rfl k) ?_
      show own_G p.tables e below _ (T1.setTop (mkF m 57 #[.val (.ref a1), .val (.ref a2), .val (.int p3), .val (.int p4), .val (.int (p4 - p3))] [(.int (p4 - p3))]))
      refine own_step (fun t k => XS.iconst X1.here hx rfl (hb hby d5_57) k) ?_
      show own_G p.tables e below _ (T1.setTop (mkF m 58 #[.val (.ref a1), .val (.ref a2), .val (.int p3), .val (.int p4), .val (.int (p4 - p3))] [(.int (2 : Int32)), (.int (p4 - p3))]))
      by_cases hc21 : (2 : Int32) < (p4 - p3)
      · skip
        refine own_step (fun t k => XS.icmpNo X1.here hx rfl (hb hby d5_58) rfl ((tlt hc21).2.2.2) k) ?_
        show own_G p.tables e below _ (T1.setTop (mkF m 61 #[.val (.ref a1), .val (.ref a2), .val (.int p3), .val (.int p4), .val (.int (p4 - p3))] []))
        refine own_step (fun t k => XS.aloadN X1.here hx rfl (hb hby d5_61) rfl rfl k) ?_
        show own_G p.tables e below _ (T1.setTop (mkF m 62 #[.val (.ref a1), .val (.ref a2), .val (.int p3), .val (.int p4), .val (.int (p4 - p3))] [(.ref a1)]))
        refine own_step (fun t k => XS.iconst X1.here hx rfl (hb hby d5_62) k) ?_
        show own_G p.tables e below _ (T1.setTop (mkF m 63 #[.val (.ref a1), .val (.ref a2), .val (.int p3), .val (.int p4), .val (.int (p4 - p3))] [(.int (2 : Int32)), (.ref a1)]))
        obtain ⟨cq22, kq22, q22a, q22b, q22c⟩ := isOf hZ e1 fp0
        obtain ⟨_, _, ⟨T22, L22, k22, n22⟩, -, X22, ⟨Lc22, hQ22, l22, y22, z22⟩, st22⟩ := X1.virtualBack hx (y := (⟨"com/example/prudentia/prudentia/csv/AsciiText", "charAt", "(I)C"⟩ : MethodName)) (z := (⟨"com/example/prudentia/prudentia/csv/AsciiText", "charAt", "(I)C"⟩ : MethodName)) hown (mvT hZ (hw _ (List.mem_of_getElem? (i := 34) rfl))) (mvT hZ (hw _ (List.mem_of_getElem? (i := 35) rfl))) (notFace_of_selects (args := #[]) (mvT hZ (hw _ (List.mem_of_getElem? (i := 37) rfl)))) (mvT hZ (hw _ (List.mem_of_getElem? (i := 37) rfl))) (mvT hZ (hw _ (List.mem_of_getElem? (i := 36) rfl))) (by decide) (backOf (W := 0) (rm7 l Z a0 hw [] a1 (2 : Int32) (p4 - p3) a2 p3 vs_a2 h0 n0 (Nat.le_trans Z0 (Keep.refl h0 []).1) fp3 fp1 fp2 fp4 ((by decide) : ¬ ((2 : Int32) < (0 : Int32))) (hc21 : (2 : Int32) < (p4 - p3)) (own_ib hr (by decide) hc21 : own_Inb (p3 + (2 : Int32)) vs_a2.length)) hZ (hw _ (List.mem_of_getElem? (i := 38) rfl)) (hw _ (List.mem_of_getElem? (i := 8) rfl)) (by decide) (by decide)) q22a q22c (g := (mkF m 63 #[.val (.ref a1), .val (.ref a2), .val (.int p3), .val (.int p4), .val (.int (p4 - p3))] [(.int (2 : Int32)), (.ref a1)])) rfl (by rw [hml]; rfl) (Steps.refl _) (argsL := [(.int (2 : Int32))]) (rest := []) (lenOf pd_5_1 rfl) rfl (by show 2 * 0 + _ ≤ _; exact Nat.le_of_eq rfl) (hb hby d5_63) (fun _ _ => ⟨rfl, e1, (by decide : 0 + 0 ≤ _), (by decide : 0 + 0 ≤ _)⟩)
        dsimp only [Pt.U, Pt.locs, Pt.cells, Pt.slots] at X22 l22 y22 z22 st22 hQ22
        subst l22 y22 z22
        obtain ⟨rfl, N22q, e22⟩ := hQ22
        have N22 := Fr.app N1 N22q
        refine own_step (fun t k => st22.trans k) ?_
        show own_G p.tables e below _ (T22.setTop (mkF m 66 #[.val (.ref a1), .val (.ref a2), .val (.int p3), .val (.int p4), .val (.int (p4 - p3))] [(.int (nar .char ((vs_a2.getD (p3 + (2 : Int32)).toNatClampNeg 0).toUInt32.toUInt16.toUInt32.toInt32)))]))
        refine own_step (fun t k => XS.aloadN X22.here hx rfl (hb hby d5_66) rfl rfl k) ?_
        show own_G p.tables e below _ (T22.setTop (mkF m 67 #[.val (.ref a1), .val (.ref a2), .val (.int p3), .val (.int p4), .val (.int (p4 - p3))] [(.ref a2), (.int (nar .char ((vs_a2.getD (p3 + (2 : Int32)).toNatClampNeg 0).toUInt32.toUInt16.toUInt32.toInt32)))]))
        refine own_step (fun t k => XS.iloadN X22.here hx rfl (hb hby d5_67) rfl k) ?_
        show own_G p.tables e below _ (T22.setTop (mkF m 68 #[.val (.ref a1), .val (.ref a2), .val (.int p3), .val (.int p4), .val (.int (p4 - p3))] [(.int p3), (.ref a2), (.int (nar .char ((vs_a2.getD (p3 + (2 : Int32)).toNatClampNeg 0).toUInt32.toUInt16.toUInt32.toInt32)))]))
        refine own_step (fun t k => XS.iconst X22.here hx rfl (hb hby d5_68) k) ?_
        show own_G p.tables e below _ (T22.setTop (mkF m 69 #[.val (.ref a1), .val (.ref a2), .val (.int p3), .val (.int p4), .val (.int (p4 - p3))] [(.int (2 : Int32)), (.int p3), (.ref a2), (.int (nar .char ((vs_a2.getD (p3 + (2 : Int32)).toNatClampNeg 0).toUInt32.toUInt16.toUInt32.toInt32)))]))
        refine own_step (fun t k => XS.iadd X22.here hx rfl (hb hby d5_69) rfl k) ?_
        show own_G p.tables e below _ (T22.setTop (mkF m 70 #[.val (.ref a1), .val (.ref a2), .val (.int p3), .val (.int p4), .val (.int (p4 - p3))] [(.int (p3 + (2 : Int32))), (.ref a2), (.int (nar .char ((vs_a2.getD (p3 + (2 : Int32)).toNatClampNeg 0).toUInt32.toUInt16.toUInt32.toInt32)))]))
        refine own_step (own_baload X22 hx hZ e22 fp4 (own_ib hr (by decide) hc21) (g := (mkF m 70 #[.val (.ref a1), .val (.ref a2), .val (.int p3), .val (.int p4), .val (.int (p4 - p3))] [(.int (p3 + (2 : Int32))), (.ref a2), (.int (nar .char ((vs_a2.getD (p3 + (2 : Int32)).toNatClampNeg 0).toUInt32.toUInt16.toUInt32.toInt32)))])) rfl rfl (hb hby d5_70)) ?_
        show own_G p.tables e below _ (T22.setTop (mkF m 71 #[.val (.ref a1), .val (.ref a2), .val (.int p3), .val (.int p4), .val (.int (p4 - p3))] [(.int (vs_a2.getD (p3 + (2 : Int32)).toNatClampNeg 0)), (.int (nar .char ((vs_a2.getD (p3 + (2 : Int32)).toNatClampNeg 0).toUInt32.toUInt16.toUInt32.toInt32)))]))
        have hk23 : (nar .char ((vs_a2.getD (p3 + (2 : Int32)).toNatClampNeg 0).toUInt32.toUInt16.toUInt32.toInt32)) = (vs_a2.getD (p3 + (2 : Int32)).toNatClampNeg 0) := own_chr (hv _)
        refine own_step (fun t k => XS.icmpYes X22.here hx rfl (pc0 := 71) (pc' := 76) rfl (hb hby d5_71) rfl ((teq hk23).1) (by decide) (by decide) k) ?_
        show own_G p.tables e below _ (T22.setTop (mkF m 76 #[.val (.ref a1), .val (.ref a2), .val (.int p3), .val (.int p4), .val (.int (p4 - p3))] []))
        refine own_step (fun t k => XS.iconst X22.here hx rfl (hb hby d5_76) k) ?_
        show own_G p.tables e below _ (T22.setTop (mkF m 77 #[.val (.ref a1), .val (.ref a2), .val (.int p3), .val (.int p4), .val (.int (p4 - p3))] [(.int (1 : Int32))]))
        obtain ⟨fs, hr, hrun, hended, hW, hsame⟩ := X22.leave (v := some (.int (1 : Int32))) (fun h => by rw [Bd.returns] at h; cases h)
        refine own_done (retN X22 hx (t := .boolean) Bd.returns (by simp) (hb hby d5_77) hr) hrun hended ⟨_, _, rfl, ?_, ⟨_, rfl⟩, hW, hsame.mono (by decide) (by decide)⟩
        show Q5 Z a1 a2 p3 p4 vs_a2 h0 n0 _ T22.heap _
        rw [e22]
        exact ⟨congrArg (fun z => some (Value.int z)) (show (1 : Int32) = (1 : Int32) from rfl), N22, rfl⟩
      · skip
        refine own_step (fun t k => XS.icmpYes X1.here hx rfl (pc0 := 58) (pc' := 76) rfl (hb hby d5_58) rfl ((flt hc21).2.2.2) (by decide) (by decide) k) ?_
        show own_G p.tables e below _ (T1.setTop (mkF m 76 #[.val (.ref a1), .val (.ref a2), .val (.int p3), .val (.int p4), .val (.int (p4 - p3))] []))
        refine own_step (fun t k => XS.iconst X1.here hx rfl (hb hby d5_76) k) ?_
        show own_G p.tables e below _ (T1.setTop (mkF m 77 #[.val (.ref a1), .val (.ref a2), .val (.int p3), .val (.int p4), .val (.int (p4 - p3))] [(.int (1 : Int32))]))
        obtain ⟨fs, hr, hrun, hended, hW, hsame⟩ := X1.leave (v := some (.int (1 : Int32))) (fun h => by rw [Bd.returns] at h; cases h)
        refine own_done (retN X1 hx (t := .boolean) Bd.returns (by simp) (hb hby d5_77) hr) hrun hended ⟨_, _, rfl, ?_, ⟨_, rfl⟩, hW, hsame.mono (by decide) (by decide)⟩
        show Q5 Z a1 a2 p3 p4 vs_a2 h0 n0 _ T1.heap _
        rw [e1]
        exact ⟨congrArg (fun z => some (Value.int z)) (show (1 : Int32) = (1 : Int32) from rfl), N1, rfl⟩
theorem pn_0 : plainName "com/example/prudentia/prudentia/csv/AsciiTextOfPinLaw" = true := by first | (simp [plainName, overriddenIn]; done) | decide +kernel
theorem pd_0_0 : parseMethodDescriptor "(I)[B" = some ⟨[.int], some (.array .byte)⟩ := by decide +kernel
theorem pd_0_1 : parseMethodDescriptor "()V" = some ⟨[], none⟩ := by decide +kernel
theorem pd_0_2 : parseMethodDescriptor "([BII)Lcom/example/prudentia/prudentia/csv/AsciiText;" = some ⟨[(.array .byte), .int, .int], some (.object "com/example/prudentia/prudentia/csv/AsciiText")⟩ := by decide +kernel
theorem pd_0_3 : parseMethodDescriptor "(Lcom/example/prudentia/prudentia/csv/AsciiText;[BII)Z" = some ⟨[(.object "com/example/prudentia/prudentia/csv/AsciiText"), (.array .byte), .int, .int], some .boolean⟩ := by decide +kernel
theorem ef_0 (m : MethodId) (p1 : Int32) (p2 : Int32) (p3 : Int32) (p4 : Int32) : entryFrame m #[(.int p1), (.int p2), (.int p3), (.int p4)] maxLocals = mkF m 0 #[.val (.int p1), .val (.int p2), .val (.int p3), .val (.int p4), .unset, .unset, .unset, .unset, .unset, .unset, .unset] [] := by first | (simp [entryFrame, mkF, argsToLocals, Value.category, maxLocals]; done) | rfl
def Q0 (Z : State) (p1 : Int32) (p2 : Int32) (p3 : Int32) (p4 : Int32) (h0 : Heap) (n0 : Nat) (v : Option Value) (h : Heap) (L : List Loc) : Prop := v = some (.int (1 : Int32)) ∧ Fr n0 L
set_option maxRecDepth 65536 in
set_option maxHeartbeats 40000000 in
theorem rm0 (l : Launch) (Z : State) (a0 : Array Value) (hw : ∀ d ∈ tables_1, d.before a0 Z = true) (ws : List Jvm.Cond) (p1 : Int32) (p2 : Int32) (p3 : Int32) (p4 : Int32) (h0 : Heap) (n0 : Nat) (Z0 : n0 ≤ h0.size) :
    MetFree l x (head1 (Jvm.Cond.code x code maxLocals ret :: ws) room_1) (fun a U => a = #[(.int p1), (.int p2), (.int p3), (.int p4)] ∧ Z.Warmed39 U.vm ∧ U.heap = h0) (fun _ _ _ _ _ => True) (fun _ U o U' => ∃ v L, o = .returned v ∧ Q0 Z p1 p2 p3 p4 h0 n0 v U'.heap L ∧ FrameEnd U o U' L room_1.cells room_1.slots) := by
  refine MetFree.of_bodySF (plainFor_of_name pn_0) hisR ?_
  intro p e s m args below meth c s₁ Bd hml0 hP hK
  obtain ⟨rfl, hZ, hh⟩ := hP
  have hx := Bd.exec
  have hby := Bd.bytes
  have hml : c.maxLocals = 11 := hml0
  have hown : s.vm.findClass "com/example/prudentia/prudentia/csv/AsciiTextOfPinLaw" = some m.cls := findClass_of_methodNamed Bd.named
  have hnm := (name_of_methodNamed Bd.named Bd.method).1
  have X0 : Stand p l e room_1 s m #[(.int p1), (.int p2), (.int p3), (.int p4)] below meth c s₁ [] 0 0 := Stand.of_body Bd
  have e0 : s₁.heap = h0 := by rw [← hh, Bd.state]; rfl
  have N0 := Fr.nil n0
  refine own_start (fun t k => castTop (ef_0 m p1 p2 p3 p4) k) ?_
  show own_G p.tables e below _ (s₁.setTop (mkF m 0 #[.val (.int p1), .val (.int p2), .val (.int p3), .val (.int p4), .unset, .unset, .unset, .unset, .unset, .unset, .unset] []))
  refine own_step (fun t k => XS.iloadN X0.here hx rfl (hb hby at_0) rfl k) ?_
  show own_G p.tables e below _ (s₁.setTop (mkF m 1 #[.val (.int p1), .val (.int p2), .val (.int p3), .val (.int p4), .unset, .unset, .unset, .unset, .unset, .unset, .unset] [(.int p1)]))
  obtain ⟨_, _, ⟨T1, L1, k1, n1⟩, -, X1, ⟨Lc1, hQ1, l1, y1, z1⟩, st1⟩ := Jvm.LawKit.callS X0 hx (y := (⟨"com/example/prudentia/prudentia/csv/AsciiTextOfPinLaw", "buf", "(I)[B"⟩ : MethodName)) hown (mvT hZ (hw _ (List.mem_of_getElem? (i := 0) rfl))) (mvT hZ (hw _ (List.mem_of_getElem? (i := 1) rfl))) (mvT hZ (hw _ (List.mem_of_getElem? (i := 2) rfl))) (mvT hZ (hw _ (List.mem_of_getElem? (i := 3) rfl))) (by decide) (backOf (W := 0) (rm1 l Z a0 hw [] p1 h0 n0 (Nat.le_trans Z0 (Keep.refl h0 []).1) ) hZ (hw _ (List.mem_of_getElem? (i := 3) rfl)) (hw _ (List.mem_of_getElem? (i := 2) rfl)) (by decide) (by decide)) (g := (mkF m 1 #[.val (.int p1), .val (.int p2), .val (.int p3), .val (.int p4), .unset, .unset, .unset, .unset, .unset, .unset, .unset] [(.int p1)])) rfl (by rw [hml]; rfl) (argsL := [(.int p1)]) (rest := []) (lenOf pd_0_0 rfl) rfl (by show 2 * 0 + _ ≤ _; exact Nat.le_of_eq rfl) (hb hby at_1) (fun _ _ => ⟨rfl, e0, (by decide : 0 + 1 ≤ _), (by decide : 0 + 3 ≤ _)⟩)
  dsimp only [Pt.U, Pt.locs, Pt.cells, Pt.slots] at X1 l1 y1 z1 st1 hQ1
  subst l1 y1 z1
  obtain ⟨bx1_rb, rfl, N1q, K1q, w1_0, sx1_0⟩ := hQ1
  have sz1_0 : h0.size ≤ bx1_rb := Nat.le_trans (Keep.refl h0 []).1 sx1_0
  have ge1_0 : n0 ≤ bx1_rb := Nat.le_trans Z0 sz1_0
  have K1 : Keep h0 T1.heap [] := (Keep.refl h0 []).trans K1q all0
  have N1 := Fr.app N0 N1q
  refine own_step st1 ?_
  show own_G p.tables e below _ (T1.setTop (mkF m 4 #[.val (.int p1), .val (.int p2), .val (.int p3), .val (.int p4), .unset, .unset, .unset, .unset, .unset, .unset, .unset] [(.ref bx1_rb)]))
  refine own_step (fun t k => XS.astore X1.here hx rfl (hb hby at_4) rfl rfl (l' := #[.val (.int p1), .val (.int p2), .val (.int p3), .val (.int p4), .val (.ref bx1_rb), .unset, .unset, .unset, .unset, .unset, .unset]) rfl k) ?_
  show own_G p.tables e below _ (T1.setTop (mkF m 6 #[.val (.int p1), .val (.int p2), .val (.int p3), .val (.int p4), .val (.ref bx1_rb), .unset, .unset, .unset, .unset, .unset, .unset] []))
  refine own_step (fun t k => XS.iloadN X1.here hx rfl (hb hby at_6) rfl k) ?_
  show own_G p.tables e below _ (T1.setTop (mkF m 7 #[.val (.int p1), .val (.int p2), .val (.int p3), .val (.int p4), .val (.ref bx1_rb), .unset, .unset, .unset, .unset, .unset, .unset] [(.int p2)]))
  obtain ⟨_, _, ⟨T2, L2, k2, n2⟩, -, X2, ⟨Lc2, hQ2, l2, y2, z2⟩, st2⟩ := Jvm.LawKit.callS X1 hx (y := (⟨"com/example/prudentia/prudentia/csv/AsciiTextOfPinLaw", "buf", "(I)[B"⟩ : MethodName)) hown (mvT hZ (hw _ (List.mem_of_getElem? (i := 0) rfl))) (mvT hZ (hw _ (List.mem_of_getElem? (i := 1) rfl))) (mvT hZ (hw _ (List.mem_of_getElem? (i := 2) rfl))) (mvT hZ (hw _ (List.mem_of_getElem? (i := 3) rfl))) (by decide) (backOf (W := 0) (rm1 l Z a0 hw [] p2 T1.heap n0 (Nat.le_trans Z0 K1.1) ) hZ (hw _ (List.mem_of_getElem? (i := 3) rfl)) (hw _ (List.mem_of_getElem? (i := 2) rfl)) (by decide) (by decide)) (g := (mkF m 7 #[.val (.int p1), .val (.int p2), .val (.int p3), .val (.int p4), .val (.ref bx1_rb), .unset, .unset, .unset, .unset, .unset, .unset] [(.int p2)])) rfl (by rw [hml]; rfl) (argsL := [(.int p2)]) (rest := []) (lenOf pd_0_0 rfl) rfl (by show 2 * 0 + _ ≤ _; exact Nat.le_of_eq rfl) (hb hby at_7) (fun _ _ => ⟨rfl, rfl, (by decide : 1 + 1 ≤ _), (by decide : 3 + 3 ≤ _)⟩)
  dsimp only [Pt.U, Pt.locs, Pt.cells, Pt.slots] at X2 l2 y2 z2 st2 hQ2
  subst l2 y2 z2
  obtain ⟨bx2_rb, rfl, N2q, K2q, w2_0, sx2_0⟩ := hQ2
  have c3 : own_Ari Z T2.heap bx1_rb .byte [(nar .byte ((p1 &&& (127 : Int32)).toInt8.toInt32)), (nar .byte ((((p1.toUInt32 >>> ((8 : Int32) &&& 31).toUInt32).toInt32) &&& (127 : Int32)).toInt8.toInt32)), (nar .byte ((((p1.toUInt32 >>> ((16 : Int32) &&& 31).toUInt32).toInt32) &&& (127 : Int32)).toInt8.toInt32))] := w1_0.keep K2q nin0
  have sz2_0 : h0.size ≤ bx2_rb := Nat.le_trans K1.1 sx2_0
  have ge2_0 : n0 ≤ bx2_rb := Nat.le_trans Z0 sz2_0
  have ne4 : bx1_rb ≠ bx2_rb := Nat.ne_of_lt (Nat.lt_of_lt_of_le w1_0.lt sx2_0)
  have K2 : Keep h0 T2.heap [] := K1.trans K2q all0
  have N2 := Fr.app N1 N2q
  refine own_step st2 ?_
  show own_G p.tables e below _ (T2.setTop (mkF m 10 #[.val (.int p1), .val (.int p2), .val (.int p3), .val (.int p4), .val (.ref bx1_rb), .unset, .unset, .unset, .unset, .unset, .unset] [(.ref bx2_rb)]))
  refine own_step (fun t k => XS.astore X2.here hx rfl (hb hby at_10) rfl rfl (l' := #[.val (.int p1), .val (.int p2), .val (.int p3), .val (.int p4), .val (.ref bx1_rb), .val (.ref bx2_rb), .unset, .unset, .unset, .unset, .unset]) rfl k) ?_
  show own_G p.tables e below _ (T2.setTop (mkF m 12 #[.val (.int p1), .val (.int p2), .val (.int p3), .val (.int p4), .val (.ref bx1_rb), .val (.ref bx2_rb), .unset, .unset, .unset, .unset, .unset] []))
  refine own_step (fun t k => XS.iloadN X2.here hx rfl (hb hby at_12) rfl k) ?_
  show own_G p.tables e below _ (T2.setTop (mkF m 13 #[.val (.int p1), .val (.int p2), .val (.int p3), .val (.int p4), .val (.ref bx1_rb), .val (.ref bx2_rb), .unset, .unset, .unset, .unset, .unset] [(.int p3)]))
  refine own_step (X2.ldcInt hx hown (mvT hZ (hw _ (List.mem_of_getElem? (i := 5) rfl))) (g := (mkF m 13 #[.val (.int p1), .val (.int p2), .val (.int p3), .val (.int p4), .val (.ref bx1_rb), .val (.ref bx2_rb), .unset, .unset, .unset, .unset, .unset] [(.int p3)])) rfl (hb hby at_13)) ?_
  show own_G p.tables e below _ (T2.setTop (mkF m 15 #[.val (.int p1), .val (.int p2), .val (.int p3), .val (.int p4), .val (.ref bx1_rb), .val (.ref bx2_rb), .unset, .unset, .unset, .unset, .unset] [(.int (2147483647 : Int32)), (.int p3)]))
  refine own_step (fun t k => XS.iand X2.here hx rfl (hb hby at_15) rfl k) ?_
  show own_G p.tables e below _ (T2.setTop (mkF m 16 #[.val (.int p1), .val (.int p2), .val (.int p3), .val (.int p4), .val (.ref bx1_rb), .val (.ref bx2_rb), .unset, .unset, .unset, .unset, .unset] [(.int (p3 &&& (2147483647 : Int32)))]))
  refine own_step (fun t k => XS.iconst X2.here hx rfl (hb hby at_16) k) ?_
  show own_G p.tables e below _ (T2.setTop (mkF m 17 #[.val (.int p1), .val (.int p2), .val (.int p3), .val (.int p4), .val (.ref bx1_rb), .val (.ref bx2_rb), .unset, .unset, .unset, .unset, .unset] [(.int (4 : Int32)), (.int (p3 &&& (2147483647 : Int32)))]))
  refine own_step (fun t k => XS.irem X2.here hx rfl (hb hby at_17) rfl (by decide) k) ?_
  show own_G p.tables e below _ (T2.setTop (mkF m 18 #[.val (.int p1), .val (.int p2), .val (.int p3), .val (.int p4), .val (.ref bx1_rb), .val (.ref bx2_rb), .unset, .unset, .unset, .unset, .unset] [(.int ((p3 &&& (2147483647 : Int32)) - ((p3 &&& (2147483647 : Int32)) / (4 : Int32)) * (4 : Int32)))]))
  refine own_nm (((p3 &&& (2147483647 : Int32)) - ((p3 &&& (2147483647 : Int32)) / (4 : Int32)) * (4 : Int32)) : Int32) (fun f1 => T2.setTop (mkF m 18 #[.val (.int p1), .val (.int p2), .val (.int p3), .val (.int p4), .val (.ref bx1_rb), .val (.ref bx2_rb), .unset, .unset, .unset, .unset, .unset] [(.int f1)])) ?_
  intro f1 hd_f1
  show own_G p.tables e below _ (T2.setTop (mkF m 18 #[.val (.int p1), .val (.int p2), .val (.int p3), .val (.int p4), .val (.ref bx1_rb), .val (.ref bx2_rb), .unset, .unset, .unset, .unset, .unset] [(.int f1)]))
  refine own_step (fun t k => XS.istore X2.here hx rfl (hb hby at_18) rfl (l' := #[.val (.int p1), .val (.int p2), .val (.int p3), .val (.int p4), .val (.ref bx1_rb), .val (.ref bx2_rb), .val (.int f1), .unset, .unset, .unset, .unset]) rfl k) ?_
  show own_G p.tables e below _ (T2.setTop (mkF m 20 #[.val (.int p1), .val (.int p2), .val (.int p3), .val (.int p4), .val (.ref bx1_rb), .val (.ref bx2_rb), .val (.int f1), .unset, .unset, .unset, .unset] []))
  refine own_step (fun t k => XS.iload X2.here hx rfl (hb hby at_20) rfl k) ?_
  show own_G p.tables e below _ (T2.setTop (mkF m 22 #[.val (.int p1), .val (.int p2), .val (.int p3), .val (.int p4), .val (.ref bx1_rb), .val (.ref bx2_rb), .val (.int f1), .unset, .unset, .unset, .unset] [(.int f1)]))
  refine own_step (fun t k => XS.iloadN X2.here hx rfl (hb hby at_22) rfl k) ?_
  show own_G p.tables e below _ (T2.setTop (mkF m 23 #[.val (.int p1), .val (.int p2), .val (.int p3), .val (.int p4), .val (.ref bx1_rb), .val (.ref bx2_rb), .val (.int f1), .unset, .unset, .unset, .unset] [(.int p3), (.int f1)]))
  refine own_step (fun t k => XS.bipush X2.here hx rfl (hb hby at_23) k) ?_
  show own_G p.tables e below _ (T2.setTop (mkF m 25 #[.val (.int p1), .val (.int p2), .val (.int p3), .val (.int p4), .val (.ref bx1_rb), .val (.ref bx2_rb), .val (.int f1), .unset, .unset, .unset, .unset] [(.int (8 : Int32)), (.int p3), (.int f1)]))
  refine own_step (fun t k => XS.iushr X2.here hx rfl (hb hby at_25) rfl k) ?_
  show own_G p.tables e below _ (T2.setTop (mkF m 26 #[.val (.int p1), .val (.int p2), .val (.int p3), .val (.int p4), .val (.ref bx1_rb), .val (.ref bx2_rb), .val (.int f1), .unset, .unset, .unset, .unset] [(.int ((p3.toUInt32 >>> ((8 : Int32) &&& 31).toUInt32).toInt32)), (.int f1)]))
  refine own_step (fun t k => XS.iconst X2.here hx rfl (hb hby at_26) k) ?_
  show own_G p.tables e below _ (T2.setTop (mkF m 27 #[.val (.int p1), .val (.int p2), .val (.int p3), .val (.int p4), .val (.ref bx1_rb), .val (.ref bx2_rb), .val (.int f1), .unset, .unset, .unset, .unset] [(.int (4 : Int32)), (.int ((p3.toUInt32 >>> ((8 : Int32) &&& 31).toUInt32).toInt32)), (.int f1)]))
  refine own_step (fun t k => XS.iload X2.here hx rfl (hb hby at_27) rfl k) ?_
  show own_G p.tables e below _ (T2.setTop (mkF m 29 #[.val (.int p1), .val (.int p2), .val (.int p3), .val (.int p4), .val (.ref bx1_rb), .val (.ref bx2_rb), .val (.int f1), .unset, .unset, .unset, .unset] [(.int f1), (.int (4 : Int32)), (.int ((p3.toUInt32 >>> ((8 : Int32) &&& 31).toUInt32).toInt32)), (.int f1)]))
  refine own_step (fun t k => XS.isub X2.here hx rfl (hb hby at_29) rfl k) ?_
  show own_G p.tables e below _ (T2.setTop (mkF m 30 #[.val (.int p1), .val (.int p2), .val (.int p3), .val (.int p4), .val (.ref bx1_rb), .val (.ref bx2_rb), .val (.int f1), .unset, .unset, .unset, .unset] [(.int ((4 : Int32) - f1)), (.int ((p3.toUInt32 >>> ((8 : Int32) &&& 31).toUInt32).toInt32)), (.int f1)]))
  refine own_step (fun t k => XS.irem X2.here hx rfl (hb hby at_30) rfl (own_nz0 _ (own_f4r _ _ hd_f1)) k) ?_
  show own_G p.tables e below _ (T2.setTop (mkF m 31 #[.val (.int p1), .val (.int p2), .val (.int p3), .val (.int p4), .val (.ref bx1_rb), .val (.ref bx2_rb), .val (.int f1), .unset, .unset, .unset, .unset] [(.int (((p3.toUInt32 >>> ((8 : Int32) &&& 31).toUInt32).toInt32) - (((p3.toUInt32 >>> ((8 : Int32) &&& 31).toUInt32).toInt32) / ((4 : Int32) - f1)) * ((4 : Int32) - f1))), (.int f1)]))
  refine own_step (fun t k => XS.iadd X2.here hx rfl (hb hby at_31) rfl k) ?_
  show own_G p.tables e below _ (T2.setTop (mkF m 32 #[.val (.int p1), .val (.int p2), .val (.int p3), .val (.int p4), .val (.ref bx1_rb), .val (.ref bx2_rb), .val (.int f1), .unset, .unset, .unset, .unset] [(.int (f1 + (((p3.toUInt32 >>> ((8 : Int32) &&& 31).toUInt32).toInt32) - (((p3.toUInt32 >>> ((8 : Int32) &&& 31).toUInt32).toInt32) / ((4 : Int32) - f1)) * ((4 : Int32) - f1))))]))
  refine own_nm ((f1 + (((p3.toUInt32 >>> ((8 : Int32) &&& 31).toUInt32).toInt32) - (((p3.toUInt32 >>> ((8 : Int32) &&& 31).toUInt32).toInt32) / ((4 : Int32) - f1)) * ((4 : Int32) - f1))) : Int32) (fun t1 => T2.setTop (mkF m 32 #[.val (.int p1), .val (.int p2), .val (.int p3), .val (.int p4), .val (.ref bx1_rb), .val (.ref bx2_rb), .val (.int f1), .unset, .unset, .unset, .unset] [(.int t1)])) ?_
  intro t1 hd_t1
  show own_G p.tables e below _ (T2.setTop (mkF m 32 #[.val (.int p1), .val (.int p2), .val (.int p3), .val (.int p4), .val (.ref bx1_rb), .val (.ref bx2_rb), .val (.int f1), .unset, .unset, .unset, .unset] [(.int t1)]))
  refine own_step (fun t k => XS.istore X2.here hx rfl (hb hby at_32) rfl (l' := #[.val (.int p1), .val (.int p2), .val (.int p3), .val (.int p4), .val (.ref bx1_rb), .val (.ref bx2_rb), .val (.int f1), .val (.int t1), .unset, .unset, .unset]) rfl k) ?_
  show own_G p.tables e below _ (T2.setTop (mkF m 34 #[.val (.int p1), .val (.int p2), .val (.int p3), .val (.int p4), .val (.ref bx1_rb), .val (.ref bx2_rb), .val (.int f1), .val (.int t1), .unset, .unset, .unset] []))
  refine own_step (fun t k => XS.iloadN X2.here hx rfl (hb hby at_34) rfl k) ?_
  show own_G p.tables e below _ (T2.setTop (mkF m 35 #[.val (.int p1), .val (.int p2), .val (.int p3), .val (.int p4), .val (.ref bx1_rb), .val (.ref bx2_rb), .val (.int f1), .val (.int t1), .unset, .unset, .unset] [(.int p4)]))
  refine own_step (X2.ldcInt hx hown (mvT hZ (hw _ (List.mem_of_getElem? (i := 5) rfl))) (g := (mkF m 35 #[.val (.int p1), .val (.int p2), .val (.int p3), .val (.int p4), .val (.ref bx1_rb), .val (.ref bx2_rb), .val (.int f1), .val (.int t1), .unset, .unset, .unset] [(.int p4)])) rfl (hb hby at_35)) ?_
  show own_G p.tables e below _ (T2.setTop (mkF m 37 #[.val (.int p1), .val (.int p2), .val (.int p3), .val (.int p4), .val (.ref bx1_rb), .val (.ref bx2_rb), .val (.int f1), .val (.int t1), .unset, .unset, .unset] [(.int (2147483647 : Int32)), (.int p4)]))
  refine own_step (fun t k => XS.iand X2.here hx rfl (hb hby at_37) rfl k) ?_
  show own_G p.tables e below _ (T2.setTop (mkF m 38 #[.val (.int p1), .val (.int p2), .val (.int p3), .val (.int p4), .val (.ref bx1_rb), .val (.ref bx2_rb), .val (.int f1), .val (.int t1), .unset, .unset, .unset] [(.int (p4 &&& (2147483647 : Int32)))]))
  refine own_step (fun t k => XS.iconst X2.here hx rfl (hb hby at_38) k) ?_
  show own_G p.tables e below _ (T2.setTop (mkF m 39 #[.val (.int p1), .val (.int p2), .val (.int p3), .val (.int p4), .val (.ref bx1_rb), .val (.ref bx2_rb), .val (.int f1), .val (.int t1), .unset, .unset, .unset] [(.int (4 : Int32)), (.int (p4 &&& (2147483647 : Int32)))]))
  refine own_step (fun t k => XS.irem X2.here hx rfl (hb hby at_39) rfl (by decide) k) ?_
  show own_G p.tables e below _ (T2.setTop (mkF m 40 #[.val (.int p1), .val (.int p2), .val (.int p3), .val (.int p4), .val (.ref bx1_rb), .val (.ref bx2_rb), .val (.int f1), .val (.int t1), .unset, .unset, .unset] [(.int ((p4 &&& (2147483647 : Int32)) - ((p4 &&& (2147483647 : Int32)) / (4 : Int32)) * (4 : Int32)))]))
  refine own_nm (((p4 &&& (2147483647 : Int32)) - ((p4 &&& (2147483647 : Int32)) / (4 : Int32)) * (4 : Int32)) : Int32) (fun f2 => T2.setTop (mkF m 40 #[.val (.int p1), .val (.int p2), .val (.int p3), .val (.int p4), .val (.ref bx1_rb), .val (.ref bx2_rb), .val (.int f1), .val (.int t1), .unset, .unset, .unset] [(.int f2)])) ?_
  intro f2 hd_f2
  show own_G p.tables e below _ (T2.setTop (mkF m 40 #[.val (.int p1), .val (.int p2), .val (.int p3), .val (.int p4), .val (.ref bx1_rb), .val (.ref bx2_rb), .val (.int f1), .val (.int t1), .unset, .unset, .unset] [(.int f2)]))
  refine own_step (fun t k => XS.istore X2.here hx rfl (hb hby at_40) rfl (l' := #[.val (.int p1), .val (.int p2), .val (.int p3), .val (.int p4), .val (.ref bx1_rb), .val (.ref bx2_rb), .val (.int f1), .val (.int t1), .val (.int f2), .unset, .unset]) rfl k) ?_
  show own_G p.tables e below _ (T2.setTop (mkF m 42 #[.val (.int p1), .val (.int p2), .val (.int p3), .val (.int p4), .val (.ref bx1_rb), .val (.ref bx2_rb), .val (.int f1), .val (.int t1), .val (.int f2), .unset, .unset] []))
  refine own_step (fun t k => XS.iload X2.here hx rfl (hb hby at_42) rfl k) ?_
  show own_G p.tables e below _ (T2.setTop (mkF m 44 #[.val (.int p1), .val (.int p2), .val (.int p3), .val (.int p4), .val (.ref bx1_rb), .val (.ref bx2_rb), .val (.int f1), .val (.int t1), .val (.int f2), .unset, .unset] [(.int f2)]))
  refine own_step (fun t k => XS.iloadN X2.here hx rfl (hb hby at_44) rfl k) ?_
  show own_G p.tables e below _ (T2.setTop (mkF m 45 #[.val (.int p1), .val (.int p2), .val (.int p3), .val (.int p4), .val (.ref bx1_rb), .val (.ref bx2_rb), .val (.int f1), .val (.int t1), .val (.int f2), .unset, .unset] [(.int p4), (.int f2)]))
  refine own_step (fun t k => XS.bipush X2.here hx rfl (hb hby at_45) k) ?_
  show own_G p.tables e below _ (T2.setTop (mkF m 47 #[.val (.int p1), .val (.int p2), .val (.int p3), .val (.int p4), .val (.ref bx1_rb), .val (.ref bx2_rb), .val (.int f1), .val (.int t1), .val (.int f2), .unset, .unset] [(.int (8 : Int32)), (.int p4), (.int f2)]))
  refine own_step (fun t k => XS.iushr X2.here hx rfl (hb hby at_47) rfl k) ?_
  show own_G p.tables e below _ (T2.setTop (mkF m 48 #[.val (.int p1), .val (.int p2), .val (.int p3), .val (.int p4), .val (.ref bx1_rb), .val (.ref bx2_rb), .val (.int f1), .val (.int t1), .val (.int f2), .unset, .unset] [(.int ((p4.toUInt32 >>> ((8 : Int32) &&& 31).toUInt32).toInt32)), (.int f2)]))
  refine own_step (fun t k => XS.iconst X2.here hx rfl (hb hby at_48) k) ?_
  show own_G p.tables e below _ (T2.setTop (mkF m 49 #[.val (.int p1), .val (.int p2), .val (.int p3), .val (.int p4), .val (.ref bx1_rb), .val (.ref bx2_rb), .val (.int f1), .val (.int t1), .val (.int f2), .unset, .unset] [(.int (4 : Int32)), (.int ((p4.toUInt32 >>> ((8 : Int32) &&& 31).toUInt32).toInt32)), (.int f2)]))
  refine own_step (fun t k => XS.iload X2.here hx rfl (hb hby at_49) rfl k) ?_
  show own_G p.tables e below _ (T2.setTop (mkF m 51 #[.val (.int p1), .val (.int p2), .val (.int p3), .val (.int p4), .val (.ref bx1_rb), .val (.ref bx2_rb), .val (.int f1), .val (.int t1), .val (.int f2), .unset, .unset] [(.int f2), (.int (4 : Int32)), (.int ((p4.toUInt32 >>> ((8 : Int32) &&& 31).toUInt32).toInt32)), (.int f2)]))
  refine own_step (fun t k => XS.isub X2.here hx rfl (hb hby at_51) rfl k) ?_
  show own_G p.tables e below _ (T2.setTop (mkF m 52 #[.val (.int p1), .val (.int p2), .val (.int p3), .val (.int p4), .val (.ref bx1_rb), .val (.ref bx2_rb), .val (.int f1), .val (.int t1), .val (.int f2), .unset, .unset] [(.int ((4 : Int32) - f2)), (.int ((p4.toUInt32 >>> ((8 : Int32) &&& 31).toUInt32).toInt32)), (.int f2)]))
  refine own_step (fun t k => XS.irem X2.here hx rfl (hb hby at_52) rfl (own_nz0 _ (own_f4r _ _ hd_f2)) k) ?_
  show own_G p.tables e below _ (T2.setTop (mkF m 53 #[.val (.int p1), .val (.int p2), .val (.int p3), .val (.int p4), .val (.ref bx1_rb), .val (.ref bx2_rb), .val (.int f1), .val (.int t1), .val (.int f2), .unset, .unset] [(.int (((p4.toUInt32 >>> ((8 : Int32) &&& 31).toUInt32).toInt32) - (((p4.toUInt32 >>> ((8 : Int32) &&& 31).toUInt32).toInt32) / ((4 : Int32) - f2)) * ((4 : Int32) - f2))), (.int f2)]))
  refine own_step (fun t k => XS.iadd X2.here hx rfl (hb hby at_53) rfl k) ?_
  show own_G p.tables e below _ (T2.setTop (mkF m 54 #[.val (.int p1), .val (.int p2), .val (.int p3), .val (.int p4), .val (.ref bx1_rb), .val (.ref bx2_rb), .val (.int f1), .val (.int t1), .val (.int f2), .unset, .unset] [(.int (f2 + (((p4.toUInt32 >>> ((8 : Int32) &&& 31).toUInt32).toInt32) - (((p4.toUInt32 >>> ((8 : Int32) &&& 31).toUInt32).toInt32) / ((4 : Int32) - f2)) * ((4 : Int32) - f2))))]))
  refine own_nm ((f2 + (((p4.toUInt32 >>> ((8 : Int32) &&& 31).toUInt32).toInt32) - (((p4.toUInt32 >>> ((8 : Int32) &&& 31).toUInt32).toInt32) / ((4 : Int32) - f2)) * ((4 : Int32) - f2))) : Int32) (fun t2 => T2.setTop (mkF m 54 #[.val (.int p1), .val (.int p2), .val (.int p3), .val (.int p4), .val (.ref bx1_rb), .val (.ref bx2_rb), .val (.int f1), .val (.int t1), .val (.int f2), .unset, .unset] [(.int t2)])) ?_
  intro t2 hd_t2
  show own_G p.tables e below _ (T2.setTop (mkF m 54 #[.val (.int p1), .val (.int p2), .val (.int p3), .val (.int p4), .val (.ref bx1_rb), .val (.ref bx2_rb), .val (.int f1), .val (.int t1), .val (.int f2), .unset, .unset] [(.int t2)]))
  refine own_step (fun t k => XS.istore X2.here hx rfl (hb hby at_54) rfl (l' := #[.val (.int p1), .val (.int p2), .val (.int p3), .val (.int p4), .val (.ref bx1_rb), .val (.ref bx2_rb), .val (.int f1), .val (.int t1), .val (.int f2), .val (.int t2), .unset]) rfl k) ?_
  show own_G p.tables e below _ (T2.setTop (mkF m 56 #[.val (.int p1), .val (.int p2), .val (.int p3), .val (.int p4), .val (.ref bx1_rb), .val (.ref bx2_rb), .val (.int f1), .val (.int t1), .val (.int f2), .val (.int t2), .unset] []))
  obtain ⟨T9, h9, X9, e9, E9, A9, D9, -, st9⟩ := newO X2 hx hZ hown (hw _ (List.mem_of_getElem? (i := 6) rfl)) (hw _ (List.mem_of_getElem? (i := 7) rfl)) (hw _ (List.mem_of_getElem? (i := 8) rfl)) rfl (g := (mkF m 56 #[.val (.int p1), .val (.int p2), .val (.int p3), .val (.int p4), .val (.ref bx1_rb), .val (.ref bx2_rb), .val (.int f1), .val (.int t1), .val (.int f2), .val (.int t2), .unset] [])) rfl (hb hby at_56) (by decide) (by decide)
  obtain ⟨b9, g9⟩ : ∃ z, z = T2.heap.size := ⟨_, rfl⟩
  have ne10 : bx1_rb ≠ b9 := Nat.ne_of_lt (Nat.lt_of_lt_of_le c3.lt (Nat.le_of_eq g9.symm))
  have ne11 : bx2_rb ≠ b9 := Nat.ne_of_lt (Nat.lt_of_lt_of_le w2_0.lt (Nat.le_of_eq g9.symm))
  have sz9 : h0.size ≤ b9 := Nat.le_trans K2.1 (Nat.le_of_eq g9.symm)
  have ge9 : n0 ≤ b9 := Nat.le_trans Z0 sz9
  have c12 : own_Ari Z h9 bx1_rb .byte [(nar .byte ((p1 &&& (127 : Int32)).toInt8.toInt32)), (nar .byte ((((p1.toUInt32 >>> ((8 : Int32) &&& 31).toUInt32).toInt32) &&& (127 : Int32)).toInt8.toInt32)), (nar .byte ((((p1.toUInt32 >>> ((16 : Int32) &&& 31).toUInt32).toInt32) &&& (127 : Int32)).toInt8.toInt32))] := c3.ext E9
  have c13 : own_Ari Z h9 bx2_rb .byte [(nar .byte ((p2 &&& (127 : Int32)).toInt8.toInt32)), (nar .byte ((((p2.toUInt32 >>> ((8 : Int32) &&& 31).toUInt32).toInt32) &&& (127 : Int32)).toInt8.toInt32)), (nar .byte ((((p2.toUInt32 >>> ((16 : Int32) &&& 31).toUInt32).toInt32) &&& (127 : Int32)).toInt8.toInt32))] := w2_0.ext E9
  have K9 : Keep h0 h9 [] := K2.ext E9
  rw [← g9] at A9 D9 st9
  have c14 : Fld Z h9 b9 "com/example/prudentia/prudentia/csv/AsciiText" "bytes" "[B" .null := D9 (Or.inl (hw _ (List.mem_of_getElem? (i := 21) rfl))) (ty := (.array .byte)) (by decide)
  have c15 : Fld Z h9 b9 "com/example/prudentia/prudentia/csv/AsciiText" "start" "I" (.int (0 : Int32)) := D9 (Or.inl (hw _ (List.mem_of_getElem? (i := 23) rfl))) (ty := .int) (by decide)
  have c16 : Fld Z h9 b9 "com/example/prudentia/prudentia/csv/AsciiText" "length" "I" (.int (0 : Int32)) := D9 (Or.inl (hw _ (List.mem_of_getElem? (i := 25) rfl))) (ty := .int) (by decide)
  refine own_step st9 ?_
  show own_G p.tables e below _ (T9.setTop (mkF m 59 #[.val (.int p1), .val (.int p2), .val (.int p3), .val (.int p4), .val (.ref bx1_rb), .val (.ref bx2_rb), .val (.int f1), .val (.int t1), .val (.int f2), .val (.int t2), .unset] [(.ref b9)]))
  refine own_step (fun t k => XS.dup X9.here hx rfl (hb hby at_59) rfl rfl k) ?_
  show own_G p.tables e below _ (T9.setTop (mkF m 60 #[.val (.int p1), .val (.int p2), .val (.int p3), .val (.int p4), .val (.ref bx1_rb), .val (.ref bx2_rb), .val (.int f1), .val (.int t1), .val (.int f2), .val (.int t2), .unset] [(.ref b9), (.ref b9)]))
  obtain ⟨_, _, ⟨T17, L17, k17, n17⟩, -, X17, ⟨Lc17, hQ17, l17, y17, z17⟩, st17⟩ := X9.specialBack hx (y := (⟨"com/example/prudentia/prudentia/csv/AsciiText", "<init>", "()V"⟩ : MethodName)) rfl hown (mvT hZ (hw _ (List.mem_of_getElem? (i := 9) rfl))) (mvT hZ (hw _ (List.mem_of_getElem? (i := 10) rfl))) (mvT hZ (hw _ (List.mem_of_getElem? (i := 11) rfl))) (by decide) (backOf (W := 1) (rm2 l Z a0 hw [] b9 h9 n0 (Nat.le_trans Z0 K9.1) ) hZ (hw _ (List.mem_of_getElem? (i := 11) rfl)) (hw _ (List.mem_of_getElem? (i := 8) rfl)) (by decide) (by decide)) (g := (mkF m 60 #[.val (.int p1), .val (.int p2), .val (.int p3), .val (.int p4), .val (.ref bx1_rb), .val (.ref bx2_rb), .val (.int f1), .val (.int t1), .val (.int f2), .val (.int t2), .unset] [(.ref b9), (.ref b9)])) rfl (by rw [hml]; rfl) (Steps.refl _) (a := b9) (argsL := []) (rest := [(.ref b9)]) (lenOf pd_0_1 rfl) rfl (by show 2 * 0 + _ ≤ _; exact Nat.le_of_eq rfl) (hb hby at_60) (fun _ _ => ⟨rfl, e9, (by decide : 3 + 0 ≤ _), (by decide : 9 + 0 ≤ _)⟩)
  dsimp only [Pt.U, Pt.locs, Pt.cells, Pt.slots] at X17 l17 y17 z17 st17 hQ17
  subst l17 y17 z17
  obtain ⟨rfl, N17q, e17⟩ := hQ17
  have N17 := Fr.app N2 N17q
  refine own_step (fun t k => st17.trans k) ?_
  show own_G p.tables e below _ (T17.setTop (mkF m 63 #[.val (.int p1), .val (.int p2), .val (.int p3), .val (.int p4), .val (.ref bx1_rb), .val (.ref bx2_rb), .val (.int f1), .val (.int t1), .val (.int f2), .val (.int t2), .unset] [(.ref b9)]))
  refine own_step (fun t k => XS.astore X17.here hx rfl (hb hby at_63) rfl rfl (l' := #[.val (.int p1), .val (.int p2), .val (.int p3), .val (.int p4), .val (.ref bx1_rb), .val (.ref bx2_rb), .val (.int f1), .val (.int t1), .val (.int f2), .val (.int t2), .val (.ref b9)]) rfl k) ?_
  show own_G p.tables e below _ (T17.setTop (mkF m 65 #[.val (.int p1), .val (.int p2), .val (.int p3), .val (.int p4), .val (.ref bx1_rb), .val (.ref bx2_rb), .val (.int f1), .val (.int t1), .val (.int f2), .val (.int t2), .val (.ref b9)] []))
  refine own_step (fun t k => XS.aload X17.here hx rfl (hb hby at_65) rfl rfl k) ?_
  show own_G p.tables e below _ (T17.setTop (mkF m 67 #[.val (.int p1), .val (.int p2), .val (.int p3), .val (.int p4), .val (.ref bx1_rb), .val (.ref bx2_rb), .val (.int f1), .val (.int t1), .val (.int f2), .val (.int t2), .val (.ref b9)] [(.ref b9)]))
  refine own_step (fun t k => XS.aload X17.here hx rfl (hb hby at_67) rfl rfl k) ?_
  show own_G p.tables e below _ (T17.setTop (mkF m 69 #[.val (.int p1), .val (.int p2), .val (.int p3), .val (.int p4), .val (.ref bx1_rb), .val (.ref bx2_rb), .val (.int f1), .val (.int t1), .val (.int f2), .val (.int t2), .val (.ref b9)] [(.ref bx1_rb), (.ref b9)]))
  refine own_step (fun t k => XS.iload X17.here hx rfl (hb hby at_69) rfl k) ?_
  show own_G p.tables e below _ (T17.setTop (mkF m 71 #[.val (.int p1), .val (.int p2), .val (.int p3), .val (.int p4), .val (.ref bx1_rb), .val (.ref bx2_rb), .val (.int f1), .val (.int t1), .val (.int f2), .val (.int t2), .val (.ref b9)] [(.int f1), (.ref bx1_rb), (.ref b9)]))
  refine own_step (fun t k => XS.iload X17.here hx rfl (hb hby at_71) rfl k) ?_
  show own_G p.tables e below _ (T17.setTop (mkF m 73 #[.val (.int p1), .val (.int p2), .val (.int p3), .val (.int p4), .val (.ref bx1_rb), .val (.ref bx2_rb), .val (.int f1), .val (.int t1), .val (.int f2), .val (.int t2), .val (.ref b9)] [(.int t1), (.int f1), (.ref bx1_rb), (.ref b9)]))
  obtain ⟨cq18, kq18, q18a, q18b, q18c⟩ := isOf hZ e17 A9
  obtain ⟨_, _, ⟨T18, L18, k18, n18⟩, -, X18, ⟨Lc18, hQ18, l18, y18, z18⟩, st18⟩ := X17.virtualBack hx (y := (⟨"com/example/prudentia/prudentia/csv/AsciiText", "of", "([BII)Lcom/example/prudentia/prudentia/csv/AsciiText;"⟩ : MethodName)) (z := (⟨"com/example/prudentia/prudentia/csv/AsciiText", "of", "([BII)Lcom/example/prudentia/prudentia/csv/AsciiText;"⟩ : MethodName)) hown (mvT hZ (hw _ (List.mem_of_getElem? (i := 15) rfl))) (mvT hZ (hw _ (List.mem_of_getElem? (i := 16) rfl))) (notFace_of_selects (args := #[]) (mvT hZ (hw _ (List.mem_of_getElem? (i := 18) rfl)))) (mvT hZ (hw _ (List.mem_of_getElem? (i := 18) rfl))) (mvT hZ (hw _ (List.mem_of_getElem? (i := 17) rfl))) (by decide) (backOf (W := 0) (rm4 l Z a0 hw [] b9 bx1_rb f1 t1 .null (.int (0 : Int32)) (.int (0 : Int32)) h9 n0 (Nat.le_trans Z0 K9.1) A9 c14 c15 c16 ge9) hZ (hw _ (List.mem_of_getElem? (i := 19) rfl)) (hw _ (List.mem_of_getElem? (i := 8) rfl)) (by decide) (by decide)) q18a q18c (g := (mkF m 73 #[.val (.int p1), .val (.int p2), .val (.int p3), .val (.int p4), .val (.ref bx1_rb), .val (.ref bx2_rb), .val (.int f1), .val (.int t1), .val (.int f2), .val (.int t2), .val (.ref b9)] [(.int t1), (.int f1), (.ref bx1_rb), (.ref b9)])) rfl (by rw [hml]; rfl) (Steps.refl _) (argsL := [(.ref bx1_rb), (.int f1), (.int t1)]) (rest := []) (lenOf pd_0_2 rfl) rfl (by show 2 * 0 + _ ≤ _; exact Nat.le_of_eq rfl) (hb hby at_73) (fun _ _ => ⟨rfl, e17, (by decide : 3 + 0 ≤ _), (by decide : 9 + 0 ≤ _)⟩)
  dsimp only [Pt.U, Pt.locs, Pt.cells, Pt.slots] at X18 l18 y18 z18 st18 hQ18
  subst l18 y18 z18
  obtain ⟨rfl, N18q, K18q, w18_0, w18_1, w18_2⟩ := hQ18
  have c19 : own_Ari Z T18.heap bx1_rb .byte [(nar .byte ((p1 &&& (127 : Int32)).toInt8.toInt32)), (nar .byte ((((p1.toUInt32 >>> ((8 : Int32) &&& 31).toUInt32).toInt32) &&& (127 : Int32)).toInt8.toInt32)), (nar .byte ((((p1.toUInt32 >>> ((16 : Int32) &&& 31).toUInt32).toInt32) &&& (127 : Int32)).toInt8.toInt32))] := c12.keep K18q (ninS ne10 nin0)
  have c20 : own_Ari Z T18.heap bx2_rb .byte [(nar .byte ((p2 &&& (127 : Int32)).toInt8.toInt32)), (nar .byte ((((p2.toUInt32 >>> ((8 : Int32) &&& 31).toUInt32).toInt32) &&& (127 : Int32)).toInt8.toInt32)), (nar .byte ((((p2.toUInt32 >>> ((16 : Int32) &&& 31).toUInt32).toInt32) &&& (127 : Int32)).toInt8.toInt32))] := c13.keep K18q (ninS ne11 nin0)
  have c21 : Exa Z T18.heap b9 "com/example/prudentia/prudentia/csv/AsciiText" := A9.keep K18q
  have K18 : Keep h0 T18.heap [] := K9.trans K18q (allS (Or.inr sz9) all0)
  have N18 := Fr.app N17 N18q
  refine own_step (fun t k => st18.trans k) ?_
  show own_G p.tables e below _ (T18.setTop (mkF m 76 #[.val (.int p1), .val (.int p2), .val (.int p3), .val (.int p4), .val (.ref bx1_rb), .val (.ref bx2_rb), .val (.int f1), .val (.int t1), .val (.int f2), .val (.int t2), .val (.ref b9)] [(.ref b9)]))
  refine own_step (fun t k => XS.aload X18.here hx rfl (hb hby at_76) rfl rfl k) ?_
  show own_G p.tables e below _ (T18.setTop (mkF m 78 #[.val (.int p1), .val (.int p2), .val (.int p3), .val (.int p4), .val (.ref bx1_rb), .val (.ref bx2_rb), .val (.int f1), .val (.int t1), .val (.int f2), .val (.int t2), .val (.ref b9)] [(.ref b9), (.ref b9)]))
  refine own_step (fun t k => Jvm.RoadKit.acmp (g := (mkF m 78 #[.val (.int p1), .val (.int p2), .val (.int p3), .val (.int p4), .val (.ref bx1_rb), .val (.ref bx2_rb), .val (.int f1), .val (.int t1), .val (.int f2), .val (.int t2), .val (.ref b9)] [(.ref b9), (.ref b9)])) X18 hx rfl rfl rfl (pc0 := 78) (pc' := 83) (same := true) rfl (hb hby at_78) rfl (decide_eq_true rfl) (by decide) (by decide) k) ?_
  show own_G p.tables e below _ (T18.setTop (mkF m 83 #[.val (.int p1), .val (.int p2), .val (.int p3), .val (.int p4), .val (.ref bx1_rb), .val (.ref bx2_rb), .val (.int f1), .val (.int t1), .val (.int f2), .val (.int t2), .val (.ref b9)] []))
  refine own_step (fun t k => XS.aload X18.here hx rfl (hb hby at_83) rfl rfl k) ?_
  show own_G p.tables e below _ (T18.setTop (mkF m 85 #[.val (.int p1), .val (.int p2), .val (.int p3), .val (.int p4), .val (.ref bx1_rb), .val (.ref bx2_rb), .val (.int f1), .val (.int t1), .val (.int f2), .val (.int t2), .val (.ref b9)] [(.ref b9)]))
  refine own_step (fun t k => XS.aload X18.here hx rfl (hb hby at_85) rfl rfl k) ?_
  show own_G p.tables e below _ (T18.setTop (mkF m 87 #[.val (.int p1), .val (.int p2), .val (.int p3), .val (.int p4), .val (.ref bx1_rb), .val (.ref bx2_rb), .val (.int f1), .val (.int t1), .val (.int f2), .val (.int t2), .val (.ref b9)] [(.ref bx1_rb), (.ref b9)]))
  refine own_step (fun t k => XS.iload X18.here hx rfl (hb hby at_87) rfl k) ?_
  show own_G p.tables e below _ (T18.setTop (mkF m 89 #[.val (.int p1), .val (.int p2), .val (.int p3), .val (.int p4), .val (.ref bx1_rb), .val (.ref bx2_rb), .val (.int f1), .val (.int t1), .val (.int f2), .val (.int t2), .val (.ref b9)] [(.int f1), (.ref bx1_rb), (.ref b9)]))
  refine own_step (fun t k => XS.iload X18.here hx rfl (hb hby at_89) rfl k) ?_
  show own_G p.tables e below _ (T18.setTop (mkF m 91 #[.val (.int p1), .val (.int p2), .val (.int p3), .val (.int p4), .val (.ref bx1_rb), .val (.ref bx2_rb), .val (.int f1), .val (.int t1), .val (.int f2), .val (.int t2), .val (.ref b9)] [(.int t1), (.int f1), (.ref bx1_rb), (.ref b9)]))
  obtain ⟨_, _, ⟨T25, L25, k25, n25⟩, -, X25, ⟨Lc25, hQ25, l25, y25, z25⟩, st25⟩ := Jvm.LawKit.callS X18 hx (y := (⟨"com/example/prudentia/prudentia/csv/AsciiTextOfPinLaw", "sees", "(Lcom/example/prudentia/prudentia/csv/AsciiText;[BII)Z"⟩ : MethodName)) hown (mvT hZ (hw _ (List.mem_of_getElem? (i := 26) rfl))) (mvT hZ (hw _ (List.mem_of_getElem? (i := 27) rfl))) (mvT hZ (hw _ (List.mem_of_getElem? (i := 2) rfl))) (mvT hZ (hw _ (List.mem_of_getElem? (i := 28) rfl))) (by decide) (backOf (W := 0) (rm5 l Z a0 hw [] b9 bx1_rb f1 t1 [(nar .byte ((p1 &&& (127 : Int32)).toInt8.toInt32)), (nar .byte ((((p1.toUInt32 >>> ((8 : Int32) &&& 31).toUInt32).toInt32) &&& (127 : Int32)).toInt8.toInt32)), (nar .byte ((((p1.toUInt32 >>> ((16 : Int32) &&& 31).toUInt32).toInt32) &&& (127 : Int32)).toInt8.toInt32))] T18.heap n0 (Nat.le_trans Z0 K18.1) c21 w18_0 w18_1 w18_2 c19 (own_hr _ _ _ _ rfl hd_f1 hd_t1 : 0 ≤ f1.toInt ∧ f1.toInt ≤ t1.toInt ∧ t1.toInt ≤ ([(nar .byte ((p1 &&& (127 : Int32)).toInt8.toInt32)), (nar .byte ((((p1.toUInt32 >>> ((8 : Int32) &&& 31).toUInt32).toInt32) &&& (127 : Int32)).toInt8.toInt32)), (nar .byte ((((p1.toUInt32 >>> ((16 : Int32) &&& 31).toUInt32).toInt32) &&& (127 : Int32)).toInt8.toInt32))].length : Int) ∧ [(nar .byte ((p1 &&& (127 : Int32)).toInt8.toInt32)), (nar .byte ((((p1.toUInt32 >>> ((8 : Int32) &&& 31).toUInt32).toInt32) &&& (127 : Int32)).toInt8.toInt32)), (nar .byte ((((p1.toUInt32 >>> ((16 : Int32) &&& 31).toUInt32).toInt32) &&& (127 : Int32)).toInt8.toInt32))].length ≤ 3) (own_buf3 (own_byte _) (own_byte _) (own_byte _) : ∀ i, 0 ≤ ([(nar .byte ((p1 &&& (127 : Int32)).toInt8.toInt32)), (nar .byte ((((p1.toUInt32 >>> ((8 : Int32) &&& 31).toUInt32).toInt32) &&& (127 : Int32)).toInt8.toInt32)), (nar .byte ((((p1.toUInt32 >>> ((16 : Int32) &&& 31).toUInt32).toInt32) &&& (127 : Int32)).toInt8.toInt32))].getD i 0).toInt ∧ ([(nar .byte ((p1 &&& (127 : Int32)).toInt8.toInt32)), (nar .byte ((((p1.toUInt32 >>> ((8 : Int32) &&& 31).toUInt32).toInt32) &&& (127 : Int32)).toInt8.toInt32)), (nar .byte ((((p1.toUInt32 >>> ((16 : Int32) &&& 31).toUInt32).toInt32) &&& (127 : Int32)).toInt8.toInt32))].getD i 0).toInt ≤ 127)) hZ (hw _ (List.mem_of_getElem? (i := 28) rfl)) (hw _ (List.mem_of_getElem? (i := 2) rfl)) (by decide) (by decide)) (g := (mkF m 91 #[.val (.int p1), .val (.int p2), .val (.int p3), .val (.int p4), .val (.ref bx1_rb), .val (.ref bx2_rb), .val (.int f1), .val (.int t1), .val (.int f2), .val (.int t2), .val (.ref b9)] [(.int t1), (.int f1), (.ref bx1_rb), (.ref b9)])) rfl (by rw [hml]; rfl) (argsL := [(.ref b9), (.ref bx1_rb), (.int f1), (.int t1)]) (rest := []) (lenOf pd_0_3 rfl) rfl (by show 2 * 0 + _ ≤ _; exact Nat.le_of_eq rfl) (hb hby at_91) (fun _ _ => ⟨rfl, rfl, (by decide : 3 + 0 ≤ _), (by decide : 9 + 0 ≤ _)⟩)
  dsimp only [Pt.U, Pt.locs, Pt.cells, Pt.slots] at X25 l25 y25 z25 st25 hQ25
  subst l25 y25 z25
  obtain ⟨rfl, N25q, e25⟩ := hQ25
  have N25 := Fr.app N18 N25q
  refine own_step st25 ?_
  show own_G p.tables e below _ (T25.setTop (mkF m 94 #[.val (.int p1), .val (.int p2), .val (.int p3), .val (.int p4), .val (.ref bx1_rb), .val (.ref bx2_rb), .val (.int f1), .val (.int t1), .val (.int f2), .val (.int t2), .val (.ref b9)] [(.int (1 : Int32))]))
  have hk26 : ¬ ((1 : Int32) = (0 : Int32)) := (by decide)
  refine own_step (fun t k => XS.ifYes X25.here hx rfl (pc0 := 94) (pc' := 99) rfl (hb hby at_94) rfl ((if0 _ _).trans (feq hk26).2) (by decide) (by decide) k) ?_
  show own_G p.tables e below _ (T25.setTop (mkF m 99 #[.val (.int p1), .val (.int p2), .val (.int p3), .val (.int p4), .val (.ref bx1_rb), .val (.ref bx2_rb), .val (.int f1), .val (.int t1), .val (.int f2), .val (.int t2), .val (.ref b9)] []))
  refine own_step (fun t k => XS.aload X25.here hx rfl (hb hby at_99) rfl rfl k) ?_
  show own_G p.tables e below _ (T25.setTop (mkF m 101 #[.val (.int p1), .val (.int p2), .val (.int p3), .val (.int p4), .val (.ref bx1_rb), .val (.ref bx2_rb), .val (.int f1), .val (.int t1), .val (.int f2), .val (.int t2), .val (.ref b9)] [(.ref b9)]))
  refine own_step (fun t k => XS.aload X25.here hx rfl (hb hby at_101) rfl rfl k) ?_
  show own_G p.tables e below _ (T25.setTop (mkF m 103 #[.val (.int p1), .val (.int p2), .val (.int p3), .val (.int p4), .val (.ref bx1_rb), .val (.ref bx2_rb), .val (.int f1), .val (.int t1), .val (.int f2), .val (.int t2), .val (.ref b9)] [(.ref bx2_rb), (.ref b9)]))
  refine own_step (fun t k => XS.iload X25.here hx rfl (hb hby at_103) rfl k) ?_
  show own_G p.tables e below _ (T25.setTop (mkF m 105 #[.val (.int p1), .val (.int p2), .val (.int p3), .val (.int p4), .val (.ref bx1_rb), .val (.ref bx2_rb), .val (.int f1), .val (.int t1), .val (.int f2), .val (.int t2), .val (.ref b9)] [(.int f2), (.ref bx2_rb), (.ref b9)]))
  refine own_step (fun t k => XS.iload X25.here hx rfl (hb hby at_105) rfl k) ?_
  show own_G p.tables e below _ (T25.setTop (mkF m 107 #[.val (.int p1), .val (.int p2), .val (.int p3), .val (.int p4), .val (.ref bx1_rb), .val (.ref bx2_rb), .val (.int f1), .val (.int t1), .val (.int f2), .val (.int t2), .val (.ref b9)] [(.int t2), (.int f2), (.ref bx2_rb), (.ref b9)]))
  obtain ⟨cq27, kq27, q27a, q27b, q27c⟩ := isOf hZ e25 c21
  obtain ⟨_, _, ⟨T27, L27, k27, n27⟩, -, X27, ⟨Lc27, hQ27, l27, y27, z27⟩, st27⟩ := X25.virtualBack hx (y := (⟨"com/example/prudentia/prudentia/csv/AsciiText", "of", "([BII)Lcom/example/prudentia/prudentia/csv/AsciiText;"⟩ : MethodName)) (z := (⟨"com/example/prudentia/prudentia/csv/AsciiText", "of", "([BII)Lcom/example/prudentia/prudentia/csv/AsciiText;"⟩ : MethodName)) hown (mvT hZ (hw _ (List.mem_of_getElem? (i := 15) rfl))) (mvT hZ (hw _ (List.mem_of_getElem? (i := 16) rfl))) (notFace_of_selects (args := #[]) (mvT hZ (hw _ (List.mem_of_getElem? (i := 18) rfl)))) (mvT hZ (hw _ (List.mem_of_getElem? (i := 18) rfl))) (mvT hZ (hw _ (List.mem_of_getElem? (i := 17) rfl))) (by decide) (backOf (W := 0) (rm4 l Z a0 hw [] b9 bx2_rb f2 t2 (.ref bx1_rb) (.int f1) (.int (t1 - f1)) T18.heap n0 (Nat.le_trans Z0 K18.1) c21 w18_0 w18_1 w18_2 ge9) hZ (hw _ (List.mem_of_getElem? (i := 19) rfl)) (hw _ (List.mem_of_getElem? (i := 8) rfl)) (by decide) (by decide)) q27a q27c (g := (mkF m 107 #[.val (.int p1), .val (.int p2), .val (.int p3), .val (.int p4), .val (.ref bx1_rb), .val (.ref bx2_rb), .val (.int f1), .val (.int t1), .val (.int f2), .val (.int t2), .val (.ref b9)] [(.int t2), (.int f2), (.ref bx2_rb), (.ref b9)])) rfl (by rw [hml]; rfl) (Steps.refl _) (argsL := [(.ref bx2_rb), (.int f2), (.int t2)]) (rest := []) (lenOf pd_0_2 rfl) rfl (by show 2 * 0 + _ ≤ _; exact Nat.le_of_eq rfl) (hb hby at_107) (fun _ _ => ⟨rfl, e25, (by decide : 3 + 0 ≤ _), (by decide : 9 + 0 ≤ _)⟩)
  dsimp only [Pt.U, Pt.locs, Pt.cells, Pt.slots] at X27 l27 y27 z27 st27 hQ27
  subst l27 y27 z27
  obtain ⟨rfl, N27q, K27q, w27_0, w27_1, w27_2⟩ := hQ27
  have c28 : own_Ari Z T27.heap bx1_rb .byte [(nar .byte ((p1 &&& (127 : Int32)).toInt8.toInt32)), (nar .byte ((((p1.toUInt32 >>> ((8 : Int32) &&& 31).toUInt32).toInt32) &&& (127 : Int32)).toInt8.toInt32)), (nar .byte ((((p1.toUInt32 >>> ((16 : Int32) &&& 31).toUInt32).toInt32) &&& (127 : Int32)).toInt8.toInt32))] := c19.keep K27q (ninS ne10 nin0)
  have c29 : own_Ari Z T27.heap bx2_rb .byte [(nar .byte ((p2 &&& (127 : Int32)).toInt8.toInt32)), (nar .byte ((((p2.toUInt32 >>> ((8 : Int32) &&& 31).toUInt32).toInt32) &&& (127 : Int32)).toInt8.toInt32)), (nar .byte ((((p2.toUInt32 >>> ((16 : Int32) &&& 31).toUInt32).toInt32) &&& (127 : Int32)).toInt8.toInt32))] := c20.keep K27q (ninS ne11 nin0)
  have c30 : Exa Z T27.heap b9 "com/example/prudentia/prudentia/csv/AsciiText" := c21.keep K27q
  have K27 : Keep h0 T27.heap [] := K18.trans K27q (allS (Or.inr sz9) all0)
  have N27 := Fr.app N25 N27q
  refine own_step (fun t k => st27.trans k) ?_
  show own_G p.tables e below _ (T27.setTop (mkF m 110 #[.val (.int p1), .val (.int p2), .val (.int p3), .val (.int p4), .val (.ref bx1_rb), .val (.ref bx2_rb), .val (.int f1), .val (.int t1), .val (.int f2), .val (.int t2), .val (.ref b9)] [(.ref b9)]))
  refine own_step (fun t k => XS.aload X27.here hx rfl (hb hby at_110) rfl rfl k) ?_
  show own_G p.tables e below _ (T27.setTop (mkF m 112 #[.val (.int p1), .val (.int p2), .val (.int p3), .val (.int p4), .val (.ref bx1_rb), .val (.ref bx2_rb), .val (.int f1), .val (.int t1), .val (.int f2), .val (.int t2), .val (.ref b9)] [(.ref b9), (.ref b9)]))
  refine own_step (fun t k => Jvm.RoadKit.acmp (g := (mkF m 112 #[.val (.int p1), .val (.int p2), .val (.int p3), .val (.int p4), .val (.ref bx1_rb), .val (.ref bx2_rb), .val (.int f1), .val (.int t1), .val (.int f2), .val (.int t2), .val (.ref b9)] [(.ref b9), (.ref b9)])) X27 hx rfl rfl rfl (pc0 := 112) (pc' := 117) (same := true) rfl (hb hby at_112) rfl (decide_eq_true rfl) (by decide) (by decide) k) ?_
  show own_G p.tables e below _ (T27.setTop (mkF m 117 #[.val (.int p1), .val (.int p2), .val (.int p3), .val (.int p4), .val (.ref bx1_rb), .val (.ref bx2_rb), .val (.int f1), .val (.int t1), .val (.int f2), .val (.int t2), .val (.ref b9)] []))
  refine own_step (fun t k => XS.aload X27.here hx rfl (hb hby at_117) rfl rfl k) ?_
  show own_G p.tables e below _ (T27.setTop (mkF m 119 #[.val (.int p1), .val (.int p2), .val (.int p3), .val (.int p4), .val (.ref bx1_rb), .val (.ref bx2_rb), .val (.int f1), .val (.int t1), .val (.int f2), .val (.int t2), .val (.ref b9)] [(.ref b9)]))
  refine own_step (fun t k => XS.aload X27.here hx rfl (hb hby at_119) rfl rfl k) ?_
  show own_G p.tables e below _ (T27.setTop (mkF m 121 #[.val (.int p1), .val (.int p2), .val (.int p3), .val (.int p4), .val (.ref bx1_rb), .val (.ref bx2_rb), .val (.int f1), .val (.int t1), .val (.int f2), .val (.int t2), .val (.ref b9)] [(.ref bx2_rb), (.ref b9)]))
  refine own_step (fun t k => XS.iload X27.here hx rfl (hb hby at_121) rfl k) ?_
  show own_G p.tables e below _ (T27.setTop (mkF m 123 #[.val (.int p1), .val (.int p2), .val (.int p3), .val (.int p4), .val (.ref bx1_rb), .val (.ref bx2_rb), .val (.int f1), .val (.int t1), .val (.int f2), .val (.int t2), .val (.ref b9)] [(.int f2), (.ref bx2_rb), (.ref b9)]))
  refine own_step (fun t k => XS.iload X27.here hx rfl (hb hby at_123) rfl k) ?_
  show own_G p.tables e below _ (T27.setTop (mkF m 125 #[.val (.int p1), .val (.int p2), .val (.int p3), .val (.int p4), .val (.ref bx1_rb), .val (.ref bx2_rb), .val (.int f1), .val (.int t1), .val (.int f2), .val (.int t2), .val (.ref b9)] [(.int t2), (.int f2), (.ref bx2_rb), (.ref b9)]))
  obtain ⟨_, _, ⟨T34, L34, k34, n34⟩, -, X34, ⟨Lc34, hQ34, l34, y34, z34⟩, st34⟩ := Jvm.LawKit.callS X27 hx (y := (⟨"com/example/prudentia/prudentia/csv/AsciiTextOfPinLaw", "sees", "(Lcom/example/prudentia/prudentia/csv/AsciiText;[BII)Z"⟩ : MethodName)) hown (mvT hZ (hw _ (List.mem_of_getElem? (i := 26) rfl))) (mvT hZ (hw _ (List.mem_of_getElem? (i := 27) rfl))) (mvT hZ (hw _ (List.mem_of_getElem? (i := 2) rfl))) (mvT hZ (hw _ (List.mem_of_getElem? (i := 28) rfl))) (by decide) (backOf (W := 0) (rm5 l Z a0 hw [] b9 bx2_rb f2 t2 [(nar .byte ((p2 &&& (127 : Int32)).toInt8.toInt32)), (nar .byte ((((p2.toUInt32 >>> ((8 : Int32) &&& 31).toUInt32).toInt32) &&& (127 : Int32)).toInt8.toInt32)), (nar .byte ((((p2.toUInt32 >>> ((16 : Int32) &&& 31).toUInt32).toInt32) &&& (127 : Int32)).toInt8.toInt32))] T27.heap n0 (Nat.le_trans Z0 K27.1) c30 w27_0 w27_1 w27_2 c29 (own_hr _ _ _ _ rfl hd_f2 hd_t2 : 0 ≤ f2.toInt ∧ f2.toInt ≤ t2.toInt ∧ t2.toInt ≤ ([(nar .byte ((p2 &&& (127 : Int32)).toInt8.toInt32)), (nar .byte ((((p2.toUInt32 >>> ((8 : Int32) &&& 31).toUInt32).toInt32) &&& (127 : Int32)).toInt8.toInt32)), (nar .byte ((((p2.toUInt32 >>> ((16 : Int32) &&& 31).toUInt32).toInt32) &&& (127 : Int32)).toInt8.toInt32))].length : Int) ∧ [(nar .byte ((p2 &&& (127 : Int32)).toInt8.toInt32)), (nar .byte ((((p2.toUInt32 >>> ((8 : Int32) &&& 31).toUInt32).toInt32) &&& (127 : Int32)).toInt8.toInt32)), (nar .byte ((((p2.toUInt32 >>> ((16 : Int32) &&& 31).toUInt32).toInt32) &&& (127 : Int32)).toInt8.toInt32))].length ≤ 3) (own_buf3 (own_byte _) (own_byte _) (own_byte _) : ∀ i, 0 ≤ ([(nar .byte ((p2 &&& (127 : Int32)).toInt8.toInt32)), (nar .byte ((((p2.toUInt32 >>> ((8 : Int32) &&& 31).toUInt32).toInt32) &&& (127 : Int32)).toInt8.toInt32)), (nar .byte ((((p2.toUInt32 >>> ((16 : Int32) &&& 31).toUInt32).toInt32) &&& (127 : Int32)).toInt8.toInt32))].getD i 0).toInt ∧ ([(nar .byte ((p2 &&& (127 : Int32)).toInt8.toInt32)), (nar .byte ((((p2.toUInt32 >>> ((8 : Int32) &&& 31).toUInt32).toInt32) &&& (127 : Int32)).toInt8.toInt32)), (nar .byte ((((p2.toUInt32 >>> ((16 : Int32) &&& 31).toUInt32).toInt32) &&& (127 : Int32)).toInt8.toInt32))].getD i 0).toInt ≤ 127)) hZ (hw _ (List.mem_of_getElem? (i := 28) rfl)) (hw _ (List.mem_of_getElem? (i := 2) rfl)) (by decide) (by decide)) (g := (mkF m 125 #[.val (.int p1), .val (.int p2), .val (.int p3), .val (.int p4), .val (.ref bx1_rb), .val (.ref bx2_rb), .val (.int f1), .val (.int t1), .val (.int f2), .val (.int t2), .val (.ref b9)] [(.int t2), (.int f2), (.ref bx2_rb), (.ref b9)])) rfl (by rw [hml]; rfl) (argsL := [(.ref b9), (.ref bx2_rb), (.int f2), (.int t2)]) (rest := []) (lenOf pd_0_3 rfl) rfl (by show 2 * 0 + _ ≤ _; exact Nat.le_of_eq rfl) (hb hby at_125) (fun _ _ => ⟨rfl, rfl, (by decide : 3 + 0 ≤ _), (by decide : 9 + 0 ≤ _)⟩)
  dsimp only [Pt.U, Pt.locs, Pt.cells, Pt.slots] at X34 l34 y34 z34 st34 hQ34
  subst l34 y34 z34
  obtain ⟨rfl, N34q, e34⟩ := hQ34
  have N34 := Fr.app N27 N34q
  refine own_step st34 ?_
  show own_G p.tables e below _ (T34.setTop (mkF m 128 #[.val (.int p1), .val (.int p2), .val (.int p3), .val (.int p4), .val (.ref bx1_rb), .val (.ref bx2_rb), .val (.int f1), .val (.int t1), .val (.int f2), .val (.int t2), .val (.ref b9)] [(.int (1 : Int32))]))
  obtain ⟨fs, hr, hrun, hended, hW, hsame⟩ := X34.leave (v := some (.int (1 : Int32))) (fun h => by rw [Bd.returns] at h; cases h)
  refine own_done (retN X34 hx (t := .boolean) Bd.returns (by simp) (hb hby at_128) hr) hrun hended ⟨_, _, rfl, ?_, ⟨_, rfl⟩, hW, hsame.mono (by decide) (by decide)⟩
  show Q0 Z p1 p2 p3 p4 h0 n0 _ T34.heap _
  rw [e34]
  exact ⟨rfl, N34⟩
set_option maxRecDepth 65536 in
set_option maxHeartbeats 40000000 in
theorem comes_1 {Post : Tables → Env → Array Value → State → Outcome → State → Prop} (hpost : ∀ tb e args s v u, (limb_1_1.after args s (.returned v) u = true ∧ limb_1_2.after args s (.returned v) u = true ∧ True) → FrameEnd s (.returned v) u (Jvm.fieldLocs frame_1_writes args s ++ Jvm.arrayLocs frame_1_arrays args s ++ Jvm.staticLocs frame_1_statics s) 16 128 → Post tb e args s (.returned v) u) :
    ArmFor flags0 classFile x code maxLocals ret World_1 tables_1 room_1 Calls_1 rest_1 Pre_1 Post := by
  intro l hfl _ _ p e ha hc hk s m args below hf hA hF happ hP
  obtain ⟨hcalls, hrest, hpre⟩ := hP
  obtain ⟨-, -, -, hnamed, -, -, -, hat⟩ := (Spec.applies_iff hf).mp happ
  obtain ⟨hg, hn⟩ := and_e (Cond.before_iff.mp (show (Jvm.Cond.and given_1 narrow_1).before args s = true from hpre))
  obtain ⟨g1, g2⟩ := and_e hg
  obtain ⟨g3, g4⟩ := and_e g2
  obtain ⟨g5, g6⟩ := and_e g4
  obtain ⟨g7, g8⟩ := and_e g6
  obtain ⟨w0, w1, w2, w3, rfl⟩ : ∃ w0 w1 w2 w3 : Value, args = #[w0, w1, w2, w3] := by
    have hs : args.size = 4 := by simpa [Cond.value, given_1] using g1
    obtain ⟨L⟩ := args
    match L, hs with
    | [w0, w1, w2, w3], _ => exact ⟨w0, w1, w2, w3, rfl⟩
  have hw := fun d (hd : d ∈ tables_1) => atoms_spec (ws := Jvm.Cond.code x code maxLocals ret :: tables_1) hat d (List.mem_cons_of_mem _ hd)
  obtain ⟨i0, ei0⟩ := is_v g3
  obtain rfl : w0 = (.int i0) := Option.some.inj ei0
  obtain ⟨i1, ei1⟩ := is_v g5
  obtain rfl : w1 = (.int i1) := Option.some.inj ei1
  obtain ⟨i2, ei2⟩ := is_v g7
  obtain rfl : w2 = (.int i2) := Option.some.inj ei2
  obtain ⟨i3, ei3⟩ := is_v g8
  obtain rfl : w3 = (.int i3) := Option.some.inj ei3
  obtain ⟨n, o, h1, h2, h3, _, L, rfl, ⟨rfl, N⟩, hq⟩ := rm0 l s _ hw tables_1 i0 i1 i2 i3 s.heap s.heap.size (Nat.le_refl _)  p e ha hc hk s m _ below hf ((Spec.applies_iff_loose hf).mp happ).1 ⟨rfl, State.Warmed39.refl s, rfl⟩ trivial
  refine ⟨n, _, h1, h2, h3, hpost _ _ _ _ _ _ ⟨Cond.after_iff.mpr rfl, Cond.after_iff.mpr (eq_i res_at (Term.int_eval (1)) rfl), trivial⟩ ⟨hq.1, hq.2.1, (hq.2.2.sift fun y hy => Or.inr (N y hy)).mono (by decide) (by decide)⟩⟩
theorem main_1_1 : Claimed_1_1 := comes_1 fun _ _ _ _ _ _ h hF => ⟨h.1, hF⟩
theorem main_1_2 : Claimed_1_2 := comes_1 fun _ _ _ _ _ _ h hF => ⟨h.2.1, hF⟩
end Jvm.Pilot.@@N@@
namespace Jvm.Pilot.@@N@@
open Jvm Jvm.ClassFile Sem Op Lib Jvm.Free Jvm.Stand Jvm.Pilot.@@N@@.Jvm.D
/-! MADE BY PROGRAM (witnessworld.py) out of the Statement's table words and the real class files: 10 classes; the members and pool entries that the words name. The judged class is class 1, her method 3. -/
namespace start1
open Jvm.ClassFile
def u (s : String) : CpInfo := .utf8 (stringToUtf16 s)
/-- a pool by its gaps: so many unusable entries, then the entry; so many at the end -/
def gap : Nat → List CpInfo → List CpInfo
  | 0, r => r
  | n + 1, r => .unusable :: gap n r
def poolList (es : List (Nat × CpInfo)) (last : Nat) : List CpInfo := es.foldr (fun e r => gap e.1 (e.2 :: r)) (gap last [])
def pool (es : List (Nat × CpInfo)) (last : Nat) : Array CpInfo := ⟨poolList es last⟩
def fileOf (pool : Array CpInfo) (this : Nat) (attrs : Array Attribute := #[]) (ms : Array MethodInfo := #[]) (fl : Nat := 33) (sup : Nat := 0) (ifs : Array Nat := #[]) (fds : Array FieldInfo := #[]) : ClassFile where
  minorVersion := 0
  majorVersion := 65
  constantPool := pool
  accessFlags := fl
  thisClass := this
  superClass := sup
  interfaces := ifs
  fields := fds
  methods := ms
  attributes := attrs
def plain (name : String) (sup : Option ClassId) : Class where
  name := name
  kind := .ordinary
  loader := none
  accessFlags := 33
  super := sup
  interfaces := #[]
  cf := none
  fields := #[]
  methods := #[]
  instanceTypes := #[]
  staticTypes := #[]
  resolved := #[]
  callSites := []
  init := .initialized
  statics := none
  mirror := none

def pool0 : Array CpInfo := pool [(5, u "<init>"), (0, u "()V"), (1, .class_ 10), (1, u "java/lang/Object")] 113

def k0c0 : Code := { maxStack := 0, maxLocals := 1, code := object_method_1_code, exceptionTable := #[], attributes := #[] }
def k0m0 : Method := { name := "<init>", desc := "()V", sig := { parameters := [], returnType := none }, accessFlags := 1, code := some k0c0 }
/-- java/lang/Object -/
def k0 : Class := { plain "java/lang/Object" none with
  accessFlags := 33
  interfaces := #[]
  cf := some (fileOf pool0 8 #[] #[{ accessFlags := 1, nameIndex := 5, descriptorIndex := 6, attributes := #[] }] 33 0 #[] #[])
  fields := #[]
  methods := #[k0m0]
  instanceTypes := #[]
  staticTypes := #[]
  resolved := Array.replicate 124 none
  statics := none }

def pool1 : Array CpInfo := pool [(2, .class_ 4), (0, .nameAndType 5 6), (0, u "java/lang/Object"), (0, u "<init>"), (0, u "()V"), (0, .methodref 8 9), (0, .class_ 10), (0, .nameAndType 11 12), (0, u "com/example/prudentia/prudentia/csv/AsciiText"), (0, u "length"), (0, u "()I"), (0, .methodref 8 14), (0, .nameAndType 15 16), (0, u "charAt"), (0, u "(I)C"), (0, .methodref 18 19), (0, .class_ 20), (0, .nameAndType 21 22), (0, u "com/example/prudentia/prudentia/csv/AsciiTextOfPinLaw"), (0, u "buf"), (0, u "(I)[B"), (0, .integer 2147483647), (0, .methodref 8 3), (0, .methodref 8 26), (0, .nameAndType 27 28), (0, u "of"), (0, u "([BII)Lcom/example/prudentia/prudentia/csv/AsciiText;"), (0, .methodref 18 30), (0, .nameAndType 31 32), (0, u "sees"), (0, u "(Lcom/example/prudentia/prudentia/csv/AsciiText;[BII)Z"), (3, u "law"), (0, u "(IIII)Z")] 4

def k1m0 : Method := { name := "<init>", desc := "()V", sig := { parameters := [], returnType := none }, accessFlags := 1, code := none }
def k1c1 : Code := { maxStack := 4, maxLocals := 2, code := method_2_code, exceptionTable := #[], attributes := #[] }
def k1m1 : Method := { name := "buf", desc := "(I)[B", sig := { parameters := [.int], returnType := some (.array .byte) }, accessFlags := 10, code := some k1c1 }
def k1c2 : Code := { maxStack := 4, maxLocals := 5, code := method_3_code, exceptionTable := #[], attributes := #[] }
def k1m2 : Method := { name := "sees", desc := "(Lcom/example/prudentia/prudentia/csv/AsciiText;[BII)Z", sig := { parameters := [(.object "com/example/prudentia/prudentia/csv/AsciiText"), (.array .byte), .int, .int], returnType := some .boolean }, accessFlags := 10, code := some k1c2 }
def k1c3 : Code := { maxStack := 4, maxLocals := 11, code := code, exceptionTable := #[], attributes := #[] }
def k1m3 : Method := { name := "law", desc := "(IIII)Z", sig := { parameters := [.int, .int, .int, .int], returnType := some .boolean }, accessFlags := 9, code := some k1c3 }
/-- com/example/prudentia/prudentia/csv/AsciiTextOfPinLaw -/
def k1 : Class := { plain "com/example/prudentia/prudentia/csv/AsciiTextOfPinLaw" (some 0) with
  accessFlags := 49
  interfaces := #[]
  cf := some (fileOf pool1 18 #[] #[{ accessFlags := 1, nameIndex := 5, descriptorIndex := 6, attributes := #[] }, { accessFlags := 10, nameIndex := 21, descriptorIndex := 22, attributes := #[] }, { accessFlags := 10, nameIndex := 31, descriptorIndex := 32, attributes := #[] }, { accessFlags := 9, nameIndex := 36, descriptorIndex := 37, attributes := #[] }] 49 2 #[] #[])
  fields := #[]
  methods := #[k1m0, k1m1, k1m2, k1m3]
  instanceTypes := #[]
  staticTypes := #[]
  resolved := Array.replicate 42 none
  statics := none }

def pool2 : Array CpInfo := pool [(2, .class_ 4), (1, u "java/lang/CharSequence"), (42, .class_ 48), (0, u "java/lang/CharSequence$1CodePointIterator"), (10, .class_ 60), (0, u "java/lang/CharSequence$1CharIterator"), (5, .class_ 67), (0, u "java/lang/Object")] 63

/-- java/lang/CharSequence -/
def k2 : Class := { plain "java/lang/CharSequence" (some 0) with
  accessFlags := 1537
  interfaces := #[]
  cf := some (fileOf pool2 2 #[.nestMembers #[47, 59]] #[] 1537 66 #[] #[])
  fields := #[]
  methods := #[]
  instanceTypes := #[]
  staticTypes := #[]
  resolved := Array.replicate 131 none
  statics := none }

def pool3 : Array CpInfo := pool [(1, .methodref 2 3), (0, .class_ 4), (0, .nameAndType 5 6), (0, u "java/lang/Object"), (0, u "<init>"), (0, u "()V"), (0, .fieldref 8 9), (0, .class_ 10), (0, .nameAndType 11 12), (0, u "com/example/prudentia/prudentia/csv/AsciiText"), (0, u "bytes"), (0, u "[B"), (0, .fieldref 8 14), (0, .nameAndType 15 16), (0, u "start"), (0, u "I"), (0, .fieldref 8 18), (0, .nameAndType 19 16), (0, u "length"), (27, .class_ 48), (0, u "java/lang/CharSequence"), (2, u "of"), (0, u "([BII)Lcom/example/prudentia/prudentia/csv/AsciiText;"), (0, u "()I"), (0, u "charAt"), (0, u "(I)C")] 20

def k3c0 : Code := { maxStack := 1, maxLocals := 1, code := prog_6_method_1_code, exceptionTable := #[], attributes := #[] }
def k3m0 : Method := { name := "<init>", desc := "()V", sig := { parameters := [], returnType := none }, accessFlags := 0, code := some k3c0 }
def k3c1 : Code := { maxStack := 3, maxLocals := 4, code := prog_6_method_2_code, exceptionTable := #[], attributes := #[] }
def k3m1 : Method := { name := "of", desc := "([BII)Lcom/example/prudentia/prudentia/csv/AsciiText;", sig := { parameters := [(.array .byte), .int, .int], returnType := some (.object "com/example/prudentia/prudentia/csv/AsciiText") }, accessFlags := 0, code := some k3c1 }
def k3c2 : Code := { maxStack := 1, maxLocals := 1, code := prog_6_method_3_code, exceptionTable := #[], attributes := #[] }
def k3m2 : Method := { name := "length", desc := "()I", sig := { parameters := [], returnType := some .int }, accessFlags := 1, code := some k3c2 }
def k3c3 : Code := { maxStack := 4, maxLocals := 2, code := prog_6_method_4_code, exceptionTable := #[], attributes := #[] }
def k3m3 : Method := { name := "charAt", desc := "(I)C", sig := { parameters := [.int], returnType := some .char }, accessFlags := 1, code := some k3c3 }
/-- com/example/prudentia/prudentia/csv/AsciiText -/
def k3 : Class := { plain "com/example/prudentia/prudentia/csv/AsciiText" (some 0) with
  accessFlags := 32
  interfaces := #[2]
  cf := some (fileOf pool3 8 #[] #[{ accessFlags := 0, nameIndex := 5, descriptorIndex := 6, attributes := #[] }, { accessFlags := 0, nameIndex := 51, descriptorIndex := 52, attributes := #[] }, { accessFlags := 1, nameIndex := 19, descriptorIndex := 53, attributes := #[] }, { accessFlags := 1, nameIndex := 54, descriptorIndex := 55, attributes := #[] }] 32 2 #[47] #[{ accessFlags := 2, nameIndex := 11, descriptorIndex := 12, attributes := #[] }, { accessFlags := 2, nameIndex := 15, descriptorIndex := 16, attributes := #[] }, { accessFlags := 2, nameIndex := 19, descriptorIndex := 16, attributes := #[] }])
  fields := #[{ name := "bytes", type := (.array .byte), accessFlags := 2, slot := 0, constantValue := 0 }, { name := "start", type := .int, accessFlags := 2, slot := 1, constantValue := 0 }, { name := "length", type := .int, accessFlags := 2, slot := 2, constantValue := 0 }]
  methods := #[k3m0, k3m1, k3m2, k3m3]
  instanceTypes := #[(.array .byte), .int, .int]
  staticTypes := #[]
  resolved := Array.replicate 76 none
  statics := none }

def pool4 : Array CpInfo := pool [(1, u "java/lang/Cloneable"), (0, .class_ 1), (0, u "java/lang/Object"), (0, .class_ 3)] 3

/-- java/lang/Cloneable -/
def k4 : Class := { plain "java/lang/Cloneable" (some 0) with
  accessFlags := 1537
  interfaces := #[]
  cf := some (fileOf pool4 2 #[] #[] 1537 4 #[] #[])
  fields := #[]
  methods := #[]
  instanceTypes := #[]
  staticTypes := #[]
  resolved := Array.replicate 8 none
  statics := none }

def pool5 : Array CpInfo := pool [(1, u "java/io/Serializable"), (0, .class_ 1), (0, u "java/lang/Object"), (0, .class_ 3)] 3

/-- java/io/Serializable -/
def k5 : Class := { plain "java/io/Serializable" (some 0) with
  accessFlags := 1537
  interfaces := #[]
  cf := some (fileOf pool5 2 #[] #[] 1537 4 #[] #[])
  fields := #[]
  methods := #[]
  instanceTypes := #[]
  staticTypes := #[]
  resolved := Array.replicate 8 none
  statics := none }

/-- the primitive byte -/
def k6 : Class := { plain "byte" none with kind := .primitive 'B', accessFlags := 0x411 }
/-- [B -/
def k7 : Class := { plain "[B" (some 0) with kind := .array 6 .byte, interfaces := #[4, 5], accessFlags := 1041 }

/-- the primitive int -/
def k8 : Class := { plain "int" none with kind := .primitive 'I', accessFlags := 0x411 }
/-- [I -/
def k9 : Class := { plain "[I" (some 0) with kind := .array 8 .int, interfaces := #[4, 5], accessFlags := 1041 }

def heap : Heap := #[]
def classes : Array Class := #[k0, k1, k2, k3, k4, k5, k6, k7, k8, k9]
def interned : List (Array UInt16 × Addr) := []
def slotsUsed : Nat := 0
def theMethod : MethodId := ⟨1, 3⟩
def args0 : Array Value := #[.int 5, .int 7, .int 1, .int 2]
def aboutOver (below : List Frame) : State where
  vm := { classes := classes, interned := interned.toArray }
  heap := heap
  slotsUsed := slotsUsed
  threads := #[{ frames := .invoking theMethod args0 :: below }]
def below0 : List Frame := [.native { method := ⟨0, 0⟩, args := #[] }]
def about1 : State := aboutOver below0
def p0 : Program := .bare "" "" ""
def e0 : Env := launch0.env 0 0 0
theorem w_frames : about1.frames = Frame.invoking theMethod args0 :: below0 := rfl
set_option maxRecDepth 65536 in
theorem w_args : argsFit about1.vm theMethod args0 = true := by decide +kernel
set_option maxRecDepth 65536 in
theorem w_heap : heapFits about1 = true := by decide +kernel
set_option maxRecDepth 65536 in
theorem w_runnable : about1.curStatus? = some .runnable := by decide +kernel
set_option maxRecDepth 65536 in
theorem w_alone : about1.alone = true := by decide +kernel
set_option maxRecDepth 65536 in
theorem w_named : about1.methodNamed? x = some theMethod := by decide +kernel
set_option maxRecDepth 65536 in
theorem w_hears : about1.hears theMethod below0 = true := by decide +kernel
set_option maxRecDepth 65536 in
theorem w_ripe : about1.ripe theMethod args0 below0 = true := by decide +kernel
theorem w_running : about1.status = .running := rfl
set_option maxRecDepth 65536 in
theorem w_room : about1.hasRoom e0.platform room_1 = true :=
  launch0.hasRoom_least _ room_1 (by decide +kernel) (by decide +kernel) (by decide +kernel) (by decide +kernel) (by decide +kernel) (by decide +kernel)
theorem allAtoms_all (ts : List Jvm.Cond) (a : Array Jvm.Value) (st : Jvm.State) : (allAtoms ts).before a st = ts.all (fun c => c.before a st) := by
  induction ts with
  | nil => rfl
  | cons c t ih =>
    show (Jvm.Cond.and c (allAtoms t)).before a st = _
    rw [Jvm.Cond.before_and, ih, List.all_cons]
def words1 : List Jvm.Cond := Jvm.Cond.code x code maxLocals ret :: tables_1
/-- a 'code' word, met by the world's own term for the bytes: nothing is compared byte by byte -/
theorem code_word {y : MethodName} {bytes : ByteArray} {mx : Nat} {rt : Option FieldType} {a : Array Value} {s : State} {m : MethodId} {meth : Method} {c : Code} (h1 : s.methodNamed? y = some m) (h2 : s.vm.method? m = some meth) (h3 : meth.code = some c) (h4 : c.code = bytes)
    (h5 : (c.maxLocals == mx && c.exceptionTable.isEmpty && decide (c.maxStack ≤ mostOperands) && decide (meth.sig.returnType = rt) && !meth.locks && decide (parseMethodDescriptor y.desc = some meth.sig)) = true) : (Jvm.Cond.code y bytes mx rt).before a s = true := by
  simp only [Bool.and_eq_true, beq_iff_eq, Bool.not_eq_true', decide_eq_true_eq] at h5
  obtain ⟨⟨⟨⟨⟨g1, g2⟩, g3⟩, g4⟩, g5⟩, g6⟩ := h5
  simp [Cond.before, Cond.holds, Cond.value, h1, h2, h3, h4, g1, g2, g3, g4, g5, g6]
def isCode : Jvm.Cond → Bool
  | .code _ _ _ _ => true
  | _ => false
theorem all_split {L : List Jvm.Cond} {P : Jvm.Cond → Bool} (h1 : L.all (fun c => isCode c || P c) = true) (h2 : ∀ c ∈ L.filter isCode, P c = true) : L.all P = true := by
  refine List.all_eq_true.mpr fun c hc => ?_
  have h := List.all_eq_true.mp h1 c hc
  rcases Bool.eq_false_or_eq_true (isCode c) with hi | hi
  · exact h2 c (List.mem_filter.mpr ⟨hc, hi⟩)
  · simpa [hi] using h
set_option maxRecDepth 65536 in
theorem w_c0 : (Jvm.Cond.code x code maxLocals ret).before args0 about1 = true := code_word (m := ⟨1, 3⟩) (meth := k1m3) (c := k1c3) (by decide +kernel) rfl rfl rfl (by decide +kernel)
set_option maxRecDepth 65536 in
theorem w_c1 : (Jvm.Cond.code ({ cls := "com/example/prudentia/prudentia/csv/AsciiTextOfPinLaw", name := "buf", desc := "(I)[B" } : Jvm.MethodName) method_2_code (2 : Nat) (Option.some (Jvm.ClassFile.FieldType.array Jvm.ClassFile.FieldType.byte))).before args0 about1 = true := code_word (m := ⟨1, 1⟩) (meth := k1m1) (c := k1c1) (by decide +kernel) rfl rfl rfl (by decide +kernel)
set_option maxRecDepth 65536 in
theorem w_c2 : (Jvm.Cond.code ({ cls := "com/example/prudentia/prudentia/csv/AsciiText", name := "<init>", desc := "()V" } : Jvm.MethodName) prog_6_method_1_code (1 : Nat) (Option.none : Option Jvm.ClassFile.FieldType)).before args0 about1 = true := code_word (m := ⟨3, 0⟩) (meth := k3m0) (c := k3c0) (by decide +kernel) rfl rfl rfl (by decide +kernel)
set_option maxRecDepth 65536 in
theorem w_c3 : (Jvm.Cond.code ({ cls := "java/lang/Object", name := "<init>", desc := "()V" } : Jvm.MethodName) object_method_1_code (1 : Nat) (Option.none : Option Jvm.ClassFile.FieldType)).before args0 about1 = true := code_word (m := ⟨0, 0⟩) (meth := k0m0) (c := k0c0) (by decide +kernel) rfl rfl rfl (by decide +kernel)
set_option maxRecDepth 65536 in
theorem w_c4 : (Jvm.Cond.code ({ cls := "com/example/prudentia/prudentia/csv/AsciiText", name := "of", desc := "([BII)Lcom/example/prudentia/prudentia/csv/AsciiText;" } : Jvm.MethodName) prog_6_method_2_code (4 : Nat) (Option.some (Jvm.ClassFile.FieldType.object "com/example/prudentia/prudentia/csv/AsciiText"))).before args0 about1 = true := code_word (m := ⟨3, 1⟩) (meth := k3m1) (c := k3c1) (by decide +kernel) rfl rfl rfl (by decide +kernel)
set_option maxRecDepth 65536 in
theorem w_c5 : (Jvm.Cond.code ({ cls := "com/example/prudentia/prudentia/csv/AsciiTextOfPinLaw", name := "sees", desc := "(Lcom/example/prudentia/prudentia/csv/AsciiText;[BII)Z" } : Jvm.MethodName) method_3_code (5 : Nat) (Option.some Jvm.ClassFile.FieldType.boolean)).before args0 about1 = true := code_word (m := ⟨1, 2⟩) (meth := k1m2) (c := k1c2) (by decide +kernel) rfl rfl rfl (by decide +kernel)
set_option maxRecDepth 65536 in
theorem w_c6 : (Jvm.Cond.code ({ cls := "com/example/prudentia/prudentia/csv/AsciiText", name := "length", desc := "()I" } : Jvm.MethodName) prog_6_method_3_code (1 : Nat) (Option.some Jvm.ClassFile.FieldType.int)).before args0 about1 = true := code_word (m := ⟨3, 2⟩) (meth := k3m2) (c := k3c2) (by decide +kernel) rfl rfl rfl (by decide +kernel)
set_option maxRecDepth 65536 in
theorem w_c7 : (Jvm.Cond.code ({ cls := "com/example/prudentia/prudentia/csv/AsciiText", name := "charAt", desc := "(I)C" } : Jvm.MethodName) prog_6_method_4_code (2 : Nat) (Option.some Jvm.ClassFile.FieldType.char)).before args0 about1 = true := code_word (m := ⟨3, 3⟩) (meth := k3m3) (c := k3c3) (by decide +kernel) rfl rfl rfl (by decide +kernel)
def codes1 : List Jvm.Cond := [Jvm.Cond.code x code maxLocals ret, Jvm.Cond.code ({ cls := "com/example/prudentia/prudentia/csv/AsciiTextOfPinLaw", name := "buf", desc := "(I)[B" } : Jvm.MethodName) method_2_code (2 : Nat) (Option.some (Jvm.ClassFile.FieldType.array Jvm.ClassFile.FieldType.byte)), Jvm.Cond.code ({ cls := "com/example/prudentia/prudentia/csv/AsciiText", name := "<init>", desc := "()V" } : Jvm.MethodName) prog_6_method_1_code (1 : Nat) (Option.none : Option Jvm.ClassFile.FieldType), Jvm.Cond.code ({ cls := "java/lang/Object", name := "<init>", desc := "()V" } : Jvm.MethodName) object_method_1_code (1 : Nat) (Option.none : Option Jvm.ClassFile.FieldType), Jvm.Cond.code ({ cls := "com/example/prudentia/prudentia/csv/AsciiText", name := "of", desc := "([BII)Lcom/example/prudentia/prudentia/csv/AsciiText;" } : Jvm.MethodName) prog_6_method_2_code (4 : Nat) (Option.some (Jvm.ClassFile.FieldType.object "com/example/prudentia/prudentia/csv/AsciiText")), Jvm.Cond.code ({ cls := "com/example/prudentia/prudentia/csv/AsciiTextOfPinLaw", name := "sees", desc := "(Lcom/example/prudentia/prudentia/csv/AsciiText;[BII)Z" } : Jvm.MethodName) method_3_code (5 : Nat) (Option.some Jvm.ClassFile.FieldType.boolean), Jvm.Cond.code ({ cls := "com/example/prudentia/prudentia/csv/AsciiText", name := "length", desc := "()I" } : Jvm.MethodName) prog_6_method_3_code (1 : Nat) (Option.some Jvm.ClassFile.FieldType.int), Jvm.Cond.code ({ cls := "com/example/prudentia/prudentia/csv/AsciiText", name := "charAt", desc := "(I)C" } : Jvm.MethodName) prog_6_method_4_code (2 : Nat) (Option.some Jvm.ClassFile.FieldType.char)]
set_option maxRecDepth 65536 in
theorem codes_eq : words1.filter isCode = codes1 := rfl
theorem w_codes : ∀ c ∈ words1.filter isCode, c.before args0 about1 = true := by
  rw [codes_eq]
  intro c hc
  simp only [codes1, List.mem_cons, List.not_mem_nil, or_false] at hc
  rcases hc with rfl | rfl | rfl | rfl | rfl | rfl | rfl | rfl
  · exact w_c0
  · exact w_c1
  · exact w_c2
  · exact w_c3
  · exact w_c4
  · exact w_c5
  · exact w_c6
  · exact w_c7
set_option maxRecDepth 65536 in
theorem w_t1 : (words1.take 24).all (fun c => isCode c || c.before args0 about1) = true := by decide +kernel
set_option maxRecDepth 65536 in
theorem w_t2 : (words1.drop 24).all (fun c => isCode c || c.before args0 about1) = true := by decide +kernel
theorem w_tables : (allAtoms (Jvm.Cond.code x code maxLocals ret :: tables_1)).before args0 about1 = true := by
  rw [allAtoms_all]
  show words1.all (fun c => c.before args0 about1) = true
  refine all_split ?_ w_codes
  rw [← List.take_append_drop 24 words1, List.all_append, w_t1, w_t2]
  rfl
set_option maxRecDepth 65536 in
theorem w_case : (Jvm.Cond.and given_1 narrow_1).before args0 about1 = true := by decide +kernel
theorem w_applies : (headSpec (Jvm.Cond.code x code maxLocals ret :: tables_1) room_1).applies x e0.platform about1 = true :=
  (Spec.applies_iff w_frames).mpr ⟨w_running, w_runnable, w_alone, w_named, w_hears, w_ripe, w_room, w_tables⟩
theorem atStart : AtStart classFile x code maxLocals ret World_1 tables_1 room_1 Calls_1 rest_1 Pre_1 launch0 p0 e0 about1 theMethod args0 below0 :=
  ⟨lists_1, trivial, launch0.admits_env _ _ _, launch0.least_env, fairChoices_fair.cas, fairChoices_fair.clock, w_frames, w_args, w_heap, w_applies, trivial, trivial, w_case⟩
end start1
theorem witness_1 : WitnessClaimed_1 := ⟨start1.p0, start1.e0, start1.about1, start1.theMethod, start1.args0, start1.below0, start1.atStart⟩
end Jvm.Pilot.@@N@@
