import JvmDerived
import JvmDerived.Pilot.@@N@@Statement
import JvmDerived.Pilot.@@N@@Code
set_option linter.unusedVariables false
set_option linter.unusedSimpArgs false
@@BLOCK:NumsL.lean.txt@@
namespace Jvm.RoadKit
open Sem ClassFile Op Lib Jvm.Stand Jvm.Free Jvm.LawKit
section New
variable {p : Program} {l : Launch} {e : Env} {R : Room} {s : State} {m : MethodId} {args : Array Value} {below : List Frame} {meth : Method} {c : Code} {T : State} {locs : List Loc} {cells slots : Nat}
theorem retI (X : Stand p l e R s m args below meth c T locs cells slots) (hx : p.tables.exec = Jvm.exec) {pc : Nat} {Ls : Array Slot} {z : Int32} {rest : List Value} (hret : meth.sig.returnType = some .int) (hd : decode c.code pc = .ok (.ireturn, 1)) {fs : List Frame}
    (hl : ∀ (f : JFrame) (acts : List Action), f.method = m → f.locked = none → f.entered = [] → (doReturn e (T.setTop f) acts (some (.int z))).1 = T.setFrames fs) : Steps p.tables e below (T.setTop (mkF m pc Ls (.int z :: rest))) (T.setFrames fs) := by
  have hm' : T.vm.method? m = some meth := X.method'
  have hn : narrow .int (.int z) = .int z := rfl
  show Steps p.tables e below (T.setTop { method := m, pc := pc, locals := Ls, stack := _ :: rest, locked := none }) _
  jvm_step X.here [X.here.top, hx, hd, hm', hret, hn]
  first | (intro acts; rw [hl _ acts rfl rfl rfl]) | rw [hl _ _ rfl rfl rfl]
  exact Steps.refl _
theorem own_retJ (X : Stand p l e R s m args below meth c T locs cells slots) (hx : p.tables.exec = Jvm.exec) {pc : Nat} {Ls : Array Slot} {z : Int64} {rest : List Value} (hret : meth.sig.returnType = some .long) (hd : decode c.code pc = .ok (.lreturn, 1)) {fs : List Frame}
    (hl : ∀ (f : JFrame) (acts : List Action), f.method = m → f.locked = none → f.entered = [] → (doReturn e (T.setTop f) acts (some (.long z))).1 = T.setFrames fs) : Steps p.tables e below (T.setTop (mkF m pc Ls (.long z :: rest))) (T.setFrames fs) := by
  have hm' : T.vm.method? m = some meth := X.method'
  show Steps p.tables e below (T.setTop { method := m, pc := pc, locals := Ls, stack := _ :: rest, locked := none }) _
  jvm_step X.here [X.here.top, hx, hd, hm', hret, narrow]
  first | (intro acts; rw [hl _ acts rfl rfl rfl]) | rw [hl _ _ rfl rfl rfl]
  exact Steps.refl _
theorem own_retA (X : Stand p l e R s m args below meth c T locs cells slots) (hx : p.tables.exec = Jvm.exec) {pc : Nat} {Ls : Array Slot} {b : Addr} {t : FieldType} {rest : List Value} (hret : meth.sig.returnType = some t) (ht : t.isReference = true) (hb0 : b = b) (hd : decode c.code pc = .ok (.areturn, 1)) {fs : List Frame}
    (hl : ∀ (f : JFrame) (acts : List Action), f.method = m → f.locked = none → f.entered = [] → (doReturn e (T.setTop f) acts (some (.ref b))).1 = T.setFrames fs) : Steps p.tables e below (T.setTop (mkF m pc Ls (.ref b :: rest))) (T.setFrames fs) := by
  have hm' : T.vm.method? m = some meth := X.method'
  show Steps p.tables e below (T.setTop { method := m, pc := pc, locals := Ls, stack := _ :: rest, locked := none }) _
  jvm_step X.here [X.here.top, hx, hd, hm', hret, Value.isRef, ht]
  first | (intro acts; rw [hl _ acts rfl rfl rfl]) | rw [hl _ _ rfl rfl rfl]
  exact Steps.refl _
end New
/-- a walk's goal at the state A -/
def own_G (tb : Tables) (e : Env) (below : List Frame) (P : Outcome → State → Prop) (A : State) : Prop := ∃ s₂ o, Steps tb e below A s₂ ∧ s₂.status = .running ∧ Ended s₂ below o ∧ P o s₂
section Go
variable {tb : Tables} {e : Env} {below : List Frame} {P : Outcome → State → Prop} {A B : State}
theorem own_step (h : ∀ t, Steps tb e below B t → Steps tb e below A t) (k : own_G tb e below P B) : own_G tb e below P A := by
  obtain ⟨s₂, o, h1, h2⟩ := k
  exact ⟨s₂, o, h _ h1, h2⟩
theorem own_start (h : ∀ t, Steps tb e below B t → Steps tb e below A t) (k : own_G tb e below P B) : ∃ s₂ o, Steps tb e below A s₂ ∧ s₂.status = .running ∧ Ended s₂ below o ∧ P o s₂ := own_step h k
theorem own_done {s₂ : State} {o : Outcome} (h1 : Steps tb e below A s₂) (h2 : s₂.status = .running) (h3 : Ended s₂ below o) (h4 : P o s₂) : own_G tb e below P A := ⟨s₂, o, h1, h2, h3, h4⟩
theorem own_nm {α : Type} (x : α) (F : α → State) (h : ∀ v, v = x → own_G tb e below P (F v)) : own_G tb e below P (F x) := h x rfl
theorem own_gen (h : ∀ P', P' = P → own_G tb e below P' A) : own_G tb e below P A := h P rfl
theorem own_imp (h : own_G tb e below P B → own_G tb e below P A) (k : own_G tb e below P B) : own_G tb e below P A := h k
end Go
/-- an array of ints (bytes, chars, shorts) by its members; a long[] by its members -/
def own_Ari (Z : State) (h : Heap) (a : Addr) (ty : FieldType) (vs : List Int32) : Prop := ∃ c : Cell, Arr Z h a c ty ∧ c.slots.toList = vs.map Value.int ∧ vs.length < 2 ^ 31
def own_Arj (Z : State) (h : Heap) (a : Addr) (vs : List Int64) : Prop := ∃ c : Cell, Arr Z h a c .long ∧ c.slots.toList = vs.map Value.long ∧ vs.length < 2 ^ 31
def own_Inb (j : Int32) (n : Nat) : Prop := ¬ j < 0 ∧ j.toNatClampNeg < n
theorem own_inb {j : Int32} {n : Nat} (h1 : ¬ j < 0) (h2 : j.toNatClampNeg < n) : own_Inb j n := ⟨h1, h2⟩
section ArrFacts
variable {Z : State} {h h' : Heap} {a b : Addr} {ty : FieldType} {vs : List Int32} {us : List Int64} {sl : Nat} {v : Value} {L : List Addr}
theorem own_Ari.lt (F : own_Ari Z h a ty vs) : a < h.size := by obtain ⟨c, A, -⟩ := F; exact A.lt
theorem own_Ari.ext (F : own_Ari Z h a ty vs) (E : Ext h h') : own_Ari Z h' a ty vs := by obtain ⟨c, A, r⟩ := F; exact ⟨c, A.ext E, r⟩
theorem own_Ari.other (F : own_Ari Z h b ty vs) (W : Wr h h' a sl v) (q : b ≠ a) : own_Ari Z h' b ty vs := by obtain ⟨c, A, r⟩ := F; exact ⟨c, A.other W q, r⟩
theorem own_Ari.keep (F : own_Ari Z h a ty vs) (K : Keep h h' L) (q : a ∉ L) : own_Ari Z h' a ty vs := by obtain ⟨c, A, r⟩ := F; exact ⟨c, ⟨K.2.1 a c A.1 q, A.2⟩, r⟩
theorem own_Arj.lt (F : own_Arj Z h a us) : a < h.size := by obtain ⟨c, A, -⟩ := F; exact A.lt
theorem own_Arj.ext (F : own_Arj Z h a us) (E : Ext h h') : own_Arj Z h' a us := by obtain ⟨c, A, r⟩ := F; exact ⟨c, A.ext E, r⟩
theorem own_Arj.other (F : own_Arj Z h b us) (W : Wr h h' a sl v) (q : b ≠ a) : own_Arj Z h' b us := by obtain ⟨c, A, r⟩ := F; exact ⟨c, A.other W q, r⟩
theorem own_Arj.keep (F : own_Arj Z h a us) (K : Keep h h' L) (q : a ∉ L) : own_Arj Z h' a us := by obtain ⟨c, A, r⟩ := F; exact ⟨c, ⟨K.2.1 a c A.1 q, A.2⟩, r⟩
theorem own_Ari_new {cA : ClassId} {n : Int32} (A : Arr Z h b (newA cA ty n) ty) (hn : ¬ n < 0) (hd : defaultValue ty = .int 0) : own_Ari Z h b ty (List.replicate n.toNatClampNeg 0) :=
  ⟨_, A, by simp [newA, hd], by rw [List.length_replicate]; exact (back32 hn).2⟩
theorem own_Arj_new {cA : ClassId} {n : Int32} (A : Arr Z h b (newA cA .long n) .long) (hn : ¬ n < 0) : own_Arj Z h b (List.replicate n.toNatClampNeg 0) :=
  ⟨_, A, by simp [newA, defaultValue], by rw [List.length_replicate]; exact (back32 hn).2⟩
theorem own_szI {c : Cell} (S : c.slots.toList = vs.map Value.int) : c.slots.size = vs.length := by have := congrArg List.length S; simpa using this
theorem own_szJ {c : Cell} (S : c.slots.toList = us.map Value.long) : c.slots.size = us.length := by have := congrArg List.length S; simpa using this
theorem own_atI {c : Cell} {k : Nat} (S : c.slots.toList = vs.map Value.int) (hk : k < vs.length) : c.slots[k]? = some (.int (vs.getD k 0)) := by
  rw [← Array.getElem?_toList, S, List.getElem?_map, List.getD_eq_getElem?_getD, List.getElem?_eq_getElem hk]; rfl
theorem own_atJ {c : Cell} {k : Nat} (S : c.slots.toList = us.map Value.long) (hk : k < us.length) : c.slots[k]? = some (.long (us.getD k 0)) := by
  rw [← Array.getElem?_toList, S, List.getElem?_map, List.getD_eq_getElem?_getD, List.getElem?_eq_getElem hk]; rfl
theorem own_setI {c : Cell} {k : Nat} {x : Int32} (A : Arr Z h a c ty) (S : c.slots.toList = vs.map Value.int) (hl : vs.length < 2 ^ 31) (W : Wr h h' a k (.int x)) : own_Ari Z h' a ty (vs.set k x) :=
  ⟨_, A.same W, by simp [Cell.setSlot, S, List.map_set], by rw [List.length_set]; exact hl⟩
theorem own_setJ {c : Cell} {k : Nat} {x : Int64} (A : Arr Z h a c .long) (S : c.slots.toList = us.map Value.long) (hl : us.length < 2 ^ 31) (W : Wr h h' a k (.long x)) : own_Arj Z h' a (us.set k x) :=
  ⟨_, A.same W, by simp [Cell.setSlot, S, List.map_set], by rw [List.length_set]; exact hl⟩
end ArrFacts
section ArrSteps
variable {p : Program} {l : Launch} {e : Env} {R : Room} {s : State} {m : MethodId} {args : Array Value} {below : List Frame} {meth : Method} {c : Code} {T : State} {locs : List Loc} {cells slots : Nat} {Z : State} {h : Heap} {a : Addr} {vs : List Int32} {us : List Int64} {j : Int32} {g : JFrame} {rest : List Value}
theorem own_iaload (X : Stand p l e R s m args below meth c T locs cells slots) (hx : p.tables.exec = Jvm.exec) (hZ : Z.Warmed39 s.vm) (eT : T.heap = h) (F : own_Ari Z h a .int vs) (q : own_Inb j vs.length) (hg : g.method = m) (hs : g.stack = .int j :: .ref a :: rest) (hd : decode c.code g.pc = .ok (.iaload, 1)) :
    ∀ target, Steps p.tables e below (T.setTop { g with pc := g.pc + 1, stack := .int (vs.getD j.toNatClampNeg 0) :: rest }) target → Steps p.tables e below (T.setTop g) target := by
  obtain ⟨cl, A, S, hl⟩ := F
  have z := own_szI S
  exact X.iaload hx (by rw [eT]; exact A.1) (State.isArrayOf_alike hZ.alike A.2.1) A.2.2 (fun y => y.elim q.1 fun w => by have := q.2; omega) (own_atI S q.2) hg hs hd
theorem own_baload (X : Stand p l e R s m args below meth c T locs cells slots) (hx : p.tables.exec = Jvm.exec) (hZ : Z.Warmed39 s.vm) (eT : T.heap = h) (F : own_Ari Z h a .byte vs) (q : own_Inb j vs.length) (hg : g.method = m) (hs : g.stack = .int j :: .ref a :: rest) (hd : decode c.code g.pc = .ok (.baload, 1)) :
    ∀ target, Steps p.tables e below (T.setTop { g with pc := g.pc + 1, stack := .int (vs.getD j.toNatClampNeg 0) :: rest }) target → Steps p.tables e below (T.setTop g) target := by
  obtain ⟨cl, A, S, hl⟩ := F
  have z := own_szI S
  exact X.baloadBytes hx (by rw [eT]; exact A.1) (State.isArrayOf_alike hZ.alike A.2.1) A.2.2 (fun y => y.elim q.1 fun w => by have := q.2; omega) (own_atI S q.2) hg hs hd
theorem own_laload (X : Stand p l e R s m args below meth c T locs cells slots) (hx : p.tables.exec = Jvm.exec) (hZ : Z.Warmed39 s.vm) (eT : T.heap = h) (F : own_Arj Z h a us) (q : own_Inb j us.length) (hg : g.method = m) (hs : g.stack = .int j :: .ref a :: rest) (hd : decode c.code g.pc = .ok (.laload, 1)) :
    ∀ target, Steps p.tables e below (T.setTop { g with pc := g.pc + 1, stack := .long (us.getD j.toNatClampNeg 0) :: rest }) target → Steps p.tables e below (T.setTop g) target := by
  obtain ⟨cl, A, S, hl⟩ := F
  have z := own_szJ S
  exact X.laload hx (by rw [eT]; exact A.1) (State.isArrayOf_alike hZ.alike A.2.1) A.2.2 (fun y => y.elim q.1 fun w => by have := q.2; omega) (own_atJ S q.2) hg hs hd
theorem own_lenI {ty : FieldType} (X : Stand p l e R s m args below meth c T locs cells slots) (hx : p.tables.exec = Jvm.exec) (hZ : Z.Warmed39 s.vm) (eT : T.heap = h) (F : own_Ari Z h a ty vs) (hg : g.method = m) (hs : g.stack = .ref a :: rest) (hd : decode c.code g.pc = .ok (.arraylength, 1)) :
    ∀ target, Steps p.tables e below (T.setTop { g with pc := g.pc + 1, stack := .int vs.length.toInt32 :: rest }) target → Steps p.tables e below (T.setTop g) target := by
  obtain ⟨cl, A, S, hl⟩ := F
  have z := own_szI S
  have k := X.arraylength hx (by rw [eT]; exact A.1) (State.isArrayOf_alike hZ.alike A.2.1) hg hs hd
  rw [z] at k
  exact k
theorem own_lenJ (X : Stand p l e R s m args below meth c T locs cells slots) (hx : p.tables.exec = Jvm.exec) (hZ : Z.Warmed39 s.vm) (eT : T.heap = h) (F : own_Arj Z h a us) (hg : g.method = m) (hs : g.stack = .ref a :: rest) (hd : decode c.code g.pc = .ok (.arraylength, 1)) :
    ∀ target, Steps p.tables e below (T.setTop { g with pc := g.pc + 1, stack := .int us.length.toInt32 :: rest }) target → Steps p.tables e below (T.setTop g) target := by
  obtain ⟨cl, A, S, hl⟩ := F
  have z := own_szJ S
  have k := X.arraylength hx (by rw [eT]; exact A.1) (State.isArrayOf_alike hZ.alike A.2.1) hg hs hd
  rw [z] at k
  exact k
theorem own_iastore {x : Int32} (X : Stand p l e R s m args below meth c T locs cells slots) (hx : p.tables.exec = Jvm.exec) (hZ : Z.Warmed39 s.vm) (eT : T.heap = h) (F : own_Ari Z h a .int vs) (q : own_Inb j vs.length) (hg : g.method = m) (hs : g.stack = .int x :: .int j :: .ref a :: rest) (hd : decode c.code g.pc = .ok (.iastore, 1)) :
    ∃ T' h', Stand p l e R s m args below meth c T' (locs ++ [⟨a, j.toNatClampNeg⟩]) cells slots ∧ T'.heap = h' ∧ Wr h h' a j.toNatClampNeg (.int x) ∧ own_Ari Z h' a .int (vs.set j.toNatClampNeg x) ∧
      ∀ target, Steps p.tables e below (T'.setTop { g with pc := g.pc + 1, stack := rest }) target → Steps p.tables e below (T.setTop g) target := by
  obtain ⟨cl, A, S, hl⟩ := F
  have z := own_szI S
  obtain ⟨T', h', X', e', W, st⟩ := stI X hx hZ eT A (j := j) (x := x) (fun y => y.elim q.1 fun w => by have := q.2; omega) hg hs hd
  exact ⟨T', h', X', e', W, own_setI A S hl W, st⟩
theorem own_bastore {x : Int32} (X : Stand p l e R s m args below meth c T locs cells slots) (hx : p.tables.exec = Jvm.exec) (hZ : Z.Warmed39 s.vm) (eT : T.heap = h) (F : own_Ari Z h a .byte vs) (q : own_Inb j vs.length) (hg : g.method = m) (hs : g.stack = .int x :: .int j :: .ref a :: rest) (hd : decode c.code g.pc = .ok (.bastore, 1)) :
    ∃ T' h', Stand p l e R s m args below meth c T' (locs ++ [⟨a, j.toNatClampNeg⟩]) cells slots ∧ T'.heap = h' ∧ Wr h h' a j.toNatClampNeg (.int (nar .byte x)) ∧ own_Ari Z h' a .byte (vs.set j.toNatClampNeg (nar .byte x)) ∧
      ∀ target, Steps p.tables e below (T'.setTop { g with pc := g.pc + 1, stack := rest }) target → Steps p.tables e below (T.setTop g) target := by
  obtain ⟨cl, A, S, hl⟩ := F
  have z := own_szI S
  obtain ⟨T', h', X', e', W, st⟩ := stB X hx hZ eT A (j := j) (x := x) (fun y => y.elim q.1 fun w => by have := q.2; omega) hg hs hd
  exact ⟨T', h', X', e', W, own_setI A S hl W, st⟩
theorem own_lastore {x : Int64} (X : Stand p l e R s m args below meth c T locs cells slots) (hx : p.tables.exec = Jvm.exec) (hZ : Z.Warmed39 s.vm) (eT : T.heap = h) (F : own_Arj Z h a us) (q : own_Inb j us.length) (hg : g.method = m) (hs : g.stack = .long x :: .int j :: .ref a :: rest) (hd : decode c.code g.pc = .ok (.lastore, 1)) :
    ∃ T' h', Stand p l e R s m args below meth c T' (locs ++ [⟨a, j.toNatClampNeg⟩]) cells slots ∧ T'.heap = h' ∧ Wr h h' a j.toNatClampNeg (.long x) ∧ own_Arj Z h' a (us.set j.toNatClampNeg x) ∧
      ∀ target, Steps p.tables e below (T'.setTop { g with pc := g.pc + 1, stack := rest }) target → Steps p.tables e below (T.setTop g) target := by
  obtain ⟨cl, A, S, hl⟩ := F
  have z := own_szJ S
  obtain ⟨T', h', X', e', W, st⟩ := stJ X hx hZ eT A (j := j) (x := x) (fun y => y.elim q.1 fun w => by have := q.2; omega) hg hs hd
  exact ⟨T', h', X', e', W, own_setJ A S hl W, st⟩
theorem own_cloneI {a0 : Array Value} {own : String} {index : Nat} (X : Stand p l e R s m args below meth c T locs cells slots) (hx : p.tables.exec = Jvm.exec) (hZ : Z.Warmed39 s.vm) (hown : s.vm.findClass own = some m.cls)
    (w1 : (Cond.methodLink own index ⟨"[I", "clone", "()Ljava/lang/Object;"⟩).before a0 Z = true) (w2 : (Cond.sameMethod "[I" "java/lang/Object" "clone" "()Ljava/lang/Object;").before a0 Z = true) (w3 : (Cond.native ⟨"java/lang/Object", "clone", "()Ljava/lang/Object;"⟩).before a0 Z = true)
    (w4 : (Cond.instanceMethod ⟨"java/lang/Object", "clone", "()Ljava/lang/Object;"⟩).before a0 Z = true) (w5 : (Cond.selects "[I" ⟨"[I", "clone", "()Ljava/lang/Object;"⟩ ⟨"java/lang/Object", "clone", "()Ljava/lang/Object;"⟩).before a0 Z = true) (w6 : (Cond.castable "[I" "java/lang/Cloneable").before a0 Z = true)
    (eT : T.heap = h) (F : own_Ari Z h a .int vs) (E : Exa Z h a "[I") (hg : g.method = m) (hsize : g.locals.size = c.maxLocals) (hs : g.stack = .ref a :: rest) (hd : decode c.code g.pc = .ok (.invokevirtual index, 3))
    (hf : 1 ≤ R.frames) {W cap : Nat} (hW : 2 * g.monitorRoom + (rest.map fun v => v.category).sum ≤ W) (hl : W + 14 ≤ R.locals) (hcap : vs.length ≤ cap) (hc : cells + 1 ≤ R.cells) (hsl : slots + cap ≤ R.slots) :
    ∃ T' h', Stand p l e R s m args below meth c T' locs (cells + 1) (slots + cap) ∧ T'.heap = h' ∧ Ext h h' ∧ own_Ari Z h' h.size .int vs ∧ Exa Z h' h.size "[I" ∧
      ∀ target, Steps p.tables e below (T'.setTop { g with pc := g.pc + 3, stack := .ref h.size :: rest }) target → Steps p.tables e below (T.setTop g) target := by
  obtain ⟨cl, A, S, hl'⟩ := F
  have z := own_szI S
  have FC : FitC Z cl := fitC_of A fun i hi v hv => by
    rw [own_atI S (by omega)] at hv
    cases hv; rfl
  obtain ⟨T', h', X', e', ex, A', E', st⟩ := cloneA X hx hZ hown w1 w2 w3 w4 w5 w6 eT A E FC hg hsize hs hd hf hW hl (by rw [z]; exact hcap) hc hsl
  exact ⟨T', h', X', e', ex, ⟨cloneOf cl, A', S, hl'⟩, E', st⟩
end ArrSteps

end Jvm.RoadKit
namespace Jvm.Pilot.@@N@@
open Jvm Jvm.ClassFile Sem Op Lib Jvm.Free Jvm.Stand Jvm.LawKit Jvm.RoadKit Bundle Jvm.Pilot.@@N@@.Jvm.D


theorem own_k4 (r n : Int32) (hn : n = (r &&& (3 : Int32))) : n = 0 ∨ n = 1 ∨ n = 2 ∨ n = 3 := by
  have m : (r &&& (3 : Int32)).toInt = r.toInt % 2 ^ 2 := Jvm.Kit.i32_mask r 3 (k := 2) (by decide) (by decide)
  rw [← hn] at m
  have e : ∀ k : Int32, n.toInt = k.toInt → n = k := fun k q => Int32.toInt_inj.mp q
  have z : n.toInt = 0 ∨ n.toInt = 1 ∨ n.toInt = 2 ∨ n.toInt = 3 := by omega
  rcases z with z | z | z | z
  · exact Or.inl (e 0 z)
  · exact Or.inr (Or.inl (e 1 z))
  · exact Or.inr (Or.inr (Or.inl (e 2 z)))
  · exact Or.inr (Or.inr (Or.inr (e 3 z)))

theorem d2_0 : decode jdk_30_method_1_code 0 = .ok (.aload_n 0, 1) := by decide +kernel
theorem d2_1 : decode jdk_30_method_1_code 1 = .ok (.invokespecial 1, 3) := by decide +kernel
theorem d2_4 : decode jdk_30_method_1_code 4 = .ok (.return_, 1) := by decide +kernel
theorem pn_2 : plainName "java/lang/Record" = true := by first | (simp [plainName, overriddenIn]; done) | decide +kernel
theorem ef_2 (m : MethodId) (a1 : Addr) : entryFrame m #[(.ref a1)] 1 = mkF m 0 #[.val (.ref a1)] [] := by first | (simp [entryFrame, mkF, argsToLocals, Value.category]; done) | rfl
def Q2 (Z : State) (a1 : Addr) (h0 : Heap) (n0 : Nat) (v : Option Value) (h : Heap) (L : List Loc) : Prop := v = none ∧ Fr n0 L ∧ h = h0
set_option maxRecDepth 65536 in
set_option maxHeartbeats 40000000 in
theorem rm2 (l : Launch) (Z : State) (a0 : Array Value) (hw : ∀ d ∈ tables_1, d.before a0 Z = true) (ws : List Jvm.Cond) (a1 : Addr) (h0 : Heap) (n0 : Nat) (Z0 : n0 ≤ h0.size) :
    MetFree l (⟨"java/lang/Record", "<init>", "()V"⟩ : MethodName) (head1 (Jvm.Cond.code (⟨"java/lang/Record", "<init>", "()V"⟩ : MethodName) jdk_30_method_1_code 1 none :: ws) ({ frames := 1, cells := 0, slots := 0, locals := 12 } : Room)) (fun a U => a = #[(.ref a1)] ∧ Z.Warmed39 U.vm ∧ U.heap = h0) (fun _ _ _ _ _ => True) (fun _ U o U' => ∃ v L, o = .returned v ∧ Q2 Z a1 h0 n0 v U'.heap L ∧ FrameEnd U o U' L ({ frames := 1, cells := 0, slots := 0, locals := 12 } : Room).cells ({ frames := 1, cells := 0, slots := 0, locals := 12 } : Room).slots) := by
  refine MetFree.of_bodySF (plainFor_of_name pn_2) hisR ?_
  intro p e s m args below meth c s₁ Bd hml0 hP hK
  obtain ⟨rfl, hZ, hh⟩ := hP
  have hx := Bd.exec
  have hby := Bd.bytes
  have hml : c.maxLocals = 1 := hml0
  have hown : s.vm.findClass "java/lang/Record" = some m.cls := findClass_of_methodNamed Bd.named
  have hnm := (name_of_methodNamed Bd.named Bd.method).1
  have X0 : Stand p l e ({ frames := 1, cells := 0, slots := 0, locals := 12 } : Room) s m #[(.ref a1)] below meth c s₁ [] 0 0 := Stand.of_body Bd
  have e0 : s₁.heap = h0 := by rw [← hh, Bd.state]; rfl
  have N0 := Fr.nil n0
  refine own_start (fun t k => castTop (ef_2 m a1) k) ?_
  show own_G p.tables e below _ (s₁.setTop (mkF m 0 #[.val (.ref a1)] []))
  refine own_step (fun t k => XS.aloadN X0.here hx rfl (hb hby d2_0) rfl rfl k) ?_
  show own_G p.tables e below _ (s₁.setTop (mkF m 1 #[.val (.ref a1)] [(.ref a1)]))
  obtain ⟨T1, X1, e1, st1⟩ := initO X0 hx hZ hown (hw _ (List.mem_of_getElem? (i := 12) rfl)) (hw _ (List.mem_of_getElem? (i := 13) rfl)) (hw _ (List.mem_of_getElem? (i := 14) rfl)) e0 (g := (mkF m 1 #[.val (.ref a1)] [(.ref a1)])) rfl (by rw [hml]; rfl) rfl (hb hby d2_1) (by decide) (W := 0) (by show 2 * 0 + _ ≤ _; exact Nat.le_of_eq rfl) (by decide)
  refine own_step st1 ?_
  show own_G p.tables e below _ (T1.setTop (mkF m 4 #[.val (.ref a1)] []))
  obtain ⟨fs, hr, hrun, hended, hW, hsame⟩ := X1.leave (v := none) (fun _ => rfl)
  refine own_done (X1.returnOut hx Bd.returns (hb hby d2_4) hr) hrun hended ⟨_, _, rfl, ?_, ⟨_, rfl⟩, hW, hsame.mono (by decide) (by decide)⟩
  show Q2 Z a1 h0 n0 _ T1.heap _
  rw [e1]
  exact ⟨rfl, N0, rfl⟩
theorem d1_0 : decode prog_15_method_1_code 0 = .ok (.aload_n 0, 1) := by decide +kernel
theorem d1_1 : decode prog_15_method_1_code 1 = .ok (.invokespecial 1, 3) := by decide +kernel
theorem d1_4 : decode prog_15_method_1_code 4 = .ok (.aload_n 0, 1) := by decide +kernel
theorem d1_5 : decode prog_15_method_1_code 5 = .ok (.aload_n 1, 1) := by decide +kernel
theorem d1_6 : decode prog_15_method_1_code 6 = .ok (.putfield 7, 3) := by decide +kernel
theorem d1_9 : decode prog_15_method_1_code 9 = .ok (.aload_n 0, 1) := by decide +kernel
theorem d1_10 : decode prog_15_method_1_code 10 = .ok (.aload_n 2, 1) := by decide +kernel
theorem d1_11 : decode prog_15_method_1_code 11 = .ok (.putfield 13, 3) := by decide +kernel
theorem d1_14 : decode prog_15_method_1_code 14 = .ok (.aload_n 0, 1) := by decide +kernel
theorem d1_15 : decode prog_15_method_1_code 15 = .ok (.aload_n 3, 1) := by decide +kernel
theorem d1_16 : decode prog_15_method_1_code 16 = .ok (.putfield 16, 3) := by decide +kernel
theorem d1_19 : decode prog_15_method_1_code 19 = .ok (.aload_n 0, 1) := by decide +kernel
theorem d1_20 : decode prog_15_method_1_code 20 = .ok (.aload 4, 2) := by decide +kernel
theorem d1_22 : decode prog_15_method_1_code 22 = .ok (.putfield 19, 3) := by decide +kernel
theorem d1_25 : decode prog_15_method_1_code 25 = .ok (.aload_n 0, 1) := by decide +kernel
theorem d1_26 : decode prog_15_method_1_code 26 = .ok (.aload 5, 2) := by decide +kernel
theorem d1_28 : decode prog_15_method_1_code 28 = .ok (.putfield 22, 3) := by decide +kernel
theorem d1_31 : decode prog_15_method_1_code 31 = .ok (.aload_n 0, 1) := by decide +kernel
theorem d1_32 : decode prog_15_method_1_code 32 = .ok (.aload 6, 2) := by decide +kernel
theorem d1_34 : decode prog_15_method_1_code 34 = .ok (.putfield 25, 3) := by decide +kernel
theorem d1_37 : decode prog_15_method_1_code 37 = .ok (.return_, 1) := by decide +kernel
theorem pn_1 : plainName "com/example/stevedore/stevedore/MoveGraph" = true := by first | (simp [plainName, overriddenIn]; done) | decide +kernel
theorem pd_1_0 : parseMethodDescriptor "()V" = some ⟨[], none⟩ := by decide +kernel
theorem ef_1 (m : MethodId) (a1 : Addr) (a2 : Addr) (a3 : Addr) (a4 : Addr) (a5 : Addr) (a6 : Addr) (a7 : Addr) : entryFrame m #[(.ref a1), (.ref a2), (.ref a3), (.ref a4), (.ref a5), (.ref a6), (.ref a7)] 7 = mkF m 0 #[.val (.ref a1), .val (.ref a2), .val (.ref a3), .val (.ref a4), .val (.ref a5), .val (.ref a6), .val (.ref a7)] [] := by first | (simp [entryFrame, mkF, argsToLocals, Value.category]; done) | rfl
def Q1 (Z : State) (a1 : Addr) (a2 : Addr) (a3 : Addr) (a4 : Addr) (a5 : Addr) (a6 : Addr) (a7 : Addr) (u_from_a1 : Value) (u_to_a1 : Value) (u_limit_a1 : Value) (u_send_a1 : Value) (u_receive_a1 : Value) (u_free_a1 : Value) (h0 : Heap) (n0 : Nat) (v : Option Value) (h : Heap) (L : List Loc) : Prop := v = none ∧ Fr n0 L ∧ Keep h0 h [a1] ∧ Fld Z h a1 "com/example/stevedore/stevedore/MoveGraph" "from" "[I" (.ref a2) ∧ Fld Z h a1 "com/example/stevedore/stevedore/MoveGraph" "to" "[I" (.ref a3) ∧ Fld Z h a1 "com/example/stevedore/stevedore/MoveGraph" "limit" "[I" (.ref a4) ∧ Fld Z h a1 "com/example/stevedore/stevedore/MoveGraph" "send" "[I" (.ref a5) ∧ Fld Z h a1 "com/example/stevedore/stevedore/MoveGraph" "receive" "[I" (.ref a6) ∧ Fld Z h a1 "com/example/stevedore/stevedore/MoveGraph" "free" "[I" (.ref a7)
set_option maxRecDepth 65536 in
set_option maxHeartbeats 40000000 in
theorem rm1 (l : Launch) (Z : State) (a0 : Array Value) (hw : ∀ d ∈ tables_1, d.before a0 Z = true) (ws : List Jvm.Cond) (a1 : Addr) (a2 : Addr) (a3 : Addr) (a4 : Addr) (a5 : Addr) (a6 : Addr) (a7 : Addr) (u_from_a1 : Value) (u_to_a1 : Value) (u_limit_a1 : Value) (u_send_a1 : Value) (u_receive_a1 : Value) (u_free_a1 : Value) (h0 : Heap) (n0 : Nat) (Z0 : n0 ≤ h0.size) (fp0 : Exa Z h0 a1 "com/example/stevedore/stevedore/MoveGraph") (fp1 : Fld Z h0 a1 "com/example/stevedore/stevedore/MoveGraph" "from" "[I" u_from_a1) (fp2 : Fld Z h0 a1 "com/example/stevedore/stevedore/MoveGraph" "to" "[I" u_to_a1) (fp3 : Fld Z h0 a1 "com/example/stevedore/stevedore/MoveGraph" "limit" "[I" u_limit_a1) (fp4 : Fld Z h0 a1 "com/example/stevedore/stevedore/MoveGraph" "send" "[I" u_send_a1) (fp5 : Fld Z h0 a1 "com/example/stevedore/stevedore/MoveGraph" "receive" "[I" u_receive_a1) (fp6 : Fld Z h0 a1 "com/example/stevedore/stevedore/MoveGraph" "free" "[I" u_free_a1) (g_a1 : n0 ≤ a1) :
    MetFree l (⟨"com/example/stevedore/stevedore/MoveGraph", "<init>", "([I[I[I[I[I[I)V"⟩ : MethodName) (head1 (Jvm.Cond.code (⟨"com/example/stevedore/stevedore/MoveGraph", "<init>", "([I[I[I[I[I[I)V"⟩ : MethodName) prog_15_method_1_code 7 none :: ws) ({ frames := 2, cells := 0, slots := 0, locals := 24 } : Room)) (fun a U => a = #[(.ref a1), (.ref a2), (.ref a3), (.ref a4), (.ref a5), (.ref a6), (.ref a7)] ∧ Z.Warmed39 U.vm ∧ U.heap = h0) (fun _ _ _ _ _ => True) (fun _ U o U' => ∃ v L, o = .returned v ∧ Q1 Z a1 a2 a3 a4 a5 a6 a7 u_from_a1 u_to_a1 u_limit_a1 u_send_a1 u_receive_a1 u_free_a1 h0 n0 v U'.heap L ∧ FrameEnd U o U' L ({ frames := 2, cells := 0, slots := 0, locals := 24 } : Room).cells ({ frames := 2, cells := 0, slots := 0, locals := 24 } : Room).slots) := by
  refine MetFree.of_bodySF (plainFor_of_name pn_1) hisR ?_
  intro p e s m args below meth c s₁ Bd hml0 hP hK
  obtain ⟨rfl, hZ, hh⟩ := hP
  have hx := Bd.exec
  have hby := Bd.bytes
  have hml : c.maxLocals = 7 := hml0
  have hown : s.vm.findClass "com/example/stevedore/stevedore/MoveGraph" = some m.cls := findClass_of_methodNamed Bd.named
  have hnm := (name_of_methodNamed Bd.named Bd.method).1
  have X0 : Stand p l e ({ frames := 2, cells := 0, slots := 0, locals := 24 } : Room) s m #[(.ref a1), (.ref a2), (.ref a3), (.ref a4), (.ref a5), (.ref a6), (.ref a7)] below meth c s₁ [] 0 0 := Stand.of_body Bd
  have e0 : s₁.heap = h0 := by rw [← hh, Bd.state]; rfl
  have N0 := Fr.nil n0
  refine own_start (fun t k => castTop (ef_1 m a1 a2 a3 a4 a5 a6 a7) k) ?_
  show own_G p.tables e below _ (s₁.setTop (mkF m 0 #[.val (.ref a1), .val (.ref a2), .val (.ref a3), .val (.ref a4), .val (.ref a5), .val (.ref a6), .val (.ref a7)] []))
  refine own_step (fun t k => XS.aloadN X0.here hx rfl (hb hby d1_0) rfl rfl k) ?_
  show own_G p.tables e below _ (s₁.setTop (mkF m 1 #[.val (.ref a1), .val (.ref a2), .val (.ref a3), .val (.ref a4), .val (.ref a5), .val (.ref a6), .val (.ref a7)] [(.ref a1)]))
  obtain ⟨_, _, ⟨T1, L1, k1, n1⟩, -, X1, ⟨Lc1, hQ1, l1, y1, z1⟩, st1⟩ := X0.specialBack hx (y := (⟨"java/lang/Record", "<init>", "()V"⟩ : MethodName)) rfl hown (mvT hZ (hw _ (List.mem_of_getElem? (i := 7) rfl))) (mvT hZ (hw _ (List.mem_of_getElem? (i := 8) rfl))) (mvT hZ (hw _ (List.mem_of_getElem? (i := 11) rfl))) (by decide) (backOf (W := 0) (rm2 l Z a0 hw [] a1 h0 n0 (Nat.le_trans Z0 (Keep.refl h0 [a1]).1) ) hZ (hw _ (List.mem_of_getElem? (i := 11) rfl)) (hw _ (List.mem_of_getElem? (i := 10) rfl)) (by decide) (by decide)) (g := (mkF m 1 #[.val (.ref a1), .val (.ref a2), .val (.ref a3), .val (.ref a4), .val (.ref a5), .val (.ref a6), .val (.ref a7)] [(.ref a1)])) rfl (by rw [hml]; rfl) (Steps.refl _) (a := a1) (argsL := []) (rest := []) (lenOf pd_1_0 rfl) rfl (by show 2 * 0 + _ ≤ _; exact Nat.le_of_eq rfl) (hb hby d1_1) (fun _ _ => ⟨rfl, e0, (by decide : 0 + 0 ≤ _), (by decide : 0 + 0 ≤ _)⟩)
  dsimp only [Pt.U, Pt.locs, Pt.cells, Pt.slots] at X1 l1 y1 z1 st1 hQ1
  subst l1 y1 z1
  obtain ⟨rfl, N1q, e1⟩ := hQ1
  have N1 := Fr.app N0 N1q
  refine own_step (fun t k => st1.trans k) ?_
  show own_G p.tables e below _ (T1.setTop (mkF m 4 #[.val (.ref a1), .val (.ref a2), .val (.ref a3), .val (.ref a4), .val (.ref a5), .val (.ref a6), .val (.ref a7)] []))
  refine own_step (fun t k => XS.aloadN X1.here hx rfl (hb hby d1_4) rfl rfl k) ?_
  show own_G p.tables e below _ (T1.setTop (mkF m 5 #[.val (.ref a1), .val (.ref a2), .val (.ref a3), .val (.ref a4), .val (.ref a5), .val (.ref a6), .val (.ref a7)] [(.ref a1)]))
  refine own_step (fun t k => XS.aloadN X1.here hx rfl (hb hby d1_5) rfl rfl k) ?_
  show own_G p.tables e below _ (T1.setTop (mkF m 6 #[.val (.ref a1), .val (.ref a2), .val (.ref a3), .val (.ref a4), .val (.ref a5), .val (.ref a6), .val (.ref a7)] [(.ref a2), (.ref a1)]))
  obtain ⟨T2, h2, X2, e2, W2, st2⟩ := putF X1 hx hZ hown (host := "") (Or.inl (hw _ (List.mem_of_getElem? (i := 15) rfl))) Via.refl e1 fp1 fp0 (Or.inr ⟨(hw _ (List.mem_of_getElem? (i := 16) rfl)), rfl, hnm⟩) (hw _ (List.mem_of_getElem? (i := 2) rfl)) (ty := (.array .int)) (by decide) rfl rfl (g := (mkF m 6 #[.val (.ref a1), .val (.ref a2), .val (.ref a3), .val (.ref a4), .val (.ref a5), .val (.ref a6), .val (.ref a7)] [(.ref a2), (.ref a1)])) rfl rfl (hb hby d1_6)
  have N2 := Fr.snoc X2 N1 g_a1
  have c3 : Fld Z h2 a1 "com/example/stevedore/stevedore/MoveGraph" "from" "[I" (.ref a2) := fp1.same W2
  have c4 : Exa Z h2 a1 "com/example/stevedore/stevedore/MoveGraph" := fp0.wr W2
  have c6 : Fld Z h2 a1 "com/example/stevedore/stevedore/MoveGraph" "to" "[I" u_to_a1 := fp2.other W2 (Or.inr (slot_ne (Or.inr (hw _ (List.mem_of_getElem? (i := 18) rfl))) (Or.inr (hw _ (List.mem_of_getElem? (i := 16) rfl))) (by decide) (t := (.array .int)) (t' := (.array .int)) (by decide) (by decide)))
  have c7 : Fld Z h2 a1 "com/example/stevedore/stevedore/MoveGraph" "limit" "[I" u_limit_a1 := fp3.other W2 (Or.inr (slot_ne (Or.inr (hw _ (List.mem_of_getElem? (i := 20) rfl))) (Or.inr (hw _ (List.mem_of_getElem? (i := 16) rfl))) (by decide) (t := (.array .int)) (t' := (.array .int)) (by decide) (by decide)))
  have c8 : Fld Z h2 a1 "com/example/stevedore/stevedore/MoveGraph" "send" "[I" u_send_a1 := fp4.other W2 (Or.inr (slot_ne (Or.inr (hw _ (List.mem_of_getElem? (i := 22) rfl))) (Or.inr (hw _ (List.mem_of_getElem? (i := 16) rfl))) (by decide) (t := (.array .int)) (t' := (.array .int)) (by decide) (by decide)))
  have c9 : Fld Z h2 a1 "com/example/stevedore/stevedore/MoveGraph" "receive" "[I" u_receive_a1 := fp5.other W2 (Or.inr (slot_ne (Or.inr (hw _ (List.mem_of_getElem? (i := 24) rfl))) (Or.inr (hw _ (List.mem_of_getElem? (i := 16) rfl))) (by decide) (t := (.array .int)) (t' := (.array .int)) (by decide) (by decide)))
  have c10 : Fld Z h2 a1 "com/example/stevedore/stevedore/MoveGraph" "free" "[I" u_free_a1 := fp6.other W2 (Or.inr (slot_ne (Or.inr (hw _ (List.mem_of_getElem? (i := 26) rfl))) (Or.inr (hw _ (List.mem_of_getElem? (i := 16) rfl))) (by decide) (t := (.array .int)) (t' := (.array .int)) (by decide) (by decide)))
  have K2 : Keep h0 h2 [a1] := (Keep.refl h0 [a1]).wr W2 (Or.inl (List.mem_of_getElem? (i := 0) rfl))
  refine own_step st2 ?_
  show own_G p.tables e below _ (T2.setTop (mkF m 9 #[.val (.ref a1), .val (.ref a2), .val (.ref a3), .val (.ref a4), .val (.ref a5), .val (.ref a6), .val (.ref a7)] []))
  refine own_step (fun t k => XS.aloadN X2.here hx rfl (hb hby d1_9) rfl rfl k) ?_
  show own_G p.tables e below _ (T2.setTop (mkF m 10 #[.val (.ref a1), .val (.ref a2), .val (.ref a3), .val (.ref a4), .val (.ref a5), .val (.ref a6), .val (.ref a7)] [(.ref a1)]))
  refine own_step (fun t k => XS.aloadN X2.here hx rfl (hb hby d1_10) rfl rfl k) ?_
  show own_G p.tables e below _ (T2.setTop (mkF m 11 #[.val (.ref a1), .val (.ref a2), .val (.ref a3), .val (.ref a4), .val (.ref a5), .val (.ref a6), .val (.ref a7)] [(.ref a3), (.ref a1)]))
  obtain ⟨T11, h11, X11, e11, W11, st11⟩ := putF X2 hx hZ hown (host := "") (Or.inl (hw _ (List.mem_of_getElem? (i := 17) rfl))) Via.refl e2 c6 c4 (Or.inr ⟨(hw _ (List.mem_of_getElem? (i := 18) rfl)), rfl, hnm⟩) (hw _ (List.mem_of_getElem? (i := 2) rfl)) (ty := (.array .int)) (by decide) rfl rfl (g := (mkF m 11 #[.val (.ref a1), .val (.ref a2), .val (.ref a3), .val (.ref a4), .val (.ref a5), .val (.ref a6), .val (.ref a7)] [(.ref a3), (.ref a1)])) rfl rfl (hb hby d1_11)
  have N11 := Fr.snoc X11 N2 g_a1
  have c12 : Fld Z h11 a1 "com/example/stevedore/stevedore/MoveGraph" "to" "[I" (.ref a3) := c6.same W11
  have c13 : Exa Z h11 a1 "com/example/stevedore/stevedore/MoveGraph" := c4.wr W11
  have c14 : Fld Z h11 a1 "com/example/stevedore/stevedore/MoveGraph" "from" "[I" (.ref a2) := c3.other W11 (Or.inr (slot_ne (Or.inr (hw _ (List.mem_of_getElem? (i := 16) rfl))) (Or.inr (hw _ (List.mem_of_getElem? (i := 18) rfl))) (by decide) (t := (.array .int)) (t' := (.array .int)) (by decide) (by decide)))
  have c16 : Fld Z h11 a1 "com/example/stevedore/stevedore/MoveGraph" "limit" "[I" u_limit_a1 := c7.other W11 (Or.inr (slot_ne (Or.inr (hw _ (List.mem_of_getElem? (i := 20) rfl))) (Or.inr (hw _ (List.mem_of_getElem? (i := 18) rfl))) (by decide) (t := (.array .int)) (t' := (.array .int)) (by decide) (by decide)))
  have c17 : Fld Z h11 a1 "com/example/stevedore/stevedore/MoveGraph" "send" "[I" u_send_a1 := c8.other W11 (Or.inr (slot_ne (Or.inr (hw _ (List.mem_of_getElem? (i := 22) rfl))) (Or.inr (hw _ (List.mem_of_getElem? (i := 18) rfl))) (by decide) (t := (.array .int)) (t' := (.array .int)) (by decide) (by decide)))
  have c18 : Fld Z h11 a1 "com/example/stevedore/stevedore/MoveGraph" "receive" "[I" u_receive_a1 := c9.other W11 (Or.inr (slot_ne (Or.inr (hw _ (List.mem_of_getElem? (i := 24) rfl))) (Or.inr (hw _ (List.mem_of_getElem? (i := 18) rfl))) (by decide) (t := (.array .int)) (t' := (.array .int)) (by decide) (by decide)))
  have c19 : Fld Z h11 a1 "com/example/stevedore/stevedore/MoveGraph" "free" "[I" u_free_a1 := c10.other W11 (Or.inr (slot_ne (Or.inr (hw _ (List.mem_of_getElem? (i := 26) rfl))) (Or.inr (hw _ (List.mem_of_getElem? (i := 18) rfl))) (by decide) (t := (.array .int)) (t' := (.array .int)) (by decide) (by decide)))
  have K11 : Keep h0 h11 [a1] := K2.wr W11 (Or.inl (List.mem_of_getElem? (i := 0) rfl))
  refine own_step st11 ?_
  show own_G p.tables e below _ (T11.setTop (mkF m 14 #[.val (.ref a1), .val (.ref a2), .val (.ref a3), .val (.ref a4), .val (.ref a5), .val (.ref a6), .val (.ref a7)] []))
  refine own_step (fun t k => XS.aloadN X11.here hx rfl (hb hby d1_14) rfl rfl k) ?_
  show own_G p.tables e below _ (T11.setTop (mkF m 15 #[.val (.ref a1), .val (.ref a2), .val (.ref a3), .val (.ref a4), .val (.ref a5), .val (.ref a6), .val (.ref a7)] [(.ref a1)]))
  refine own_step (fun t k => XS.aloadN X11.here hx rfl (hb hby d1_15) rfl rfl k) ?_
  show own_G p.tables e below _ (T11.setTop (mkF m 16 #[.val (.ref a1), .val (.ref a2), .val (.ref a3), .val (.ref a4), .val (.ref a5), .val (.ref a6), .val (.ref a7)] [(.ref a4), (.ref a1)]))
  obtain ⟨T20, h20, X20, e20, W20, st20⟩ := putF X11 hx hZ hown (host := "") (Or.inl (hw _ (List.mem_of_getElem? (i := 19) rfl))) Via.refl e11 c16 c13 (Or.inr ⟨(hw _ (List.mem_of_getElem? (i := 20) rfl)), rfl, hnm⟩) (hw _ (List.mem_of_getElem? (i := 2) rfl)) (ty := (.array .int)) (by decide) rfl rfl (g := (mkF m 16 #[.val (.ref a1), .val (.ref a2), .val (.ref a3), .val (.ref a4), .val (.ref a5), .val (.ref a6), .val (.ref a7)] [(.ref a4), (.ref a1)])) rfl rfl (hb hby d1_16)
  have N20 := Fr.snoc X20 N11 g_a1
  have c21 : Fld Z h20 a1 "com/example/stevedore/stevedore/MoveGraph" "limit" "[I" (.ref a4) := c16.same W20
  have c22 : Exa Z h20 a1 "com/example/stevedore/stevedore/MoveGraph" := c13.wr W20
  have c23 : Fld Z h20 a1 "com/example/stevedore/stevedore/MoveGraph" "from" "[I" (.ref a2) := c14.other W20 (Or.inr (slot_ne (Or.inr (hw _ (List.mem_of_getElem? (i := 16) rfl))) (Or.inr (hw _ (List.mem_of_getElem? (i := 20) rfl))) (by decide) (t := (.array .int)) (t' := (.array .int)) (by decide) (by decide)))
  have c24 : Fld Z h20 a1 "com/example/stevedore/stevedore/MoveGraph" "to" "[I" (.ref a3) := c12.other W20 (Or.inr (slot_ne (Or.inr (hw _ (List.mem_of_getElem? (i := 18) rfl))) (Or.inr (hw _ (List.mem_of_getElem? (i := 20) rfl))) (by decide) (t := (.array .int)) (t' := (.array .int)) (by decide) (by decide)))
  have c26 : Fld Z h20 a1 "com/example/stevedore/stevedore/MoveGraph" "send" "[I" u_send_a1 := c17.other W20 (Or.inr (slot_ne (Or.inr (hw _ (List.mem_of_getElem? (i := 22) rfl))) (Or.inr (hw _ (List.mem_of_getElem? (i := 20) rfl))) (by decide) (t := (.array .int)) (t' := (.array .int)) (by decide) (by decide)))
  have c27 : Fld Z h20 a1 "com/example/stevedore/stevedore/MoveGraph" "receive" "[I" u_receive_a1 := c18.other W20 (Or.inr (slot_ne (Or.inr (hw _ (List.mem_of_getElem? (i := 24) rfl))) (Or.inr (hw _ (List.mem_of_getElem? (i := 20) rfl))) (by decide) (t := (.array .int)) (t' := (.array .int)) (by decide) (by decide)))
  have c28 : Fld Z h20 a1 "com/example/stevedore/stevedore/MoveGraph" "free" "[I" u_free_a1 := c19.other W20 (Or.inr (slot_ne (Or.inr (hw _ (List.mem_of_getElem? (i := 26) rfl))) (Or.inr (hw _ (List.mem_of_getElem? (i := 20) rfl))) (by decide) (t := (.array .int)) (t' := (.array .int)) (by decide) (by decide)))
  have K20 : Keep h0 h20 [a1] := K11.wr W20 (Or.inl (List.mem_of_getElem? (i := 0) rfl))
  refine own_step st20 ?_
  show own_G p.tables e below _ (T20.setTop (mkF m 19 #[.val (.ref a1), .val (.ref a2), .val (.ref a3), .val (.ref a4), .val (.ref a5), .val (.ref a6), .val (.ref a7)] []))
  refine own_step (fun t k => XS.aloadN X20.here hx rfl (hb hby d1_19) rfl rfl k) ?_
  show own_G p.tables e below _ (T20.setTop (mkF m 20 #[.val (.ref a1), .val (.ref a2), .val (.ref a3), .val (.ref a4), .val (.ref a5), .val (.ref a6), .val (.ref a7)] [(.ref a1)]))
  refine own_step (fun t k => XS.aload X20.here hx rfl (hb hby d1_20) rfl rfl k) ?_
  show own_G p.tables e below _ (T20.setTop (mkF m 22 #[.val (.ref a1), .val (.ref a2), .val (.ref a3), .val (.ref a4), .val (.ref a5), .val (.ref a6), .val (.ref a7)] [(.ref a5), (.ref a1)]))
  obtain ⟨T29, h29, X29, e29, W29, st29⟩ := putF X20 hx hZ hown (host := "") (Or.inl (hw _ (List.mem_of_getElem? (i := 21) rfl))) Via.refl e20 c26 c22 (Or.inr ⟨(hw _ (List.mem_of_getElem? (i := 22) rfl)), rfl, hnm⟩) (hw _ (List.mem_of_getElem? (i := 2) rfl)) (ty := (.array .int)) (by decide) rfl rfl (g := (mkF m 22 #[.val (.ref a1), .val (.ref a2), .val (.ref a3), .val (.ref a4), .val (.ref a5), .val (.ref a6), .val (.ref a7)] [(.ref a5), (.ref a1)])) rfl rfl (hb hby d1_22)
  have N29 := Fr.snoc X29 N20 g_a1
  have c30 : Fld Z h29 a1 "com/example/stevedore/stevedore/MoveGraph" "send" "[I" (.ref a5) := c26.same W29
  have c31 : Exa Z h29 a1 "com/example/stevedore/stevedore/MoveGraph" := c22.wr W29
  have c32 : Fld Z h29 a1 "com/example/stevedore/stevedore/MoveGraph" "from" "[I" (.ref a2) := c23.other W29 (Or.inr (slot_ne (Or.inr (hw _ (List.mem_of_getElem? (i := 16) rfl))) (Or.inr (hw _ (List.mem_of_getElem? (i := 22) rfl))) (by decide) (t := (.array .int)) (t' := (.array .int)) (by decide) (by decide)))
  have c33 : Fld Z h29 a1 "com/example/stevedore/stevedore/MoveGraph" "to" "[I" (.ref a3) := c24.other W29 (Or.inr (slot_ne (Or.inr (hw _ (List.mem_of_getElem? (i := 18) rfl))) (Or.inr (hw _ (List.mem_of_getElem? (i := 22) rfl))) (by decide) (t := (.array .int)) (t' := (.array .int)) (by decide) (by decide)))
  have c34 : Fld Z h29 a1 "com/example/stevedore/stevedore/MoveGraph" "limit" "[I" (.ref a4) := c21.other W29 (Or.inr (slot_ne (Or.inr (hw _ (List.mem_of_getElem? (i := 20) rfl))) (Or.inr (hw _ (List.mem_of_getElem? (i := 22) rfl))) (by decide) (t := (.array .int)) (t' := (.array .int)) (by decide) (by decide)))
  have c36 : Fld Z h29 a1 "com/example/stevedore/stevedore/MoveGraph" "receive" "[I" u_receive_a1 := c27.other W29 (Or.inr (slot_ne (Or.inr (hw _ (List.mem_of_getElem? (i := 24) rfl))) (Or.inr (hw _ (List.mem_of_getElem? (i := 22) rfl))) (by decide) (t := (.array .int)) (t' := (.array .int)) (by decide) (by decide)))
  have c37 : Fld Z h29 a1 "com/example/stevedore/stevedore/MoveGraph" "free" "[I" u_free_a1 := c28.other W29 (Or.inr (slot_ne (Or.inr (hw _ (List.mem_of_getElem? (i := 26) rfl))) (Or.inr (hw _ (List.mem_of_getElem? (i := 22) rfl))) (by decide) (t := (.array .int)) (t' := (.array .int)) (by decide) (by decide)))
  have K29 : Keep h0 h29 [a1] := K20.wr W29 (Or.inl (List.mem_of_getElem? (i := 0) rfl))
  refine own_step st29 ?_
  show own_G p.tables e below _ (T29.setTop (mkF m 25 #[.val (.ref a1), .val (.ref a2), .val (.ref a3), .val (.ref a4), .val (.ref a5), .val (.ref a6), .val (.ref a7)] []))
  refine own_step (fun t k => XS.aloadN X29.here hx rfl (hb hby d1_25) rfl rfl k) ?_
  show own_G p.tables e below _ (T29.setTop (mkF m 26 #[.val (.ref a1), .val (.ref a2), .val (.ref a3), .val (.ref a4), .val (.ref a5), .val (.ref a6), .val (.ref a7)] [(.ref a1)]))
  refine own_step (fun t k => XS.aload X29.here hx rfl (hb hby d1_26) rfl rfl k) ?_
  show own_G p.tables e below _ (T29.setTop (mkF m 28 #[.val (.ref a1), .val (.ref a2), .val (.ref a3), .val (.ref a4), .val (.ref a5), .val (.ref a6), .val (.ref a7)] [(.ref a6), (.ref a1)]))
  obtain ⟨T38, h38, X38, e38, W38, st38⟩ := putF X29 hx hZ hown (host := "") (Or.inl (hw _ (List.mem_of_getElem? (i := 23) rfl))) Via.refl e29 c36 c31 (Or.inr ⟨(hw _ (List.mem_of_getElem? (i := 24) rfl)), rfl, hnm⟩) (hw _ (List.mem_of_getElem? (i := 2) rfl)) (ty := (.array .int)) (by decide) rfl rfl (g := (mkF m 28 #[.val (.ref a1), .val (.ref a2), .val (.ref a3), .val (.ref a4), .val (.ref a5), .val (.ref a6), .val (.ref a7)] [(.ref a6), (.ref a1)])) rfl rfl (hb hby d1_28)
  have N38 := Fr.snoc X38 N29 g_a1
  have c39 : Fld Z h38 a1 "com/example/stevedore/stevedore/MoveGraph" "receive" "[I" (.ref a6) := c36.same W38
  have c40 : Exa Z h38 a1 "com/example/stevedore/stevedore/MoveGraph" := c31.wr W38
  have c41 : Fld Z h38 a1 "com/example/stevedore/stevedore/MoveGraph" "from" "[I" (.ref a2) := c32.other W38 (Or.inr (slot_ne (Or.inr (hw _ (List.mem_of_getElem? (i := 16) rfl))) (Or.inr (hw _ (List.mem_of_getElem? (i := 24) rfl))) (by decide) (t := (.array .int)) (t' := (.array .int)) (by decide) (by decide)))
  have c42 : Fld Z h38 a1 "com/example/stevedore/stevedore/MoveGraph" "to" "[I" (.ref a3) := c33.other W38 (Or.inr (slot_ne (Or.inr (hw _ (List.mem_of_getElem? (i := 18) rfl))) (Or.inr (hw _ (List.mem_of_getElem? (i := 24) rfl))) (by decide) (t := (.array .int)) (t' := (.array .int)) (by decide) (by decide)))
  have c43 : Fld Z h38 a1 "com/example/stevedore/stevedore/MoveGraph" "limit" "[I" (.ref a4) := c34.other W38 (Or.inr (slot_ne (Or.inr (hw _ (List.mem_of_getElem? (i := 20) rfl))) (Or.inr (hw _ (List.mem_of_getElem? (i := 24) rfl))) (by decide) (t := (.array .int)) (t' := (.array .int)) (by decide) (by decide)))
  have c44 : Fld Z h38 a1 "com/example/stevedore/stevedore/MoveGraph" "send" "[I" (.ref a5) := c30.other W38 (Or.inr (slot_ne (Or.inr (hw _ (List.mem_of_getElem? (i := 22) rfl))) (Or.inr (hw _ (List.mem_of_getElem? (i := 24) rfl))) (by decide) (t := (.array .int)) (t' := (.array .int)) (by decide) (by decide)))
  have c46 : Fld Z h38 a1 "com/example/stevedore/stevedore/MoveGraph" "free" "[I" u_free_a1 := c37.other W38 (Or.inr (slot_ne (Or.inr (hw _ (List.mem_of_getElem? (i := 26) rfl))) (Or.inr (hw _ (List.mem_of_getElem? (i := 24) rfl))) (by decide) (t := (.array .int)) (t' := (.array .int)) (by decide) (by decide)))
  have K38 : Keep h0 h38 [a1] := K29.wr W38 (Or.inl (List.mem_of_getElem? (i := 0) rfl))
  refine own_step st38 ?_
  show own_G p.tables e below _ (T38.setTop (mkF m 31 #[.val (.ref a1), .val (.ref a2), .val (.ref a3), .val (.ref a4), .val (.ref a5), .val (.ref a6), .val (.ref a7)] []))
  refine own_step (fun t k => XS.aloadN X38.here hx rfl (hb hby d1_31) rfl rfl k) ?_
  show own_G p.tables e below _ (T38.setTop (mkF m 32 #[.val (.ref a1), .val (.ref a2), .val (.ref a3), .val (.ref a4), .val (.ref a5), .val (.ref a6), .val (.ref a7)] [(.ref a1)]))
  refine own_step (fun t k => XS.aload X38.here hx rfl (hb hby d1_32) rfl rfl k) ?_
  show own_G p.tables e below _ (T38.setTop (mkF m 34 #[.val (.ref a1), .val (.ref a2), .val (.ref a3), .val (.ref a4), .val (.ref a5), .val (.ref a6), .val (.ref a7)] [(.ref a7), (.ref a1)]))
  obtain ⟨T47, h47, X47, e47, W47, st47⟩ := putF X38 hx hZ hown (host := "") (Or.inl (hw _ (List.mem_of_getElem? (i := 25) rfl))) Via.refl e38 c46 c40 (Or.inr ⟨(hw _ (List.mem_of_getElem? (i := 26) rfl)), rfl, hnm⟩) (hw _ (List.mem_of_getElem? (i := 2) rfl)) (ty := (.array .int)) (by decide) rfl rfl (g := (mkF m 34 #[.val (.ref a1), .val (.ref a2), .val (.ref a3), .val (.ref a4), .val (.ref a5), .val (.ref a6), .val (.ref a7)] [(.ref a7), (.ref a1)])) rfl rfl (hb hby d1_34)
  have N47 := Fr.snoc X47 N38 g_a1
  have c48 : Fld Z h47 a1 "com/example/stevedore/stevedore/MoveGraph" "free" "[I" (.ref a7) := c46.same W47
  have c49 : Exa Z h47 a1 "com/example/stevedore/stevedore/MoveGraph" := c40.wr W47
  have c50 : Fld Z h47 a1 "com/example/stevedore/stevedore/MoveGraph" "from" "[I" (.ref a2) := c41.other W47 (Or.inr (slot_ne (Or.inr (hw _ (List.mem_of_getElem? (i := 16) rfl))) (Or.inr (hw _ (List.mem_of_getElem? (i := 26) rfl))) (by decide) (t := (.array .int)) (t' := (.array .int)) (by decide) (by decide)))
  have c51 : Fld Z h47 a1 "com/example/stevedore/stevedore/MoveGraph" "to" "[I" (.ref a3) := c42.other W47 (Or.inr (slot_ne (Or.inr (hw _ (List.mem_of_getElem? (i := 18) rfl))) (Or.inr (hw _ (List.mem_of_getElem? (i := 26) rfl))) (by decide) (t := (.array .int)) (t' := (.array .int)) (by decide) (by decide)))
  have c52 : Fld Z h47 a1 "com/example/stevedore/stevedore/MoveGraph" "limit" "[I" (.ref a4) := c43.other W47 (Or.inr (slot_ne (Or.inr (hw _ (List.mem_of_getElem? (i := 20) rfl))) (Or.inr (hw _ (List.mem_of_getElem? (i := 26) rfl))) (by decide) (t := (.array .int)) (t' := (.array .int)) (by decide) (by decide)))
  have c53 : Fld Z h47 a1 "com/example/stevedore/stevedore/MoveGraph" "send" "[I" (.ref a5) := c44.other W47 (Or.inr (slot_ne (Or.inr (hw _ (List.mem_of_getElem? (i := 22) rfl))) (Or.inr (hw _ (List.mem_of_getElem? (i := 26) rfl))) (by decide) (t := (.array .int)) (t' := (.array .int)) (by decide) (by decide)))
  have c54 : Fld Z h47 a1 "com/example/stevedore/stevedore/MoveGraph" "receive" "[I" (.ref a6) := c39.other W47 (Or.inr (slot_ne (Or.inr (hw _ (List.mem_of_getElem? (i := 24) rfl))) (Or.inr (hw _ (List.mem_of_getElem? (i := 26) rfl))) (by decide) (t := (.array .int)) (t' := (.array .int)) (by decide) (by decide)))
  have K47 : Keep h0 h47 [a1] := K38.wr W47 (Or.inl (List.mem_of_getElem? (i := 0) rfl))
  refine own_step st47 ?_
  show own_G p.tables e below _ (T47.setTop (mkF m 37 #[.val (.ref a1), .val (.ref a2), .val (.ref a3), .val (.ref a4), .val (.ref a5), .val (.ref a6), .val (.ref a7)] []))
  obtain ⟨fs, hr, hrun, hended, hW, hsame⟩ := X47.leave (v := none) (fun _ => rfl)
  refine own_done (X47.returnOut hx Bd.returns (hb hby d1_37) hr) hrun hended ⟨_, _, rfl, ?_, ⟨_, rfl⟩, hW, hsame.mono (by decide) (by decide)⟩
  show Q1 Z a1 a2 a3 a4 a5 a6 a7 u_from_a1 u_to_a1 u_limit_a1 u_send_a1 u_receive_a1 u_free_a1 h0 n0 _ T47.heap _
  rw [e47]
  exact ⟨rfl, N47, K47, c50, c51, c52, c53, c54, c48⟩
theorem d4_0 : decode prog_15_method_5_code 0 = .ok (.iconst 2, 1) := by decide +kernel
theorem d4_1 : decode prog_15_method_5_code 1 = .ok (.aload_n 0, 1) := by decide +kernel
theorem d4_2 : decode prog_15_method_5_code 2 = .ok (.getfield 7, 3) := by decide +kernel
theorem d4_5 : decode prog_15_method_5_code 5 = .ok (.arraylength, 1) := by decide +kernel
theorem d4_6 : decode prog_15_method_5_code 6 = .ok (.imul, 1) := by decide +kernel
theorem d4_7 : decode prog_15_method_5_code 7 = .ok (.newarray .int, 2) := by decide +kernel
theorem d4_9 : decode prog_15_method_5_code 9 = .ok (.astore_n 1, 1) := by decide +kernel
theorem d4_10 : decode prog_15_method_5_code 10 = .ok (.iconst 0, 1) := by decide +kernel
theorem d4_11 : decode prog_15_method_5_code 11 = .ok (.istore_n 2, 1) := by decide +kernel
theorem d4_12 : decode prog_15_method_5_code 12 = .ok (.iload_n 2, 1) := by decide +kernel
theorem d4_13 : decode prog_15_method_5_code 13 = .ok (.aload_n 0, 1) := by decide +kernel
theorem d4_14 : decode prog_15_method_5_code 14 = .ok (.getfield 7, 3) := by decide +kernel
theorem d4_17 : decode prog_15_method_5_code 17 = .ok (.arraylength, 1) := by decide +kernel
theorem d4_18 : decode prog_15_method_5_code 18 = .ok (.if_icmp .ge 33, 3) := by decide +kernel
theorem d4_51 : decode prog_15_method_5_code 51 = .ok (.aload_n 1, 1) := by decide +kernel
theorem d4_52 : decode prog_15_method_5_code 52 = .ok (.areturn, 1) := by decide +kernel
theorem pn_4_k0 : plainName "com/example/stevedore/stevedore/MoveGraph" = true := by first | (simp [plainName, overriddenIn]; done) | decide +kernel
theorem ef_4_k0 (m : MethodId) (a1 : Addr) : entryFrame m #[(.ref a1)] 3 = mkF m 0 #[.val (.ref a1), .unset, .unset] [] := by first | (simp [entryFrame, mkF, argsToLocals, Value.category]; done) | rfl
def Q4_k0 (Z : State) (a1 : Addr) (u_from : Addr) (u_to : Addr) (h0 : Heap) (n0 : Nat) (v : Option Value) (h : Heap) (L : List Loc) : Prop := ∃ (rb : Addr), v = some (.ref rb) ∧ Fr n0 L ∧ Keep h0 h [] ∧ own_Ari Z h rb .int [] ∧ h0.size ≤ rb
set_option maxRecDepth 65536 in
set_option maxHeartbeats 40000000 in
theorem rm4_k0 (l : Launch) (Z : State) (a0 : Array Value) (hw : ∀ d ∈ tables_1, d.before a0 Z = true) (ws : List Jvm.Cond) (a1 : Addr) (u_from : Addr) (u_to : Addr) (h0 : Heap) (n0 : Nat) (Z0 : n0 ≤ h0.size) (fp0 : Fld Z h0 a1 "com/example/stevedore/stevedore/MoveGraph" "from" "[I" (.ref u_from)) (fp1 : Fld Z h0 a1 "com/example/stevedore/stevedore/MoveGraph" "to" "[I" (.ref u_to)) (fp2 : own_Ari Z h0 u_from .int []) (fp3 : own_Ari Z h0 u_to .int []) :
    MetFree l (⟨"com/example/stevedore/stevedore/MoveGraph", "ends", "()[I"⟩ : MethodName) (head1 (Jvm.Cond.code (⟨"com/example/stevedore/stevedore/MoveGraph", "ends", "()[I"⟩ : MethodName) prog_15_method_5_code 3 (some (.array .int)) :: ws) ({ frames := 0, cells := 1, slots := 0, locals := 0 } : Room)) (fun a U => a = #[(.ref a1)] ∧ Z.Warmed39 U.vm ∧ U.heap = h0) (fun _ _ _ _ _ => True) (fun _ U o U' => ∃ v L, o = .returned v ∧ Q4_k0 Z a1 u_from u_to h0 n0 v U'.heap L ∧ FrameEnd U o U' L ({ frames := 0, cells := 1, slots := 0, locals := 0 } : Room).cells ({ frames := 0, cells := 1, slots := 0, locals := 0 } : Room).slots) := by
  refine MetFree.of_bodySF (plainFor_of_name pn_4_k0) hisR ?_
  intro p e s m args below meth c s₁ Bd hml0 hP hK
  obtain ⟨rfl, hZ, hh⟩ := hP
  have hx := Bd.exec
  have hby := Bd.bytes
  have hml : c.maxLocals = 3 := hml0
  have hown : s.vm.findClass "com/example/stevedore/stevedore/MoveGraph" = some m.cls := findClass_of_methodNamed Bd.named
  have hnm := (name_of_methodNamed Bd.named Bd.method).1
  have X0 : Stand p l e ({ frames := 0, cells := 1, slots := 0, locals := 0 } : Room) s m #[(.ref a1)] below meth c s₁ [] 0 0 := Stand.of_body Bd
  have e0 : s₁.heap = h0 := by rw [← hh, Bd.state]; rfl
  have N0 := Fr.nil n0
  refine own_start (fun t k => castTop (ef_4_k0 m a1) k) ?_
  show own_G p.tables e below _ (s₁.setTop (mkF m 0 #[.val (.ref a1), .unset, .unset] []))
  refine own_step (fun t k => XS.iconst X0.here hx rfl (hb hby d4_0) k) ?_
  show own_G p.tables e below _ (s₁.setTop (mkF m 1 #[.val (.ref a1), .unset, .unset] [(.int (2 : Int32))]))
  refine own_step (fun t k => XS.aloadN X0.here hx rfl (hb hby d4_1) rfl rfl k) ?_
  show own_G p.tables e below _ (s₁.setTop (mkF m 2 #[.val (.ref a1), .unset, .unset] [(.ref a1), (.int (2 : Int32))]))
  obtain ⟨T1, X1, e1, st1⟩ := getF X0 hx hZ hown (host := "") (Or.inl (hw _ (List.mem_of_getElem? (i := 15) rfl))) Via.refl e0 fp0 (g := (mkF m 2 #[.val (.ref a1), .unset, .unset] [(.ref a1), (.int (2 : Int32))])) rfl rfl (hb hby d4_2)
  refine own_step st1 ?_
  show own_G p.tables e below _ (T1.setTop (mkF m 5 #[.val (.ref a1), .unset, .unset] [(.ref u_from), (.int (2 : Int32))]))
  refine own_step (own_lenI X1 hx hZ e1 fp2 (g := (mkF m 5 #[.val (.ref a1), .unset, .unset] [(.ref u_from), (.int (2 : Int32))])) rfl rfl (hb hby d4_5)) ?_
  show own_G p.tables e below _ (T1.setTop (mkF m 6 #[.val (.ref a1), .unset, .unset] [(.int (0 : Int32)), (.int (2 : Int32))]))
  refine own_step (fun t k => XS.imul X1.here hx rfl (hb hby d4_6) rfl k) ?_
  show own_G p.tables e below _ (T1.setTop (mkF m 7 #[.val (.ref a1), .unset, .unset] [(.int (0 : Int32))]))
  obtain ⟨T2, h2, k2, X2, e2, E2, A2, st2⟩ := newP X1 hx hZ (hw _ (List.mem_of_getElem? (i := 0) rfl)) e1 (g := (mkF m 7 #[.val (.ref a1), .unset, .unset] [(.int (0 : Int32))])) rfl (hb hby d4_7) rfl (by decide) (cap := 0) (by decide) (by decide) (by decide) (by decide)
  obtain ⟨b2, g2⟩ : ∃ z, z = h0.size := ⟨_, rfl⟩
  have ne3 : a1 ≠ b2 := Nat.ne_of_lt (Nat.lt_of_lt_of_le fp0.lt (Nat.le_of_eq g2.symm))
  have ne4 : u_from ≠ b2 := Nat.ne_of_lt (Nat.lt_of_lt_of_le fp2.lt (Nat.le_of_eq g2.symm))
  have ne5 : u_to ≠ b2 := Nat.ne_of_lt (Nat.lt_of_lt_of_le fp3.lt (Nat.le_of_eq g2.symm))
  have sz2 : h0.size ≤ b2 := Nat.le_trans (Keep.refl h0 []).1 (Nat.le_of_eq g2.symm)
  have ge2 : n0 ≤ b2 := Nat.le_trans Z0 sz2
  have c6 : Fld Z h2 a1 "com/example/stevedore/stevedore/MoveGraph" "from" "[I" (.ref u_from) := fp0.ext E2
  have c7 : Fld Z h2 a1 "com/example/stevedore/stevedore/MoveGraph" "to" "[I" (.ref u_to) := fp1.ext E2
  have c8 : own_Ari Z h2 u_from .int [] := fp2.ext E2
  have c9 : own_Ari Z h2 u_to .int [] := fp3.ext E2
  have K2 : Keep h0 h2 [] := (Keep.refl h0 []).ext E2
  rw [← g2] at A2 st2
  have c10 : own_Ari Z h2 b2 .int [] := own_Ari_new (ty := .int) A2 (by decide) rfl
  refine own_step st2 ?_
  show own_G p.tables e below _ (T2.setTop (mkF m 9 #[.val (.ref a1), .unset, .unset] [(.ref b2)]))
  refine own_step (fun t k => XS.astoreN X2.here hx rfl (hb hby d4_9) rfl rfl (l' := #[.val (.ref a1), .val (.ref b2), .unset]) rfl k) ?_
  show own_G p.tables e below _ (T2.setTop (mkF m 10 #[.val (.ref a1), .val (.ref b2), .unset] []))
  refine own_step (fun t k => XS.iconst X2.here hx rfl (hb hby d4_10) k) ?_
  show own_G p.tables e below _ (T2.setTop (mkF m 11 #[.val (.ref a1), .val (.ref b2), .unset] [(.int (0 : Int32))]))
  refine own_step (fun t k => XS.istoreN X2.here hx rfl (hb hby d4_11) rfl (l' := #[.val (.ref a1), .val (.ref b2), .val (.int (0 : Int32))]) rfl k) ?_
  show own_G p.tables e below _ (T2.setTop (mkF m 12 #[.val (.ref a1), .val (.ref b2), .val (.int (0 : Int32))] []))
  refine own_step (fun t k => XS.iloadN X2.here hx rfl (hb hby d4_12) rfl k) ?_
  show own_G p.tables e below _ (T2.setTop (mkF m 13 #[.val (.ref a1), .val (.ref b2), .val (.int (0 : Int32))] [(.int (0 : Int32))]))
  refine own_step (fun t k => XS.aloadN X2.here hx rfl (hb hby d4_13) rfl rfl k) ?_
  show own_G p.tables e below _ (T2.setTop (mkF m 14 #[.val (.ref a1), .val (.ref b2), .val (.int (0 : Int32))] [(.ref a1), (.int (0 : Int32))]))
  obtain ⟨T11, X11, e11, st11⟩ := getF X2 hx hZ hown (host := "") (Or.inl (hw _ (List.mem_of_getElem? (i := 15) rfl))) Via.refl e2 c6 (g := (mkF m 14 #[.val (.ref a1), .val (.ref b2), .val (.int (0 : Int32))] [(.ref a1), (.int (0 : Int32))])) rfl rfl (hb hby d4_14)
  refine own_step st11 ?_
  show own_G p.tables e below _ (T11.setTop (mkF m 17 #[.val (.ref a1), .val (.ref b2), .val (.int (0 : Int32))] [(.ref u_from), (.int (0 : Int32))]))
  refine own_step (own_lenI X11 hx hZ e11 c8 (g := (mkF m 17 #[.val (.ref a1), .val (.ref b2), .val (.int (0 : Int32))] [(.ref u_from), (.int (0 : Int32))])) rfl rfl (hb hby d4_17)) ?_
  show own_G p.tables e below _ (T11.setTop (mkF m 18 #[.val (.ref a1), .val (.ref b2), .val (.int (0 : Int32))] [(.int (0 : Int32)), (.int (0 : Int32))]))
  have hk12 : ¬ ((0 : Int32) < (0 : Int32)) := (by decide)
  refine own_step (fun t k => XS.icmpYes X11.here hx rfl (pc0 := 18) (pc' := 51) rfl (hb hby d4_18) rfl ((flt hk12).2.1) (by decide) (by decide) k) ?_
  show own_G p.tables e below _ (T11.setTop (mkF m 51 #[.val (.ref a1), .val (.ref b2), .val (.int (0 : Int32))] []))
  refine own_step (fun t k => XS.aloadN X11.here hx rfl (hb hby d4_51) rfl rfl k) ?_
  show own_G p.tables e below _ (T11.setTop (mkF m 52 #[.val (.ref a1), .val (.ref b2), .val (.int (0 : Int32))] [(.ref b2)]))
  obtain ⟨fs, hr, hrun, hended, hW, hsame⟩ := X11.leave (v := some (.ref b2)) (fun h => by rw [Bd.returns] at h; cases h)
  refine own_done (own_retA X11 hx Bd.returns (by decide) rfl (hb hby d4_52) hr) hrun hended ⟨_, _, rfl, ?_, ⟨_, rfl⟩, hW, hsame.mono (by decide) (by decide)⟩
  show Q4_k0 Z a1 u_from u_to h0 n0 _ T11.heap _
  rw [e11]
  exact ⟨b2, rfl, N0, K2, c10, sz2⟩
theorem d5_0 : decode method_5_code 0 = .ok (.iload_n 3, 1) := by decide +kernel
theorem d5_1 : decode method_5_code 1 = .ok (.iload 4, 2) := by decide +kernel
theorem d5_3 : decode method_5_code 3 = .ok (.if_icmp .lt 5, 3) := by decide +kernel
theorem d5_6 : decode method_5_code 6 = .ok (.iconst 1, 1) := by decide +kernel
theorem d5_7 : decode method_5_code 7 = .ok (.ireturn, 1) := by decide +kernel
theorem pn_5_e0_0 : plainName "com/example/stevedore/stevedore/MoveGraphEndsPinLaw" = true := by first | (simp [plainName, overriddenIn]; done) | decide +kernel
theorem ef_5_e0_0 (m : MethodId) (a1 : Addr) (a2 : Addr) (a3 : Addr) (q6 : Int64) : entryFrame m #[(.ref a1), (.ref a2), (.ref a3), (.int (0 : Int32)), (.int (0 : Int32)), (.long q6)] 7 = mkF m 0 #[.val (.ref a1), .val (.ref a2), .val (.ref a3), .val (.int (0 : Int32)), .val (.int (0 : Int32)), .val (.long q6), .second] [] := by first | (simp [entryFrame, mkF, argsToLocals, Value.category]; done) | rfl
def Q5_e0_0 (Z : State) (a1 : Addr) (a2 : Addr) (a3 : Addr) (q6 : Int64) (h0 : Heap) (n0 : Nat) (v : Option Value) (h : Heap) (L : List Loc) : Prop := v = some (.int (1 : Int32)) ∧ Fr n0 L ∧ h = h0
set_option maxRecDepth 65536 in
set_option maxHeartbeats 40000000 in
theorem rm5_e0_0 (l : Launch) (Z : State) (a0 : Array Value) (hw : ∀ d ∈ tables_1, d.before a0 Z = true) (ws : List Jvm.Cond) (a1 : Addr) (a2 : Addr) (a3 : Addr) (q6 : Int64) (h0 : Heap) (n0 : Nat) (Z0 : n0 ≤ h0.size) (fp0 : own_Ari Z h0 a1 .int []) (fp1 : own_Ari Z h0 a2 .int []) (fp2 : own_Ari Z h0 a3 .int []) :
    MetFree l (⟨"com/example/stevedore/stevedore/MoveGraphEndsPinLaw", "pair", "([I[I[IIIJ)Z"⟩ : MethodName) (head1 (Jvm.Cond.code (⟨"com/example/stevedore/stevedore/MoveGraphEndsPinLaw", "pair", "([I[I[IIIJ)Z"⟩ : MethodName) method_5_code 7 (some .boolean) :: ws) ({ frames := 0, cells := 0, slots := 0, locals := 0 } : Room)) (fun a U => a = #[(.ref a1), (.ref a2), (.ref a3), (.int (0 : Int32)), (.int (0 : Int32)), (.long q6)] ∧ Z.Warmed39 U.vm ∧ U.heap = h0) (fun _ _ _ _ _ => True) (fun _ U o U' => ∃ v L, o = .returned v ∧ Q5_e0_0 Z a1 a2 a3 q6 h0 n0 v U'.heap L ∧ FrameEnd U o U' L ({ frames := 0, cells := 0, slots := 0, locals := 0 } : Room).cells ({ frames := 0, cells := 0, slots := 0, locals := 0 } : Room).slots) := by
  refine MetFree.of_bodySF (plainFor_of_name pn_5_e0_0) hisR ?_
  intro p e s m args below meth c s₁ Bd hml0 hP hK
  obtain ⟨rfl, hZ, hh⟩ := hP
  have hx := Bd.exec
  have hby := Bd.bytes
  have hml : c.maxLocals = 7 := hml0
  have hown : s.vm.findClass "com/example/stevedore/stevedore/MoveGraphEndsPinLaw" = some m.cls := findClass_of_methodNamed Bd.named
  have hnm := (name_of_methodNamed Bd.named Bd.method).1
  have X0 : Stand p l e ({ frames := 0, cells := 0, slots := 0, locals := 0 } : Room) s m #[(.ref a1), (.ref a2), (.ref a3), (.int (0 : Int32)), (.int (0 : Int32)), (.long q6)] below meth c s₁ [] 0 0 := Stand.of_body Bd
  have e0 : s₁.heap = h0 := by rw [← hh, Bd.state]; rfl
  have N0 := Fr.nil n0
  refine own_start (fun t k => castTop (ef_5_e0_0 m a1 a2 a3 q6) k) ?_
  show own_G p.tables e below _ (s₁.setTop (mkF m 0 #[.val (.ref a1), .val (.ref a2), .val (.ref a3), .val (.int (0 : Int32)), .val (.int (0 : Int32)), .val (.long q6), .second] []))
  refine own_step (fun t k => XS.iloadN X0.here hx rfl (hb hby d5_0) rfl k) ?_
  show own_G p.tables e below _ (s₁.setTop (mkF m 1 #[.val (.ref a1), .val (.ref a2), .val (.ref a3), .val (.int (0 : Int32)), .val (.int (0 : Int32)), .val (.long q6), .second] [(.int (0 : Int32))]))
  refine own_step (fun t k => XS.iload X0.here hx rfl (hb hby d5_1) rfl k) ?_
  show own_G p.tables e below _ (s₁.setTop (mkF m 3 #[.val (.ref a1), .val (.ref a2), .val (.ref a3), .val (.int (0 : Int32)), .val (.int (0 : Int32)), .val (.long q6), .second] [(.int (0 : Int32)), (.int (0 : Int32))]))
  have hk1 : ¬ ((0 : Int32) < (0 : Int32)) := (by decide)
  refine own_step (fun t k => XS.icmpNo X0.here hx rfl (hb hby d5_3) rfl ((flt hk1).1) k) ?_
  show own_G p.tables e below _ (s₁.setTop (mkF m 6 #[.val (.ref a1), .val (.ref a2), .val (.ref a3), .val (.int (0 : Int32)), .val (.int (0 : Int32)), .val (.long q6), .second] []))
  refine own_step (fun t k => XS.iconst X0.here hx rfl (hb hby d5_6) k) ?_
  show own_G p.tables e below _ (s₁.setTop (mkF m 7 #[.val (.ref a1), .val (.ref a2), .val (.ref a3), .val (.int (0 : Int32)), .val (.int (0 : Int32)), .val (.long q6), .second] [(.int (1 : Int32))]))
  obtain ⟨fs, hr, hrun, hended, hW, hsame⟩ := X0.leave (v := some (.int (1 : Int32))) (fun h => by rw [Bd.returns] at h; cases h)
  refine own_done (retN X0 hx (t := .boolean) Bd.returns (by simp) (hb hby d5_7) hr) hrun hended ⟨_, _, rfl, ?_, ⟨_, rfl⟩, hW, hsame.mono (by decide) (by decide)⟩
  show Q5_e0_0 Z a1 a2 a3 q6 h0 n0 _ s₁.heap _
  rw [e0]
  exact ⟨congrArg (fun z => some (Value.int z)) (show (1 : Int32) = (1 : Int32) from rfl), N0, rfl⟩
theorem pn_5_e1_0 : plainName "com/example/stevedore/stevedore/MoveGraphEndsPinLaw" = true := by first | (simp [plainName, overriddenIn]; done) | decide +kernel
theorem ef_5_e1_0 (m : MethodId) (a1 : Addr) (a2 : Addr) (a3 : Addr) (q6 : Int64) : entryFrame m #[(.ref a1), (.ref a2), (.ref a3), (.int (1 : Int32)), (.int (0 : Int32)), (.long q6)] 7 = mkF m 0 #[.val (.ref a1), .val (.ref a2), .val (.ref a3), .val (.int (1 : Int32)), .val (.int (0 : Int32)), .val (.long q6), .second] [] := by first | (simp [entryFrame, mkF, argsToLocals, Value.category]; done) | rfl
def Q5_e1_0 (Z : State) (a1 : Addr) (a2 : Addr) (a3 : Addr) (q6 : Int64) (h0 : Heap) (n0 : Nat) (v : Option Value) (h : Heap) (L : List Loc) : Prop := v = some (.int (1 : Int32)) ∧ Fr n0 L ∧ h = h0
set_option maxRecDepth 65536 in
set_option maxHeartbeats 40000000 in
theorem rm5_e1_0 (l : Launch) (Z : State) (a0 : Array Value) (hw : ∀ d ∈ tables_1, d.before a0 Z = true) (ws : List Jvm.Cond) (a1 : Addr) (a2 : Addr) (a3 : Addr) (q6 : Int64) (h0 : Heap) (n0 : Nat) (Z0 : n0 ≤ h0.size) (fp0 : own_Ari Z h0 a1 .int []) (fp1 : own_Ari Z h0 a2 .int []) (fp2 : own_Ari Z h0 a3 .int []) :
    MetFree l (⟨"com/example/stevedore/stevedore/MoveGraphEndsPinLaw", "pair", "([I[I[IIIJ)Z"⟩ : MethodName) (head1 (Jvm.Cond.code (⟨"com/example/stevedore/stevedore/MoveGraphEndsPinLaw", "pair", "([I[I[IIIJ)Z"⟩ : MethodName) method_5_code 7 (some .boolean) :: ws) ({ frames := 0, cells := 0, slots := 0, locals := 0 } : Room)) (fun a U => a = #[(.ref a1), (.ref a2), (.ref a3), (.int (1 : Int32)), (.int (0 : Int32)), (.long q6)] ∧ Z.Warmed39 U.vm ∧ U.heap = h0) (fun _ _ _ _ _ => True) (fun _ U o U' => ∃ v L, o = .returned v ∧ Q5_e1_0 Z a1 a2 a3 q6 h0 n0 v U'.heap L ∧ FrameEnd U o U' L ({ frames := 0, cells := 0, slots := 0, locals := 0 } : Room).cells ({ frames := 0, cells := 0, slots := 0, locals := 0 } : Room).slots) := by
  refine MetFree.of_bodySF (plainFor_of_name pn_5_e1_0) hisR ?_
  intro p e s m args below meth c s₁ Bd hml0 hP hK
  obtain ⟨rfl, hZ, hh⟩ := hP
  have hx := Bd.exec
  have hby := Bd.bytes
  have hml : c.maxLocals = 7 := hml0
  have hown : s.vm.findClass "com/example/stevedore/stevedore/MoveGraphEndsPinLaw" = some m.cls := findClass_of_methodNamed Bd.named
  have hnm := (name_of_methodNamed Bd.named Bd.method).1
  have X0 : Stand p l e ({ frames := 0, cells := 0, slots := 0, locals := 0 } : Room) s m #[(.ref a1), (.ref a2), (.ref a3), (.int (1 : Int32)), (.int (0 : Int32)), (.long q6)] below meth c s₁ [] 0 0 := Stand.of_body Bd
  have e0 : s₁.heap = h0 := by rw [← hh, Bd.state]; rfl
  have N0 := Fr.nil n0
  refine own_start (fun t k => castTop (ef_5_e1_0 m a1 a2 a3 q6) k) ?_
  show own_G p.tables e below _ (s₁.setTop (mkF m 0 #[.val (.ref a1), .val (.ref a2), .val (.ref a3), .val (.int (1 : Int32)), .val (.int (0 : Int32)), .val (.long q6), .second] []))
  refine own_step (fun t k => XS.iloadN X0.here hx rfl (hb hby d5_0) rfl k) ?_
  show own_G p.tables e below _ (s₁.setTop (mkF m 1 #[.val (.ref a1), .val (.ref a2), .val (.ref a3), .val (.int (1 : Int32)), .val (.int (0 : Int32)), .val (.long q6), .second] [(.int (1 : Int32))]))
  refine own_step (fun t k => XS.iload X0.here hx rfl (hb hby d5_1) rfl k) ?_
  show own_G p.tables e below _ (s₁.setTop (mkF m 3 #[.val (.ref a1), .val (.ref a2), .val (.ref a3), .val (.int (1 : Int32)), .val (.int (0 : Int32)), .val (.long q6), .second] [(.int (0 : Int32)), (.int (1 : Int32))]))
  have hk1 : ¬ ((1 : Int32) < (0 : Int32)) := (by decide)
  refine own_step (fun t k => XS.icmpNo X0.here hx rfl (hb hby d5_3) rfl ((flt hk1).1) k) ?_
  show own_G p.tables e below _ (s₁.setTop (mkF m 6 #[.val (.ref a1), .val (.ref a2), .val (.ref a3), .val (.int (1 : Int32)), .val (.int (0 : Int32)), .val (.long q6), .second] []))
  refine own_step (fun t k => XS.iconst X0.here hx rfl (hb hby d5_6) k) ?_
  show own_G p.tables e below _ (s₁.setTop (mkF m 7 #[.val (.ref a1), .val (.ref a2), .val (.ref a3), .val (.int (1 : Int32)), .val (.int (0 : Int32)), .val (.long q6), .second] [(.int (1 : Int32))]))
  obtain ⟨fs, hr, hrun, hended, hW, hsame⟩ := X0.leave (v := some (.int (1 : Int32))) (fun h => by rw [Bd.returns] at h; cases h)
  refine own_done (retN X0 hx (t := .boolean) Bd.returns (by simp) (hb hby d5_7) hr) hrun hended ⟨_, _, rfl, ?_, ⟨_, rfl⟩, hW, hsame.mono (by decide) (by decide)⟩
  show Q5_e1_0 Z a1 a2 a3 q6 h0 n0 _ s₁.heap _
  rw [e0]
  exact ⟨congrArg (fun z => some (Value.int z)) (show (1 : Int32) = (1 : Int32) from rfl), N0, rfl⟩
theorem pn_5_e2_0 : plainName "com/example/stevedore/stevedore/MoveGraphEndsPinLaw" = true := by first | (simp [plainName, overriddenIn]; done) | decide +kernel
theorem ef_5_e2_0 (m : MethodId) (a1 : Addr) (a2 : Addr) (a3 : Addr) (q6 : Int64) : entryFrame m #[(.ref a1), (.ref a2), (.ref a3), (.int (2 : Int32)), (.int (0 : Int32)), (.long q6)] 7 = mkF m 0 #[.val (.ref a1), .val (.ref a2), .val (.ref a3), .val (.int (2 : Int32)), .val (.int (0 : Int32)), .val (.long q6), .second] [] := by first | (simp [entryFrame, mkF, argsToLocals, Value.category]; done) | rfl
def Q5_e2_0 (Z : State) (a1 : Addr) (a2 : Addr) (a3 : Addr) (q6 : Int64) (h0 : Heap) (n0 : Nat) (v : Option Value) (h : Heap) (L : List Loc) : Prop := v = some (.int (1 : Int32)) ∧ Fr n0 L ∧ h = h0
set_option maxRecDepth 65536 in
set_option maxHeartbeats 40000000 in
theorem rm5_e2_0 (l : Launch) (Z : State) (a0 : Array Value) (hw : ∀ d ∈ tables_1, d.before a0 Z = true) (ws : List Jvm.Cond) (a1 : Addr) (a2 : Addr) (a3 : Addr) (q6 : Int64) (h0 : Heap) (n0 : Nat) (Z0 : n0 ≤ h0.size) (fp0 : own_Ari Z h0 a1 .int []) (fp1 : own_Ari Z h0 a2 .int []) (fp2 : own_Ari Z h0 a3 .int []) :
    MetFree l (⟨"com/example/stevedore/stevedore/MoveGraphEndsPinLaw", "pair", "([I[I[IIIJ)Z"⟩ : MethodName) (head1 (Jvm.Cond.code (⟨"com/example/stevedore/stevedore/MoveGraphEndsPinLaw", "pair", "([I[I[IIIJ)Z"⟩ : MethodName) method_5_code 7 (some .boolean) :: ws) ({ frames := 0, cells := 0, slots := 0, locals := 0 } : Room)) (fun a U => a = #[(.ref a1), (.ref a2), (.ref a3), (.int (2 : Int32)), (.int (0 : Int32)), (.long q6)] ∧ Z.Warmed39 U.vm ∧ U.heap = h0) (fun _ _ _ _ _ => True) (fun _ U o U' => ∃ v L, o = .returned v ∧ Q5_e2_0 Z a1 a2 a3 q6 h0 n0 v U'.heap L ∧ FrameEnd U o U' L ({ frames := 0, cells := 0, slots := 0, locals := 0 } : Room).cells ({ frames := 0, cells := 0, slots := 0, locals := 0 } : Room).slots) := by
  refine MetFree.of_bodySF (plainFor_of_name pn_5_e2_0) hisR ?_
  intro p e s m args below meth c s₁ Bd hml0 hP hK
  obtain ⟨rfl, hZ, hh⟩ := hP
  have hx := Bd.exec
  have hby := Bd.bytes
  have hml : c.maxLocals = 7 := hml0
  have hown : s.vm.findClass "com/example/stevedore/stevedore/MoveGraphEndsPinLaw" = some m.cls := findClass_of_methodNamed Bd.named
  have hnm := (name_of_methodNamed Bd.named Bd.method).1
  have X0 : Stand p l e ({ frames := 0, cells := 0, slots := 0, locals := 0 } : Room) s m #[(.ref a1), (.ref a2), (.ref a3), (.int (2 : Int32)), (.int (0 : Int32)), (.long q6)] below meth c s₁ [] 0 0 := Stand.of_body Bd
  have e0 : s₁.heap = h0 := by rw [← hh, Bd.state]; rfl
  have N0 := Fr.nil n0
  refine own_start (fun t k => castTop (ef_5_e2_0 m a1 a2 a3 q6) k) ?_
  show own_G p.tables e below _ (s₁.setTop (mkF m 0 #[.val (.ref a1), .val (.ref a2), .val (.ref a3), .val (.int (2 : Int32)), .val (.int (0 : Int32)), .val (.long q6), .second] []))
  refine own_step (fun t k => XS.iloadN X0.here hx rfl (hb hby d5_0) rfl k) ?_
  show own_G p.tables e below _ (s₁.setTop (mkF m 1 #[.val (.ref a1), .val (.ref a2), .val (.ref a3), .val (.int (2 : Int32)), .val (.int (0 : Int32)), .val (.long q6), .second] [(.int (2 : Int32))]))
  refine own_step (fun t k => XS.iload X0.here hx rfl (hb hby d5_1) rfl k) ?_
  show own_G p.tables e below _ (s₁.setTop (mkF m 3 #[.val (.ref a1), .val (.ref a2), .val (.ref a3), .val (.int (2 : Int32)), .val (.int (0 : Int32)), .val (.long q6), .second] [(.int (0 : Int32)), (.int (2 : Int32))]))
  have hk1 : ¬ ((2 : Int32) < (0 : Int32)) := (by decide)
  refine own_step (fun t k => XS.icmpNo X0.here hx rfl (hb hby d5_3) rfl ((flt hk1).1) k) ?_
  show own_G p.tables e below _ (s₁.setTop (mkF m 6 #[.val (.ref a1), .val (.ref a2), .val (.ref a3), .val (.int (2 : Int32)), .val (.int (0 : Int32)), .val (.long q6), .second] []))
  refine own_step (fun t k => XS.iconst X0.here hx rfl (hb hby d5_6) k) ?_
  show own_G p.tables e below _ (s₁.setTop (mkF m 7 #[.val (.ref a1), .val (.ref a2), .val (.ref a3), .val (.int (2 : Int32)), .val (.int (0 : Int32)), .val (.long q6), .second] [(.int (1 : Int32))]))
  obtain ⟨fs, hr, hrun, hended, hW, hsame⟩ := X0.leave (v := some (.int (1 : Int32))) (fun h => by rw [Bd.returns] at h; cases h)
  refine own_done (retN X0 hx (t := .boolean) Bd.returns (by simp) (hb hby d5_7) hr) hrun hended ⟨_, _, rfl, ?_, ⟨_, rfl⟩, hW, hsame.mono (by decide) (by decide)⟩
  show Q5_e2_0 Z a1 a2 a3 q6 h0 n0 _ s₁.heap _
  rw [e0]
  exact ⟨congrArg (fun z => some (Value.int z)) (show (1 : Int32) = (1 : Int32) from rfl), N0, rfl⟩
theorem d6_0 : decode method_3_code 0 = .ok (.lload_n 0, 1) := by decide +kernel
theorem d6_1 : decode method_3_code 1 = .ok (.bipush 32, 2) := by decide +kernel
theorem d6_3 : decode method_3_code 3 = .ok (.lushr, 1) := by decide +kernel
theorem d6_4 : decode method_3_code 4 = .ok (.l2i, 1) := by decide +kernel
theorem d6_5 : decode method_3_code 5 = .ok (.ireturn, 1) := by decide +kernel
theorem pn_6 : plainName "com/example/stevedore/stevedore/MoveGraphEndsPinLaw" = true := by first | (simp [plainName, overriddenIn]; done) | decide +kernel
theorem ef_6 (m : MethodId) (q1 : Int64) : entryFrame m #[(.long q1)] 2 = mkF m 0 #[.val (.long q1), .second] [] := by first | (simp [entryFrame, mkF, argsToLocals, Value.category]; done) | rfl
def Q6 (Z : State) (q1 : Int64) (h0 : Heap) (n0 : Nat) (v : Option Value) (h : Heap) (L : List Loc) : Prop := v = some (.int (((q1.toUInt64 >>> ((32 : Int32) &&& 0x3f).toInt64.toUInt64).toInt64).toInt32)) ∧ Fr n0 L ∧ h = h0
set_option maxRecDepth 65536 in
set_option maxHeartbeats 40000000 in
theorem rm6 (l : Launch) (Z : State) (a0 : Array Value) (hw : ∀ d ∈ tables_1, d.before a0 Z = true) (ws : List Jvm.Cond) (q1 : Int64) (h0 : Heap) (n0 : Nat) (Z0 : n0 ≤ h0.size) :
    MetFree l (⟨"com/example/stevedore/stevedore/MoveGraphEndsPinLaw", "hi", "(J)I"⟩ : MethodName) (head1 (Jvm.Cond.code (⟨"com/example/stevedore/stevedore/MoveGraphEndsPinLaw", "hi", "(J)I"⟩ : MethodName) method_3_code 2 (some .int) :: ws) ({ frames := 0, cells := 0, slots := 0, locals := 0 } : Room)) (fun a U => a = #[(.long q1)] ∧ Z.Warmed39 U.vm ∧ U.heap = h0) (fun _ _ _ _ _ => True) (fun _ U o U' => ∃ v L, o = .returned v ∧ Q6 Z q1 h0 n0 v U'.heap L ∧ FrameEnd U o U' L ({ frames := 0, cells := 0, slots := 0, locals := 0 } : Room).cells ({ frames := 0, cells := 0, slots := 0, locals := 0 } : Room).slots) := by
  refine MetFree.of_bodySF (plainFor_of_name pn_6) hisR ?_
  intro p e s m args below meth c s₁ Bd hml0 hP hK
  obtain ⟨rfl, hZ, hh⟩ := hP
  have hx := Bd.exec
  have hby := Bd.bytes
  have hml : c.maxLocals = 2 := hml0
  have hown : s.vm.findClass "com/example/stevedore/stevedore/MoveGraphEndsPinLaw" = some m.cls := findClass_of_methodNamed Bd.named
  have hnm := (name_of_methodNamed Bd.named Bd.method).1
  have X0 : Stand p l e ({ frames := 0, cells := 0, slots := 0, locals := 0 } : Room) s m #[(.long q1)] below meth c s₁ [] 0 0 := Stand.of_body Bd
  have e0 : s₁.heap = h0 := by rw [← hh, Bd.state]; rfl
  have N0 := Fr.nil n0
  refine own_start (fun t k => castTop (ef_6 m q1) k) ?_
  show own_G p.tables e below _ (s₁.setTop (mkF m 0 #[.val (.long q1), .second] []))
  refine own_step (fun t k => XS.lloadN X0.here hx rfl (hb hby d6_0) rfl k) ?_
  show own_G p.tables e below _ (s₁.setTop (mkF m 1 #[.val (.long q1), .second] [(.long q1)]))
  refine own_step (fun t k => XS.bipush X0.here hx rfl (hb hby d6_1) k) ?_
  show own_G p.tables e below _ (s₁.setTop (mkF m 3 #[.val (.long q1), .second] [(.int (32 : Int32)), (.long q1)]))
  refine own_step (fun t k => XS.lushr X0.here hx rfl (hb hby d6_3) rfl k) ?_
  show own_G p.tables e below _ (s₁.setTop (mkF m 4 #[.val (.long q1), .second] [(.long ((q1.toUInt64 >>> ((32 : Int32) &&& 0x3f).toInt64.toUInt64).toInt64))]))
  refine own_step (fun t k => XS.l2i X0.here hx rfl (hb hby d6_4) rfl k) ?_
  show own_G p.tables e below _ (s₁.setTop (mkF m 5 #[.val (.long q1), .second] [(.int (((q1.toUInt64 >>> ((32 : Int32) &&& 0x3f).toInt64.toUInt64).toInt64).toInt32))]))
  obtain ⟨fs, hr, hrun, hended, hW, hsame⟩ := X0.leave (v := some (.int (((q1.toUInt64 >>> ((32 : Int32) &&& 0x3f).toInt64.toUInt64).toInt64).toInt32))) (fun h => by rw [Bd.returns] at h; cases h)
  refine own_done (retI X0 hx Bd.returns (hb hby d6_5) hr) hrun hended ⟨_, _, rfl, ?_, ⟨_, rfl⟩, hW, hsame.mono (by decide) (by decide)⟩
  show Q6 Z q1 h0 n0 _ s₁.heap _
  rw [e0]
  exact ⟨congrArg (fun z => some (Value.int z)) (show (((q1.toUInt64 >>> ((32 : Int32) &&& 0x3f).toInt64.toUInt64).toInt64).toInt32) = (((q1.toUInt64 >>> ((32 : Int32) &&& 0x3f).toInt64.toUInt64).toInt64).toInt32) from rfl), N0, rfl⟩
theorem d7_0 : decode method_4_code 0 = .ok (.lload_n 0, 1) := by decide +kernel
theorem d7_1 : decode method_4_code 1 = .ok (.l2i, 1) := by decide +kernel
theorem d7_2 : decode method_4_code 2 = .ok (.ireturn, 1) := by decide +kernel
theorem pn_7 : plainName "com/example/stevedore/stevedore/MoveGraphEndsPinLaw" = true := by first | (simp [plainName, overriddenIn]; done) | decide +kernel
theorem ef_7 (m : MethodId) (q1 : Int64) : entryFrame m #[(.long q1)] 2 = mkF m 0 #[.val (.long q1), .second] [] := by first | (simp [entryFrame, mkF, argsToLocals, Value.category]; done) | rfl
def Q7 (Z : State) (q1 : Int64) (h0 : Heap) (n0 : Nat) (v : Option Value) (h : Heap) (L : List Loc) : Prop := v = some (.int (q1.toInt32)) ∧ Fr n0 L ∧ h = h0
set_option maxRecDepth 65536 in
set_option maxHeartbeats 40000000 in
theorem rm7 (l : Launch) (Z : State) (a0 : Array Value) (hw : ∀ d ∈ tables_1, d.before a0 Z = true) (ws : List Jvm.Cond) (q1 : Int64) (h0 : Heap) (n0 : Nat) (Z0 : n0 ≤ h0.size) :
    MetFree l (⟨"com/example/stevedore/stevedore/MoveGraphEndsPinLaw", "lo", "(J)I"⟩ : MethodName) (head1 (Jvm.Cond.code (⟨"com/example/stevedore/stevedore/MoveGraphEndsPinLaw", "lo", "(J)I"⟩ : MethodName) method_4_code 2 (some .int) :: ws) ({ frames := 0, cells := 0, slots := 0, locals := 0 } : Room)) (fun a U => a = #[(.long q1)] ∧ Z.Warmed39 U.vm ∧ U.heap = h0) (fun _ _ _ _ _ => True) (fun _ U o U' => ∃ v L, o = .returned v ∧ Q7 Z q1 h0 n0 v U'.heap L ∧ FrameEnd U o U' L ({ frames := 0, cells := 0, slots := 0, locals := 0 } : Room).cells ({ frames := 0, cells := 0, slots := 0, locals := 0 } : Room).slots) := by
  refine MetFree.of_bodySF (plainFor_of_name pn_7) hisR ?_
  intro p e s m args below meth c s₁ Bd hml0 hP hK
  obtain ⟨rfl, hZ, hh⟩ := hP
  have hx := Bd.exec
  have hby := Bd.bytes
  have hml : c.maxLocals = 2 := hml0
  have hown : s.vm.findClass "com/example/stevedore/stevedore/MoveGraphEndsPinLaw" = some m.cls := findClass_of_methodNamed Bd.named
  have hnm := (name_of_methodNamed Bd.named Bd.method).1
  have X0 : Stand p l e ({ frames := 0, cells := 0, slots := 0, locals := 0 } : Room) s m #[(.long q1)] below meth c s₁ [] 0 0 := Stand.of_body Bd
  have e0 : s₁.heap = h0 := by rw [← hh, Bd.state]; rfl
  have N0 := Fr.nil n0
  refine own_start (fun t k => castTop (ef_7 m q1) k) ?_
  show own_G p.tables e below _ (s₁.setTop (mkF m 0 #[.val (.long q1), .second] []))
  refine own_step (fun t k => XS.lloadN X0.here hx rfl (hb hby d7_0) rfl k) ?_
  show own_G p.tables e below _ (s₁.setTop (mkF m 1 #[.val (.long q1), .second] [(.long q1)]))
  refine own_step (fun t k => XS.l2i X0.here hx rfl (hb hby d7_1) rfl k) ?_
  show own_G p.tables e below _ (s₁.setTop (mkF m 2 #[.val (.long q1), .second] [(.int (q1.toInt32))]))
  obtain ⟨fs, hr, hrun, hended, hW, hsame⟩ := X0.leave (v := some (.int (q1.toInt32))) (fun h => by rw [Bd.returns] at h; cases h)
  refine own_done (retI X0 hx Bd.returns (hb hby d7_2) hr) hrun hended ⟨_, _, rfl, ?_, ⟨_, rfl⟩, hW, hsame.mono (by decide) (by decide)⟩
  show Q7 Z q1 h0 n0 _ s₁.heap _
  rw [e0]
  exact ⟨congrArg (fun z => some (Value.int z)) (show (q1.toInt32) = (q1.toInt32) from rfl), N0, rfl⟩
theorem d4_21 : decode prog_15_method_5_code 21 = .ok (.aload_n 1, 1) := by decide +kernel
theorem d4_22 : decode prog_15_method_5_code 22 = .ok (.iconst 2, 1) := by decide +kernel
theorem d4_23 : decode prog_15_method_5_code 23 = .ok (.iload_n 2, 1) := by decide +kernel
theorem d4_24 : decode prog_15_method_5_code 24 = .ok (.imul, 1) := by decide +kernel
theorem d4_25 : decode prog_15_method_5_code 25 = .ok (.aload_n 0, 1) := by decide +kernel
theorem d4_26 : decode prog_15_method_5_code 26 = .ok (.getfield 7, 3) := by decide +kernel
theorem d4_29 : decode prog_15_method_5_code 29 = .ok (.iload_n 2, 1) := by decide +kernel
theorem d4_30 : decode prog_15_method_5_code 30 = .ok (.iaload, 1) := by decide +kernel
theorem d4_31 : decode prog_15_method_5_code 31 = .ok (.iastore, 1) := by decide +kernel
theorem d4_32 : decode prog_15_method_5_code 32 = .ok (.aload_n 1, 1) := by decide +kernel
theorem d4_33 : decode prog_15_method_5_code 33 = .ok (.iconst 2, 1) := by decide +kernel
theorem d4_34 : decode prog_15_method_5_code 34 = .ok (.iload_n 2, 1) := by decide +kernel
theorem d4_35 : decode prog_15_method_5_code 35 = .ok (.imul, 1) := by decide +kernel
theorem d4_36 : decode prog_15_method_5_code 36 = .ok (.iconst 1, 1) := by decide +kernel
theorem d4_37 : decode prog_15_method_5_code 37 = .ok (.iadd, 1) := by decide +kernel
theorem d4_38 : decode prog_15_method_5_code 38 = .ok (.aload_n 0, 1) := by decide +kernel
theorem d4_39 : decode prog_15_method_5_code 39 = .ok (.getfield 13, 3) := by decide +kernel
theorem d4_42 : decode prog_15_method_5_code 42 = .ok (.iload_n 2, 1) := by decide +kernel
theorem d4_43 : decode prog_15_method_5_code 43 = .ok (.iaload, 1) := by decide +kernel
theorem d4_44 : decode prog_15_method_5_code 44 = .ok (.iastore, 1) := by decide +kernel
theorem d4_45 : decode prog_15_method_5_code 45 = .ok (.iinc 2 1, 3) := by decide +kernel
theorem d4_48 : decode prog_15_method_5_code 48 = .ok (.goto (-36), 3) := by decide +kernel
theorem pn_4_k1 : plainName "com/example/stevedore/stevedore/MoveGraph" = true := by first | (simp [plainName, overriddenIn]; done) | decide +kernel
theorem ef_4_k1 (m : MethodId) (a1 : Addr) : entryFrame m #[(.ref a1)] 3 = mkF m 0 #[.val (.ref a1), .unset, .unset] [] := by first | (simp [entryFrame, mkF, argsToLocals, Value.category]; done) | rfl
def Q4_k1 (Z : State) (a1 : Addr) (u_from : Addr) (u_to : Addr) (x0 : Int32) (yy0 : Int32) (h0 : Heap) (n0 : Nat) (v : Option Value) (h : Heap) (L : List Loc) : Prop := ∃ (rb : Addr), v = some (.ref rb) ∧ Fr n0 L ∧ Keep h0 h [] ∧ own_Ari Z h rb .int [x0, yy0] ∧ h0.size ≤ rb
set_option maxRecDepth 65536 in
set_option maxHeartbeats 40000000 in
theorem rm4_k1 (l : Launch) (Z : State) (a0 : Array Value) (hw : ∀ d ∈ tables_1, d.before a0 Z = true) (ws : List Jvm.Cond) (a1 : Addr) (u_from : Addr) (u_to : Addr) (x0 : Int32) (yy0 : Int32) (h0 : Heap) (n0 : Nat) (Z0 : n0 ≤ h0.size) (fp0 : Fld Z h0 a1 "com/example/stevedore/stevedore/MoveGraph" "from" "[I" (.ref u_from)) (fp1 : Fld Z h0 a1 "com/example/stevedore/stevedore/MoveGraph" "to" "[I" (.ref u_to)) (fp2 : own_Ari Z h0 u_from .int [x0]) (fp3 : own_Ari Z h0 u_to .int [yy0]) :
    MetFree l (⟨"com/example/stevedore/stevedore/MoveGraph", "ends", "()[I"⟩ : MethodName) (head1 (Jvm.Cond.code (⟨"com/example/stevedore/stevedore/MoveGraph", "ends", "()[I"⟩ : MethodName) prog_15_method_5_code 3 (some (.array .int)) :: ws) ({ frames := 0, cells := 1, slots := 2, locals := 0 } : Room)) (fun a U => a = #[(.ref a1)] ∧ Z.Warmed39 U.vm ∧ U.heap = h0) (fun _ _ _ _ _ => True) (fun _ U o U' => ∃ v L, o = .returned v ∧ Q4_k1 Z a1 u_from u_to x0 yy0 h0 n0 v U'.heap L ∧ FrameEnd U o U' L ({ frames := 0, cells := 1, slots := 2, locals := 0 } : Room).cells ({ frames := 0, cells := 1, slots := 2, locals := 0 } : Room).slots) := by
  refine MetFree.of_bodySF (plainFor_of_name pn_4_k1) hisR ?_
  intro p e s m args below meth c s₁ Bd hml0 hP hK
  obtain ⟨rfl, hZ, hh⟩ := hP
  have hx := Bd.exec
  have hby := Bd.bytes
  have hml : c.maxLocals = 3 := hml0
  have hown : s.vm.findClass "com/example/stevedore/stevedore/MoveGraph" = some m.cls := findClass_of_methodNamed Bd.named
  have hnm := (name_of_methodNamed Bd.named Bd.method).1
  have X0 : Stand p l e ({ frames := 0, cells := 1, slots := 2, locals := 0 } : Room) s m #[(.ref a1)] below meth c s₁ [] 0 0 := Stand.of_body Bd
  have e0 : s₁.heap = h0 := by rw [← hh, Bd.state]; rfl
  have N0 := Fr.nil n0
  refine own_start (fun t k => castTop (ef_4_k1 m a1) k) ?_
  show own_G p.tables e below _ (s₁.setTop (mkF m 0 #[.val (.ref a1), .unset, .unset] []))
  refine own_step (fun t k => XS.iconst X0.here hx rfl (hb hby d4_0) k) ?_
  show own_G p.tables e below _ (s₁.setTop (mkF m 1 #[.val (.ref a1), .unset, .unset] [(.int (2 : Int32))]))
  refine own_step (fun t k => XS.aloadN X0.here hx rfl (hb hby d4_1) rfl rfl k) ?_
  show own_G p.tables e below _ (s₁.setTop (mkF m 2 #[.val (.ref a1), .unset, .unset] [(.ref a1), (.int (2 : Int32))]))
  obtain ⟨T1, X1, e1, st1⟩ := getF X0 hx hZ hown (host := "") (Or.inl (hw _ (List.mem_of_getElem? (i := 15) rfl))) Via.refl e0 fp0 (g := (mkF m 2 #[.val (.ref a1), .unset, .unset] [(.ref a1), (.int (2 : Int32))])) rfl rfl (hb hby d4_2)
  refine own_step st1 ?_
  show own_G p.tables e below _ (T1.setTop (mkF m 5 #[.val (.ref a1), .unset, .unset] [(.ref u_from), (.int (2 : Int32))]))
  refine own_step (own_lenI X1 hx hZ e1 fp2 (g := (mkF m 5 #[.val (.ref a1), .unset, .unset] [(.ref u_from), (.int (2 : Int32))])) rfl rfl (hb hby d4_5)) ?_
  show own_G p.tables e below _ (T1.setTop (mkF m 6 #[.val (.ref a1), .unset, .unset] [(.int (1 : Int32)), (.int (2 : Int32))]))
  refine own_step (fun t k => XS.imul X1.here hx rfl (hb hby d4_6) rfl k) ?_
  show own_G p.tables e below _ (T1.setTop (mkF m 7 #[.val (.ref a1), .unset, .unset] [(.int (2 : Int32))]))
  obtain ⟨T2, h2, k2, X2, e2, E2, A2, st2⟩ := newP X1 hx hZ (hw _ (List.mem_of_getElem? (i := 0) rfl)) e1 (g := (mkF m 7 #[.val (.ref a1), .unset, .unset] [(.int (2 : Int32))])) rfl (hb hby d4_7) rfl (by decide) (cap := 2) (by decide) (by decide) (by decide) (by decide)
  obtain ⟨b2, g2⟩ : ∃ z, z = h0.size := ⟨_, rfl⟩
  have ne3 : a1 ≠ b2 := Nat.ne_of_lt (Nat.lt_of_lt_of_le fp0.lt (Nat.le_of_eq g2.symm))
  have ne4 : u_from ≠ b2 := Nat.ne_of_lt (Nat.lt_of_lt_of_le fp2.lt (Nat.le_of_eq g2.symm))
  have ne5 : u_to ≠ b2 := Nat.ne_of_lt (Nat.lt_of_lt_of_le fp3.lt (Nat.le_of_eq g2.symm))
  have sz2 : h0.size ≤ b2 := Nat.le_trans (Keep.refl h0 []).1 (Nat.le_of_eq g2.symm)
  have ge2 : n0 ≤ b2 := Nat.le_trans Z0 sz2
  have c6 : Fld Z h2 a1 "com/example/stevedore/stevedore/MoveGraph" "from" "[I" (.ref u_from) := fp0.ext E2
  have c7 : Fld Z h2 a1 "com/example/stevedore/stevedore/MoveGraph" "to" "[I" (.ref u_to) := fp1.ext E2
  have c8 : own_Ari Z h2 u_from .int [x0] := fp2.ext E2
  have c9 : own_Ari Z h2 u_to .int [yy0] := fp3.ext E2
  have K2 : Keep h0 h2 [] := (Keep.refl h0 []).ext E2
  rw [← g2] at A2 st2
  have c10 : own_Ari Z h2 b2 .int [(0 : Int32), (0 : Int32)] := own_Ari_new (ty := .int) A2 (by decide) rfl
  refine own_step st2 ?_
  show own_G p.tables e below _ (T2.setTop (mkF m 9 #[.val (.ref a1), .unset, .unset] [(.ref b2)]))
  refine own_step (fun t k => XS.astoreN X2.here hx rfl (hb hby d4_9) rfl rfl (l' := #[.val (.ref a1), .val (.ref b2), .unset]) rfl k) ?_
  show own_G p.tables e below _ (T2.setTop (mkF m 10 #[.val (.ref a1), .val (.ref b2), .unset] []))
  refine own_step (fun t k => XS.iconst X2.here hx rfl (hb hby d4_10) k) ?_
  show own_G p.tables e below _ (T2.setTop (mkF m 11 #[.val (.ref a1), .val (.ref b2), .unset] [(.int (0 : Int32))]))
  refine own_step (fun t k => XS.istoreN X2.here hx rfl (hb hby d4_11) rfl (l' := #[.val (.ref a1), .val (.ref b2), .val (.int (0 : Int32))]) rfl k) ?_
  show own_G p.tables e below _ (T2.setTop (mkF m 12 #[.val (.ref a1), .val (.ref b2), .val (.int (0 : Int32))] []))
  refine own_step (fun t k => XS.iloadN X2.here hx rfl (hb hby d4_12) rfl k) ?_
  show own_G p.tables e below _ (T2.setTop (mkF m 13 #[.val (.ref a1), .val (.ref b2), .val (.int (0 : Int32))] [(.int (0 : Int32))]))
  refine own_step (fun t k => XS.aloadN X2.here hx rfl (hb hby d4_13) rfl rfl k) ?_
  show own_G p.tables e below _ (T2.setTop (mkF m 14 #[.val (.ref a1), .val (.ref b2), .val (.int (0 : Int32))] [(.ref a1), (.int (0 : Int32))]))
  obtain ⟨T11, X11, e11, st11⟩ := getF X2 hx hZ hown (host := "") (Or.inl (hw _ (List.mem_of_getElem? (i := 15) rfl))) Via.refl e2 c6 (g := (mkF m 14 #[.val (.ref a1), .val (.ref b2), .val (.int (0 : Int32))] [(.ref a1), (.int (0 : Int32))])) rfl rfl (hb hby d4_14)
  refine own_step st11 ?_
  show own_G p.tables e below _ (T11.setTop (mkF m 17 #[.val (.ref a1), .val (.ref b2), .val (.int (0 : Int32))] [(.ref u_from), (.int (0 : Int32))]))
  refine own_step (own_lenI X11 hx hZ e11 c8 (g := (mkF m 17 #[.val (.ref a1), .val (.ref b2), .val (.int (0 : Int32))] [(.ref u_from), (.int (0 : Int32))])) rfl rfl (hb hby d4_17)) ?_
  show own_G p.tables e below _ (T11.setTop (mkF m 18 #[.val (.ref a1), .val (.ref b2), .val (.int (0 : Int32))] [(.int (1 : Int32)), (.int (0 : Int32))]))
  have hk12 : (0 : Int32) < (1 : Int32) := (by decide)
  refine own_step (fun t k => XS.icmpNo X11.here hx rfl (hb hby d4_18) rfl ((tlt hk12).2.1) k) ?_
  show own_G p.tables e below _ (T11.setTop (mkF m 21 #[.val (.ref a1), .val (.ref b2), .val (.int (0 : Int32))] []))
  refine own_step (fun t k => XS.aloadN X11.here hx rfl (hb hby d4_21) rfl rfl k) ?_
  show own_G p.tables e below _ (T11.setTop (mkF m 22 #[.val (.ref a1), .val (.ref b2), .val (.int (0 : Int32))] [(.ref b2)]))
  refine own_step (fun t k => XS.iconst X11.here hx rfl (hb hby d4_22) k) ?_
  show own_G p.tables e below _ (T11.setTop (mkF m 23 #[.val (.ref a1), .val (.ref b2), .val (.int (0 : Int32))] [(.int (2 : Int32)), (.ref b2)]))
  refine own_step (fun t k => XS.iloadN X11.here hx rfl (hb hby d4_23) rfl k) ?_
  show own_G p.tables e below _ (T11.setTop (mkF m 24 #[.val (.ref a1), .val (.ref b2), .val (.int (0 : Int32))] [(.int (0 : Int32)), (.int (2 : Int32)), (.ref b2)]))
  refine own_step (fun t k => XS.imul X11.here hx rfl (hb hby d4_24) rfl k) ?_
  show own_G p.tables e below _ (T11.setTop (mkF m 25 #[.val (.ref a1), .val (.ref b2), .val (.int (0 : Int32))] [(.int (0 : Int32)), (.ref b2)]))
  refine own_step (fun t k => XS.aloadN X11.here hx rfl (hb hby d4_25) rfl rfl k) ?_
  show own_G p.tables e below _ (T11.setTop (mkF m 26 #[.val (.ref a1), .val (.ref b2), .val (.int (0 : Int32))] [(.ref a1), (.int (0 : Int32)), (.ref b2)]))
  obtain ⟨T13, X13, e13, st13⟩ := getF X11 hx hZ hown (host := "") (Or.inl (hw _ (List.mem_of_getElem? (i := 15) rfl))) Via.refl e11 c6 (g := (mkF m 26 #[.val (.ref a1), .val (.ref b2), .val (.int (0 : Int32))] [(.ref a1), (.int (0 : Int32)), (.ref b2)])) rfl rfl (hb hby d4_26)
  refine own_step st13 ?_
  show own_G p.tables e below _ (T13.setTop (mkF m 29 #[.val (.ref a1), .val (.ref b2), .val (.int (0 : Int32))] [(.ref u_from), (.int (0 : Int32)), (.ref b2)]))
  refine own_step (fun t k => XS.iloadN X13.here hx rfl (hb hby d4_29) rfl k) ?_
  show own_G p.tables e below _ (T13.setTop (mkF m 30 #[.val (.ref a1), .val (.ref b2), .val (.int (0 : Int32))] [(.int (0 : Int32)), (.ref u_from), (.int (0 : Int32)), (.ref b2)]))
  refine own_step (own_iaload X13 hx hZ e13 c8 (own_inb (by decide) (Nat.le_of_ble_eq_true rfl)) (g := (mkF m 30 #[.val (.ref a1), .val (.ref b2), .val (.int (0 : Int32))] [(.int (0 : Int32)), (.ref u_from), (.int (0 : Int32)), (.ref b2)])) rfl rfl (hb hby d4_30)) ?_
  show own_G p.tables e below _ (T13.setTop (mkF m 31 #[.val (.ref a1), .val (.ref b2), .val (.int (0 : Int32))] [(.int x0), (.int (0 : Int32)), (.ref b2)]))
  obtain ⟨T14, h14, X14, e14, W14, c14, st14⟩ := own_iastore X13 hx hZ e13 c10 (own_inb (by decide) (Nat.le_of_ble_eq_true rfl)) (g := (mkF m 31 #[.val (.ref a1), .val (.ref b2), .val (.int (0 : Int32))] [(.int x0), (.int (0 : Int32)), (.ref b2)])) rfl rfl (hb hby d4_31)
  have N14 := Fr.snoc X14 N0 ge2
  have c15 : own_Ari Z h14 b2 .int [x0, (0 : Int32)] := c14
  have c16 : Fld Z h14 a1 "com/example/stevedore/stevedore/MoveGraph" "from" "[I" (.ref u_from) := c6.other W14 (Or.inl ne3)
  have c17 : Fld Z h14 a1 "com/example/stevedore/stevedore/MoveGraph" "to" "[I" (.ref u_to) := c7.other W14 (Or.inl ne3)
  have c18 : own_Ari Z h14 u_from .int [x0] := c8.other W14 ne4
  have c19 : own_Ari Z h14 u_to .int [yy0] := c9.other W14 ne5
  have K14 : Keep h0 h14 [] := K2.wr W14 (Or.inr sz2)
  refine own_step st14 ?_
  show own_G p.tables e below _ (T14.setTop (mkF m 32 #[.val (.ref a1), .val (.ref b2), .val (.int (0 : Int32))] []))
  refine own_step (fun t k => XS.aloadN X14.here hx rfl (hb hby d4_32) rfl rfl k) ?_
  show own_G p.tables e below _ (T14.setTop (mkF m 33 #[.val (.ref a1), .val (.ref b2), .val (.int (0 : Int32))] [(.ref b2)]))
  refine own_step (fun t k => XS.iconst X14.here hx rfl (hb hby d4_33) k) ?_
  show own_G p.tables e below _ (T14.setTop (mkF m 34 #[.val (.ref a1), .val (.ref b2), .val (.int (0 : Int32))] [(.int (2 : Int32)), (.ref b2)]))
  refine own_step (fun t k => XS.iloadN X14.here hx rfl (hb hby d4_34) rfl k) ?_
  show own_G p.tables e below _ (T14.setTop (mkF m 35 #[.val (.ref a1), .val (.ref b2), .val (.int (0 : Int32))] [(.int (0 : Int32)), (.int (2 : Int32)), (.ref b2)]))
  refine own_step (fun t k => XS.imul X14.here hx rfl (hb hby d4_35) rfl k) ?_
  show own_G p.tables e below _ (T14.setTop (mkF m 36 #[.val (.ref a1), .val (.ref b2), .val (.int (0 : Int32))] [(.int (0 : Int32)), (.ref b2)]))
  refine own_step (fun t k => XS.iconst X14.here hx rfl (hb hby d4_36) k) ?_
  show own_G p.tables e below _ (T14.setTop (mkF m 37 #[.val (.ref a1), .val (.ref b2), .val (.int (0 : Int32))] [(.int (1 : Int32)), (.int (0 : Int32)), (.ref b2)]))
  refine own_step (fun t k => XS.iadd X14.here hx rfl (hb hby d4_37) rfl k) ?_
  show own_G p.tables e below _ (T14.setTop (mkF m 38 #[.val (.ref a1), .val (.ref b2), .val (.int (0 : Int32))] [(.int (1 : Int32)), (.ref b2)]))
  refine own_step (fun t k => XS.aloadN X14.here hx rfl (hb hby d4_38) rfl rfl k) ?_
  show own_G p.tables e below _ (T14.setTop (mkF m 39 #[.val (.ref a1), .val (.ref b2), .val (.int (0 : Int32))] [(.ref a1), (.int (1 : Int32)), (.ref b2)]))
  obtain ⟨T21, X21, e21, st21⟩ := getF X14 hx hZ hown (host := "") (Or.inl (hw _ (List.mem_of_getElem? (i := 17) rfl))) Via.refl e14 c17 (g := (mkF m 39 #[.val (.ref a1), .val (.ref b2), .val (.int (0 : Int32))] [(.ref a1), (.int (1 : Int32)), (.ref b2)])) rfl rfl (hb hby d4_39)
  refine own_step st21 ?_
  show own_G p.tables e below _ (T21.setTop (mkF m 42 #[.val (.ref a1), .val (.ref b2), .val (.int (0 : Int32))] [(.ref u_to), (.int (1 : Int32)), (.ref b2)]))
  refine own_step (fun t k => XS.iloadN X21.here hx rfl (hb hby d4_42) rfl k) ?_
  show own_G p.tables e below _ (T21.setTop (mkF m 43 #[.val (.ref a1), .val (.ref b2), .val (.int (0 : Int32))] [(.int (0 : Int32)), (.ref u_to), (.int (1 : Int32)), (.ref b2)]))
  refine own_step (own_iaload X21 hx hZ e21 c19 (own_inb (by decide) (Nat.le_of_ble_eq_true rfl)) (g := (mkF m 43 #[.val (.ref a1), .val (.ref b2), .val (.int (0 : Int32))] [(.int (0 : Int32)), (.ref u_to), (.int (1 : Int32)), (.ref b2)])) rfl rfl (hb hby d4_43)) ?_
  show own_G p.tables e below _ (T21.setTop (mkF m 44 #[.val (.ref a1), .val (.ref b2), .val (.int (0 : Int32))] [(.int yy0), (.int (1 : Int32)), (.ref b2)]))
  obtain ⟨T22, h22, X22, e22, W22, c22, st22⟩ := own_iastore X21 hx hZ e21 c15 (own_inb (by decide) (Nat.le_of_ble_eq_true rfl)) (g := (mkF m 44 #[.val (.ref a1), .val (.ref b2), .val (.int (0 : Int32))] [(.int yy0), (.int (1 : Int32)), (.ref b2)])) rfl rfl (hb hby d4_44)
  have N22 := Fr.snoc X22 N14 ge2
  have c23 : own_Ari Z h22 b2 .int [x0, yy0] := c22
  have c24 : Fld Z h22 a1 "com/example/stevedore/stevedore/MoveGraph" "from" "[I" (.ref u_from) := c16.other W22 (Or.inl ne3)
  have c25 : Fld Z h22 a1 "com/example/stevedore/stevedore/MoveGraph" "to" "[I" (.ref u_to) := c17.other W22 (Or.inl ne3)
  have c26 : own_Ari Z h22 u_from .int [x0] := c18.other W22 ne4
  have c27 : own_Ari Z h22 u_to .int [yy0] := c19.other W22 ne5
  have K22 : Keep h0 h22 [] := K14.wr W22 (Or.inr sz2)
  refine own_step st22 ?_
  show own_G p.tables e below _ (T22.setTop (mkF m 45 #[.val (.ref a1), .val (.ref b2), .val (.int (0 : Int32))] []))
  refine own_step (fun t k => XS.iinc X22.here hx rfl (hb hby d4_45) rfl (l' := #[.val (.ref a1), .val (.ref b2), .val (.int (1 : Int32))]) rfl k) ?_
  show own_G p.tables e below _ (T22.setTop (mkF m 48 #[.val (.ref a1), .val (.ref b2), .val (.int (1 : Int32))] []))
  refine own_step (fun t k => XS.goto X22.here hx rfl (pc0 := 48) (pc' := 12) rfl (hb hby d4_48) (by decide) (by decide) k) ?_
  show own_G p.tables e below _ (T22.setTop (mkF m 12 #[.val (.ref a1), .val (.ref b2), .val (.int (1 : Int32))] []))
  refine own_step (fun t k => XS.iloadN X22.here hx rfl (hb hby d4_12) rfl k) ?_
  show own_G p.tables e below _ (T22.setTop (mkF m 13 #[.val (.ref a1), .val (.ref b2), .val (.int (1 : Int32))] [(.int (1 : Int32))]))
  refine own_step (fun t k => XS.aloadN X22.here hx rfl (hb hby d4_13) rfl rfl k) ?_
  show own_G p.tables e below _ (T22.setTop (mkF m 14 #[.val (.ref a1), .val (.ref b2), .val (.int (1 : Int32))] [(.ref a1), (.int (1 : Int32))]))
  obtain ⟨T29, X29, e29, st29⟩ := getF X22 hx hZ hown (host := "") (Or.inl (hw _ (List.mem_of_getElem? (i := 15) rfl))) Via.refl e22 c24 (g := (mkF m 14 #[.val (.ref a1), .val (.ref b2), .val (.int (1 : Int32))] [(.ref a1), (.int (1 : Int32))])) rfl rfl (hb hby d4_14)
  refine own_step st29 ?_
  show own_G p.tables e below _ (T29.setTop (mkF m 17 #[.val (.ref a1), .val (.ref b2), .val (.int (1 : Int32))] [(.ref u_from), (.int (1 : Int32))]))
  refine own_step (own_lenI X29 hx hZ e29 c26 (g := (mkF m 17 #[.val (.ref a1), .val (.ref b2), .val (.int (1 : Int32))] [(.ref u_from), (.int (1 : Int32))])) rfl rfl (hb hby d4_17)) ?_
  show own_G p.tables e below _ (T29.setTop (mkF m 18 #[.val (.ref a1), .val (.ref b2), .val (.int (1 : Int32))] [(.int (1 : Int32)), (.int (1 : Int32))]))
  have hk30 : ¬ ((1 : Int32) < (1 : Int32)) := (by decide)
  refine own_step (fun t k => XS.icmpYes X29.here hx rfl (pc0 := 18) (pc' := 51) rfl (hb hby d4_18) rfl ((flt hk30).2.1) (by decide) (by decide) k) ?_
  show own_G p.tables e below _ (T29.setTop (mkF m 51 #[.val (.ref a1), .val (.ref b2), .val (.int (1 : Int32))] []))
  refine own_step (fun t k => XS.aloadN X29.here hx rfl (hb hby d4_51) rfl rfl k) ?_
  show own_G p.tables e below _ (T29.setTop (mkF m 52 #[.val (.ref a1), .val (.ref b2), .val (.int (1 : Int32))] [(.ref b2)]))
  obtain ⟨fs, hr, hrun, hended, hW, hsame⟩ := X29.leave (v := some (.ref b2)) (fun h => by rw [Bd.returns] at h; cases h)
  refine own_done (own_retA X29 hx Bd.returns (by decide) rfl (hb hby d4_52) hr) hrun hended ⟨_, _, rfl, ?_, ⟨_, rfl⟩, hW, hsame.mono (by decide) (by decide)⟩
  show Q4_k1 Z a1 u_from u_to x0 yy0 h0 n0 _ T29.heap _
  rw [e29]
  exact ⟨b2, rfl, N22, K22, c23, sz2⟩
theorem d5_8 : decode method_5_code 8 = .ok (.aload_n 0, 1) := by decide +kernel
theorem d5_9 : decode method_5_code 9 = .ok (.iconst 2, 1) := by decide +kernel
theorem d5_10 : decode method_5_code 10 = .ok (.iload_n 3, 1) := by decide +kernel
theorem d5_11 : decode method_5_code 11 = .ok (.imul, 1) := by decide +kernel
theorem d5_12 : decode method_5_code 12 = .ok (.iaload, 1) := by decide +kernel
theorem d5_13 : decode method_5_code 13 = .ok (.lload 5, 2) := by decide +kernel
theorem d5_15 : decode method_5_code 15 = .ok (.invokestatic 7, 3) := by decide +kernel
theorem d5_18 : decode method_5_code 18 = .ok (.if_icmp .ne 44, 3) := by decide +kernel
theorem d5_21 : decode method_5_code 21 = .ok (.aload_n 0, 1) := by decide +kernel
theorem d5_22 : decode method_5_code 22 = .ok (.iconst 2, 1) := by decide +kernel
theorem d5_23 : decode method_5_code 23 = .ok (.iload_n 3, 1) := by decide +kernel
theorem d5_24 : decode method_5_code 24 = .ok (.imul, 1) := by decide +kernel
theorem d5_25 : decode method_5_code 25 = .ok (.iconst 1, 1) := by decide +kernel
theorem d5_26 : decode method_5_code 26 = .ok (.iadd, 1) := by decide +kernel
theorem d5_27 : decode method_5_code 27 = .ok (.iaload, 1) := by decide +kernel
theorem d5_28 : decode method_5_code 28 = .ok (.lload 5, 2) := by decide +kernel
theorem d5_30 : decode method_5_code 30 = .ok (.invokestatic 13, 3) := by decide +kernel
theorem d5_33 : decode method_5_code 33 = .ok (.if_icmp .ne 29, 3) := by decide +kernel
theorem d5_36 : decode method_5_code 36 = .ok (.aload_n 1, 1) := by decide +kernel
theorem d5_37 : decode method_5_code 37 = .ok (.iload_n 3, 1) := by decide +kernel
theorem d5_38 : decode method_5_code 38 = .ok (.iaload, 1) := by decide +kernel
theorem d5_39 : decode method_5_code 39 = .ok (.lload 5, 2) := by decide +kernel
theorem d5_41 : decode method_5_code 41 = .ok (.invokestatic 7, 3) := by decide +kernel
theorem d5_44 : decode method_5_code 44 = .ok (.if_icmp .ne 18, 3) := by decide +kernel
theorem d5_47 : decode method_5_code 47 = .ok (.aload_n 2, 1) := by decide +kernel
theorem d5_48 : decode method_5_code 48 = .ok (.iload_n 3, 1) := by decide +kernel
theorem d5_49 : decode method_5_code 49 = .ok (.iaload, 1) := by decide +kernel
theorem d5_50 : decode method_5_code 50 = .ok (.lload 5, 2) := by decide +kernel
theorem d5_52 : decode method_5_code 52 = .ok (.invokestatic 13, 3) := by decide +kernel
theorem d5_55 : decode method_5_code 55 = .ok (.if_icmp .ne 7, 3) := by decide +kernel
theorem d5_58 : decode method_5_code 58 = .ok (.iconst 1, 1) := by decide +kernel
theorem d5_59 : decode method_5_code 59 = .ok (.goto 4, 3) := by decide +kernel
theorem d5_63 : decode method_5_code 63 = .ok (.ireturn, 1) := by decide +kernel
theorem pn_5_e0_1 : plainName "com/example/stevedore/stevedore/MoveGraphEndsPinLaw" = true := by first | (simp [plainName, overriddenIn]; done) | decide +kernel
theorem pd_5_e0_1_0 : parseMethodDescriptor "(J)I" = some ⟨[.long], some .int⟩ := by decide +kernel
theorem ef_5_e0_1 (m : MethodId) (a1 : Addr) (a2 : Addr) (a3 : Addr) (q6 : Int64) : entryFrame m #[(.ref a1), (.ref a2), (.ref a3), (.int (0 : Int32)), (.int (1 : Int32)), (.long q6)] 7 = mkF m 0 #[.val (.ref a1), .val (.ref a2), .val (.ref a3), .val (.int (0 : Int32)), .val (.int (1 : Int32)), .val (.long q6), .second] [] := by first | (simp [entryFrame, mkF, argsToLocals, Value.category]; done) | rfl
def Q5_e0_1 (Z : State) (a1 : Addr) (a2 : Addr) (a3 : Addr) (q6 : Int64) (h0 : Heap) (n0 : Nat) (v : Option Value) (h : Heap) (L : List Loc) : Prop := v = some (.int (1 : Int32)) ∧ Fr n0 L ∧ h = h0
set_option maxRecDepth 65536 in
set_option maxHeartbeats 40000000 in
theorem rm5_e0_1 (l : Launch) (Z : State) (a0 : Array Value) (hw : ∀ d ∈ tables_1, d.before a0 Z = true) (ws : List Jvm.Cond) (a1 : Addr) (a2 : Addr) (a3 : Addr) (q6 : Int64) (h0 : Heap) (n0 : Nat) (Z0 : n0 ≤ h0.size) (fp0 : own_Ari Z h0 a1 .int [(((q6.toUInt64 >>> ((32 : Int32) &&& 0x3f).toInt64.toUInt64).toInt64).toInt32), (q6.toInt32)]) (fp1 : own_Ari Z h0 a2 .int [(((q6.toUInt64 >>> ((32 : Int32) &&& 0x3f).toInt64.toUInt64).toInt64).toInt32)]) (fp2 : own_Ari Z h0 a3 .int [(q6.toInt32)]) :
    MetFree l (⟨"com/example/stevedore/stevedore/MoveGraphEndsPinLaw", "pair", "([I[I[IIIJ)Z"⟩ : MethodName) (head1 (Jvm.Cond.code (⟨"com/example/stevedore/stevedore/MoveGraphEndsPinLaw", "pair", "([I[I[IIIJ)Z"⟩ : MethodName) method_5_code 7 (some .boolean) :: ws) ({ frames := 1, cells := 0, slots := 0, locals := 14 } : Room)) (fun a U => a = #[(.ref a1), (.ref a2), (.ref a3), (.int (0 : Int32)), (.int (1 : Int32)), (.long q6)] ∧ Z.Warmed39 U.vm ∧ U.heap = h0) (fun _ _ _ _ _ => True) (fun _ U o U' => ∃ v L, o = .returned v ∧ Q5_e0_1 Z a1 a2 a3 q6 h0 n0 v U'.heap L ∧ FrameEnd U o U' L ({ frames := 1, cells := 0, slots := 0, locals := 14 } : Room).cells ({ frames := 1, cells := 0, slots := 0, locals := 14 } : Room).slots) := by
  refine MetFree.of_bodySF (plainFor_of_name pn_5_e0_1) hisR ?_
  intro p e s m args below meth c s₁ Bd hml0 hP hK
  obtain ⟨rfl, hZ, hh⟩ := hP
  have hx := Bd.exec
  have hby := Bd.bytes
  have hml : c.maxLocals = 7 := hml0
  have hown : s.vm.findClass "com/example/stevedore/stevedore/MoveGraphEndsPinLaw" = some m.cls := findClass_of_methodNamed Bd.named
  have hnm := (name_of_methodNamed Bd.named Bd.method).1
  have X0 : Stand p l e ({ frames := 1, cells := 0, slots := 0, locals := 14 } : Room) s m #[(.ref a1), (.ref a2), (.ref a3), (.int (0 : Int32)), (.int (1 : Int32)), (.long q6)] below meth c s₁ [] 0 0 := Stand.of_body Bd
  have e0 : s₁.heap = h0 := by rw [← hh, Bd.state]; rfl
  have N0 := Fr.nil n0
  refine own_start (fun t k => castTop (ef_5_e0_1 m a1 a2 a3 q6) k) ?_
  show own_G p.tables e below _ (s₁.setTop (mkF m 0 #[.val (.ref a1), .val (.ref a2), .val (.ref a3), .val (.int (0 : Int32)), .val (.int (1 : Int32)), .val (.long q6), .second] []))
  refine own_step (fun t k => XS.iloadN X0.here hx rfl (hb hby d5_0) rfl k) ?_
  show own_G p.tables e below _ (s₁.setTop (mkF m 1 #[.val (.ref a1), .val (.ref a2), .val (.ref a3), .val (.int (0 : Int32)), .val (.int (1 : Int32)), .val (.long q6), .second] [(.int (0 : Int32))]))
  refine own_step (fun t k => XS.iload X0.here hx rfl (hb hby d5_1) rfl k) ?_
  show own_G p.tables e below _ (s₁.setTop (mkF m 3 #[.val (.ref a1), .val (.ref a2), .val (.ref a3), .val (.int (0 : Int32)), .val (.int (1 : Int32)), .val (.long q6), .second] [(.int (1 : Int32)), (.int (0 : Int32))]))
  have hk1 : (0 : Int32) < (1 : Int32) := (by decide)
  refine own_step (fun t k => XS.icmpYes X0.here hx rfl (pc0 := 3) (pc' := 8) rfl (hb hby d5_3) rfl ((tlt hk1).1) (by decide) (by decide) k) ?_
  show own_G p.tables e below _ (s₁.setTop (mkF m 8 #[.val (.ref a1), .val (.ref a2), .val (.ref a3), .val (.int (0 : Int32)), .val (.int (1 : Int32)), .val (.long q6), .second] []))
  refine own_step (fun t k => XS.aloadN X0.here hx rfl (hb hby d5_8) rfl rfl k) ?_
  show own_G p.tables e below _ (s₁.setTop (mkF m 9 #[.val (.ref a1), .val (.ref a2), .val (.ref a3), .val (.int (0 : Int32)), .val (.int (1 : Int32)), .val (.long q6), .second] [(.ref a1)]))
  refine own_step (fun t k => XS.iconst X0.here hx rfl (hb hby d5_9) k) ?_
  show own_G p.tables e below _ (s₁.setTop (mkF m 10 #[.val (.ref a1), .val (.ref a2), .val (.ref a3), .val (.int (0 : Int32)), .val (.int (1 : Int32)), .val (.long q6), .second] [(.int (2 : Int32)), (.ref a1)]))
  refine own_step (fun t k => XS.iloadN X0.here hx rfl (hb hby d5_10) rfl k) ?_
  show own_G p.tables e below _ (s₁.setTop (mkF m 11 #[.val (.ref a1), .val (.ref a2), .val (.ref a3), .val (.int (0 : Int32)), .val (.int (1 : Int32)), .val (.long q6), .second] [(.int (0 : Int32)), (.int (2 : Int32)), (.ref a1)]))
  refine own_step (fun t k => XS.imul X0.here hx rfl (hb hby d5_11) rfl k) ?_
  show own_G p.tables e below _ (s₁.setTop (mkF m 12 #[.val (.ref a1), .val (.ref a2), .val (.ref a3), .val (.int (0 : Int32)), .val (.int (1 : Int32)), .val (.long q6), .second] [(.int (0 : Int32)), (.ref a1)]))
  refine own_step (own_iaload X0 hx hZ e0 fp0 (own_inb (by decide) (Nat.le_of_ble_eq_true rfl)) (g := (mkF m 12 #[.val (.ref a1), .val (.ref a2), .val (.ref a3), .val (.int (0 : Int32)), .val (.int (1 : Int32)), .val (.long q6), .second] [(.int (0 : Int32)), (.ref a1)])) rfl rfl (hb hby d5_12)) ?_
  show own_G p.tables e below _ (s₁.setTop (mkF m 13 #[.val (.ref a1), .val (.ref a2), .val (.ref a3), .val (.int (0 : Int32)), .val (.int (1 : Int32)), .val (.long q6), .second] [(.int (((q6.toUInt64 >>> ((32 : Int32) &&& 0x3f).toInt64.toUInt64).toInt64).toInt32))]))
  refine own_step (fun t k => XS.lload X0.here hx rfl (hb hby d5_13) rfl k) ?_
  show own_G p.tables e below _ (s₁.setTop (mkF m 15 #[.val (.ref a1), .val (.ref a2), .val (.ref a3), .val (.int (0 : Int32)), .val (.int (1 : Int32)), .val (.long q6), .second] [(.long q6), (.int (((q6.toUInt64 >>> ((32 : Int32) &&& 0x3f).toInt64.toUInt64).toInt64).toInt32))]))
  obtain ⟨_, _, ⟨T2, L2, k2, n2⟩, -, X2, ⟨Lc2, hQ2, l2, y2, z2⟩, st2⟩ := Jvm.LawKit.callS X0 hx (y := (⟨"com/example/stevedore/stevedore/MoveGraphEndsPinLaw", "hi", "(J)I"⟩ : MethodName)) hown (mvT hZ (hw _ (List.mem_of_getElem? (i := 36) rfl))) (mvT hZ (hw _ (List.mem_of_getElem? (i := 37) rfl))) (mvT hZ (hw _ (List.mem_of_getElem? (i := 34) rfl))) (mvT hZ (hw _ (List.mem_of_getElem? (i := 38) rfl))) (by decide) (backOf (W := 1) (rm6 l Z a0 hw [] q6 h0 n0 (Nat.le_trans Z0 (Keep.refl h0 []).1) ) hZ (hw _ (List.mem_of_getElem? (i := 38) rfl)) (hw _ (List.mem_of_getElem? (i := 34) rfl)) (by decide) (by decide)) (g := (mkF m 15 #[.val (.ref a1), .val (.ref a2), .val (.ref a3), .val (.int (0 : Int32)), .val (.int (1 : Int32)), .val (.long q6), .second] [(.long q6), (.int (((q6.toUInt64 >>> ((32 : Int32) &&& 0x3f).toInt64.toUInt64).toInt64).toInt32))])) rfl (by rw [hml]; rfl) (argsL := [(.long q6)]) (rest := [(.int (((q6.toUInt64 >>> ((32 : Int32) &&& 0x3f).toInt64.toUInt64).toInt64).toInt32))]) (lenOf pd_5_e0_1_0 rfl) rfl (by show 2 * 0 + _ ≤ _; exact Nat.le_of_eq rfl) (hb hby d5_15) (fun _ _ => ⟨rfl, e0, (by decide : 0 + 0 ≤ _), (by decide : 0 + 0 ≤ _)⟩)
  dsimp only [Pt.U, Pt.locs, Pt.cells, Pt.slots] at X2 l2 y2 z2 st2 hQ2
  subst l2 y2 z2
  obtain ⟨rfl, N2q, e2⟩ := hQ2
  have N2 := Fr.app N0 N2q
  refine own_step st2 ?_
  show own_G p.tables e below _ (T2.setTop (mkF m 18 #[.val (.ref a1), .val (.ref a2), .val (.ref a3), .val (.int (0 : Int32)), .val (.int (1 : Int32)), .val (.long q6), .second] [(.int (((q6.toUInt64 >>> ((32 : Int32) &&& 0x3f).toInt64.toUInt64).toInt64).toInt32)), (.int (((q6.toUInt64 >>> ((32 : Int32) &&& 0x3f).toInt64.toUInt64).toInt64).toInt32))]))
  have hk3 : (((q6.toUInt64 >>> ((32 : Int32) &&& 0x3f).toInt64.toUInt64).toInt64).toInt32) = (((q6.toUInt64 >>> ((32 : Int32) &&& 0x3f).toInt64.toUInt64).toInt64).toInt32) := rfl
  refine own_step (fun t k => XS.icmpNo X2.here hx rfl (hb hby d5_18) rfl ((teq hk3).2) k) ?_
  show own_G p.tables e below _ (T2.setTop (mkF m 21 #[.val (.ref a1), .val (.ref a2), .val (.ref a3), .val (.int (0 : Int32)), .val (.int (1 : Int32)), .val (.long q6), .second] []))
  refine own_step (fun t k => XS.aloadN X2.here hx rfl (hb hby d5_21) rfl rfl k) ?_
  show own_G p.tables e below _ (T2.setTop (mkF m 22 #[.val (.ref a1), .val (.ref a2), .val (.ref a3), .val (.int (0 : Int32)), .val (.int (1 : Int32)), .val (.long q6), .second] [(.ref a1)]))
  refine own_step (fun t k => XS.iconst X2.here hx rfl (hb hby d5_22) k) ?_
  show own_G p.tables e below _ (T2.setTop (mkF m 23 #[.val (.ref a1), .val (.ref a2), .val (.ref a3), .val (.int (0 : Int32)), .val (.int (1 : Int32)), .val (.long q6), .second] [(.int (2 : Int32)), (.ref a1)]))
  refine own_step (fun t k => XS.iloadN X2.here hx rfl (hb hby d5_23) rfl k) ?_
  show own_G p.tables e below _ (T2.setTop (mkF m 24 #[.val (.ref a1), .val (.ref a2), .val (.ref a3), .val (.int (0 : Int32)), .val (.int (1 : Int32)), .val (.long q6), .second] [(.int (0 : Int32)), (.int (2 : Int32)), (.ref a1)]))
  refine own_step (fun t k => XS.imul X2.here hx rfl (hb hby d5_24) rfl k) ?_
  show own_G p.tables e below _ (T2.setTop (mkF m 25 #[.val (.ref a1), .val (.ref a2), .val (.ref a3), .val (.int (0 : Int32)), .val (.int (1 : Int32)), .val (.long q6), .second] [(.int (0 : Int32)), (.ref a1)]))
  refine own_step (fun t k => XS.iconst X2.here hx rfl (hb hby d5_25) k) ?_
  show own_G p.tables e below _ (T2.setTop (mkF m 26 #[.val (.ref a1), .val (.ref a2), .val (.ref a3), .val (.int (0 : Int32)), .val (.int (1 : Int32)), .val (.long q6), .second] [(.int (1 : Int32)), (.int (0 : Int32)), (.ref a1)]))
  refine own_step (fun t k => XS.iadd X2.here hx rfl (hb hby d5_26) rfl k) ?_
  show own_G p.tables e below _ (T2.setTop (mkF m 27 #[.val (.ref a1), .val (.ref a2), .val (.ref a3), .val (.int (0 : Int32)), .val (.int (1 : Int32)), .val (.long q6), .second] [(.int (1 : Int32)), (.ref a1)]))
  refine own_step (own_iaload X2 hx hZ e2 fp0 (own_inb (by decide) (Nat.le_of_ble_eq_true rfl)) (g := (mkF m 27 #[.val (.ref a1), .val (.ref a2), .val (.ref a3), .val (.int (0 : Int32)), .val (.int (1 : Int32)), .val (.long q6), .second] [(.int (1 : Int32)), (.ref a1)])) rfl rfl (hb hby d5_27)) ?_
  show own_G p.tables e below _ (T2.setTop (mkF m 28 #[.val (.ref a1), .val (.ref a2), .val (.ref a3), .val (.int (0 : Int32)), .val (.int (1 : Int32)), .val (.long q6), .second] [(.int (q6.toInt32))]))
  refine own_step (fun t k => XS.lload X2.here hx rfl (hb hby d5_28) rfl k) ?_
  show own_G p.tables e below _ (T2.setTop (mkF m 30 #[.val (.ref a1), .val (.ref a2), .val (.ref a3), .val (.int (0 : Int32)), .val (.int (1 : Int32)), .val (.long q6), .second] [(.long q6), (.int (q6.toInt32))]))
  obtain ⟨_, _, ⟨T4, L4, k4, n4⟩, -, X4, ⟨Lc4, hQ4, l4, y4, z4⟩, st4⟩ := Jvm.LawKit.callS X2 hx (y := (⟨"com/example/stevedore/stevedore/MoveGraphEndsPinLaw", "lo", "(J)I"⟩ : MethodName)) hown (mvT hZ (hw _ (List.mem_of_getElem? (i := 39) rfl))) (mvT hZ (hw _ (List.mem_of_getElem? (i := 40) rfl))) (mvT hZ (hw _ (List.mem_of_getElem? (i := 34) rfl))) (mvT hZ (hw _ (List.mem_of_getElem? (i := 41) rfl))) (by decide) (backOf (W := 1) (rm7 l Z a0 hw [] q6 h0 n0 (Nat.le_trans Z0 (Keep.refl h0 []).1) ) hZ (hw _ (List.mem_of_getElem? (i := 41) rfl)) (hw _ (List.mem_of_getElem? (i := 34) rfl)) (by decide) (by decide)) (g := (mkF m 30 #[.val (.ref a1), .val (.ref a2), .val (.ref a3), .val (.int (0 : Int32)), .val (.int (1 : Int32)), .val (.long q6), .second] [(.long q6), (.int (q6.toInt32))])) rfl (by rw [hml]; rfl) (argsL := [(.long q6)]) (rest := [(.int (q6.toInt32))]) (lenOf pd_5_e0_1_0 rfl) rfl (by show 2 * 0 + _ ≤ _; exact Nat.le_of_eq rfl) (hb hby d5_30) (fun _ _ => ⟨rfl, e2, (by decide : 0 + 0 ≤ _), (by decide : 0 + 0 ≤ _)⟩)
  dsimp only [Pt.U, Pt.locs, Pt.cells, Pt.slots] at X4 l4 y4 z4 st4 hQ4
  subst l4 y4 z4
  obtain ⟨rfl, N4q, e4⟩ := hQ4
  have N4 := Fr.app N2 N4q
  refine own_step st4 ?_
  show own_G p.tables e below _ (T4.setTop (mkF m 33 #[.val (.ref a1), .val (.ref a2), .val (.ref a3), .val (.int (0 : Int32)), .val (.int (1 : Int32)), .val (.long q6), .second] [(.int (q6.toInt32)), (.int (q6.toInt32))]))
  have hk5 : (q6.toInt32) = (q6.toInt32) := rfl
  refine own_step (fun t k => XS.icmpNo X4.here hx rfl (hb hby d5_33) rfl ((teq hk5).2) k) ?_
  show own_G p.tables e below _ (T4.setTop (mkF m 36 #[.val (.ref a1), .val (.ref a2), .val (.ref a3), .val (.int (0 : Int32)), .val (.int (1 : Int32)), .val (.long q6), .second] []))
  refine own_step (fun t k => XS.aloadN X4.here hx rfl (hb hby d5_36) rfl rfl k) ?_
  show own_G p.tables e below _ (T4.setTop (mkF m 37 #[.val (.ref a1), .val (.ref a2), .val (.ref a3), .val (.int (0 : Int32)), .val (.int (1 : Int32)), .val (.long q6), .second] [(.ref a2)]))
  refine own_step (fun t k => XS.iloadN X4.here hx rfl (hb hby d5_37) rfl k) ?_
  show own_G p.tables e below _ (T4.setTop (mkF m 38 #[.val (.ref a1), .val (.ref a2), .val (.ref a3), .val (.int (0 : Int32)), .val (.int (1 : Int32)), .val (.long q6), .second] [(.int (0 : Int32)), (.ref a2)]))
  refine own_step (own_iaload X4 hx hZ e4 fp1 (own_inb (by decide) (Nat.le_of_ble_eq_true rfl)) (g := (mkF m 38 #[.val (.ref a1), .val (.ref a2), .val (.ref a3), .val (.int (0 : Int32)), .val (.int (1 : Int32)), .val (.long q6), .second] [(.int (0 : Int32)), (.ref a2)])) rfl rfl (hb hby d5_38)) ?_
  show own_G p.tables e below _ (T4.setTop (mkF m 39 #[.val (.ref a1), .val (.ref a2), .val (.ref a3), .val (.int (0 : Int32)), .val (.int (1 : Int32)), .val (.long q6), .second] [(.int (((q6.toUInt64 >>> ((32 : Int32) &&& 0x3f).toInt64.toUInt64).toInt64).toInt32))]))
  refine own_step (fun t k => XS.lload X4.here hx rfl (hb hby d5_39) rfl k) ?_
  show own_G p.tables e below _ (T4.setTop (mkF m 41 #[.val (.ref a1), .val (.ref a2), .val (.ref a3), .val (.int (0 : Int32)), .val (.int (1 : Int32)), .val (.long q6), .second] [(.long q6), (.int (((q6.toUInt64 >>> ((32 : Int32) &&& 0x3f).toInt64.toUInt64).toInt64).toInt32))]))
  obtain ⟨_, _, ⟨T6, L6, k6, n6⟩, -, X6, ⟨Lc6, hQ6, l6, y6, z6⟩, st6⟩ := Jvm.LawKit.callS X4 hx (y := (⟨"com/example/stevedore/stevedore/MoveGraphEndsPinLaw", "hi", "(J)I"⟩ : MethodName)) hown (mvT hZ (hw _ (List.mem_of_getElem? (i := 36) rfl))) (mvT hZ (hw _ (List.mem_of_getElem? (i := 37) rfl))) (mvT hZ (hw _ (List.mem_of_getElem? (i := 34) rfl))) (mvT hZ (hw _ (List.mem_of_getElem? (i := 38) rfl))) (by decide) (backOf (W := 1) (rm6 l Z a0 hw [] q6 h0 n0 (Nat.le_trans Z0 (Keep.refl h0 []).1) ) hZ (hw _ (List.mem_of_getElem? (i := 38) rfl)) (hw _ (List.mem_of_getElem? (i := 34) rfl)) (by decide) (by decide)) (g := (mkF m 41 #[.val (.ref a1), .val (.ref a2), .val (.ref a3), .val (.int (0 : Int32)), .val (.int (1 : Int32)), .val (.long q6), .second] [(.long q6), (.int (((q6.toUInt64 >>> ((32 : Int32) &&& 0x3f).toInt64.toUInt64).toInt64).toInt32))])) rfl (by rw [hml]; rfl) (argsL := [(.long q6)]) (rest := [(.int (((q6.toUInt64 >>> ((32 : Int32) &&& 0x3f).toInt64.toUInt64).toInt64).toInt32))]) (lenOf pd_5_e0_1_0 rfl) rfl (by show 2 * 0 + _ ≤ _; exact Nat.le_of_eq rfl) (hb hby d5_41) (fun _ _ => ⟨rfl, e4, (by decide : 0 + 0 ≤ _), (by decide : 0 + 0 ≤ _)⟩)
  dsimp only [Pt.U, Pt.locs, Pt.cells, Pt.slots] at X6 l6 y6 z6 st6 hQ6
  subst l6 y6 z6
  obtain ⟨rfl, N6q, e6⟩ := hQ6
  have N6 := Fr.app N4 N6q
  refine own_step st6 ?_
  show own_G p.tables e below _ (T6.setTop (mkF m 44 #[.val (.ref a1), .val (.ref a2), .val (.ref a3), .val (.int (0 : Int32)), .val (.int (1 : Int32)), .val (.long q6), .second] [(.int (((q6.toUInt64 >>> ((32 : Int32) &&& 0x3f).toInt64.toUInt64).toInt64).toInt32)), (.int (((q6.toUInt64 >>> ((32 : Int32) &&& 0x3f).toInt64.toUInt64).toInt64).toInt32))]))
  have hk7 : (((q6.toUInt64 >>> ((32 : Int32) &&& 0x3f).toInt64.toUInt64).toInt64).toInt32) = (((q6.toUInt64 >>> ((32 : Int32) &&& 0x3f).toInt64.toUInt64).toInt64).toInt32) := rfl
  refine own_step (fun t k => XS.icmpNo X6.here hx rfl (hb hby d5_44) rfl ((teq hk7).2) k) ?_
  show own_G p.tables e below _ (T6.setTop (mkF m 47 #[.val (.ref a1), .val (.ref a2), .val (.ref a3), .val (.int (0 : Int32)), .val (.int (1 : Int32)), .val (.long q6), .second] []))
  refine own_step (fun t k => XS.aloadN X6.here hx rfl (hb hby d5_47) rfl rfl k) ?_
  show own_G p.tables e below _ (T6.setTop (mkF m 48 #[.val (.ref a1), .val (.ref a2), .val (.ref a3), .val (.int (0 : Int32)), .val (.int (1 : Int32)), .val (.long q6), .second] [(.ref a3)]))
  refine own_step (fun t k => XS.iloadN X6.here hx rfl (hb hby d5_48) rfl k) ?_
  show own_G p.tables e below _ (T6.setTop (mkF m 49 #[.val (.ref a1), .val (.ref a2), .val (.ref a3), .val (.int (0 : Int32)), .val (.int (1 : Int32)), .val (.long q6), .second] [(.int (0 : Int32)), (.ref a3)]))
  refine own_step (own_iaload X6 hx hZ e6 fp2 (own_inb (by decide) (Nat.le_of_ble_eq_true rfl)) (g := (mkF m 49 #[.val (.ref a1), .val (.ref a2), .val (.ref a3), .val (.int (0 : Int32)), .val (.int (1 : Int32)), .val (.long q6), .second] [(.int (0 : Int32)), (.ref a3)])) rfl rfl (hb hby d5_49)) ?_
  show own_G p.tables e below _ (T6.setTop (mkF m 50 #[.val (.ref a1), .val (.ref a2), .val (.ref a3), .val (.int (0 : Int32)), .val (.int (1 : Int32)), .val (.long q6), .second] [(.int (q6.toInt32))]))
  refine own_step (fun t k => XS.lload X6.here hx rfl (hb hby d5_50) rfl k) ?_
  show own_G p.tables e below _ (T6.setTop (mkF m 52 #[.val (.ref a1), .val (.ref a2), .val (.ref a3), .val (.int (0 : Int32)), .val (.int (1 : Int32)), .val (.long q6), .second] [(.long q6), (.int (q6.toInt32))]))
  obtain ⟨_, _, ⟨T8, L8, k8, n8⟩, -, X8, ⟨Lc8, hQ8, l8, y8, z8⟩, st8⟩ := Jvm.LawKit.callS X6 hx (y := (⟨"com/example/stevedore/stevedore/MoveGraphEndsPinLaw", "lo", "(J)I"⟩ : MethodName)) hown (mvT hZ (hw _ (List.mem_of_getElem? (i := 39) rfl))) (mvT hZ (hw _ (List.mem_of_getElem? (i := 40) rfl))) (mvT hZ (hw _ (List.mem_of_getElem? (i := 34) rfl))) (mvT hZ (hw _ (List.mem_of_getElem? (i := 41) rfl))) (by decide) (backOf (W := 1) (rm7 l Z a0 hw [] q6 h0 n0 (Nat.le_trans Z0 (Keep.refl h0 []).1) ) hZ (hw _ (List.mem_of_getElem? (i := 41) rfl)) (hw _ (List.mem_of_getElem? (i := 34) rfl)) (by decide) (by decide)) (g := (mkF m 52 #[.val (.ref a1), .val (.ref a2), .val (.ref a3), .val (.int (0 : Int32)), .val (.int (1 : Int32)), .val (.long q6), .second] [(.long q6), (.int (q6.toInt32))])) rfl (by rw [hml]; rfl) (argsL := [(.long q6)]) (rest := [(.int (q6.toInt32))]) (lenOf pd_5_e0_1_0 rfl) rfl (by show 2 * 0 + _ ≤ _; exact Nat.le_of_eq rfl) (hb hby d5_52) (fun _ _ => ⟨rfl, e6, (by decide : 0 + 0 ≤ _), (by decide : 0 + 0 ≤ _)⟩)
  dsimp only [Pt.U, Pt.locs, Pt.cells, Pt.slots] at X8 l8 y8 z8 st8 hQ8
  subst l8 y8 z8
  obtain ⟨rfl, N8q, e8⟩ := hQ8
  have N8 := Fr.app N6 N8q
  refine own_step st8 ?_
  show own_G p.tables e below _ (T8.setTop (mkF m 55 #[.val (.ref a1), .val (.ref a2), .val (.ref a3), .val (.int (0 : Int32)), .val (.int (1 : Int32)), .val (.long q6), .second] [(.int (q6.toInt32)), (.int (q6.toInt32))]))
  have hk9 : (q6.toInt32) = (q6.toInt32) := rfl
  refine own_step (fun t k => XS.icmpNo X8.here hx rfl (hb hby d5_55) rfl ((teq hk9).2) k) ?_
  show own_G p.tables e below _ (T8.setTop (mkF m 58 #[.val (.ref a1), .val (.ref a2), .val (.ref a3), .val (.int (0 : Int32)), .val (.int (1 : Int32)), .val (.long q6), .second] []))
  refine own_step (fun t k => XS.iconst X8.here hx rfl (hb hby d5_58) k) ?_
  show own_G p.tables e below _ (T8.setTop (mkF m 59 #[.val (.ref a1), .val (.ref a2), .val (.ref a3), .val (.int (0 : Int32)), .val (.int (1 : Int32)), .val (.long q6), .second] [(.int (1 : Int32))]))
  refine own_step (fun t k => XS.goto X8.here hx rfl (pc0 := 59) (pc' := 63) rfl (hb hby d5_59) (by decide) (by decide) k) ?_
  show own_G p.tables e below _ (T8.setTop (mkF m 63 #[.val (.ref a1), .val (.ref a2), .val (.ref a3), .val (.int (0 : Int32)), .val (.int (1 : Int32)), .val (.long q6), .second] [(.int (1 : Int32))]))
  obtain ⟨fs, hr, hrun, hended, hW, hsame⟩ := X8.leave (v := some (.int (1 : Int32))) (fun h => by rw [Bd.returns] at h; cases h)
  refine own_done (retN X8 hx (t := .boolean) Bd.returns (by simp) (hb hby d5_63) hr) hrun hended ⟨_, _, rfl, ?_, ⟨_, rfl⟩, hW, hsame.mono (by decide) (by decide)⟩
  show Q5_e0_1 Z a1 a2 a3 q6 h0 n0 _ T8.heap _
  rw [e8]
  exact ⟨congrArg (fun z => some (Value.int z)) (show (1 : Int32) = (1 : Int32) from rfl), N8, rfl⟩
theorem pn_5_e1_1 : plainName "com/example/stevedore/stevedore/MoveGraphEndsPinLaw" = true := by first | (simp [plainName, overriddenIn]; done) | decide +kernel
theorem ef_5_e1_1 (m : MethodId) (a1 : Addr) (a2 : Addr) (a3 : Addr) (q6 : Int64) : entryFrame m #[(.ref a1), (.ref a2), (.ref a3), (.int (1 : Int32)), (.int (1 : Int32)), (.long q6)] 7 = mkF m 0 #[.val (.ref a1), .val (.ref a2), .val (.ref a3), .val (.int (1 : Int32)), .val (.int (1 : Int32)), .val (.long q6), .second] [] := by first | (simp [entryFrame, mkF, argsToLocals, Value.category]; done) | rfl
def Q5_e1_1 (Z : State) (a1 : Addr) (a2 : Addr) (a3 : Addr) (q6 : Int64) (ee0 : Int32) (ee1 : Int32) (x0 : Int32) (yy0 : Int32) (h0 : Heap) (n0 : Nat) (v : Option Value) (h : Heap) (L : List Loc) : Prop := v = some (.int (1 : Int32)) ∧ Fr n0 L ∧ h = h0
set_option maxRecDepth 65536 in
set_option maxHeartbeats 40000000 in
theorem rm5_e1_1 (l : Launch) (Z : State) (a0 : Array Value) (hw : ∀ d ∈ tables_1, d.before a0 Z = true) (ws : List Jvm.Cond) (a1 : Addr) (a2 : Addr) (a3 : Addr) (q6 : Int64) (ee0 : Int32) (ee1 : Int32) (x0 : Int32) (yy0 : Int32) (h0 : Heap) (n0 : Nat) (Z0 : n0 ≤ h0.size) (fp0 : own_Ari Z h0 a1 .int [ee0, ee1]) (fp1 : own_Ari Z h0 a2 .int [x0]) (fp2 : own_Ari Z h0 a3 .int [yy0]) :
    MetFree l (⟨"com/example/stevedore/stevedore/MoveGraphEndsPinLaw", "pair", "([I[I[IIIJ)Z"⟩ : MethodName) (head1 (Jvm.Cond.code (⟨"com/example/stevedore/stevedore/MoveGraphEndsPinLaw", "pair", "([I[I[IIIJ)Z"⟩ : MethodName) method_5_code 7 (some .boolean) :: ws) ({ frames := 0, cells := 0, slots := 0, locals := 0 } : Room)) (fun a U => a = #[(.ref a1), (.ref a2), (.ref a3), (.int (1 : Int32)), (.int (1 : Int32)), (.long q6)] ∧ Z.Warmed39 U.vm ∧ U.heap = h0) (fun _ _ _ _ _ => True) (fun _ U o U' => ∃ v L, o = .returned v ∧ Q5_e1_1 Z a1 a2 a3 q6 ee0 ee1 x0 yy0 h0 n0 v U'.heap L ∧ FrameEnd U o U' L ({ frames := 0, cells := 0, slots := 0, locals := 0 } : Room).cells ({ frames := 0, cells := 0, slots := 0, locals := 0 } : Room).slots) := by
  refine MetFree.of_bodySF (plainFor_of_name pn_5_e1_1) hisR ?_
  intro p e s m args below meth c s₁ Bd hml0 hP hK
  obtain ⟨rfl, hZ, hh⟩ := hP
  have hx := Bd.exec
  have hby := Bd.bytes
  have hml : c.maxLocals = 7 := hml0
  have hown : s.vm.findClass "com/example/stevedore/stevedore/MoveGraphEndsPinLaw" = some m.cls := findClass_of_methodNamed Bd.named
  have hnm := (name_of_methodNamed Bd.named Bd.method).1
  have X0 : Stand p l e ({ frames := 0, cells := 0, slots := 0, locals := 0 } : Room) s m #[(.ref a1), (.ref a2), (.ref a3), (.int (1 : Int32)), (.int (1 : Int32)), (.long q6)] below meth c s₁ [] 0 0 := Stand.of_body Bd
  have e0 : s₁.heap = h0 := by rw [← hh, Bd.state]; rfl
  have N0 := Fr.nil n0
  refine own_start (fun t k => castTop (ef_5_e1_1 m a1 a2 a3 q6) k) ?_
  show own_G p.tables e below _ (s₁.setTop (mkF m 0 #[.val (.ref a1), .val (.ref a2), .val (.ref a3), .val (.int (1 : Int32)), .val (.int (1 : Int32)), .val (.long q6), .second] []))
  refine own_step (fun t k => XS.iloadN X0.here hx rfl (hb hby d5_0) rfl k) ?_
  show own_G p.tables e below _ (s₁.setTop (mkF m 1 #[.val (.ref a1), .val (.ref a2), .val (.ref a3), .val (.int (1 : Int32)), .val (.int (1 : Int32)), .val (.long q6), .second] [(.int (1 : Int32))]))
  refine own_step (fun t k => XS.iload X0.here hx rfl (hb hby d5_1) rfl k) ?_
  show own_G p.tables e below _ (s₁.setTop (mkF m 3 #[.val (.ref a1), .val (.ref a2), .val (.ref a3), .val (.int (1 : Int32)), .val (.int (1 : Int32)), .val (.long q6), .second] [(.int (1 : Int32)), (.int (1 : Int32))]))
  have hk1 : ¬ ((1 : Int32) < (1 : Int32)) := (by decide)
  refine own_step (fun t k => XS.icmpNo X0.here hx rfl (hb hby d5_3) rfl ((flt hk1).1) k) ?_
  show own_G p.tables e below _ (s₁.setTop (mkF m 6 #[.val (.ref a1), .val (.ref a2), .val (.ref a3), .val (.int (1 : Int32)), .val (.int (1 : Int32)), .val (.long q6), .second] []))
  refine own_step (fun t k => XS.iconst X0.here hx rfl (hb hby d5_6) k) ?_
  show own_G p.tables e below _ (s₁.setTop (mkF m 7 #[.val (.ref a1), .val (.ref a2), .val (.ref a3), .val (.int (1 : Int32)), .val (.int (1 : Int32)), .val (.long q6), .second] [(.int (1 : Int32))]))
  obtain ⟨fs, hr, hrun, hended, hW, hsame⟩ := X0.leave (v := some (.int (1 : Int32))) (fun h => by rw [Bd.returns] at h; cases h)
  refine own_done (retN X0 hx (t := .boolean) Bd.returns (by simp) (hb hby d5_7) hr) hrun hended ⟨_, _, rfl, ?_, ⟨_, rfl⟩, hW, hsame.mono (by decide) (by decide)⟩
  show Q5_e1_1 Z a1 a2 a3 q6 ee0 ee1 x0 yy0 h0 n0 _ s₁.heap _
  rw [e0]
  exact ⟨congrArg (fun z => some (Value.int z)) (show (1 : Int32) = (1 : Int32) from rfl), N0, rfl⟩
theorem pn_5_e2_1 : plainName "com/example/stevedore/stevedore/MoveGraphEndsPinLaw" = true := by first | (simp [plainName, overriddenIn]; done) | decide +kernel
theorem ef_5_e2_1 (m : MethodId) (a1 : Addr) (a2 : Addr) (a3 : Addr) (q6 : Int64) : entryFrame m #[(.ref a1), (.ref a2), (.ref a3), (.int (2 : Int32)), (.int (1 : Int32)), (.long q6)] 7 = mkF m 0 #[.val (.ref a1), .val (.ref a2), .val (.ref a3), .val (.int (2 : Int32)), .val (.int (1 : Int32)), .val (.long q6), .second] [] := by first | (simp [entryFrame, mkF, argsToLocals, Value.category]; done) | rfl
def Q5_e2_1 (Z : State) (a1 : Addr) (a2 : Addr) (a3 : Addr) (q6 : Int64) (ee0 : Int32) (ee1 : Int32) (x0 : Int32) (yy0 : Int32) (h0 : Heap) (n0 : Nat) (v : Option Value) (h : Heap) (L : List Loc) : Prop := v = some (.int (1 : Int32)) ∧ Fr n0 L ∧ h = h0
set_option maxRecDepth 65536 in
set_option maxHeartbeats 40000000 in
theorem rm5_e2_1 (l : Launch) (Z : State) (a0 : Array Value) (hw : ∀ d ∈ tables_1, d.before a0 Z = true) (ws : List Jvm.Cond) (a1 : Addr) (a2 : Addr) (a3 : Addr) (q6 : Int64) (ee0 : Int32) (ee1 : Int32) (x0 : Int32) (yy0 : Int32) (h0 : Heap) (n0 : Nat) (Z0 : n0 ≤ h0.size) (fp0 : own_Ari Z h0 a1 .int [ee0, ee1]) (fp1 : own_Ari Z h0 a2 .int [x0]) (fp2 : own_Ari Z h0 a3 .int [yy0]) :
    MetFree l (⟨"com/example/stevedore/stevedore/MoveGraphEndsPinLaw", "pair", "([I[I[IIIJ)Z"⟩ : MethodName) (head1 (Jvm.Cond.code (⟨"com/example/stevedore/stevedore/MoveGraphEndsPinLaw", "pair", "([I[I[IIIJ)Z"⟩ : MethodName) method_5_code 7 (some .boolean) :: ws) ({ frames := 0, cells := 0, slots := 0, locals := 0 } : Room)) (fun a U => a = #[(.ref a1), (.ref a2), (.ref a3), (.int (2 : Int32)), (.int (1 : Int32)), (.long q6)] ∧ Z.Warmed39 U.vm ∧ U.heap = h0) (fun _ _ _ _ _ => True) (fun _ U o U' => ∃ v L, o = .returned v ∧ Q5_e2_1 Z a1 a2 a3 q6 ee0 ee1 x0 yy0 h0 n0 v U'.heap L ∧ FrameEnd U o U' L ({ frames := 0, cells := 0, slots := 0, locals := 0 } : Room).cells ({ frames := 0, cells := 0, slots := 0, locals := 0 } : Room).slots) := by
  refine MetFree.of_bodySF (plainFor_of_name pn_5_e2_1) hisR ?_
  intro p e s m args below meth c s₁ Bd hml0 hP hK
  obtain ⟨rfl, hZ, hh⟩ := hP
  have hx := Bd.exec
  have hby := Bd.bytes
  have hml : c.maxLocals = 7 := hml0
  have hown : s.vm.findClass "com/example/stevedore/stevedore/MoveGraphEndsPinLaw" = some m.cls := findClass_of_methodNamed Bd.named
  have hnm := (name_of_methodNamed Bd.named Bd.method).1
  have X0 : Stand p l e ({ frames := 0, cells := 0, slots := 0, locals := 0 } : Room) s m #[(.ref a1), (.ref a2), (.ref a3), (.int (2 : Int32)), (.int (1 : Int32)), (.long q6)] below meth c s₁ [] 0 0 := Stand.of_body Bd
  have e0 : s₁.heap = h0 := by rw [← hh, Bd.state]; rfl
  have N0 := Fr.nil n0
  refine own_start (fun t k => castTop (ef_5_e2_1 m a1 a2 a3 q6) k) ?_
  show own_G p.tables e below _ (s₁.setTop (mkF m 0 #[.val (.ref a1), .val (.ref a2), .val (.ref a3), .val (.int (2 : Int32)), .val (.int (1 : Int32)), .val (.long q6), .second] []))
  refine own_step (fun t k => XS.iloadN X0.here hx rfl (hb hby d5_0) rfl k) ?_
  show own_G p.tables e below _ (s₁.setTop (mkF m 1 #[.val (.ref a1), .val (.ref a2), .val (.ref a3), .val (.int (2 : Int32)), .val (.int (1 : Int32)), .val (.long q6), .second] [(.int (2 : Int32))]))
  refine own_step (fun t k => XS.iload X0.here hx rfl (hb hby d5_1) rfl k) ?_
  show own_G p.tables e below _ (s₁.setTop (mkF m 3 #[.val (.ref a1), .val (.ref a2), .val (.ref a3), .val (.int (2 : Int32)), .val (.int (1 : Int32)), .val (.long q6), .second] [(.int (1 : Int32)), (.int (2 : Int32))]))
  have hk1 : ¬ ((2 : Int32) < (1 : Int32)) := (by decide)
  refine own_step (fun t k => XS.icmpNo X0.here hx rfl (hb hby d5_3) rfl ((flt hk1).1) k) ?_
  show own_G p.tables e below _ (s₁.setTop (mkF m 6 #[.val (.ref a1), .val (.ref a2), .val (.ref a3), .val (.int (2 : Int32)), .val (.int (1 : Int32)), .val (.long q6), .second] []))
  refine own_step (fun t k => XS.iconst X0.here hx rfl (hb hby d5_6) k) ?_
  show own_G p.tables e below _ (s₁.setTop (mkF m 7 #[.val (.ref a1), .val (.ref a2), .val (.ref a3), .val (.int (2 : Int32)), .val (.int (1 : Int32)), .val (.long q6), .second] [(.int (1 : Int32))]))
  obtain ⟨fs, hr, hrun, hended, hW, hsame⟩ := X0.leave (v := some (.int (1 : Int32))) (fun h => by rw [Bd.returns] at h; cases h)
  refine own_done (retN X0 hx (t := .boolean) Bd.returns (by simp) (hb hby d5_7) hr) hrun hended ⟨_, _, rfl, ?_, ⟨_, rfl⟩, hW, hsame.mono (by decide) (by decide)⟩
  show Q5_e2_1 Z a1 a2 a3 q6 ee0 ee1 x0 yy0 h0 n0 _ s₁.heap _
  rw [e0]
  exact ⟨congrArg (fun z => some (Value.int z)) (show (1 : Int32) = (1 : Int32) from rfl), N0, rfl⟩
theorem pn_4_k2 : plainName "com/example/stevedore/stevedore/MoveGraph" = true := by first | (simp [plainName, overriddenIn]; done) | decide +kernel
theorem ef_4_k2 (m : MethodId) (a1 : Addr) : entryFrame m #[(.ref a1)] 3 = mkF m 0 #[.val (.ref a1), .unset, .unset] [] := by first | (simp [entryFrame, mkF, argsToLocals, Value.category]; done) | rfl
def Q4_k2 (Z : State) (a1 : Addr) (u_from : Addr) (u_to : Addr) (x0 : Int32) (x1 : Int32) (yy0 : Int32) (yy1 : Int32) (h0 : Heap) (n0 : Nat) (v : Option Value) (h : Heap) (L : List Loc) : Prop := ∃ (rb : Addr), v = some (.ref rb) ∧ Fr n0 L ∧ Keep h0 h [] ∧ own_Ari Z h rb .int [x0, yy0, x1, yy1] ∧ h0.size ≤ rb
set_option maxRecDepth 65536 in
set_option maxHeartbeats 40000000 in
theorem rm4_k2 (l : Launch) (Z : State) (a0 : Array Value) (hw : ∀ d ∈ tables_1, d.before a0 Z = true) (ws : List Jvm.Cond) (a1 : Addr) (u_from : Addr) (u_to : Addr) (x0 : Int32) (x1 : Int32) (yy0 : Int32) (yy1 : Int32) (h0 : Heap) (n0 : Nat) (Z0 : n0 ≤ h0.size) (fp0 : Fld Z h0 a1 "com/example/stevedore/stevedore/MoveGraph" "from" "[I" (.ref u_from)) (fp1 : Fld Z h0 a1 "com/example/stevedore/stevedore/MoveGraph" "to" "[I" (.ref u_to)) (fp2 : own_Ari Z h0 u_from .int [x0, x1]) (fp3 : own_Ari Z h0 u_to .int [yy0, yy1]) :
    MetFree l (⟨"com/example/stevedore/stevedore/MoveGraph", "ends", "()[I"⟩ : MethodName) (head1 (Jvm.Cond.code (⟨"com/example/stevedore/stevedore/MoveGraph", "ends", "()[I"⟩ : MethodName) prog_15_method_5_code 3 (some (.array .int)) :: ws) ({ frames := 0, cells := 1, slots := 4, locals := 0 } : Room)) (fun a U => a = #[(.ref a1)] ∧ Z.Warmed39 U.vm ∧ U.heap = h0) (fun _ _ _ _ _ => True) (fun _ U o U' => ∃ v L, o = .returned v ∧ Q4_k2 Z a1 u_from u_to x0 x1 yy0 yy1 h0 n0 v U'.heap L ∧ FrameEnd U o U' L ({ frames := 0, cells := 1, slots := 4, locals := 0 } : Room).cells ({ frames := 0, cells := 1, slots := 4, locals := 0 } : Room).slots) := by
  refine MetFree.of_bodySF (plainFor_of_name pn_4_k2) hisR ?_
  intro p e s m args below meth c s₁ Bd hml0 hP hK
  obtain ⟨rfl, hZ, hh⟩ := hP
  have hx := Bd.exec
  have hby := Bd.bytes
  have hml : c.maxLocals = 3 := hml0
  have hown : s.vm.findClass "com/example/stevedore/stevedore/MoveGraph" = some m.cls := findClass_of_methodNamed Bd.named
  have hnm := (name_of_methodNamed Bd.named Bd.method).1
  have X0 : Stand p l e ({ frames := 0, cells := 1, slots := 4, locals := 0 } : Room) s m #[(.ref a1)] below meth c s₁ [] 0 0 := Stand.of_body Bd
  have e0 : s₁.heap = h0 := by rw [← hh, Bd.state]; rfl
  have N0 := Fr.nil n0
  refine own_start (fun t k => castTop (ef_4_k2 m a1) k) ?_
  show own_G p.tables e below _ (s₁.setTop (mkF m 0 #[.val (.ref a1), .unset, .unset] []))
  refine own_step (fun t k => XS.iconst X0.here hx rfl (hb hby d4_0) k) ?_
  show own_G p.tables e below _ (s₁.setTop (mkF m 1 #[.val (.ref a1), .unset, .unset] [(.int (2 : Int32))]))
  refine own_step (fun t k => XS.aloadN X0.here hx rfl (hb hby d4_1) rfl rfl k) ?_
  show own_G p.tables e below _ (s₁.setTop (mkF m 2 #[.val (.ref a1), .unset, .unset] [(.ref a1), (.int (2 : Int32))]))
  obtain ⟨T1, X1, e1, st1⟩ := getF X0 hx hZ hown (host := "") (Or.inl (hw _ (List.mem_of_getElem? (i := 15) rfl))) Via.refl e0 fp0 (g := (mkF m 2 #[.val (.ref a1), .unset, .unset] [(.ref a1), (.int (2 : Int32))])) rfl rfl (hb hby d4_2)
  refine own_step st1 ?_
  show own_G p.tables e below _ (T1.setTop (mkF m 5 #[.val (.ref a1), .unset, .unset] [(.ref u_from), (.int (2 : Int32))]))
  refine own_step (own_lenI X1 hx hZ e1 fp2 (g := (mkF m 5 #[.val (.ref a1), .unset, .unset] [(.ref u_from), (.int (2 : Int32))])) rfl rfl (hb hby d4_5)) ?_
  show own_G p.tables e below _ (T1.setTop (mkF m 6 #[.val (.ref a1), .unset, .unset] [(.int (2 : Int32)), (.int (2 : Int32))]))
  refine own_step (fun t k => XS.imul X1.here hx rfl (hb hby d4_6) rfl k) ?_
  show own_G p.tables e below _ (T1.setTop (mkF m 7 #[.val (.ref a1), .unset, .unset] [(.int (4 : Int32))]))
  obtain ⟨T2, h2, k2, X2, e2, E2, A2, st2⟩ := newP X1 hx hZ (hw _ (List.mem_of_getElem? (i := 0) rfl)) e1 (g := (mkF m 7 #[.val (.ref a1), .unset, .unset] [(.int (4 : Int32))])) rfl (hb hby d4_7) rfl (by decide) (cap := 4) (by decide) (by decide) (by decide) (by decide)
  obtain ⟨b2, g2⟩ : ∃ z, z = h0.size := ⟨_, rfl⟩
  have ne3 : a1 ≠ b2 := Nat.ne_of_lt (Nat.lt_of_lt_of_le fp0.lt (Nat.le_of_eq g2.symm))
  have ne4 : u_from ≠ b2 := Nat.ne_of_lt (Nat.lt_of_lt_of_le fp2.lt (Nat.le_of_eq g2.symm))
  have ne5 : u_to ≠ b2 := Nat.ne_of_lt (Nat.lt_of_lt_of_le fp3.lt (Nat.le_of_eq g2.symm))
  have sz2 : h0.size ≤ b2 := Nat.le_trans (Keep.refl h0 []).1 (Nat.le_of_eq g2.symm)
  have ge2 : n0 ≤ b2 := Nat.le_trans Z0 sz2
  have c6 : Fld Z h2 a1 "com/example/stevedore/stevedore/MoveGraph" "from" "[I" (.ref u_from) := fp0.ext E2
  have c7 : Fld Z h2 a1 "com/example/stevedore/stevedore/MoveGraph" "to" "[I" (.ref u_to) := fp1.ext E2
  have c8 : own_Ari Z h2 u_from .int [x0, x1] := fp2.ext E2
  have c9 : own_Ari Z h2 u_to .int [yy0, yy1] := fp3.ext E2
  have K2 : Keep h0 h2 [] := (Keep.refl h0 []).ext E2
  rw [← g2] at A2 st2
  have c10 : own_Ari Z h2 b2 .int [(0 : Int32), (0 : Int32), (0 : Int32), (0 : Int32)] := own_Ari_new (ty := .int) A2 (by decide) rfl
  refine own_step st2 ?_
  show own_G p.tables e below _ (T2.setTop (mkF m 9 #[.val (.ref a1), .unset, .unset] [(.ref b2)]))
  refine own_step (fun t k => XS.astoreN X2.here hx rfl (hb hby d4_9) rfl rfl (l' := #[.val (.ref a1), .val (.ref b2), .unset]) rfl k) ?_
  show own_G p.tables e below _ (T2.setTop (mkF m 10 #[.val (.ref a1), .val (.ref b2), .unset] []))
  refine own_step (fun t k => XS.iconst X2.here hx rfl (hb hby d4_10) k) ?_
  show own_G p.tables e below _ (T2.setTop (mkF m 11 #[.val (.ref a1), .val (.ref b2), .unset] [(.int (0 : Int32))]))
  refine own_step (fun t k => XS.istoreN X2.here hx rfl (hb hby d4_11) rfl (l' := #[.val (.ref a1), .val (.ref b2), .val (.int (0 : Int32))]) rfl k) ?_
  show own_G p.tables e below _ (T2.setTop (mkF m 12 #[.val (.ref a1), .val (.ref b2), .val (.int (0 : Int32))] []))
  refine own_step (fun t k => XS.iloadN X2.here hx rfl (hb hby d4_12) rfl k) ?_
  show own_G p.tables e below _ (T2.setTop (mkF m 13 #[.val (.ref a1), .val (.ref b2), .val (.int (0 : Int32))] [(.int (0 : Int32))]))
  refine own_step (fun t k => XS.aloadN X2.here hx rfl (hb hby d4_13) rfl rfl k) ?_
  show own_G p.tables e below _ (T2.setTop (mkF m 14 #[.val (.ref a1), .val (.ref b2), .val (.int (0 : Int32))] [(.ref a1), (.int (0 : Int32))]))
  obtain ⟨T11, X11, e11, st11⟩ := getF X2 hx hZ hown (host := "") (Or.inl (hw _ (List.mem_of_getElem? (i := 15) rfl))) Via.refl e2 c6 (g := (mkF m 14 #[.val (.ref a1), .val (.ref b2), .val (.int (0 : Int32))] [(.ref a1), (.int (0 : Int32))])) rfl rfl (hb hby d4_14)
  refine own_step st11 ?_
  show own_G p.tables e below _ (T11.setTop (mkF m 17 #[.val (.ref a1), .val (.ref b2), .val (.int (0 : Int32))] [(.ref u_from), (.int (0 : Int32))]))
  refine own_step (own_lenI X11 hx hZ e11 c8 (g := (mkF m 17 #[.val (.ref a1), .val (.ref b2), .val (.int (0 : Int32))] [(.ref u_from), (.int (0 : Int32))])) rfl rfl (hb hby d4_17)) ?_
  show own_G p.tables e below _ (T11.setTop (mkF m 18 #[.val (.ref a1), .val (.ref b2), .val (.int (0 : Int32))] [(.int (2 : Int32)), (.int (0 : Int32))]))
  have hk12 : (0 : Int32) < (2 : Int32) := (by decide)
  refine own_step (fun t k => XS.icmpNo X11.here hx rfl (hb hby d4_18) rfl ((tlt hk12).2.1) k) ?_
  show own_G p.tables e below _ (T11.setTop (mkF m 21 #[.val (.ref a1), .val (.ref b2), .val (.int (0 : Int32))] []))
  refine own_step (fun t k => XS.aloadN X11.here hx rfl (hb hby d4_21) rfl rfl k) ?_
  show own_G p.tables e below _ (T11.setTop (mkF m 22 #[.val (.ref a1), .val (.ref b2), .val (.int (0 : Int32))] [(.ref b2)]))
  refine own_step (fun t k => XS.iconst X11.here hx rfl (hb hby d4_22) k) ?_
  show own_G p.tables e below _ (T11.setTop (mkF m 23 #[.val (.ref a1), .val (.ref b2), .val (.int (0 : Int32))] [(.int (2 : Int32)), (.ref b2)]))
  refine own_step (fun t k => XS.iloadN X11.here hx rfl (hb hby d4_23) rfl k) ?_
  show own_G p.tables e below _ (T11.setTop (mkF m 24 #[.val (.ref a1), .val (.ref b2), .val (.int (0 : Int32))] [(.int (0 : Int32)), (.int (2 : Int32)), (.ref b2)]))
  refine own_step (fun t k => XS.imul X11.here hx rfl (hb hby d4_24) rfl k) ?_
  show own_G p.tables e below _ (T11.setTop (mkF m 25 #[.val (.ref a1), .val (.ref b2), .val (.int (0 : Int32))] [(.int (0 : Int32)), (.ref b2)]))
  refine own_step (fun t k => XS.aloadN X11.here hx rfl (hb hby d4_25) rfl rfl k) ?_
  show own_G p.tables e below _ (T11.setTop (mkF m 26 #[.val (.ref a1), .val (.ref b2), .val (.int (0 : Int32))] [(.ref a1), (.int (0 : Int32)), (.ref b2)]))
  obtain ⟨T13, X13, e13, st13⟩ := getF X11 hx hZ hown (host := "") (Or.inl (hw _ (List.mem_of_getElem? (i := 15) rfl))) Via.refl e11 c6 (g := (mkF m 26 #[.val (.ref a1), .val (.ref b2), .val (.int (0 : Int32))] [(.ref a1), (.int (0 : Int32)), (.ref b2)])) rfl rfl (hb hby d4_26)
  refine own_step st13 ?_
  show own_G p.tables e below _ (T13.setTop (mkF m 29 #[.val (.ref a1), .val (.ref b2), .val (.int (0 : Int32))] [(.ref u_from), (.int (0 : Int32)), (.ref b2)]))
  refine own_step (fun t k => XS.iloadN X13.here hx rfl (hb hby d4_29) rfl k) ?_
  show own_G p.tables e below _ (T13.setTop (mkF m 30 #[.val (.ref a1), .val (.ref b2), .val (.int (0 : Int32))] [(.int (0 : Int32)), (.ref u_from), (.int (0 : Int32)), (.ref b2)]))
  refine own_step (own_iaload X13 hx hZ e13 c8 (own_inb (by decide) (Nat.le_of_ble_eq_true rfl)) (g := (mkF m 30 #[.val (.ref a1), .val (.ref b2), .val (.int (0 : Int32))] [(.int (0 : Int32)), (.ref u_from), (.int (0 : Int32)), (.ref b2)])) rfl rfl (hb hby d4_30)) ?_
  show own_G p.tables e below _ (T13.setTop (mkF m 31 #[.val (.ref a1), .val (.ref b2), .val (.int (0 : Int32))] [(.int x0), (.int (0 : Int32)), (.ref b2)]))
  obtain ⟨T14, h14, X14, e14, W14, c14, st14⟩ := own_iastore X13 hx hZ e13 c10 (own_inb (by decide) (Nat.le_of_ble_eq_true rfl)) (g := (mkF m 31 #[.val (.ref a1), .val (.ref b2), .val (.int (0 : Int32))] [(.int x0), (.int (0 : Int32)), (.ref b2)])) rfl rfl (hb hby d4_31)
  have N14 := Fr.snoc X14 N0 ge2
  have c15 : own_Ari Z h14 b2 .int [x0, (0 : Int32), (0 : Int32), (0 : Int32)] := c14
  have c16 : Fld Z h14 a1 "com/example/stevedore/stevedore/MoveGraph" "from" "[I" (.ref u_from) := c6.other W14 (Or.inl ne3)
  have c17 : Fld Z h14 a1 "com/example/stevedore/stevedore/MoveGraph" "to" "[I" (.ref u_to) := c7.other W14 (Or.inl ne3)
  have c18 : own_Ari Z h14 u_from .int [x0, x1] := c8.other W14 ne4
  have c19 : own_Ari Z h14 u_to .int [yy0, yy1] := c9.other W14 ne5
  have K14 : Keep h0 h14 [] := K2.wr W14 (Or.inr sz2)
  refine own_step st14 ?_
  show own_G p.tables e below _ (T14.setTop (mkF m 32 #[.val (.ref a1), .val (.ref b2), .val (.int (0 : Int32))] []))
  refine own_step (fun t k => XS.aloadN X14.here hx rfl (hb hby d4_32) rfl rfl k) ?_
  show own_G p.tables e below _ (T14.setTop (mkF m 33 #[.val (.ref a1), .val (.ref b2), .val (.int (0 : Int32))] [(.ref b2)]))
  refine own_step (fun t k => XS.iconst X14.here hx rfl (hb hby d4_33) k) ?_
  show own_G p.tables e below _ (T14.setTop (mkF m 34 #[.val (.ref a1), .val (.ref b2), .val (.int (0 : Int32))] [(.int (2 : Int32)), (.ref b2)]))
  refine own_step (fun t k => XS.iloadN X14.here hx rfl (hb hby d4_34) rfl k) ?_
  show own_G p.tables e below _ (T14.setTop (mkF m 35 #[.val (.ref a1), .val (.ref b2), .val (.int (0 : Int32))] [(.int (0 : Int32)), (.int (2 : Int32)), (.ref b2)]))
  refine own_step (fun t k => XS.imul X14.here hx rfl (hb hby d4_35) rfl k) ?_
  show own_G p.tables e below _ (T14.setTop (mkF m 36 #[.val (.ref a1), .val (.ref b2), .val (.int (0 : Int32))] [(.int (0 : Int32)), (.ref b2)]))
  refine own_step (fun t k => XS.iconst X14.here hx rfl (hb hby d4_36) k) ?_
  show own_G p.tables e below _ (T14.setTop (mkF m 37 #[.val (.ref a1), .val (.ref b2), .val (.int (0 : Int32))] [(.int (1 : Int32)), (.int (0 : Int32)), (.ref b2)]))
  refine own_step (fun t k => XS.iadd X14.here hx rfl (hb hby d4_37) rfl k) ?_
  show own_G p.tables e below _ (T14.setTop (mkF m 38 #[.val (.ref a1), .val (.ref b2), .val (.int (0 : Int32))] [(.int (1 : Int32)), (.ref b2)]))
  refine own_step (fun t k => XS.aloadN X14.here hx rfl (hb hby d4_38) rfl rfl k) ?_
  show own_G p.tables e below _ (T14.setTop (mkF m 39 #[.val (.ref a1), .val (.ref b2), .val (.int (0 : Int32))] [(.ref a1), (.int (1 : Int32)), (.ref b2)]))
  obtain ⟨T21, X21, e21, st21⟩ := getF X14 hx hZ hown (host := "") (Or.inl (hw _ (List.mem_of_getElem? (i := 17) rfl))) Via.refl e14 c17 (g := (mkF m 39 #[.val (.ref a1), .val (.ref b2), .val (.int (0 : Int32))] [(.ref a1), (.int (1 : Int32)), (.ref b2)])) rfl rfl (hb hby d4_39)
  refine own_step st21 ?_
  show own_G p.tables e below _ (T21.setTop (mkF m 42 #[.val (.ref a1), .val (.ref b2), .val (.int (0 : Int32))] [(.ref u_to), (.int (1 : Int32)), (.ref b2)]))
  refine own_step (fun t k => XS.iloadN X21.here hx rfl (hb hby d4_42) rfl k) ?_
  show own_G p.tables e below _ (T21.setTop (mkF m 43 #[.val (.ref a1), .val (.ref b2), .val (.int (0 : Int32))] [(.int (0 : Int32)), (.ref u_to), (.int (1 : Int32)), (.ref b2)]))
  refine own_step (own_iaload X21 hx hZ e21 c19 (own_inb (by decide) (Nat.le_of_ble_eq_true rfl)) (g := (mkF m 43 #[.val (.ref a1), .val (.ref b2), .val (.int (0 : Int32))] [(.int (0 : Int32)), (.ref u_to), (.int (1 : Int32)), (.ref b2)])) rfl rfl (hb hby d4_43)) ?_
  show own_G p.tables e below _ (T21.setTop (mkF m 44 #[.val (.ref a1), .val (.ref b2), .val (.int (0 : Int32))] [(.int yy0), (.int (1 : Int32)), (.ref b2)]))
  obtain ⟨T22, h22, X22, e22, W22, c22, st22⟩ := own_iastore X21 hx hZ e21 c15 (own_inb (by decide) (Nat.le_of_ble_eq_true rfl)) (g := (mkF m 44 #[.val (.ref a1), .val (.ref b2), .val (.int (0 : Int32))] [(.int yy0), (.int (1 : Int32)), (.ref b2)])) rfl rfl (hb hby d4_44)
  have N22 := Fr.snoc X22 N14 ge2
  have c23 : own_Ari Z h22 b2 .int [x0, yy0, (0 : Int32), (0 : Int32)] := c22
  have c24 : Fld Z h22 a1 "com/example/stevedore/stevedore/MoveGraph" "from" "[I" (.ref u_from) := c16.other W22 (Or.inl ne3)
  have c25 : Fld Z h22 a1 "com/example/stevedore/stevedore/MoveGraph" "to" "[I" (.ref u_to) := c17.other W22 (Or.inl ne3)
  have c26 : own_Ari Z h22 u_from .int [x0, x1] := c18.other W22 ne4
  have c27 : own_Ari Z h22 u_to .int [yy0, yy1] := c19.other W22 ne5
  have K22 : Keep h0 h22 [] := K14.wr W22 (Or.inr sz2)
  refine own_step st22 ?_
  show own_G p.tables e below _ (T22.setTop (mkF m 45 #[.val (.ref a1), .val (.ref b2), .val (.int (0 : Int32))] []))
  refine own_step (fun t k => XS.iinc X22.here hx rfl (hb hby d4_45) rfl (l' := #[.val (.ref a1), .val (.ref b2), .val (.int (1 : Int32))]) rfl k) ?_
  show own_G p.tables e below _ (T22.setTop (mkF m 48 #[.val (.ref a1), .val (.ref b2), .val (.int (1 : Int32))] []))
  refine own_step (fun t k => XS.goto X22.here hx rfl (pc0 := 48) (pc' := 12) rfl (hb hby d4_48) (by decide) (by decide) k) ?_
  show own_G p.tables e below _ (T22.setTop (mkF m 12 #[.val (.ref a1), .val (.ref b2), .val (.int (1 : Int32))] []))
  refine own_step (fun t k => XS.iloadN X22.here hx rfl (hb hby d4_12) rfl k) ?_
  show own_G p.tables e below _ (T22.setTop (mkF m 13 #[.val (.ref a1), .val (.ref b2), .val (.int (1 : Int32))] [(.int (1 : Int32))]))
  refine own_step (fun t k => XS.aloadN X22.here hx rfl (hb hby d4_13) rfl rfl k) ?_
  show own_G p.tables e below _ (T22.setTop (mkF m 14 #[.val (.ref a1), .val (.ref b2), .val (.int (1 : Int32))] [(.ref a1), (.int (1 : Int32))]))
  obtain ⟨T29, X29, e29, st29⟩ := getF X22 hx hZ hown (host := "") (Or.inl (hw _ (List.mem_of_getElem? (i := 15) rfl))) Via.refl e22 c24 (g := (mkF m 14 #[.val (.ref a1), .val (.ref b2), .val (.int (1 : Int32))] [(.ref a1), (.int (1 : Int32))])) rfl rfl (hb hby d4_14)
  refine own_step st29 ?_
  show own_G p.tables e below _ (T29.setTop (mkF m 17 #[.val (.ref a1), .val (.ref b2), .val (.int (1 : Int32))] [(.ref u_from), (.int (1 : Int32))]))
  refine own_step (own_lenI X29 hx hZ e29 c26 (g := (mkF m 17 #[.val (.ref a1), .val (.ref b2), .val (.int (1 : Int32))] [(.ref u_from), (.int (1 : Int32))])) rfl rfl (hb hby d4_17)) ?_
  show own_G p.tables e below _ (T29.setTop (mkF m 18 #[.val (.ref a1), .val (.ref b2), .val (.int (1 : Int32))] [(.int (2 : Int32)), (.int (1 : Int32))]))
  have hk30 : (1 : Int32) < (2 : Int32) := (by decide)
  refine own_step (fun t k => XS.icmpNo X29.here hx rfl (hb hby d4_18) rfl ((tlt hk30).2.1) k) ?_
  show own_G p.tables e below _ (T29.setTop (mkF m 21 #[.val (.ref a1), .val (.ref b2), .val (.int (1 : Int32))] []))
  refine own_step (fun t k => XS.aloadN X29.here hx rfl (hb hby d4_21) rfl rfl k) ?_
  show own_G p.tables e below _ (T29.setTop (mkF m 22 #[.val (.ref a1), .val (.ref b2), .val (.int (1 : Int32))] [(.ref b2)]))
  refine own_step (fun t k => XS.iconst X29.here hx rfl (hb hby d4_22) k) ?_
  show own_G p.tables e below _ (T29.setTop (mkF m 23 #[.val (.ref a1), .val (.ref b2), .val (.int (1 : Int32))] [(.int (2 : Int32)), (.ref b2)]))
  refine own_step (fun t k => XS.iloadN X29.here hx rfl (hb hby d4_23) rfl k) ?_
  show own_G p.tables e below _ (T29.setTop (mkF m 24 #[.val (.ref a1), .val (.ref b2), .val (.int (1 : Int32))] [(.int (1 : Int32)), (.int (2 : Int32)), (.ref b2)]))
  refine own_step (fun t k => XS.imul X29.here hx rfl (hb hby d4_24) rfl k) ?_
  show own_G p.tables e below _ (T29.setTop (mkF m 25 #[.val (.ref a1), .val (.ref b2), .val (.int (1 : Int32))] [(.int (2 : Int32)), (.ref b2)]))
  refine own_step (fun t k => XS.aloadN X29.here hx rfl (hb hby d4_25) rfl rfl k) ?_
  show own_G p.tables e below _ (T29.setTop (mkF m 26 #[.val (.ref a1), .val (.ref b2), .val (.int (1 : Int32))] [(.ref a1), (.int (2 : Int32)), (.ref b2)]))
  obtain ⟨T31, X31, e31, st31⟩ := getF X29 hx hZ hown (host := "") (Or.inl (hw _ (List.mem_of_getElem? (i := 15) rfl))) Via.refl e29 c24 (g := (mkF m 26 #[.val (.ref a1), .val (.ref b2), .val (.int (1 : Int32))] [(.ref a1), (.int (2 : Int32)), (.ref b2)])) rfl rfl (hb hby d4_26)
  refine own_step st31 ?_
  show own_G p.tables e below _ (T31.setTop (mkF m 29 #[.val (.ref a1), .val (.ref b2), .val (.int (1 : Int32))] [(.ref u_from), (.int (2 : Int32)), (.ref b2)]))
  refine own_step (fun t k => XS.iloadN X31.here hx rfl (hb hby d4_29) rfl k) ?_
  show own_G p.tables e below _ (T31.setTop (mkF m 30 #[.val (.ref a1), .val (.ref b2), .val (.int (1 : Int32))] [(.int (1 : Int32)), (.ref u_from), (.int (2 : Int32)), (.ref b2)]))
  refine own_step (own_iaload X31 hx hZ e31 c26 (own_inb (by decide) (Nat.le_of_ble_eq_true rfl)) (g := (mkF m 30 #[.val (.ref a1), .val (.ref b2), .val (.int (1 : Int32))] [(.int (1 : Int32)), (.ref u_from), (.int (2 : Int32)), (.ref b2)])) rfl rfl (hb hby d4_30)) ?_
  show own_G p.tables e below _ (T31.setTop (mkF m 31 #[.val (.ref a1), .val (.ref b2), .val (.int (1 : Int32))] [(.int x1), (.int (2 : Int32)), (.ref b2)]))
  obtain ⟨T32, h32, X32, e32, W32, c32, st32⟩ := own_iastore X31 hx hZ e31 c23 (own_inb (by decide) (Nat.le_of_ble_eq_true rfl)) (g := (mkF m 31 #[.val (.ref a1), .val (.ref b2), .val (.int (1 : Int32))] [(.int x1), (.int (2 : Int32)), (.ref b2)])) rfl rfl (hb hby d4_31)
  have N32 := Fr.snoc X32 N22 ge2
  have c33 : own_Ari Z h32 b2 .int [x0, yy0, x1, (0 : Int32)] := c32
  have c34 : Fld Z h32 a1 "com/example/stevedore/stevedore/MoveGraph" "from" "[I" (.ref u_from) := c24.other W32 (Or.inl ne3)
  have c35 : Fld Z h32 a1 "com/example/stevedore/stevedore/MoveGraph" "to" "[I" (.ref u_to) := c25.other W32 (Or.inl ne3)
  have c36 : own_Ari Z h32 u_from .int [x0, x1] := c26.other W32 ne4
  have c37 : own_Ari Z h32 u_to .int [yy0, yy1] := c27.other W32 ne5
  have K32 : Keep h0 h32 [] := K22.wr W32 (Or.inr sz2)
  refine own_step st32 ?_
  show own_G p.tables e below _ (T32.setTop (mkF m 32 #[.val (.ref a1), .val (.ref b2), .val (.int (1 : Int32))] []))
  refine own_step (fun t k => XS.aloadN X32.here hx rfl (hb hby d4_32) rfl rfl k) ?_
  show own_G p.tables e below _ (T32.setTop (mkF m 33 #[.val (.ref a1), .val (.ref b2), .val (.int (1 : Int32))] [(.ref b2)]))
  refine own_step (fun t k => XS.iconst X32.here hx rfl (hb hby d4_33) k) ?_
  show own_G p.tables e below _ (T32.setTop (mkF m 34 #[.val (.ref a1), .val (.ref b2), .val (.int (1 : Int32))] [(.int (2 : Int32)), (.ref b2)]))
  refine own_step (fun t k => XS.iloadN X32.here hx rfl (hb hby d4_34) rfl k) ?_
  show own_G p.tables e below _ (T32.setTop (mkF m 35 #[.val (.ref a1), .val (.ref b2), .val (.int (1 : Int32))] [(.int (1 : Int32)), (.int (2 : Int32)), (.ref b2)]))
  refine own_step (fun t k => XS.imul X32.here hx rfl (hb hby d4_35) rfl k) ?_
  show own_G p.tables e below _ (T32.setTop (mkF m 36 #[.val (.ref a1), .val (.ref b2), .val (.int (1 : Int32))] [(.int (2 : Int32)), (.ref b2)]))
  refine own_step (fun t k => XS.iconst X32.here hx rfl (hb hby d4_36) k) ?_
  show own_G p.tables e below _ (T32.setTop (mkF m 37 #[.val (.ref a1), .val (.ref b2), .val (.int (1 : Int32))] [(.int (1 : Int32)), (.int (2 : Int32)), (.ref b2)]))
  refine own_step (fun t k => XS.iadd X32.here hx rfl (hb hby d4_37) rfl k) ?_
  show own_G p.tables e below _ (T32.setTop (mkF m 38 #[.val (.ref a1), .val (.ref b2), .val (.int (1 : Int32))] [(.int (3 : Int32)), (.ref b2)]))
  refine own_step (fun t k => XS.aloadN X32.here hx rfl (hb hby d4_38) rfl rfl k) ?_
  show own_G p.tables e below _ (T32.setTop (mkF m 39 #[.val (.ref a1), .val (.ref b2), .val (.int (1 : Int32))] [(.ref a1), (.int (3 : Int32)), (.ref b2)]))
  obtain ⟨T39, X39, e39, st39⟩ := getF X32 hx hZ hown (host := "") (Or.inl (hw _ (List.mem_of_getElem? (i := 17) rfl))) Via.refl e32 c35 (g := (mkF m 39 #[.val (.ref a1), .val (.ref b2), .val (.int (1 : Int32))] [(.ref a1), (.int (3 : Int32)), (.ref b2)])) rfl rfl (hb hby d4_39)
  refine own_step st39 ?_
  show own_G p.tables e below _ (T39.setTop (mkF m 42 #[.val (.ref a1), .val (.ref b2), .val (.int (1 : Int32))] [(.ref u_to), (.int (3 : Int32)), (.ref b2)]))
  refine own_step (fun t k => XS.iloadN X39.here hx rfl (hb hby d4_42) rfl k) ?_
  show own_G p.tables e below _ (T39.setTop (mkF m 43 #[.val (.ref a1), .val (.ref b2), .val (.int (1 : Int32))] [(.int (1 : Int32)), (.ref u_to), (.int (3 : Int32)), (.ref b2)]))
  refine own_step (own_iaload X39 hx hZ e39 c37 (own_inb (by decide) (Nat.le_of_ble_eq_true rfl)) (g := (mkF m 43 #[.val (.ref a1), .val (.ref b2), .val (.int (1 : Int32))] [(.int (1 : Int32)), (.ref u_to), (.int (3 : Int32)), (.ref b2)])) rfl rfl (hb hby d4_43)) ?_
  show own_G p.tables e below _ (T39.setTop (mkF m 44 #[.val (.ref a1), .val (.ref b2), .val (.int (1 : Int32))] [(.int yy1), (.int (3 : Int32)), (.ref b2)]))
  obtain ⟨T40, h40, X40, e40, W40, c40, st40⟩ := own_iastore X39 hx hZ e39 c33 (own_inb (by decide) (Nat.le_of_ble_eq_true rfl)) (g := (mkF m 44 #[.val (.ref a1), .val (.ref b2), .val (.int (1 : Int32))] [(.int yy1), (.int (3 : Int32)), (.ref b2)])) rfl rfl (hb hby d4_44)
  have N40 := Fr.snoc X40 N32 ge2
  have c41 : own_Ari Z h40 b2 .int [x0, yy0, x1, yy1] := c40
  have c42 : Fld Z h40 a1 "com/example/stevedore/stevedore/MoveGraph" "from" "[I" (.ref u_from) := c34.other W40 (Or.inl ne3)
  have c43 : Fld Z h40 a1 "com/example/stevedore/stevedore/MoveGraph" "to" "[I" (.ref u_to) := c35.other W40 (Or.inl ne3)
  have c44 : own_Ari Z h40 u_from .int [x0, x1] := c36.other W40 ne4
  have c45 : own_Ari Z h40 u_to .int [yy0, yy1] := c37.other W40 ne5
  have K40 : Keep h0 h40 [] := K32.wr W40 (Or.inr sz2)
  refine own_step st40 ?_
  show own_G p.tables e below _ (T40.setTop (mkF m 45 #[.val (.ref a1), .val (.ref b2), .val (.int (1 : Int32))] []))
  refine own_step (fun t k => XS.iinc X40.here hx rfl (hb hby d4_45) rfl (l' := #[.val (.ref a1), .val (.ref b2), .val (.int (2 : Int32))]) rfl k) ?_
  show own_G p.tables e below _ (T40.setTop (mkF m 48 #[.val (.ref a1), .val (.ref b2), .val (.int (2 : Int32))] []))
  refine own_step (fun t k => XS.goto X40.here hx rfl (pc0 := 48) (pc' := 12) rfl (hb hby d4_48) (by decide) (by decide) k) ?_
  show own_G p.tables e below _ (T40.setTop (mkF m 12 #[.val (.ref a1), .val (.ref b2), .val (.int (2 : Int32))] []))
  refine own_step (fun t k => XS.iloadN X40.here hx rfl (hb hby d4_12) rfl k) ?_
  show own_G p.tables e below _ (T40.setTop (mkF m 13 #[.val (.ref a1), .val (.ref b2), .val (.int (2 : Int32))] [(.int (2 : Int32))]))
  refine own_step (fun t k => XS.aloadN X40.here hx rfl (hb hby d4_13) rfl rfl k) ?_
  show own_G p.tables e below _ (T40.setTop (mkF m 14 #[.val (.ref a1), .val (.ref b2), .val (.int (2 : Int32))] [(.ref a1), (.int (2 : Int32))]))
  obtain ⟨T47, X47, e47, st47⟩ := getF X40 hx hZ hown (host := "") (Or.inl (hw _ (List.mem_of_getElem? (i := 15) rfl))) Via.refl e40 c42 (g := (mkF m 14 #[.val (.ref a1), .val (.ref b2), .val (.int (2 : Int32))] [(.ref a1), (.int (2 : Int32))])) rfl rfl (hb hby d4_14)
  refine own_step st47 ?_
  show own_G p.tables e below _ (T47.setTop (mkF m 17 #[.val (.ref a1), .val (.ref b2), .val (.int (2 : Int32))] [(.ref u_from), (.int (2 : Int32))]))
  refine own_step (own_lenI X47 hx hZ e47 c44 (g := (mkF m 17 #[.val (.ref a1), .val (.ref b2), .val (.int (2 : Int32))] [(.ref u_from), (.int (2 : Int32))])) rfl rfl (hb hby d4_17)) ?_
  show own_G p.tables e below _ (T47.setTop (mkF m 18 #[.val (.ref a1), .val (.ref b2), .val (.int (2 : Int32))] [(.int (2 : Int32)), (.int (2 : Int32))]))
  have hk48 : ¬ ((2 : Int32) < (2 : Int32)) := (by decide)
  refine own_step (fun t k => XS.icmpYes X47.here hx rfl (pc0 := 18) (pc' := 51) rfl (hb hby d4_18) rfl ((flt hk48).2.1) (by decide) (by decide) k) ?_
  show own_G p.tables e below _ (T47.setTop (mkF m 51 #[.val (.ref a1), .val (.ref b2), .val (.int (2 : Int32))] []))
  refine own_step (fun t k => XS.aloadN X47.here hx rfl (hb hby d4_51) rfl rfl k) ?_
  show own_G p.tables e below _ (T47.setTop (mkF m 52 #[.val (.ref a1), .val (.ref b2), .val (.int (2 : Int32))] [(.ref b2)]))
  obtain ⟨fs, hr, hrun, hended, hW, hsame⟩ := X47.leave (v := some (.ref b2)) (fun h => by rw [Bd.returns] at h; cases h)
  refine own_done (own_retA X47 hx Bd.returns (by decide) rfl (hb hby d4_52) hr) hrun hended ⟨_, _, rfl, ?_, ⟨_, rfl⟩, hW, hsame.mono (by decide) (by decide)⟩
  show Q4_k2 Z a1 u_from u_to x0 x1 yy0 yy1 h0 n0 _ T47.heap _
  rw [e47]
  exact ⟨b2, rfl, N40, K40, c41, sz2⟩
theorem pn_5_e0_2 : plainName "com/example/stevedore/stevedore/MoveGraphEndsPinLaw" = true := by first | (simp [plainName, overriddenIn]; done) | decide +kernel
theorem pd_5_e0_2_0 : parseMethodDescriptor "(J)I" = some ⟨[.long], some .int⟩ := by decide +kernel
theorem ef_5_e0_2 (m : MethodId) (a1 : Addr) (a2 : Addr) (a3 : Addr) (q6 : Int64) : entryFrame m #[(.ref a1), (.ref a2), (.ref a3), (.int (0 : Int32)), (.int (2 : Int32)), (.long q6)] 7 = mkF m 0 #[.val (.ref a1), .val (.ref a2), .val (.ref a3), .val (.int (0 : Int32)), .val (.int (2 : Int32)), .val (.long q6), .second] [] := by first | (simp [entryFrame, mkF, argsToLocals, Value.category]; done) | rfl
def Q5_e0_2 (Z : State) (a1 : Addr) (a2 : Addr) (a3 : Addr) (q6 : Int64) (ee2 : Int32) (ee3 : Int32) (x1 : Int32) (yy1 : Int32) (h0 : Heap) (n0 : Nat) (v : Option Value) (h : Heap) (L : List Loc) : Prop := v = some (.int (1 : Int32)) ∧ Fr n0 L ∧ h = h0
set_option maxRecDepth 65536 in
set_option maxHeartbeats 40000000 in
theorem rm5_e0_2 (l : Launch) (Z : State) (a0 : Array Value) (hw : ∀ d ∈ tables_1, d.before a0 Z = true) (ws : List Jvm.Cond) (a1 : Addr) (a2 : Addr) (a3 : Addr) (q6 : Int64) (ee2 : Int32) (ee3 : Int32) (x1 : Int32) (yy1 : Int32) (h0 : Heap) (n0 : Nat) (Z0 : n0 ≤ h0.size) (fp0 : own_Ari Z h0 a1 .int [(((q6.toUInt64 >>> ((32 : Int32) &&& 0x3f).toInt64.toUInt64).toInt64).toInt32), (q6.toInt32), ee2, ee3]) (fp1 : own_Ari Z h0 a2 .int [(((q6.toUInt64 >>> ((32 : Int32) &&& 0x3f).toInt64.toUInt64).toInt64).toInt32), x1]) (fp2 : own_Ari Z h0 a3 .int [(q6.toInt32), yy1]) :
    MetFree l (⟨"com/example/stevedore/stevedore/MoveGraphEndsPinLaw", "pair", "([I[I[IIIJ)Z"⟩ : MethodName) (head1 (Jvm.Cond.code (⟨"com/example/stevedore/stevedore/MoveGraphEndsPinLaw", "pair", "([I[I[IIIJ)Z"⟩ : MethodName) method_5_code 7 (some .boolean) :: ws) ({ frames := 1, cells := 0, slots := 0, locals := 14 } : Room)) (fun a U => a = #[(.ref a1), (.ref a2), (.ref a3), (.int (0 : Int32)), (.int (2 : Int32)), (.long q6)] ∧ Z.Warmed39 U.vm ∧ U.heap = h0) (fun _ _ _ _ _ => True) (fun _ U o U' => ∃ v L, o = .returned v ∧ Q5_e0_2 Z a1 a2 a3 q6 ee2 ee3 x1 yy1 h0 n0 v U'.heap L ∧ FrameEnd U o U' L ({ frames := 1, cells := 0, slots := 0, locals := 14 } : Room).cells ({ frames := 1, cells := 0, slots := 0, locals := 14 } : Room).slots) := by
  refine MetFree.of_bodySF (plainFor_of_name pn_5_e0_2) hisR ?_
  intro p e s m args below meth c s₁ Bd hml0 hP hK
  obtain ⟨rfl, hZ, hh⟩ := hP
  have hx := Bd.exec
  have hby := Bd.bytes
  have hml : c.maxLocals = 7 := hml0
  have hown : s.vm.findClass "com/example/stevedore/stevedore/MoveGraphEndsPinLaw" = some m.cls := findClass_of_methodNamed Bd.named
  have hnm := (name_of_methodNamed Bd.named Bd.method).1
  have X0 : Stand p l e ({ frames := 1, cells := 0, slots := 0, locals := 14 } : Room) s m #[(.ref a1), (.ref a2), (.ref a3), (.int (0 : Int32)), (.int (2 : Int32)), (.long q6)] below meth c s₁ [] 0 0 := Stand.of_body Bd
  have e0 : s₁.heap = h0 := by rw [← hh, Bd.state]; rfl
  have N0 := Fr.nil n0
  refine own_start (fun t k => castTop (ef_5_e0_2 m a1 a2 a3 q6) k) ?_
  show own_G p.tables e below _ (s₁.setTop (mkF m 0 #[.val (.ref a1), .val (.ref a2), .val (.ref a3), .val (.int (0 : Int32)), .val (.int (2 : Int32)), .val (.long q6), .second] []))
  refine own_step (fun t k => XS.iloadN X0.here hx rfl (hb hby d5_0) rfl k) ?_
  show own_G p.tables e below _ (s₁.setTop (mkF m 1 #[.val (.ref a1), .val (.ref a2), .val (.ref a3), .val (.int (0 : Int32)), .val (.int (2 : Int32)), .val (.long q6), .second] [(.int (0 : Int32))]))
  refine own_step (fun t k => XS.iload X0.here hx rfl (hb hby d5_1) rfl k) ?_
  show own_G p.tables e below _ (s₁.setTop (mkF m 3 #[.val (.ref a1), .val (.ref a2), .val (.ref a3), .val (.int (0 : Int32)), .val (.int (2 : Int32)), .val (.long q6), .second] [(.int (2 : Int32)), (.int (0 : Int32))]))
  have hk1 : (0 : Int32) < (2 : Int32) := (by decide)
  refine own_step (fun t k => XS.icmpYes X0.here hx rfl (pc0 := 3) (pc' := 8) rfl (hb hby d5_3) rfl ((tlt hk1).1) (by decide) (by decide) k) ?_
  show own_G p.tables e below _ (s₁.setTop (mkF m 8 #[.val (.ref a1), .val (.ref a2), .val (.ref a3), .val (.int (0 : Int32)), .val (.int (2 : Int32)), .val (.long q6), .second] []))
  refine own_step (fun t k => XS.aloadN X0.here hx rfl (hb hby d5_8) rfl rfl k) ?_
  show own_G p.tables e below _ (s₁.setTop (mkF m 9 #[.val (.ref a1), .val (.ref a2), .val (.ref a3), .val (.int (0 : Int32)), .val (.int (2 : Int32)), .val (.long q6), .second] [(.ref a1)]))
  refine own_step (fun t k => XS.iconst X0.here hx rfl (hb hby d5_9) k) ?_
  show own_G p.tables e below _ (s₁.setTop (mkF m 10 #[.val (.ref a1), .val (.ref a2), .val (.ref a3), .val (.int (0 : Int32)), .val (.int (2 : Int32)), .val (.long q6), .second] [(.int (2 : Int32)), (.ref a1)]))
  refine own_step (fun t k => XS.iloadN X0.here hx rfl (hb hby d5_10) rfl k) ?_
  show own_G p.tables e below _ (s₁.setTop (mkF m 11 #[.val (.ref a1), .val (.ref a2), .val (.ref a3), .val (.int (0 : Int32)), .val (.int (2 : Int32)), .val (.long q6), .second] [(.int (0 : Int32)), (.int (2 : Int32)), (.ref a1)]))
  refine own_step (fun t k => XS.imul X0.here hx rfl (hb hby d5_11) rfl k) ?_
  show own_G p.tables e below _ (s₁.setTop (mkF m 12 #[.val (.ref a1), .val (.ref a2), .val (.ref a3), .val (.int (0 : Int32)), .val (.int (2 : Int32)), .val (.long q6), .second] [(.int (0 : Int32)), (.ref a1)]))
  refine own_step (own_iaload X0 hx hZ e0 fp0 (own_inb (by decide) (Nat.le_of_ble_eq_true rfl)) (g := (mkF m 12 #[.val (.ref a1), .val (.ref a2), .val (.ref a3), .val (.int (0 : Int32)), .val (.int (2 : Int32)), .val (.long q6), .second] [(.int (0 : Int32)), (.ref a1)])) rfl rfl (hb hby d5_12)) ?_
  show own_G p.tables e below _ (s₁.setTop (mkF m 13 #[.val (.ref a1), .val (.ref a2), .val (.ref a3), .val (.int (0 : Int32)), .val (.int (2 : Int32)), .val (.long q6), .second] [(.int (((q6.toUInt64 >>> ((32 : Int32) &&& 0x3f).toInt64.toUInt64).toInt64).toInt32))]))
  refine own_step (fun t k => XS.lload X0.here hx rfl (hb hby d5_13) rfl k) ?_
  show own_G p.tables e below _ (s₁.setTop (mkF m 15 #[.val (.ref a1), .val (.ref a2), .val (.ref a3), .val (.int (0 : Int32)), .val (.int (2 : Int32)), .val (.long q6), .second] [(.long q6), (.int (((q6.toUInt64 >>> ((32 : Int32) &&& 0x3f).toInt64.toUInt64).toInt64).toInt32))]))
  obtain ⟨_, _, ⟨T2, L2, k2, n2⟩, -, X2, ⟨Lc2, hQ2, l2, y2, z2⟩, st2⟩ := Jvm.LawKit.callS X0 hx (y := (⟨"com/example/stevedore/stevedore/MoveGraphEndsPinLaw", "hi", "(J)I"⟩ : MethodName)) hown (mvT hZ (hw _ (List.mem_of_getElem? (i := 36) rfl))) (mvT hZ (hw _ (List.mem_of_getElem? (i := 37) rfl))) (mvT hZ (hw _ (List.mem_of_getElem? (i := 34) rfl))) (mvT hZ (hw _ (List.mem_of_getElem? (i := 38) rfl))) (by decide) (backOf (W := 1) (rm6 l Z a0 hw [] q6 h0 n0 (Nat.le_trans Z0 (Keep.refl h0 []).1) ) hZ (hw _ (List.mem_of_getElem? (i := 38) rfl)) (hw _ (List.mem_of_getElem? (i := 34) rfl)) (by decide) (by decide)) (g := (mkF m 15 #[.val (.ref a1), .val (.ref a2), .val (.ref a3), .val (.int (0 : Int32)), .val (.int (2 : Int32)), .val (.long q6), .second] [(.long q6), (.int (((q6.toUInt64 >>> ((32 : Int32) &&& 0x3f).toInt64.toUInt64).toInt64).toInt32))])) rfl (by rw [hml]; rfl) (argsL := [(.long q6)]) (rest := [(.int (((q6.toUInt64 >>> ((32 : Int32) &&& 0x3f).toInt64.toUInt64).toInt64).toInt32))]) (lenOf pd_5_e0_2_0 rfl) rfl (by show 2 * 0 + _ ≤ _; exact Nat.le_of_eq rfl) (hb hby d5_15) (fun _ _ => ⟨rfl, e0, (by decide : 0 + 0 ≤ _), (by decide : 0 + 0 ≤ _)⟩)
  dsimp only [Pt.U, Pt.locs, Pt.cells, Pt.slots] at X2 l2 y2 z2 st2 hQ2
  subst l2 y2 z2
  obtain ⟨rfl, N2q, e2⟩ := hQ2
  have N2 := Fr.app N0 N2q
  refine own_step st2 ?_
  show own_G p.tables e below _ (T2.setTop (mkF m 18 #[.val (.ref a1), .val (.ref a2), .val (.ref a3), .val (.int (0 : Int32)), .val (.int (2 : Int32)), .val (.long q6), .second] [(.int (((q6.toUInt64 >>> ((32 : Int32) &&& 0x3f).toInt64.toUInt64).toInt64).toInt32)), (.int (((q6.toUInt64 >>> ((32 : Int32) &&& 0x3f).toInt64.toUInt64).toInt64).toInt32))]))
  have hk3 : (((q6.toUInt64 >>> ((32 : Int32) &&& 0x3f).toInt64.toUInt64).toInt64).toInt32) = (((q6.toUInt64 >>> ((32 : Int32) &&& 0x3f).toInt64.toUInt64).toInt64).toInt32) := rfl
  refine own_step (fun t k => XS.icmpNo X2.here hx rfl (hb hby d5_18) rfl ((teq hk3).2) k) ?_
  show own_G p.tables e below _ (T2.setTop (mkF m 21 #[.val (.ref a1), .val (.ref a2), .val (.ref a3), .val (.int (0 : Int32)), .val (.int (2 : Int32)), .val (.long q6), .second] []))
  refine own_step (fun t k => XS.aloadN X2.here hx rfl (hb hby d5_21) rfl rfl k) ?_
  show own_G p.tables e below _ (T2.setTop (mkF m 22 #[.val (.ref a1), .val (.ref a2), .val (.ref a3), .val (.int (0 : Int32)), .val (.int (2 : Int32)), .val (.long q6), .second] [(.ref a1)]))
  refine own_step (fun t k => XS.iconst X2.here hx rfl (hb hby d5_22) k) ?_
  show own_G p.tables e below _ (T2.setTop (mkF m 23 #[.val (.ref a1), .val (.ref a2), .val (.ref a3), .val (.int (0 : Int32)), .val (.int (2 : Int32)), .val (.long q6), .second] [(.int (2 : Int32)), (.ref a1)]))
  refine own_step (fun t k => XS.iloadN X2.here hx rfl (hb hby d5_23) rfl k) ?_
  show own_G p.tables e below _ (T2.setTop (mkF m 24 #[.val (.ref a1), .val (.ref a2), .val (.ref a3), .val (.int (0 : Int32)), .val (.int (2 : Int32)), .val (.long q6), .second] [(.int (0 : Int32)), (.int (2 : Int32)), (.ref a1)]))
  refine own_step (fun t k => XS.imul X2.here hx rfl (hb hby d5_24) rfl k) ?_
  show own_G p.tables e below _ (T2.setTop (mkF m 25 #[.val (.ref a1), .val (.ref a2), .val (.ref a3), .val (.int (0 : Int32)), .val (.int (2 : Int32)), .val (.long q6), .second] [(.int (0 : Int32)), (.ref a1)]))
  refine own_step (fun t k => XS.iconst X2.here hx rfl (hb hby d5_25) k) ?_
  show own_G p.tables e below _ (T2.setTop (mkF m 26 #[.val (.ref a1), .val (.ref a2), .val (.ref a3), .val (.int (0 : Int32)), .val (.int (2 : Int32)), .val (.long q6), .second] [(.int (1 : Int32)), (.int (0 : Int32)), (.ref a1)]))
  refine own_step (fun t k => XS.iadd X2.here hx rfl (hb hby d5_26) rfl k) ?_
  show own_G p.tables e below _ (T2.setTop (mkF m 27 #[.val (.ref a1), .val (.ref a2), .val (.ref a3), .val (.int (0 : Int32)), .val (.int (2 : Int32)), .val (.long q6), .second] [(.int (1 : Int32)), (.ref a1)]))
  refine own_step (own_iaload X2 hx hZ e2 fp0 (own_inb (by decide) (Nat.le_of_ble_eq_true rfl)) (g := (mkF m 27 #[.val (.ref a1), .val (.ref a2), .val (.ref a3), .val (.int (0 : Int32)), .val (.int (2 : Int32)), .val (.long q6), .second] [(.int (1 : Int32)), (.ref a1)])) rfl rfl (hb hby d5_27)) ?_
  show own_G p.tables e below _ (T2.setTop (mkF m 28 #[.val (.ref a1), .val (.ref a2), .val (.ref a3), .val (.int (0 : Int32)), .val (.int (2 : Int32)), .val (.long q6), .second] [(.int (q6.toInt32))]))
  refine own_step (fun t k => XS.lload X2.here hx rfl (hb hby d5_28) rfl k) ?_
  show own_G p.tables e below _ (T2.setTop (mkF m 30 #[.val (.ref a1), .val (.ref a2), .val (.ref a3), .val (.int (0 : Int32)), .val (.int (2 : Int32)), .val (.long q6), .second] [(.long q6), (.int (q6.toInt32))]))
  obtain ⟨_, _, ⟨T4, L4, k4, n4⟩, -, X4, ⟨Lc4, hQ4, l4, y4, z4⟩, st4⟩ := Jvm.LawKit.callS X2 hx (y := (⟨"com/example/stevedore/stevedore/MoveGraphEndsPinLaw", "lo", "(J)I"⟩ : MethodName)) hown (mvT hZ (hw _ (List.mem_of_getElem? (i := 39) rfl))) (mvT hZ (hw _ (List.mem_of_getElem? (i := 40) rfl))) (mvT hZ (hw _ (List.mem_of_getElem? (i := 34) rfl))) (mvT hZ (hw _ (List.mem_of_getElem? (i := 41) rfl))) (by decide) (backOf (W := 1) (rm7 l Z a0 hw [] q6 h0 n0 (Nat.le_trans Z0 (Keep.refl h0 []).1) ) hZ (hw _ (List.mem_of_getElem? (i := 41) rfl)) (hw _ (List.mem_of_getElem? (i := 34) rfl)) (by decide) (by decide)) (g := (mkF m 30 #[.val (.ref a1), .val (.ref a2), .val (.ref a3), .val (.int (0 : Int32)), .val (.int (2 : Int32)), .val (.long q6), .second] [(.long q6), (.int (q6.toInt32))])) rfl (by rw [hml]; rfl) (argsL := [(.long q6)]) (rest := [(.int (q6.toInt32))]) (lenOf pd_5_e0_2_0 rfl) rfl (by show 2 * 0 + _ ≤ _; exact Nat.le_of_eq rfl) (hb hby d5_30) (fun _ _ => ⟨rfl, e2, (by decide : 0 + 0 ≤ _), (by decide : 0 + 0 ≤ _)⟩)
  dsimp only [Pt.U, Pt.locs, Pt.cells, Pt.slots] at X4 l4 y4 z4 st4 hQ4
  subst l4 y4 z4
  obtain ⟨rfl, N4q, e4⟩ := hQ4
  have N4 := Fr.app N2 N4q
  refine own_step st4 ?_
  show own_G p.tables e below _ (T4.setTop (mkF m 33 #[.val (.ref a1), .val (.ref a2), .val (.ref a3), .val (.int (0 : Int32)), .val (.int (2 : Int32)), .val (.long q6), .second] [(.int (q6.toInt32)), (.int (q6.toInt32))]))
  have hk5 : (q6.toInt32) = (q6.toInt32) := rfl
  refine own_step (fun t k => XS.icmpNo X4.here hx rfl (hb hby d5_33) rfl ((teq hk5).2) k) ?_
  show own_G p.tables e below _ (T4.setTop (mkF m 36 #[.val (.ref a1), .val (.ref a2), .val (.ref a3), .val (.int (0 : Int32)), .val (.int (2 : Int32)), .val (.long q6), .second] []))
  refine own_step (fun t k => XS.aloadN X4.here hx rfl (hb hby d5_36) rfl rfl k) ?_
  show own_G p.tables e below _ (T4.setTop (mkF m 37 #[.val (.ref a1), .val (.ref a2), .val (.ref a3), .val (.int (0 : Int32)), .val (.int (2 : Int32)), .val (.long q6), .second] [(.ref a2)]))
  refine own_step (fun t k => XS.iloadN X4.here hx rfl (hb hby d5_37) rfl k) ?_
  show own_G p.tables e below _ (T4.setTop (mkF m 38 #[.val (.ref a1), .val (.ref a2), .val (.ref a3), .val (.int (0 : Int32)), .val (.int (2 : Int32)), .val (.long q6), .second] [(.int (0 : Int32)), (.ref a2)]))
  refine own_step (own_iaload X4 hx hZ e4 fp1 (own_inb (by decide) (Nat.le_of_ble_eq_true rfl)) (g := (mkF m 38 #[.val (.ref a1), .val (.ref a2), .val (.ref a3), .val (.int (0 : Int32)), .val (.int (2 : Int32)), .val (.long q6), .second] [(.int (0 : Int32)), (.ref a2)])) rfl rfl (hb hby d5_38)) ?_
  show own_G p.tables e below _ (T4.setTop (mkF m 39 #[.val (.ref a1), .val (.ref a2), .val (.ref a3), .val (.int (0 : Int32)), .val (.int (2 : Int32)), .val (.long q6), .second] [(.int (((q6.toUInt64 >>> ((32 : Int32) &&& 0x3f).toInt64.toUInt64).toInt64).toInt32))]))
  refine own_step (fun t k => XS.lload X4.here hx rfl (hb hby d5_39) rfl k) ?_
  show own_G p.tables e below _ (T4.setTop (mkF m 41 #[.val (.ref a1), .val (.ref a2), .val (.ref a3), .val (.int (0 : Int32)), .val (.int (2 : Int32)), .val (.long q6), .second] [(.long q6), (.int (((q6.toUInt64 >>> ((32 : Int32) &&& 0x3f).toInt64.toUInt64).toInt64).toInt32))]))
  obtain ⟨_, _, ⟨T6, L6, k6, n6⟩, -, X6, ⟨Lc6, hQ6, l6, y6, z6⟩, st6⟩ := Jvm.LawKit.callS X4 hx (y := (⟨"com/example/stevedore/stevedore/MoveGraphEndsPinLaw", "hi", "(J)I"⟩ : MethodName)) hown (mvT hZ (hw _ (List.mem_of_getElem? (i := 36) rfl))) (mvT hZ (hw _ (List.mem_of_getElem? (i := 37) rfl))) (mvT hZ (hw _ (List.mem_of_getElem? (i := 34) rfl))) (mvT hZ (hw _ (List.mem_of_getElem? (i := 38) rfl))) (by decide) (backOf (W := 1) (rm6 l Z a0 hw [] q6 h0 n0 (Nat.le_trans Z0 (Keep.refl h0 []).1) ) hZ (hw _ (List.mem_of_getElem? (i := 38) rfl)) (hw _ (List.mem_of_getElem? (i := 34) rfl)) (by decide) (by decide)) (g := (mkF m 41 #[.val (.ref a1), .val (.ref a2), .val (.ref a3), .val (.int (0 : Int32)), .val (.int (2 : Int32)), .val (.long q6), .second] [(.long q6), (.int (((q6.toUInt64 >>> ((32 : Int32) &&& 0x3f).toInt64.toUInt64).toInt64).toInt32))])) rfl (by rw [hml]; rfl) (argsL := [(.long q6)]) (rest := [(.int (((q6.toUInt64 >>> ((32 : Int32) &&& 0x3f).toInt64.toUInt64).toInt64).toInt32))]) (lenOf pd_5_e0_2_0 rfl) rfl (by show 2 * 0 + _ ≤ _; exact Nat.le_of_eq rfl) (hb hby d5_41) (fun _ _ => ⟨rfl, e4, (by decide : 0 + 0 ≤ _), (by decide : 0 + 0 ≤ _)⟩)
  dsimp only [Pt.U, Pt.locs, Pt.cells, Pt.slots] at X6 l6 y6 z6 st6 hQ6
  subst l6 y6 z6
  obtain ⟨rfl, N6q, e6⟩ := hQ6
  have N6 := Fr.app N4 N6q
  refine own_step st6 ?_
  show own_G p.tables e below _ (T6.setTop (mkF m 44 #[.val (.ref a1), .val (.ref a2), .val (.ref a3), .val (.int (0 : Int32)), .val (.int (2 : Int32)), .val (.long q6), .second] [(.int (((q6.toUInt64 >>> ((32 : Int32) &&& 0x3f).toInt64.toUInt64).toInt64).toInt32)), (.int (((q6.toUInt64 >>> ((32 : Int32) &&& 0x3f).toInt64.toUInt64).toInt64).toInt32))]))
  have hk7 : (((q6.toUInt64 >>> ((32 : Int32) &&& 0x3f).toInt64.toUInt64).toInt64).toInt32) = (((q6.toUInt64 >>> ((32 : Int32) &&& 0x3f).toInt64.toUInt64).toInt64).toInt32) := rfl
  refine own_step (fun t k => XS.icmpNo X6.here hx rfl (hb hby d5_44) rfl ((teq hk7).2) k) ?_
  show own_G p.tables e below _ (T6.setTop (mkF m 47 #[.val (.ref a1), .val (.ref a2), .val (.ref a3), .val (.int (0 : Int32)), .val (.int (2 : Int32)), .val (.long q6), .second] []))
  refine own_step (fun t k => XS.aloadN X6.here hx rfl (hb hby d5_47) rfl rfl k) ?_
  show own_G p.tables e below _ (T6.setTop (mkF m 48 #[.val (.ref a1), .val (.ref a2), .val (.ref a3), .val (.int (0 : Int32)), .val (.int (2 : Int32)), .val (.long q6), .second] [(.ref a3)]))
  refine own_step (fun t k => XS.iloadN X6.here hx rfl (hb hby d5_48) rfl k) ?_
  show own_G p.tables e below _ (T6.setTop (mkF m 49 #[.val (.ref a1), .val (.ref a2), .val (.ref a3), .val (.int (0 : Int32)), .val (.int (2 : Int32)), .val (.long q6), .second] [(.int (0 : Int32)), (.ref a3)]))
  refine own_step (own_iaload X6 hx hZ e6 fp2 (own_inb (by decide) (Nat.le_of_ble_eq_true rfl)) (g := (mkF m 49 #[.val (.ref a1), .val (.ref a2), .val (.ref a3), .val (.int (0 : Int32)), .val (.int (2 : Int32)), .val (.long q6), .second] [(.int (0 : Int32)), (.ref a3)])) rfl rfl (hb hby d5_49)) ?_
  show own_G p.tables e below _ (T6.setTop (mkF m 50 #[.val (.ref a1), .val (.ref a2), .val (.ref a3), .val (.int (0 : Int32)), .val (.int (2 : Int32)), .val (.long q6), .second] [(.int (q6.toInt32))]))
  refine own_step (fun t k => XS.lload X6.here hx rfl (hb hby d5_50) rfl k) ?_
  show own_G p.tables e below _ (T6.setTop (mkF m 52 #[.val (.ref a1), .val (.ref a2), .val (.ref a3), .val (.int (0 : Int32)), .val (.int (2 : Int32)), .val (.long q6), .second] [(.long q6), (.int (q6.toInt32))]))
  obtain ⟨_, _, ⟨T8, L8, k8, n8⟩, -, X8, ⟨Lc8, hQ8, l8, y8, z8⟩, st8⟩ := Jvm.LawKit.callS X6 hx (y := (⟨"com/example/stevedore/stevedore/MoveGraphEndsPinLaw", "lo", "(J)I"⟩ : MethodName)) hown (mvT hZ (hw _ (List.mem_of_getElem? (i := 39) rfl))) (mvT hZ (hw _ (List.mem_of_getElem? (i := 40) rfl))) (mvT hZ (hw _ (List.mem_of_getElem? (i := 34) rfl))) (mvT hZ (hw _ (List.mem_of_getElem? (i := 41) rfl))) (by decide) (backOf (W := 1) (rm7 l Z a0 hw [] q6 h0 n0 (Nat.le_trans Z0 (Keep.refl h0 []).1) ) hZ (hw _ (List.mem_of_getElem? (i := 41) rfl)) (hw _ (List.mem_of_getElem? (i := 34) rfl)) (by decide) (by decide)) (g := (mkF m 52 #[.val (.ref a1), .val (.ref a2), .val (.ref a3), .val (.int (0 : Int32)), .val (.int (2 : Int32)), .val (.long q6), .second] [(.long q6), (.int (q6.toInt32))])) rfl (by rw [hml]; rfl) (argsL := [(.long q6)]) (rest := [(.int (q6.toInt32))]) (lenOf pd_5_e0_2_0 rfl) rfl (by show 2 * 0 + _ ≤ _; exact Nat.le_of_eq rfl) (hb hby d5_52) (fun _ _ => ⟨rfl, e6, (by decide : 0 + 0 ≤ _), (by decide : 0 + 0 ≤ _)⟩)
  dsimp only [Pt.U, Pt.locs, Pt.cells, Pt.slots] at X8 l8 y8 z8 st8 hQ8
  subst l8 y8 z8
  obtain ⟨rfl, N8q, e8⟩ := hQ8
  have N8 := Fr.app N6 N8q
  refine own_step st8 ?_
  show own_G p.tables e below _ (T8.setTop (mkF m 55 #[.val (.ref a1), .val (.ref a2), .val (.ref a3), .val (.int (0 : Int32)), .val (.int (2 : Int32)), .val (.long q6), .second] [(.int (q6.toInt32)), (.int (q6.toInt32))]))
  have hk9 : (q6.toInt32) = (q6.toInt32) := rfl
  refine own_step (fun t k => XS.icmpNo X8.here hx rfl (hb hby d5_55) rfl ((teq hk9).2) k) ?_
  show own_G p.tables e below _ (T8.setTop (mkF m 58 #[.val (.ref a1), .val (.ref a2), .val (.ref a3), .val (.int (0 : Int32)), .val (.int (2 : Int32)), .val (.long q6), .second] []))
  refine own_step (fun t k => XS.iconst X8.here hx rfl (hb hby d5_58) k) ?_
  show own_G p.tables e below _ (T8.setTop (mkF m 59 #[.val (.ref a1), .val (.ref a2), .val (.ref a3), .val (.int (0 : Int32)), .val (.int (2 : Int32)), .val (.long q6), .second] [(.int (1 : Int32))]))
  refine own_step (fun t k => XS.goto X8.here hx rfl (pc0 := 59) (pc' := 63) rfl (hb hby d5_59) (by decide) (by decide) k) ?_
  show own_G p.tables e below _ (T8.setTop (mkF m 63 #[.val (.ref a1), .val (.ref a2), .val (.ref a3), .val (.int (0 : Int32)), .val (.int (2 : Int32)), .val (.long q6), .second] [(.int (1 : Int32))]))
  obtain ⟨fs, hr, hrun, hended, hW, hsame⟩ := X8.leave (v := some (.int (1 : Int32))) (fun h => by rw [Bd.returns] at h; cases h)
  refine own_done (retN X8 hx (t := .boolean) Bd.returns (by simp) (hb hby d5_63) hr) hrun hended ⟨_, _, rfl, ?_, ⟨_, rfl⟩, hW, hsame.mono (by decide) (by decide)⟩
  show Q5_e0_2 Z a1 a2 a3 q6 ee2 ee3 x1 yy1 h0 n0 _ T8.heap _
  rw [e8]
  exact ⟨congrArg (fun z => some (Value.int z)) (show (1 : Int32) = (1 : Int32) from rfl), N8, rfl⟩
theorem pn_5_e1_2 : plainName "com/example/stevedore/stevedore/MoveGraphEndsPinLaw" = true := by first | (simp [plainName, overriddenIn]; done) | decide +kernel
theorem pd_5_e1_2_0 : parseMethodDescriptor "(J)I" = some ⟨[.long], some .int⟩ := by decide +kernel
theorem ef_5_e1_2 (m : MethodId) (a1 : Addr) (a2 : Addr) (a3 : Addr) (q6 : Int64) : entryFrame m #[(.ref a1), (.ref a2), (.ref a3), (.int (1 : Int32)), (.int (2 : Int32)), (.long q6)] 7 = mkF m 0 #[.val (.ref a1), .val (.ref a2), .val (.ref a3), .val (.int (1 : Int32)), .val (.int (2 : Int32)), .val (.long q6), .second] [] := by first | (simp [entryFrame, mkF, argsToLocals, Value.category]; done) | rfl
def Q5_e1_2 (Z : State) (a1 : Addr) (a2 : Addr) (a3 : Addr) (q6 : Int64) (ee0 : Int32) (ee1 : Int32) (x0 : Int32) (yy0 : Int32) (h0 : Heap) (n0 : Nat) (v : Option Value) (h : Heap) (L : List Loc) : Prop := v = some (.int (1 : Int32)) ∧ Fr n0 L ∧ h = h0
set_option maxRecDepth 65536 in
set_option maxHeartbeats 40000000 in
theorem rm5_e1_2 (l : Launch) (Z : State) (a0 : Array Value) (hw : ∀ d ∈ tables_1, d.before a0 Z = true) (ws : List Jvm.Cond) (a1 : Addr) (a2 : Addr) (a3 : Addr) (q6 : Int64) (ee0 : Int32) (ee1 : Int32) (x0 : Int32) (yy0 : Int32) (h0 : Heap) (n0 : Nat) (Z0 : n0 ≤ h0.size) (fp0 : own_Ari Z h0 a1 .int [ee0, ee1, (((q6.toUInt64 >>> ((32 : Int32) &&& 0x3f).toInt64.toUInt64).toInt64).toInt32), (q6.toInt32)]) (fp1 : own_Ari Z h0 a2 .int [x0, (((q6.toUInt64 >>> ((32 : Int32) &&& 0x3f).toInt64.toUInt64).toInt64).toInt32)]) (fp2 : own_Ari Z h0 a3 .int [yy0, (q6.toInt32)]) :
    MetFree l (⟨"com/example/stevedore/stevedore/MoveGraphEndsPinLaw", "pair", "([I[I[IIIJ)Z"⟩ : MethodName) (head1 (Jvm.Cond.code (⟨"com/example/stevedore/stevedore/MoveGraphEndsPinLaw", "pair", "([I[I[IIIJ)Z"⟩ : MethodName) method_5_code 7 (some .boolean) :: ws) ({ frames := 1, cells := 0, slots := 0, locals := 14 } : Room)) (fun a U => a = #[(.ref a1), (.ref a2), (.ref a3), (.int (1 : Int32)), (.int (2 : Int32)), (.long q6)] ∧ Z.Warmed39 U.vm ∧ U.heap = h0) (fun _ _ _ _ _ => True) (fun _ U o U' => ∃ v L, o = .returned v ∧ Q5_e1_2 Z a1 a2 a3 q6 ee0 ee1 x0 yy0 h0 n0 v U'.heap L ∧ FrameEnd U o U' L ({ frames := 1, cells := 0, slots := 0, locals := 14 } : Room).cells ({ frames := 1, cells := 0, slots := 0, locals := 14 } : Room).slots) := by
  refine MetFree.of_bodySF (plainFor_of_name pn_5_e1_2) hisR ?_
  intro p e s m args below meth c s₁ Bd hml0 hP hK
  obtain ⟨rfl, hZ, hh⟩ := hP
  have hx := Bd.exec
  have hby := Bd.bytes
  have hml : c.maxLocals = 7 := hml0
  have hown : s.vm.findClass "com/example/stevedore/stevedore/MoveGraphEndsPinLaw" = some m.cls := findClass_of_methodNamed Bd.named
  have hnm := (name_of_methodNamed Bd.named Bd.method).1
  have X0 : Stand p l e ({ frames := 1, cells := 0, slots := 0, locals := 14 } : Room) s m #[(.ref a1), (.ref a2), (.ref a3), (.int (1 : Int32)), (.int (2 : Int32)), (.long q6)] below meth c s₁ [] 0 0 := Stand.of_body Bd
  have e0 : s₁.heap = h0 := by rw [← hh, Bd.state]; rfl
  have N0 := Fr.nil n0
  refine own_start (fun t k => castTop (ef_5_e1_2 m a1 a2 a3 q6) k) ?_
  show own_G p.tables e below _ (s₁.setTop (mkF m 0 #[.val (.ref a1), .val (.ref a2), .val (.ref a3), .val (.int (1 : Int32)), .val (.int (2 : Int32)), .val (.long q6), .second] []))
  refine own_step (fun t k => XS.iloadN X0.here hx rfl (hb hby d5_0) rfl k) ?_
  show own_G p.tables e below _ (s₁.setTop (mkF m 1 #[.val (.ref a1), .val (.ref a2), .val (.ref a3), .val (.int (1 : Int32)), .val (.int (2 : Int32)), .val (.long q6), .second] [(.int (1 : Int32))]))
  refine own_step (fun t k => XS.iload X0.here hx rfl (hb hby d5_1) rfl k) ?_
  show own_G p.tables e below _ (s₁.setTop (mkF m 3 #[.val (.ref a1), .val (.ref a2), .val (.ref a3), .val (.int (1 : Int32)), .val (.int (2 : Int32)), .val (.long q6), .second] [(.int (2 : Int32)), (.int (1 : Int32))]))
  have hk1 : (1 : Int32) < (2 : Int32) := (by decide)
  refine own_step (fun t k => XS.icmpYes X0.here hx rfl (pc0 := 3) (pc' := 8) rfl (hb hby d5_3) rfl ((tlt hk1).1) (by decide) (by decide) k) ?_
  show own_G p.tables e below _ (s₁.setTop (mkF m 8 #[.val (.ref a1), .val (.ref a2), .val (.ref a3), .val (.int (1 : Int32)), .val (.int (2 : Int32)), .val (.long q6), .second] []))
  refine own_step (fun t k => XS.aloadN X0.here hx rfl (hb hby d5_8) rfl rfl k) ?_
  show own_G p.tables e below _ (s₁.setTop (mkF m 9 #[.val (.ref a1), .val (.ref a2), .val (.ref a3), .val (.int (1 : Int32)), .val (.int (2 : Int32)), .val (.long q6), .second] [(.ref a1)]))
  refine own_step (fun t k => XS.iconst X0.here hx rfl (hb hby d5_9) k) ?_
  show own_G p.tables e below _ (s₁.setTop (mkF m 10 #[.val (.ref a1), .val (.ref a2), .val (.ref a3), .val (.int (1 : Int32)), .val (.int (2 : Int32)), .val (.long q6), .second] [(.int (2 : Int32)), (.ref a1)]))
  refine own_step (fun t k => XS.iloadN X0.here hx rfl (hb hby d5_10) rfl k) ?_
  show own_G p.tables e below _ (s₁.setTop (mkF m 11 #[.val (.ref a1), .val (.ref a2), .val (.ref a3), .val (.int (1 : Int32)), .val (.int (2 : Int32)), .val (.long q6), .second] [(.int (1 : Int32)), (.int (2 : Int32)), (.ref a1)]))
  refine own_step (fun t k => XS.imul X0.here hx rfl (hb hby d5_11) rfl k) ?_
  show own_G p.tables e below _ (s₁.setTop (mkF m 12 #[.val (.ref a1), .val (.ref a2), .val (.ref a3), .val (.int (1 : Int32)), .val (.int (2 : Int32)), .val (.long q6), .second] [(.int (2 : Int32)), (.ref a1)]))
  refine own_step (own_iaload X0 hx hZ e0 fp0 (own_inb (by decide) (Nat.le_of_ble_eq_true rfl)) (g := (mkF m 12 #[.val (.ref a1), .val (.ref a2), .val (.ref a3), .val (.int (1 : Int32)), .val (.int (2 : Int32)), .val (.long q6), .second] [(.int (2 : Int32)), (.ref a1)])) rfl rfl (hb hby d5_12)) ?_
  show own_G p.tables e below _ (s₁.setTop (mkF m 13 #[.val (.ref a1), .val (.ref a2), .val (.ref a3), .val (.int (1 : Int32)), .val (.int (2 : Int32)), .val (.long q6), .second] [(.int (((q6.toUInt64 >>> ((32 : Int32) &&& 0x3f).toInt64.toUInt64).toInt64).toInt32))]))
  refine own_step (fun t k => XS.lload X0.here hx rfl (hb hby d5_13) rfl k) ?_
  show own_G p.tables e below _ (s₁.setTop (mkF m 15 #[.val (.ref a1), .val (.ref a2), .val (.ref a3), .val (.int (1 : Int32)), .val (.int (2 : Int32)), .val (.long q6), .second] [(.long q6), (.int (((q6.toUInt64 >>> ((32 : Int32) &&& 0x3f).toInt64.toUInt64).toInt64).toInt32))]))
  obtain ⟨_, _, ⟨T2, L2, k2, n2⟩, -, X2, ⟨Lc2, hQ2, l2, y2, z2⟩, st2⟩ := Jvm.LawKit.callS X0 hx (y := (⟨"com/example/stevedore/stevedore/MoveGraphEndsPinLaw", "hi", "(J)I"⟩ : MethodName)) hown (mvT hZ (hw _ (List.mem_of_getElem? (i := 36) rfl))) (mvT hZ (hw _ (List.mem_of_getElem? (i := 37) rfl))) (mvT hZ (hw _ (List.mem_of_getElem? (i := 34) rfl))) (mvT hZ (hw _ (List.mem_of_getElem? (i := 38) rfl))) (by decide) (backOf (W := 1) (rm6 l Z a0 hw [] q6 h0 n0 (Nat.le_trans Z0 (Keep.refl h0 []).1) ) hZ (hw _ (List.mem_of_getElem? (i := 38) rfl)) (hw _ (List.mem_of_getElem? (i := 34) rfl)) (by decide) (by decide)) (g := (mkF m 15 #[.val (.ref a1), .val (.ref a2), .val (.ref a3), .val (.int (1 : Int32)), .val (.int (2 : Int32)), .val (.long q6), .second] [(.long q6), (.int (((q6.toUInt64 >>> ((32 : Int32) &&& 0x3f).toInt64.toUInt64).toInt64).toInt32))])) rfl (by rw [hml]; rfl) (argsL := [(.long q6)]) (rest := [(.int (((q6.toUInt64 >>> ((32 : Int32) &&& 0x3f).toInt64.toUInt64).toInt64).toInt32))]) (lenOf pd_5_e1_2_0 rfl) rfl (by show 2 * 0 + _ ≤ _; exact Nat.le_of_eq rfl) (hb hby d5_15) (fun _ _ => ⟨rfl, e0, (by decide : 0 + 0 ≤ _), (by decide : 0 + 0 ≤ _)⟩)
  dsimp only [Pt.U, Pt.locs, Pt.cells, Pt.slots] at X2 l2 y2 z2 st2 hQ2
  subst l2 y2 z2
  obtain ⟨rfl, N2q, e2⟩ := hQ2
  have N2 := Fr.app N0 N2q
  refine own_step st2 ?_
  show own_G p.tables e below _ (T2.setTop (mkF m 18 #[.val (.ref a1), .val (.ref a2), .val (.ref a3), .val (.int (1 : Int32)), .val (.int (2 : Int32)), .val (.long q6), .second] [(.int (((q6.toUInt64 >>> ((32 : Int32) &&& 0x3f).toInt64.toUInt64).toInt64).toInt32)), (.int (((q6.toUInt64 >>> ((32 : Int32) &&& 0x3f).toInt64.toUInt64).toInt64).toInt32))]))
  have hk3 : (((q6.toUInt64 >>> ((32 : Int32) &&& 0x3f).toInt64.toUInt64).toInt64).toInt32) = (((q6.toUInt64 >>> ((32 : Int32) &&& 0x3f).toInt64.toUInt64).toInt64).toInt32) := rfl
  refine own_step (fun t k => XS.icmpNo X2.here hx rfl (hb hby d5_18) rfl ((teq hk3).2) k) ?_
  show own_G p.tables e below _ (T2.setTop (mkF m 21 #[.val (.ref a1), .val (.ref a2), .val (.ref a3), .val (.int (1 : Int32)), .val (.int (2 : Int32)), .val (.long q6), .second] []))
  refine own_step (fun t k => XS.aloadN X2.here hx rfl (hb hby d5_21) rfl rfl k) ?_
  show own_G p.tables e below _ (T2.setTop (mkF m 22 #[.val (.ref a1), .val (.ref a2), .val (.ref a3), .val (.int (1 : Int32)), .val (.int (2 : Int32)), .val (.long q6), .second] [(.ref a1)]))
  refine own_step (fun t k => XS.iconst X2.here hx rfl (hb hby d5_22) k) ?_
  show own_G p.tables e below _ (T2.setTop (mkF m 23 #[.val (.ref a1), .val (.ref a2), .val (.ref a3), .val (.int (1 : Int32)), .val (.int (2 : Int32)), .val (.long q6), .second] [(.int (2 : Int32)), (.ref a1)]))
  refine own_step (fun t k => XS.iloadN X2.here hx rfl (hb hby d5_23) rfl k) ?_
  show own_G p.tables e below _ (T2.setTop (mkF m 24 #[.val (.ref a1), .val (.ref a2), .val (.ref a3), .val (.int (1 : Int32)), .val (.int (2 : Int32)), .val (.long q6), .second] [(.int (1 : Int32)), (.int (2 : Int32)), (.ref a1)]))
  refine own_step (fun t k => XS.imul X2.here hx rfl (hb hby d5_24) rfl k) ?_
  show own_G p.tables e below _ (T2.setTop (mkF m 25 #[.val (.ref a1), .val (.ref a2), .val (.ref a3), .val (.int (1 : Int32)), .val (.int (2 : Int32)), .val (.long q6), .second] [(.int (2 : Int32)), (.ref a1)]))
  refine own_step (fun t k => XS.iconst X2.here hx rfl (hb hby d5_25) k) ?_
  show own_G p.tables e below _ (T2.setTop (mkF m 26 #[.val (.ref a1), .val (.ref a2), .val (.ref a3), .val (.int (1 : Int32)), .val (.int (2 : Int32)), .val (.long q6), .second] [(.int (1 : Int32)), (.int (2 : Int32)), (.ref a1)]))
  refine own_step (fun t k => XS.iadd X2.here hx rfl (hb hby d5_26) rfl k) ?_
  show own_G p.tables e below _ (T2.setTop (mkF m 27 #[.val (.ref a1), .val (.ref a2), .val (.ref a3), .val (.int (1 : Int32)), .val (.int (2 : Int32)), .val (.long q6), .second] [(.int (3 : Int32)), (.ref a1)]))
  refine own_step (own_iaload X2 hx hZ e2 fp0 (own_inb (by decide) (Nat.le_of_ble_eq_true rfl)) (g := (mkF m 27 #[.val (.ref a1), .val (.ref a2), .val (.ref a3), .val (.int (1 : Int32)), .val (.int (2 : Int32)), .val (.long q6), .second] [(.int (3 : Int32)), (.ref a1)])) rfl rfl (hb hby d5_27)) ?_
  show own_G p.tables e below _ (T2.setTop (mkF m 28 #[.val (.ref a1), .val (.ref a2), .val (.ref a3), .val (.int (1 : Int32)), .val (.int (2 : Int32)), .val (.long q6), .second] [(.int (q6.toInt32))]))
  refine own_step (fun t k => XS.lload X2.here hx rfl (hb hby d5_28) rfl k) ?_
  show own_G p.tables e below _ (T2.setTop (mkF m 30 #[.val (.ref a1), .val (.ref a2), .val (.ref a3), .val (.int (1 : Int32)), .val (.int (2 : Int32)), .val (.long q6), .second] [(.long q6), (.int (q6.toInt32))]))
  obtain ⟨_, _, ⟨T4, L4, k4, n4⟩, -, X4, ⟨Lc4, hQ4, l4, y4, z4⟩, st4⟩ := Jvm.LawKit.callS X2 hx (y := (⟨"com/example/stevedore/stevedore/MoveGraphEndsPinLaw", "lo", "(J)I"⟩ : MethodName)) hown (mvT hZ (hw _ (List.mem_of_getElem? (i := 39) rfl))) (mvT hZ (hw _ (List.mem_of_getElem? (i := 40) rfl))) (mvT hZ (hw _ (List.mem_of_getElem? (i := 34) rfl))) (mvT hZ (hw _ (List.mem_of_getElem? (i := 41) rfl))) (by decide) (backOf (W := 1) (rm7 l Z a0 hw [] q6 h0 n0 (Nat.le_trans Z0 (Keep.refl h0 []).1) ) hZ (hw _ (List.mem_of_getElem? (i := 41) rfl)) (hw _ (List.mem_of_getElem? (i := 34) rfl)) (by decide) (by decide)) (g := (mkF m 30 #[.val (.ref a1), .val (.ref a2), .val (.ref a3), .val (.int (1 : Int32)), .val (.int (2 : Int32)), .val (.long q6), .second] [(.long q6), (.int (q6.toInt32))])) rfl (by rw [hml]; rfl) (argsL := [(.long q6)]) (rest := [(.int (q6.toInt32))]) (lenOf pd_5_e1_2_0 rfl) rfl (by show 2 * 0 + _ ≤ _; exact Nat.le_of_eq rfl) (hb hby d5_30) (fun _ _ => ⟨rfl, e2, (by decide : 0 + 0 ≤ _), (by decide : 0 + 0 ≤ _)⟩)
  dsimp only [Pt.U, Pt.locs, Pt.cells, Pt.slots] at X4 l4 y4 z4 st4 hQ4
  subst l4 y4 z4
  obtain ⟨rfl, N4q, e4⟩ := hQ4
  have N4 := Fr.app N2 N4q
  refine own_step st4 ?_
  show own_G p.tables e below _ (T4.setTop (mkF m 33 #[.val (.ref a1), .val (.ref a2), .val (.ref a3), .val (.int (1 : Int32)), .val (.int (2 : Int32)), .val (.long q6), .second] [(.int (q6.toInt32)), (.int (q6.toInt32))]))
  have hk5 : (q6.toInt32) = (q6.toInt32) := rfl
  refine own_step (fun t k => XS.icmpNo X4.here hx rfl (hb hby d5_33) rfl ((teq hk5).2) k) ?_
  show own_G p.tables e below _ (T4.setTop (mkF m 36 #[.val (.ref a1), .val (.ref a2), .val (.ref a3), .val (.int (1 : Int32)), .val (.int (2 : Int32)), .val (.long q6), .second] []))
  refine own_step (fun t k => XS.aloadN X4.here hx rfl (hb hby d5_36) rfl rfl k) ?_
  show own_G p.tables e below _ (T4.setTop (mkF m 37 #[.val (.ref a1), .val (.ref a2), .val (.ref a3), .val (.int (1 : Int32)), .val (.int (2 : Int32)), .val (.long q6), .second] [(.ref a2)]))
  refine own_step (fun t k => XS.iloadN X4.here hx rfl (hb hby d5_37) rfl k) ?_
  show own_G p.tables e below _ (T4.setTop (mkF m 38 #[.val (.ref a1), .val (.ref a2), .val (.ref a3), .val (.int (1 : Int32)), .val (.int (2 : Int32)), .val (.long q6), .second] [(.int (1 : Int32)), (.ref a2)]))
  refine own_step (own_iaload X4 hx hZ e4 fp1 (own_inb (by decide) (Nat.le_of_ble_eq_true rfl)) (g := (mkF m 38 #[.val (.ref a1), .val (.ref a2), .val (.ref a3), .val (.int (1 : Int32)), .val (.int (2 : Int32)), .val (.long q6), .second] [(.int (1 : Int32)), (.ref a2)])) rfl rfl (hb hby d5_38)) ?_
  show own_G p.tables e below _ (T4.setTop (mkF m 39 #[.val (.ref a1), .val (.ref a2), .val (.ref a3), .val (.int (1 : Int32)), .val (.int (2 : Int32)), .val (.long q6), .second] [(.int (((q6.toUInt64 >>> ((32 : Int32) &&& 0x3f).toInt64.toUInt64).toInt64).toInt32))]))
  refine own_step (fun t k => XS.lload X4.here hx rfl (hb hby d5_39) rfl k) ?_
  show own_G p.tables e below _ (T4.setTop (mkF m 41 #[.val (.ref a1), .val (.ref a2), .val (.ref a3), .val (.int (1 : Int32)), .val (.int (2 : Int32)), .val (.long q6), .second] [(.long q6), (.int (((q6.toUInt64 >>> ((32 : Int32) &&& 0x3f).toInt64.toUInt64).toInt64).toInt32))]))
  obtain ⟨_, _, ⟨T6, L6, k6, n6⟩, -, X6, ⟨Lc6, hQ6, l6, y6, z6⟩, st6⟩ := Jvm.LawKit.callS X4 hx (y := (⟨"com/example/stevedore/stevedore/MoveGraphEndsPinLaw", "hi", "(J)I"⟩ : MethodName)) hown (mvT hZ (hw _ (List.mem_of_getElem? (i := 36) rfl))) (mvT hZ (hw _ (List.mem_of_getElem? (i := 37) rfl))) (mvT hZ (hw _ (List.mem_of_getElem? (i := 34) rfl))) (mvT hZ (hw _ (List.mem_of_getElem? (i := 38) rfl))) (by decide) (backOf (W := 1) (rm6 l Z a0 hw [] q6 h0 n0 (Nat.le_trans Z0 (Keep.refl h0 []).1) ) hZ (hw _ (List.mem_of_getElem? (i := 38) rfl)) (hw _ (List.mem_of_getElem? (i := 34) rfl)) (by decide) (by decide)) (g := (mkF m 41 #[.val (.ref a1), .val (.ref a2), .val (.ref a3), .val (.int (1 : Int32)), .val (.int (2 : Int32)), .val (.long q6), .second] [(.long q6), (.int (((q6.toUInt64 >>> ((32 : Int32) &&& 0x3f).toInt64.toUInt64).toInt64).toInt32))])) rfl (by rw [hml]; rfl) (argsL := [(.long q6)]) (rest := [(.int (((q6.toUInt64 >>> ((32 : Int32) &&& 0x3f).toInt64.toUInt64).toInt64).toInt32))]) (lenOf pd_5_e1_2_0 rfl) rfl (by show 2 * 0 + _ ≤ _; exact Nat.le_of_eq rfl) (hb hby d5_41) (fun _ _ => ⟨rfl, e4, (by decide : 0 + 0 ≤ _), (by decide : 0 + 0 ≤ _)⟩)
  dsimp only [Pt.U, Pt.locs, Pt.cells, Pt.slots] at X6 l6 y6 z6 st6 hQ6
  subst l6 y6 z6
  obtain ⟨rfl, N6q, e6⟩ := hQ6
  have N6 := Fr.app N4 N6q
  refine own_step st6 ?_
  show own_G p.tables e below _ (T6.setTop (mkF m 44 #[.val (.ref a1), .val (.ref a2), .val (.ref a3), .val (.int (1 : Int32)), .val (.int (2 : Int32)), .val (.long q6), .second] [(.int (((q6.toUInt64 >>> ((32 : Int32) &&& 0x3f).toInt64.toUInt64).toInt64).toInt32)), (.int (((q6.toUInt64 >>> ((32 : Int32) &&& 0x3f).toInt64.toUInt64).toInt64).toInt32))]))
  have hk7 : (((q6.toUInt64 >>> ((32 : Int32) &&& 0x3f).toInt64.toUInt64).toInt64).toInt32) = (((q6.toUInt64 >>> ((32 : Int32) &&& 0x3f).toInt64.toUInt64).toInt64).toInt32) := rfl
  refine own_step (fun t k => XS.icmpNo X6.here hx rfl (hb hby d5_44) rfl ((teq hk7).2) k) ?_
  show own_G p.tables e below _ (T6.setTop (mkF m 47 #[.val (.ref a1), .val (.ref a2), .val (.ref a3), .val (.int (1 : Int32)), .val (.int (2 : Int32)), .val (.long q6), .second] []))
  refine own_step (fun t k => XS.aloadN X6.here hx rfl (hb hby d5_47) rfl rfl k) ?_
  show own_G p.tables e below _ (T6.setTop (mkF m 48 #[.val (.ref a1), .val (.ref a2), .val (.ref a3), .val (.int (1 : Int32)), .val (.int (2 : Int32)), .val (.long q6), .second] [(.ref a3)]))
  refine own_step (fun t k => XS.iloadN X6.here hx rfl (hb hby d5_48) rfl k) ?_
  show own_G p.tables e below _ (T6.setTop (mkF m 49 #[.val (.ref a1), .val (.ref a2), .val (.ref a3), .val (.int (1 : Int32)), .val (.int (2 : Int32)), .val (.long q6), .second] [(.int (1 : Int32)), (.ref a3)]))
  refine own_step (own_iaload X6 hx hZ e6 fp2 (own_inb (by decide) (Nat.le_of_ble_eq_true rfl)) (g := (mkF m 49 #[.val (.ref a1), .val (.ref a2), .val (.ref a3), .val (.int (1 : Int32)), .val (.int (2 : Int32)), .val (.long q6), .second] [(.int (1 : Int32)), (.ref a3)])) rfl rfl (hb hby d5_49)) ?_
  show own_G p.tables e below _ (T6.setTop (mkF m 50 #[.val (.ref a1), .val (.ref a2), .val (.ref a3), .val (.int (1 : Int32)), .val (.int (2 : Int32)), .val (.long q6), .second] [(.int (q6.toInt32))]))
  refine own_step (fun t k => XS.lload X6.here hx rfl (hb hby d5_50) rfl k) ?_
  show own_G p.tables e below _ (T6.setTop (mkF m 52 #[.val (.ref a1), .val (.ref a2), .val (.ref a3), .val (.int (1 : Int32)), .val (.int (2 : Int32)), .val (.long q6), .second] [(.long q6), (.int (q6.toInt32))]))
  obtain ⟨_, _, ⟨T8, L8, k8, n8⟩, -, X8, ⟨Lc8, hQ8, l8, y8, z8⟩, st8⟩ := Jvm.LawKit.callS X6 hx (y := (⟨"com/example/stevedore/stevedore/MoveGraphEndsPinLaw", "lo", "(J)I"⟩ : MethodName)) hown (mvT hZ (hw _ (List.mem_of_getElem? (i := 39) rfl))) (mvT hZ (hw _ (List.mem_of_getElem? (i := 40) rfl))) (mvT hZ (hw _ (List.mem_of_getElem? (i := 34) rfl))) (mvT hZ (hw _ (List.mem_of_getElem? (i := 41) rfl))) (by decide) (backOf (W := 1) (rm7 l Z a0 hw [] q6 h0 n0 (Nat.le_trans Z0 (Keep.refl h0 []).1) ) hZ (hw _ (List.mem_of_getElem? (i := 41) rfl)) (hw _ (List.mem_of_getElem? (i := 34) rfl)) (by decide) (by decide)) (g := (mkF m 52 #[.val (.ref a1), .val (.ref a2), .val (.ref a3), .val (.int (1 : Int32)), .val (.int (2 : Int32)), .val (.long q6), .second] [(.long q6), (.int (q6.toInt32))])) rfl (by rw [hml]; rfl) (argsL := [(.long q6)]) (rest := [(.int (q6.toInt32))]) (lenOf pd_5_e1_2_0 rfl) rfl (by show 2 * 0 + _ ≤ _; exact Nat.le_of_eq rfl) (hb hby d5_52) (fun _ _ => ⟨rfl, e6, (by decide : 0 + 0 ≤ _), (by decide : 0 + 0 ≤ _)⟩)
  dsimp only [Pt.U, Pt.locs, Pt.cells, Pt.slots] at X8 l8 y8 z8 st8 hQ8
  subst l8 y8 z8
  obtain ⟨rfl, N8q, e8⟩ := hQ8
  have N8 := Fr.app N6 N8q
  refine own_step st8 ?_
  show own_G p.tables e below _ (T8.setTop (mkF m 55 #[.val (.ref a1), .val (.ref a2), .val (.ref a3), .val (.int (1 : Int32)), .val (.int (2 : Int32)), .val (.long q6), .second] [(.int (q6.toInt32)), (.int (q6.toInt32))]))
  have hk9 : (q6.toInt32) = (q6.toInt32) := rfl
  refine own_step (fun t k => XS.icmpNo X8.here hx rfl (hb hby d5_55) rfl ((teq hk9).2) k) ?_
  show own_G p.tables e below _ (T8.setTop (mkF m 58 #[.val (.ref a1), .val (.ref a2), .val (.ref a3), .val (.int (1 : Int32)), .val (.int (2 : Int32)), .val (.long q6), .second] []))
  refine own_step (fun t k => XS.iconst X8.here hx rfl (hb hby d5_58) k) ?_
  show own_G p.tables e below _ (T8.setTop (mkF m 59 #[.val (.ref a1), .val (.ref a2), .val (.ref a3), .val (.int (1 : Int32)), .val (.int (2 : Int32)), .val (.long q6), .second] [(.int (1 : Int32))]))
  refine own_step (fun t k => XS.goto X8.here hx rfl (pc0 := 59) (pc' := 63) rfl (hb hby d5_59) (by decide) (by decide) k) ?_
  show own_G p.tables e below _ (T8.setTop (mkF m 63 #[.val (.ref a1), .val (.ref a2), .val (.ref a3), .val (.int (1 : Int32)), .val (.int (2 : Int32)), .val (.long q6), .second] [(.int (1 : Int32))]))
  obtain ⟨fs, hr, hrun, hended, hW, hsame⟩ := X8.leave (v := some (.int (1 : Int32))) (fun h => by rw [Bd.returns] at h; cases h)
  refine own_done (retN X8 hx (t := .boolean) Bd.returns (by simp) (hb hby d5_63) hr) hrun hended ⟨_, _, rfl, ?_, ⟨_, rfl⟩, hW, hsame.mono (by decide) (by decide)⟩
  show Q5_e1_2 Z a1 a2 a3 q6 ee0 ee1 x0 yy0 h0 n0 _ T8.heap _
  rw [e8]
  exact ⟨congrArg (fun z => some (Value.int z)) (show (1 : Int32) = (1 : Int32) from rfl), N8, rfl⟩
theorem pn_5_e2_2 : plainName "com/example/stevedore/stevedore/MoveGraphEndsPinLaw" = true := by first | (simp [plainName, overriddenIn]; done) | decide +kernel
theorem ef_5_e2_2 (m : MethodId) (a1 : Addr) (a2 : Addr) (a3 : Addr) (q6 : Int64) : entryFrame m #[(.ref a1), (.ref a2), (.ref a3), (.int (2 : Int32)), (.int (2 : Int32)), (.long q6)] 7 = mkF m 0 #[.val (.ref a1), .val (.ref a2), .val (.ref a3), .val (.int (2 : Int32)), .val (.int (2 : Int32)), .val (.long q6), .second] [] := by first | (simp [entryFrame, mkF, argsToLocals, Value.category]; done) | rfl
def Q5_e2_2 (Z : State) (a1 : Addr) (a2 : Addr) (a3 : Addr) (q6 : Int64) (ee0 : Int32) (ee1 : Int32) (ee2 : Int32) (ee3 : Int32) (x0 : Int32) (x1 : Int32) (yy0 : Int32) (yy1 : Int32) (h0 : Heap) (n0 : Nat) (v : Option Value) (h : Heap) (L : List Loc) : Prop := v = some (.int (1 : Int32)) ∧ Fr n0 L ∧ h = h0
set_option maxRecDepth 65536 in
set_option maxHeartbeats 40000000 in
theorem rm5_e2_2 (l : Launch) (Z : State) (a0 : Array Value) (hw : ∀ d ∈ tables_1, d.before a0 Z = true) (ws : List Jvm.Cond) (a1 : Addr) (a2 : Addr) (a3 : Addr) (q6 : Int64) (ee0 : Int32) (ee1 : Int32) (ee2 : Int32) (ee3 : Int32) (x0 : Int32) (x1 : Int32) (yy0 : Int32) (yy1 : Int32) (h0 : Heap) (n0 : Nat) (Z0 : n0 ≤ h0.size) (fp0 : own_Ari Z h0 a1 .int [ee0, ee1, ee2, ee3]) (fp1 : own_Ari Z h0 a2 .int [x0, x1]) (fp2 : own_Ari Z h0 a3 .int [yy0, yy1]) :
    MetFree l (⟨"com/example/stevedore/stevedore/MoveGraphEndsPinLaw", "pair", "([I[I[IIIJ)Z"⟩ : MethodName) (head1 (Jvm.Cond.code (⟨"com/example/stevedore/stevedore/MoveGraphEndsPinLaw", "pair", "([I[I[IIIJ)Z"⟩ : MethodName) method_5_code 7 (some .boolean) :: ws) ({ frames := 0, cells := 0, slots := 0, locals := 0 } : Room)) (fun a U => a = #[(.ref a1), (.ref a2), (.ref a3), (.int (2 : Int32)), (.int (2 : Int32)), (.long q6)] ∧ Z.Warmed39 U.vm ∧ U.heap = h0) (fun _ _ _ _ _ => True) (fun _ U o U' => ∃ v L, o = .returned v ∧ Q5_e2_2 Z a1 a2 a3 q6 ee0 ee1 ee2 ee3 x0 x1 yy0 yy1 h0 n0 v U'.heap L ∧ FrameEnd U o U' L ({ frames := 0, cells := 0, slots := 0, locals := 0 } : Room).cells ({ frames := 0, cells := 0, slots := 0, locals := 0 } : Room).slots) := by
  refine MetFree.of_bodySF (plainFor_of_name pn_5_e2_2) hisR ?_
  intro p e s m args below meth c s₁ Bd hml0 hP hK
  obtain ⟨rfl, hZ, hh⟩ := hP
  have hx := Bd.exec
  have hby := Bd.bytes
  have hml : c.maxLocals = 7 := hml0
  have hown : s.vm.findClass "com/example/stevedore/stevedore/MoveGraphEndsPinLaw" = some m.cls := findClass_of_methodNamed Bd.named
  have hnm := (name_of_methodNamed Bd.named Bd.method).1
  have X0 : Stand p l e ({ frames := 0, cells := 0, slots := 0, locals := 0 } : Room) s m #[(.ref a1), (.ref a2), (.ref a3), (.int (2 : Int32)), (.int (2 : Int32)), (.long q6)] below meth c s₁ [] 0 0 := Stand.of_body Bd
  have e0 : s₁.heap = h0 := by rw [← hh, Bd.state]; rfl
  have N0 := Fr.nil n0
  refine own_start (fun t k => castTop (ef_5_e2_2 m a1 a2 a3 q6) k) ?_
  show own_G p.tables e below _ (s₁.setTop (mkF m 0 #[.val (.ref a1), .val (.ref a2), .val (.ref a3), .val (.int (2 : Int32)), .val (.int (2 : Int32)), .val (.long q6), .second] []))
  refine own_step (fun t k => XS.iloadN X0.here hx rfl (hb hby d5_0) rfl k) ?_
  show own_G p.tables e below _ (s₁.setTop (mkF m 1 #[.val (.ref a1), .val (.ref a2), .val (.ref a3), .val (.int (2 : Int32)), .val (.int (2 : Int32)), .val (.long q6), .second] [(.int (2 : Int32))]))
  refine own_step (fun t k => XS.iload X0.here hx rfl (hb hby d5_1) rfl k) ?_
  show own_G p.tables e below _ (s₁.setTop (mkF m 3 #[.val (.ref a1), .val (.ref a2), .val (.ref a3), .val (.int (2 : Int32)), .val (.int (2 : Int32)), .val (.long q6), .second] [(.int (2 : Int32)), (.int (2 : Int32))]))
  have hk1 : ¬ ((2 : Int32) < (2 : Int32)) := (by decide)
  refine own_step (fun t k => XS.icmpNo X0.here hx rfl (hb hby d5_3) rfl ((flt hk1).1) k) ?_
  show own_G p.tables e below _ (s₁.setTop (mkF m 6 #[.val (.ref a1), .val (.ref a2), .val (.ref a3), .val (.int (2 : Int32)), .val (.int (2 : Int32)), .val (.long q6), .second] []))
  refine own_step (fun t k => XS.iconst X0.here hx rfl (hb hby d5_6) k) ?_
  show own_G p.tables e below _ (s₁.setTop (mkF m 7 #[.val (.ref a1), .val (.ref a2), .val (.ref a3), .val (.int (2 : Int32)), .val (.int (2 : Int32)), .val (.long q6), .second] [(.int (1 : Int32))]))
  obtain ⟨fs, hr, hrun, hended, hW, hsame⟩ := X0.leave (v := some (.int (1 : Int32))) (fun h => by rw [Bd.returns] at h; cases h)
  refine own_done (retN X0 hx (t := .boolean) Bd.returns (by simp) (hb hby d5_7) hr) hrun hended ⟨_, _, rfl, ?_, ⟨_, rfl⟩, hW, hsame.mono (by decide) (by decide)⟩
  show Q5_e2_2 Z a1 a2 a3 q6 ee0 ee1 ee2 ee3 x0 x1 yy0 yy1 h0 n0 _ s₁.heap _
  rw [e0]
  exact ⟨congrArg (fun z => some (Value.int z)) (show (1 : Int32) = (1 : Int32) from rfl), N0, rfl⟩
theorem pn_4_k3 : plainName "com/example/stevedore/stevedore/MoveGraph" = true := by first | (simp [plainName, overriddenIn]; done) | decide +kernel
theorem ef_4_k3 (m : MethodId) (a1 : Addr) : entryFrame m #[(.ref a1)] 3 = mkF m 0 #[.val (.ref a1), .unset, .unset] [] := by first | (simp [entryFrame, mkF, argsToLocals, Value.category]; done) | rfl
def Q4_k3 (Z : State) (a1 : Addr) (u_from : Addr) (u_to : Addr) (x0 : Int32) (x1 : Int32) (x2 : Int32) (yy0 : Int32) (yy1 : Int32) (yy2 : Int32) (h0 : Heap) (n0 : Nat) (v : Option Value) (h : Heap) (L : List Loc) : Prop := ∃ (rb : Addr), v = some (.ref rb) ∧ Fr n0 L ∧ Keep h0 h [] ∧ own_Ari Z h rb .int [x0, yy0, x1, yy1, x2, yy2] ∧ h0.size ≤ rb
set_option maxRecDepth 65536 in
set_option maxHeartbeats 40000000 in
theorem rm4_k3 (l : Launch) (Z : State) (a0 : Array Value) (hw : ∀ d ∈ tables_1, d.before a0 Z = true) (ws : List Jvm.Cond) (a1 : Addr) (u_from : Addr) (u_to : Addr) (x0 : Int32) (x1 : Int32) (x2 : Int32) (yy0 : Int32) (yy1 : Int32) (yy2 : Int32) (h0 : Heap) (n0 : Nat) (Z0 : n0 ≤ h0.size) (fp0 : Fld Z h0 a1 "com/example/stevedore/stevedore/MoveGraph" "from" "[I" (.ref u_from)) (fp1 : Fld Z h0 a1 "com/example/stevedore/stevedore/MoveGraph" "to" "[I" (.ref u_to)) (fp2 : own_Ari Z h0 u_from .int [x0, x1, x2]) (fp3 : own_Ari Z h0 u_to .int [yy0, yy1, yy2]) :
    MetFree l (⟨"com/example/stevedore/stevedore/MoveGraph", "ends", "()[I"⟩ : MethodName) (head1 (Jvm.Cond.code (⟨"com/example/stevedore/stevedore/MoveGraph", "ends", "()[I"⟩ : MethodName) prog_15_method_5_code 3 (some (.array .int)) :: ws) ({ frames := 0, cells := 1, slots := 6, locals := 0 } : Room)) (fun a U => a = #[(.ref a1)] ∧ Z.Warmed39 U.vm ∧ U.heap = h0) (fun _ _ _ _ _ => True) (fun _ U o U' => ∃ v L, o = .returned v ∧ Q4_k3 Z a1 u_from u_to x0 x1 x2 yy0 yy1 yy2 h0 n0 v U'.heap L ∧ FrameEnd U o U' L ({ frames := 0, cells := 1, slots := 6, locals := 0 } : Room).cells ({ frames := 0, cells := 1, slots := 6, locals := 0 } : Room).slots) := by
  refine MetFree.of_bodySF (plainFor_of_name pn_4_k3) hisR ?_
  intro p e s m args below meth c s₁ Bd hml0 hP hK
  obtain ⟨rfl, hZ, hh⟩ := hP
  have hx := Bd.exec
  have hby := Bd.bytes
  have hml : c.maxLocals = 3 := hml0
  have hown : s.vm.findClass "com/example/stevedore/stevedore/MoveGraph" = some m.cls := findClass_of_methodNamed Bd.named
  have hnm := (name_of_methodNamed Bd.named Bd.method).1
  have X0 : Stand p l e ({ frames := 0, cells := 1, slots := 6, locals := 0 } : Room) s m #[(.ref a1)] below meth c s₁ [] 0 0 := Stand.of_body Bd
  have e0 : s₁.heap = h0 := by rw [← hh, Bd.state]; rfl
  have N0 := Fr.nil n0
  refine own_start (fun t k => castTop (ef_4_k3 m a1) k) ?_
  show own_G p.tables e below _ (s₁.setTop (mkF m 0 #[.val (.ref a1), .unset, .unset] []))
  refine own_step (fun t k => XS.iconst X0.here hx rfl (hb hby d4_0) k) ?_
  show own_G p.tables e below _ (s₁.setTop (mkF m 1 #[.val (.ref a1), .unset, .unset] [(.int (2 : Int32))]))
  refine own_step (fun t k => XS.aloadN X0.here hx rfl (hb hby d4_1) rfl rfl k) ?_
  show own_G p.tables e below _ (s₁.setTop (mkF m 2 #[.val (.ref a1), .unset, .unset] [(.ref a1), (.int (2 : Int32))]))
  obtain ⟨T1, X1, e1, st1⟩ := getF X0 hx hZ hown (host := "") (Or.inl (hw _ (List.mem_of_getElem? (i := 15) rfl))) Via.refl e0 fp0 (g := (mkF m 2 #[.val (.ref a1), .unset, .unset] [(.ref a1), (.int (2 : Int32))])) rfl rfl (hb hby d4_2)
  refine own_step st1 ?_
  show own_G p.tables e below _ (T1.setTop (mkF m 5 #[.val (.ref a1), .unset, .unset] [(.ref u_from), (.int (2 : Int32))]))
  refine own_step (own_lenI X1 hx hZ e1 fp2 (g := (mkF m 5 #[.val (.ref a1), .unset, .unset] [(.ref u_from), (.int (2 : Int32))])) rfl rfl (hb hby d4_5)) ?_
  show own_G p.tables e below _ (T1.setTop (mkF m 6 #[.val (.ref a1), .unset, .unset] [(.int (3 : Int32)), (.int (2 : Int32))]))
  refine own_step (fun t k => XS.imul X1.here hx rfl (hb hby d4_6) rfl k) ?_
  show own_G p.tables e below _ (T1.setTop (mkF m 7 #[.val (.ref a1), .unset, .unset] [(.int (6 : Int32))]))
  obtain ⟨T2, h2, k2, X2, e2, E2, A2, st2⟩ := newP X1 hx hZ (hw _ (List.mem_of_getElem? (i := 0) rfl)) e1 (g := (mkF m 7 #[.val (.ref a1), .unset, .unset] [(.int (6 : Int32))])) rfl (hb hby d4_7) rfl (by decide) (cap := 6) (by decide) (by decide) (by decide) (by decide)
  obtain ⟨b2, g2⟩ : ∃ z, z = h0.size := ⟨_, rfl⟩
  have ne3 : a1 ≠ b2 := Nat.ne_of_lt (Nat.lt_of_lt_of_le fp0.lt (Nat.le_of_eq g2.symm))
  have ne4 : u_from ≠ b2 := Nat.ne_of_lt (Nat.lt_of_lt_of_le fp2.lt (Nat.le_of_eq g2.symm))
  have ne5 : u_to ≠ b2 := Nat.ne_of_lt (Nat.lt_of_lt_of_le fp3.lt (Nat.le_of_eq g2.symm))
  have sz2 : h0.size ≤ b2 := Nat.le_trans (Keep.refl h0 []).1 (Nat.le_of_eq g2.symm)
  have ge2 : n0 ≤ b2 := Nat.le_trans Z0 sz2
  have c6 : Fld Z h2 a1 "com/example/stevedore/stevedore/MoveGraph" "from" "[I" (.ref u_from) := fp0.ext E2
  have c7 : Fld Z h2 a1 "com/example/stevedore/stevedore/MoveGraph" "to" "[I" (.ref u_to) := fp1.ext E2
  have c8 : own_Ari Z h2 u_from .int [x0, x1, x2] := fp2.ext E2
  have c9 : own_Ari Z h2 u_to .int [yy0, yy1, yy2] := fp3.ext E2
  have K2 : Keep h0 h2 [] := (Keep.refl h0 []).ext E2
  rw [← g2] at A2 st2
  have c10 : own_Ari Z h2 b2 .int [(0 : Int32), (0 : Int32), (0 : Int32), (0 : Int32), (0 : Int32), (0 : Int32)] := own_Ari_new (ty := .int) A2 (by decide) rfl
  refine own_step st2 ?_
  show own_G p.tables e below _ (T2.setTop (mkF m 9 #[.val (.ref a1), .unset, .unset] [(.ref b2)]))
  refine own_step (fun t k => XS.astoreN X2.here hx rfl (hb hby d4_9) rfl rfl (l' := #[.val (.ref a1), .val (.ref b2), .unset]) rfl k) ?_
  show own_G p.tables e below _ (T2.setTop (mkF m 10 #[.val (.ref a1), .val (.ref b2), .unset] []))
  refine own_step (fun t k => XS.iconst X2.here hx rfl (hb hby d4_10) k) ?_
  show own_G p.tables e below _ (T2.setTop (mkF m 11 #[.val (.ref a1), .val (.ref b2), .unset] [(.int (0 : Int32))]))
  refine own_step (fun t k => XS.istoreN X2.here hx rfl (hb hby d4_11) rfl (l' := #[.val (.ref a1), .val (.ref b2), .val (.int (0 : Int32))]) rfl k) ?_
  show own_G p.tables e below _ (T2.setTop (mkF m 12 #[.val (.ref a1), .val (.ref b2), .val (.int (0 : Int32))] []))
  refine own_step (fun t k => XS.iloadN X2.here hx rfl (hb hby d4_12) rfl k) ?_
  show own_G p.tables e below _ (T2.setTop (mkF m 13 #[.val (.ref a1), .val (.ref b2), .val (.int (0 : Int32))] [(.int (0 : Int32))]))
  refine own_step (fun t k => XS.aloadN X2.here hx rfl (hb hby d4_13) rfl rfl k) ?_
  show own_G p.tables e below _ (T2.setTop (mkF m 14 #[.val (.ref a1), .val (.ref b2), .val (.int (0 : Int32))] [(.ref a1), (.int (0 : Int32))]))
  obtain ⟨T11, X11, e11, st11⟩ := getF X2 hx hZ hown (host := "") (Or.inl (hw _ (List.mem_of_getElem? (i := 15) rfl))) Via.refl e2 c6 (g := (mkF m 14 #[.val (.ref a1), .val (.ref b2), .val (.int (0 : Int32))] [(.ref a1), (.int (0 : Int32))])) rfl rfl (hb hby d4_14)
  refine own_step st11 ?_
  show own_G p.tables e below _ (T11.setTop (mkF m 17 #[.val (.ref a1), .val (.ref b2), .val (.int (0 : Int32))] [(.ref u_from), (.int (0 : Int32))]))
  refine own_step (own_lenI X11 hx hZ e11 c8 (g := (mkF m 17 #[.val (.ref a1), .val (.ref b2), .val (.int (0 : Int32))] [(.ref u_from), (.int (0 : Int32))])) rfl rfl (hb hby d4_17)) ?_
  show own_G p.tables e below _ (T11.setTop (mkF m 18 #[.val (.ref a1), .val (.ref b2), .val (.int (0 : Int32))] [(.int (3 : Int32)), (.int (0 : Int32))]))
  have hk12 : (0 : Int32) < (3 : Int32) := (by decide)
  refine own_step (fun t k => XS.icmpNo X11.here hx rfl (hb hby d4_18) rfl ((tlt hk12).2.1) k) ?_
  show own_G p.tables e below _ (T11.setTop (mkF m 21 #[.val (.ref a1), .val (.ref b2), .val (.int (0 : Int32))] []))
  refine own_step (fun t k => XS.aloadN X11.here hx rfl (hb hby d4_21) rfl rfl k) ?_
  show own_G p.tables e below _ (T11.setTop (mkF m 22 #[.val (.ref a1), .val (.ref b2), .val (.int (0 : Int32))] [(.ref b2)]))
  refine own_step (fun t k => XS.iconst X11.here hx rfl (hb hby d4_22) k) ?_
  show own_G p.tables e below _ (T11.setTop (mkF m 23 #[.val (.ref a1), .val (.ref b2), .val (.int (0 : Int32))] [(.int (2 : Int32)), (.ref b2)]))
  refine own_step (fun t k => XS.iloadN X11.here hx rfl (hb hby d4_23) rfl k) ?_
  show own_G p.tables e below _ (T11.setTop (mkF m 24 #[.val (.ref a1), .val (.ref b2), .val (.int (0 : Int32))] [(.int (0 : Int32)), (.int (2 : Int32)), (.ref b2)]))
  refine own_step (fun t k => XS.imul X11.here hx rfl (hb hby d4_24) rfl k) ?_
  show own_G p.tables e below _ (T11.setTop (mkF m 25 #[.val (.ref a1), .val (.ref b2), .val (.int (0 : Int32))] [(.int (0 : Int32)), (.ref b2)]))
  refine own_step (fun t k => XS.aloadN X11.here hx rfl (hb hby d4_25) rfl rfl k) ?_
  show own_G p.tables e below _ (T11.setTop (mkF m 26 #[.val (.ref a1), .val (.ref b2), .val (.int (0 : Int32))] [(.ref a1), (.int (0 : Int32)), (.ref b2)]))
  obtain ⟨T13, X13, e13, st13⟩ := getF X11 hx hZ hown (host := "") (Or.inl (hw _ (List.mem_of_getElem? (i := 15) rfl))) Via.refl e11 c6 (g := (mkF m 26 #[.val (.ref a1), .val (.ref b2), .val (.int (0 : Int32))] [(.ref a1), (.int (0 : Int32)), (.ref b2)])) rfl rfl (hb hby d4_26)
  refine own_step st13 ?_
  show own_G p.tables e below _ (T13.setTop (mkF m 29 #[.val (.ref a1), .val (.ref b2), .val (.int (0 : Int32))] [(.ref u_from), (.int (0 : Int32)), (.ref b2)]))
  refine own_step (fun t k => XS.iloadN X13.here hx rfl (hb hby d4_29) rfl k) ?_
  show own_G p.tables e below _ (T13.setTop (mkF m 30 #[.val (.ref a1), .val (.ref b2), .val (.int (0 : Int32))] [(.int (0 : Int32)), (.ref u_from), (.int (0 : Int32)), (.ref b2)]))
  refine own_step (own_iaload X13 hx hZ e13 c8 (own_inb (by decide) (Nat.le_of_ble_eq_true rfl)) (g := (mkF m 30 #[.val (.ref a1), .val (.ref b2), .val (.int (0 : Int32))] [(.int (0 : Int32)), (.ref u_from), (.int (0 : Int32)), (.ref b2)])) rfl rfl (hb hby d4_30)) ?_
  show own_G p.tables e below _ (T13.setTop (mkF m 31 #[.val (.ref a1), .val (.ref b2), .val (.int (0 : Int32))] [(.int x0), (.int (0 : Int32)), (.ref b2)]))
  obtain ⟨T14, h14, X14, e14, W14, c14, st14⟩ := own_iastore X13 hx hZ e13 c10 (own_inb (by decide) (Nat.le_of_ble_eq_true rfl)) (g := (mkF m 31 #[.val (.ref a1), .val (.ref b2), .val (.int (0 : Int32))] [(.int x0), (.int (0 : Int32)), (.ref b2)])) rfl rfl (hb hby d4_31)
  have N14 := Fr.snoc X14 N0 ge2
  have c15 : own_Ari Z h14 b2 .int [x0, (0 : Int32), (0 : Int32), (0 : Int32), (0 : Int32), (0 : Int32)] := c14
  have c16 : Fld Z h14 a1 "com/example/stevedore/stevedore/MoveGraph" "from" "[I" (.ref u_from) := c6.other W14 (Or.inl ne3)
  have c17 : Fld Z h14 a1 "com/example/stevedore/stevedore/MoveGraph" "to" "[I" (.ref u_to) := c7.other W14 (Or.inl ne3)
  have c18 : own_Ari Z h14 u_from .int [x0, x1, x2] := c8.other W14 ne4
  have c19 : own_Ari Z h14 u_to .int [yy0, yy1, yy2] := c9.other W14 ne5
  have K14 : Keep h0 h14 [] := K2.wr W14 (Or.inr sz2)
  refine own_step st14 ?_
  show own_G p.tables e below _ (T14.setTop (mkF m 32 #[.val (.ref a1), .val (.ref b2), .val (.int (0 : Int32))] []))
  refine own_step (fun t k => XS.aloadN X14.here hx rfl (hb hby d4_32) rfl rfl k) ?_
  show own_G p.tables e below _ (T14.setTop (mkF m 33 #[.val (.ref a1), .val (.ref b2), .val (.int (0 : Int32))] [(.ref b2)]))
  refine own_step (fun t k => XS.iconst X14.here hx rfl (hb hby d4_33) k) ?_
  show own_G p.tables e below _ (T14.setTop (mkF m 34 #[.val (.ref a1), .val (.ref b2), .val (.int (0 : Int32))] [(.int (2 : Int32)), (.ref b2)]))
  refine own_step (fun t k => XS.iloadN X14.here hx rfl (hb hby d4_34) rfl k) ?_
  show own_G p.tables e below _ (T14.setTop (mkF m 35 #[.val (.ref a1), .val (.ref b2), .val (.int (0 : Int32))] [(.int (0 : Int32)), (.int (2 : Int32)), (.ref b2)]))
  refine own_step (fun t k => XS.imul X14.here hx rfl (hb hby d4_35) rfl k) ?_
  show own_G p.tables e below _ (T14.setTop (mkF m 36 #[.val (.ref a1), .val (.ref b2), .val (.int (0 : Int32))] [(.int (0 : Int32)), (.ref b2)]))
  refine own_step (fun t k => XS.iconst X14.here hx rfl (hb hby d4_36) k) ?_
  show own_G p.tables e below _ (T14.setTop (mkF m 37 #[.val (.ref a1), .val (.ref b2), .val (.int (0 : Int32))] [(.int (1 : Int32)), (.int (0 : Int32)), (.ref b2)]))
  refine own_step (fun t k => XS.iadd X14.here hx rfl (hb hby d4_37) rfl k) ?_
  show own_G p.tables e below _ (T14.setTop (mkF m 38 #[.val (.ref a1), .val (.ref b2), .val (.int (0 : Int32))] [(.int (1 : Int32)), (.ref b2)]))
  refine own_step (fun t k => XS.aloadN X14.here hx rfl (hb hby d4_38) rfl rfl k) ?_
  show own_G p.tables e below _ (T14.setTop (mkF m 39 #[.val (.ref a1), .val (.ref b2), .val (.int (0 : Int32))] [(.ref a1), (.int (1 : Int32)), (.ref b2)]))
  obtain ⟨T21, X21, e21, st21⟩ := getF X14 hx hZ hown (host := "") (Or.inl (hw _ (List.mem_of_getElem? (i := 17) rfl))) Via.refl e14 c17 (g := (mkF m 39 #[.val (.ref a1), .val (.ref b2), .val (.int (0 : Int32))] [(.ref a1), (.int (1 : Int32)), (.ref b2)])) rfl rfl (hb hby d4_39)
  refine own_step st21 ?_
  show own_G p.tables e below _ (T21.setTop (mkF m 42 #[.val (.ref a1), .val (.ref b2), .val (.int (0 : Int32))] [(.ref u_to), (.int (1 : Int32)), (.ref b2)]))
  refine own_step (fun t k => XS.iloadN X21.here hx rfl (hb hby d4_42) rfl k) ?_
  show own_G p.tables e below _ (T21.setTop (mkF m 43 #[.val (.ref a1), .val (.ref b2), .val (.int (0 : Int32))] [(.int (0 : Int32)), (.ref u_to), (.int (1 : Int32)), (.ref b2)]))
  refine own_step (own_iaload X21 hx hZ e21 c19 (own_inb (by decide) (Nat.le_of_ble_eq_true rfl)) (g := (mkF m 43 #[.val (.ref a1), .val (.ref b2), .val (.int (0 : Int32))] [(.int (0 : Int32)), (.ref u_to), (.int (1 : Int32)), (.ref b2)])) rfl rfl (hb hby d4_43)) ?_
  show own_G p.tables e below _ (T21.setTop (mkF m 44 #[.val (.ref a1), .val (.ref b2), .val (.int (0 : Int32))] [(.int yy0), (.int (1 : Int32)), (.ref b2)]))
  obtain ⟨T22, h22, X22, e22, W22, c22, st22⟩ := own_iastore X21 hx hZ e21 c15 (own_inb (by decide) (Nat.le_of_ble_eq_true rfl)) (g := (mkF m 44 #[.val (.ref a1), .val (.ref b2), .val (.int (0 : Int32))] [(.int yy0), (.int (1 : Int32)), (.ref b2)])) rfl rfl (hb hby d4_44)
  have N22 := Fr.snoc X22 N14 ge2
  have c23 : own_Ari Z h22 b2 .int [x0, yy0, (0 : Int32), (0 : Int32), (0 : Int32), (0 : Int32)] := c22
  have c24 : Fld Z h22 a1 "com/example/stevedore/stevedore/MoveGraph" "from" "[I" (.ref u_from) := c16.other W22 (Or.inl ne3)
  have c25 : Fld Z h22 a1 "com/example/stevedore/stevedore/MoveGraph" "to" "[I" (.ref u_to) := c17.other W22 (Or.inl ne3)
  have c26 : own_Ari Z h22 u_from .int [x0, x1, x2] := c18.other W22 ne4
  have c27 : own_Ari Z h22 u_to .int [yy0, yy1, yy2] := c19.other W22 ne5
  have K22 : Keep h0 h22 [] := K14.wr W22 (Or.inr sz2)
  refine own_step st22 ?_
  show own_G p.tables e below _ (T22.setTop (mkF m 45 #[.val (.ref a1), .val (.ref b2), .val (.int (0 : Int32))] []))
  refine own_step (fun t k => XS.iinc X22.here hx rfl (hb hby d4_45) rfl (l' := #[.val (.ref a1), .val (.ref b2), .val (.int (1 : Int32))]) rfl k) ?_
  show own_G p.tables e below _ (T22.setTop (mkF m 48 #[.val (.ref a1), .val (.ref b2), .val (.int (1 : Int32))] []))
  refine own_step (fun t k => XS.goto X22.here hx rfl (pc0 := 48) (pc' := 12) rfl (hb hby d4_48) (by decide) (by decide) k) ?_
  show own_G p.tables e below _ (T22.setTop (mkF m 12 #[.val (.ref a1), .val (.ref b2), .val (.int (1 : Int32))] []))
  refine own_step (fun t k => XS.iloadN X22.here hx rfl (hb hby d4_12) rfl k) ?_
  show own_G p.tables e below _ (T22.setTop (mkF m 13 #[.val (.ref a1), .val (.ref b2), .val (.int (1 : Int32))] [(.int (1 : Int32))]))
  refine own_step (fun t k => XS.aloadN X22.here hx rfl (hb hby d4_13) rfl rfl k) ?_
  show own_G p.tables e below _ (T22.setTop (mkF m 14 #[.val (.ref a1), .val (.ref b2), .val (.int (1 : Int32))] [(.ref a1), (.int (1 : Int32))]))
  obtain ⟨T29, X29, e29, st29⟩ := getF X22 hx hZ hown (host := "") (Or.inl (hw _ (List.mem_of_getElem? (i := 15) rfl))) Via.refl e22 c24 (g := (mkF m 14 #[.val (.ref a1), .val (.ref b2), .val (.int (1 : Int32))] [(.ref a1), (.int (1 : Int32))])) rfl rfl (hb hby d4_14)
  refine own_step st29 ?_
  show own_G p.tables e below _ (T29.setTop (mkF m 17 #[.val (.ref a1), .val (.ref b2), .val (.int (1 : Int32))] [(.ref u_from), (.int (1 : Int32))]))
  refine own_step (own_lenI X29 hx hZ e29 c26 (g := (mkF m 17 #[.val (.ref a1), .val (.ref b2), .val (.int (1 : Int32))] [(.ref u_from), (.int (1 : Int32))])) rfl rfl (hb hby d4_17)) ?_
  show own_G p.tables e below _ (T29.setTop (mkF m 18 #[.val (.ref a1), .val (.ref b2), .val (.int (1 : Int32))] [(.int (3 : Int32)), (.int (1 : Int32))]))
  have hk30 : (1 : Int32) < (3 : Int32) := (by decide)
  refine own_step (fun t k => XS.icmpNo X29.here hx rfl (hb hby d4_18) rfl ((tlt hk30).2.1) k) ?_
  show own_G p.tables e below _ (T29.setTop (mkF m 21 #[.val (.ref a1), .val (.ref b2), .val (.int (1 : Int32))] []))
  refine own_step (fun t k => XS.aloadN X29.here hx rfl (hb hby d4_21) rfl rfl k) ?_
  show own_G p.tables e below _ (T29.setTop (mkF m 22 #[.val (.ref a1), .val (.ref b2), .val (.int (1 : Int32))] [(.ref b2)]))
  refine own_step (fun t k => XS.iconst X29.here hx rfl (hb hby d4_22) k) ?_
  show own_G p.tables e below _ (T29.setTop (mkF m 23 #[.val (.ref a1), .val (.ref b2), .val (.int (1 : Int32))] [(.int (2 : Int32)), (.ref b2)]))
  refine own_step (fun t k => XS.iloadN X29.here hx rfl (hb hby d4_23) rfl k) ?_
  show own_G p.tables e below _ (T29.setTop (mkF m 24 #[.val (.ref a1), .val (.ref b2), .val (.int (1 : Int32))] [(.int (1 : Int32)), (.int (2 : Int32)), (.ref b2)]))
  refine own_step (fun t k => XS.imul X29.here hx rfl (hb hby d4_24) rfl k) ?_
  show own_G p.tables e below _ (T29.setTop (mkF m 25 #[.val (.ref a1), .val (.ref b2), .val (.int (1 : Int32))] [(.int (2 : Int32)), (.ref b2)]))
  refine own_step (fun t k => XS.aloadN X29.here hx rfl (hb hby d4_25) rfl rfl k) ?_
  show own_G p.tables e below _ (T29.setTop (mkF m 26 #[.val (.ref a1), .val (.ref b2), .val (.int (1 : Int32))] [(.ref a1), (.int (2 : Int32)), (.ref b2)]))
  obtain ⟨T31, X31, e31, st31⟩ := getF X29 hx hZ hown (host := "") (Or.inl (hw _ (List.mem_of_getElem? (i := 15) rfl))) Via.refl e29 c24 (g := (mkF m 26 #[.val (.ref a1), .val (.ref b2), .val (.int (1 : Int32))] [(.ref a1), (.int (2 : Int32)), (.ref b2)])) rfl rfl (hb hby d4_26)
  refine own_step st31 ?_
  show own_G p.tables e below _ (T31.setTop (mkF m 29 #[.val (.ref a1), .val (.ref b2), .val (.int (1 : Int32))] [(.ref u_from), (.int (2 : Int32)), (.ref b2)]))
  refine own_step (fun t k => XS.iloadN X31.here hx rfl (hb hby d4_29) rfl k) ?_
  show own_G p.tables e below _ (T31.setTop (mkF m 30 #[.val (.ref a1), .val (.ref b2), .val (.int (1 : Int32))] [(.int (1 : Int32)), (.ref u_from), (.int (2 : Int32)), (.ref b2)]))
  refine own_step (own_iaload X31 hx hZ e31 c26 (own_inb (by decide) (Nat.le_of_ble_eq_true rfl)) (g := (mkF m 30 #[.val (.ref a1), .val (.ref b2), .val (.int (1 : Int32))] [(.int (1 : Int32)), (.ref u_from), (.int (2 : Int32)), (.ref b2)])) rfl rfl (hb hby d4_30)) ?_
  show own_G p.tables e below _ (T31.setTop (mkF m 31 #[.val (.ref a1), .val (.ref b2), .val (.int (1 : Int32))] [(.int x1), (.int (2 : Int32)), (.ref b2)]))
  obtain ⟨T32, h32, X32, e32, W32, c32, st32⟩ := own_iastore X31 hx hZ e31 c23 (own_inb (by decide) (Nat.le_of_ble_eq_true rfl)) (g := (mkF m 31 #[.val (.ref a1), .val (.ref b2), .val (.int (1 : Int32))] [(.int x1), (.int (2 : Int32)), (.ref b2)])) rfl rfl (hb hby d4_31)
  have N32 := Fr.snoc X32 N22 ge2
  have c33 : own_Ari Z h32 b2 .int [x0, yy0, x1, (0 : Int32), (0 : Int32), (0 : Int32)] := c32
  have c34 : Fld Z h32 a1 "com/example/stevedore/stevedore/MoveGraph" "from" "[I" (.ref u_from) := c24.other W32 (Or.inl ne3)
  have c35 : Fld Z h32 a1 "com/example/stevedore/stevedore/MoveGraph" "to" "[I" (.ref u_to) := c25.other W32 (Or.inl ne3)
  have c36 : own_Ari Z h32 u_from .int [x0, x1, x2] := c26.other W32 ne4
  have c37 : own_Ari Z h32 u_to .int [yy0, yy1, yy2] := c27.other W32 ne5
  have K32 : Keep h0 h32 [] := K22.wr W32 (Or.inr sz2)
  refine own_step st32 ?_
  show own_G p.tables e below _ (T32.setTop (mkF m 32 #[.val (.ref a1), .val (.ref b2), .val (.int (1 : Int32))] []))
  refine own_step (fun t k => XS.aloadN X32.here hx rfl (hb hby d4_32) rfl rfl k) ?_
  show own_G p.tables e below _ (T32.setTop (mkF m 33 #[.val (.ref a1), .val (.ref b2), .val (.int (1 : Int32))] [(.ref b2)]))
  refine own_step (fun t k => XS.iconst X32.here hx rfl (hb hby d4_33) k) ?_
  show own_G p.tables e below _ (T32.setTop (mkF m 34 #[.val (.ref a1), .val (.ref b2), .val (.int (1 : Int32))] [(.int (2 : Int32)), (.ref b2)]))
  refine own_step (fun t k => XS.iloadN X32.here hx rfl (hb hby d4_34) rfl k) ?_
  show own_G p.tables e below _ (T32.setTop (mkF m 35 #[.val (.ref a1), .val (.ref b2), .val (.int (1 : Int32))] [(.int (1 : Int32)), (.int (2 : Int32)), (.ref b2)]))
  refine own_step (fun t k => XS.imul X32.here hx rfl (hb hby d4_35) rfl k) ?_
  show own_G p.tables e below _ (T32.setTop (mkF m 36 #[.val (.ref a1), .val (.ref b2), .val (.int (1 : Int32))] [(.int (2 : Int32)), (.ref b2)]))
  refine own_step (fun t k => XS.iconst X32.here hx rfl (hb hby d4_36) k) ?_
  show own_G p.tables e below _ (T32.setTop (mkF m 37 #[.val (.ref a1), .val (.ref b2), .val (.int (1 : Int32))] [(.int (1 : Int32)), (.int (2 : Int32)), (.ref b2)]))
  refine own_step (fun t k => XS.iadd X32.here hx rfl (hb hby d4_37) rfl k) ?_
  show own_G p.tables e below _ (T32.setTop (mkF m 38 #[.val (.ref a1), .val (.ref b2), .val (.int (1 : Int32))] [(.int (3 : Int32)), (.ref b2)]))
  refine own_step (fun t k => XS.aloadN X32.here hx rfl (hb hby d4_38) rfl rfl k) ?_
  show own_G p.tables e below _ (T32.setTop (mkF m 39 #[.val (.ref a1), .val (.ref b2), .val (.int (1 : Int32))] [(.ref a1), (.int (3 : Int32)), (.ref b2)]))
  obtain ⟨T39, X39, e39, st39⟩ := getF X32 hx hZ hown (host := "") (Or.inl (hw _ (List.mem_of_getElem? (i := 17) rfl))) Via.refl e32 c35 (g := (mkF m 39 #[.val (.ref a1), .val (.ref b2), .val (.int (1 : Int32))] [(.ref a1), (.int (3 : Int32)), (.ref b2)])) rfl rfl (hb hby d4_39)
  refine own_step st39 ?_
  show own_G p.tables e below _ (T39.setTop (mkF m 42 #[.val (.ref a1), .val (.ref b2), .val (.int (1 : Int32))] [(.ref u_to), (.int (3 : Int32)), (.ref b2)]))
  refine own_step (fun t k => XS.iloadN X39.here hx rfl (hb hby d4_42) rfl k) ?_
  show own_G p.tables e below _ (T39.setTop (mkF m 43 #[.val (.ref a1), .val (.ref b2), .val (.int (1 : Int32))] [(.int (1 : Int32)), (.ref u_to), (.int (3 : Int32)), (.ref b2)]))
  refine own_step (own_iaload X39 hx hZ e39 c37 (own_inb (by decide) (Nat.le_of_ble_eq_true rfl)) (g := (mkF m 43 #[.val (.ref a1), .val (.ref b2), .val (.int (1 : Int32))] [(.int (1 : Int32)), (.ref u_to), (.int (3 : Int32)), (.ref b2)])) rfl rfl (hb hby d4_43)) ?_
  show own_G p.tables e below _ (T39.setTop (mkF m 44 #[.val (.ref a1), .val (.ref b2), .val (.int (1 : Int32))] [(.int yy1), (.int (3 : Int32)), (.ref b2)]))
  obtain ⟨T40, h40, X40, e40, W40, c40, st40⟩ := own_iastore X39 hx hZ e39 c33 (own_inb (by decide) (Nat.le_of_ble_eq_true rfl)) (g := (mkF m 44 #[.val (.ref a1), .val (.ref b2), .val (.int (1 : Int32))] [(.int yy1), (.int (3 : Int32)), (.ref b2)])) rfl rfl (hb hby d4_44)
  have N40 := Fr.snoc X40 N32 ge2
  have c41 : own_Ari Z h40 b2 .int [x0, yy0, x1, yy1, (0 : Int32), (0 : Int32)] := c40
  have c42 : Fld Z h40 a1 "com/example/stevedore/stevedore/MoveGraph" "from" "[I" (.ref u_from) := c34.other W40 (Or.inl ne3)
  have c43 : Fld Z h40 a1 "com/example/stevedore/stevedore/MoveGraph" "to" "[I" (.ref u_to) := c35.other W40 (Or.inl ne3)
  have c44 : own_Ari Z h40 u_from .int [x0, x1, x2] := c36.other W40 ne4
  have c45 : own_Ari Z h40 u_to .int [yy0, yy1, yy2] := c37.other W40 ne5
  have K40 : Keep h0 h40 [] := K32.wr W40 (Or.inr sz2)
  refine own_step st40 ?_
  show own_G p.tables e below _ (T40.setTop (mkF m 45 #[.val (.ref a1), .val (.ref b2), .val (.int (1 : Int32))] []))
  refine own_step (fun t k => XS.iinc X40.here hx rfl (hb hby d4_45) rfl (l' := #[.val (.ref a1), .val (.ref b2), .val (.int (2 : Int32))]) rfl k) ?_
  show own_G p.tables e below _ (T40.setTop (mkF m 48 #[.val (.ref a1), .val (.ref b2), .val (.int (2 : Int32))] []))
  refine own_step (fun t k => XS.goto X40.here hx rfl (pc0 := 48) (pc' := 12) rfl (hb hby d4_48) (by decide) (by decide) k) ?_
  show own_G p.tables e below _ (T40.setTop (mkF m 12 #[.val (.ref a1), .val (.ref b2), .val (.int (2 : Int32))] []))
  refine own_step (fun t k => XS.iloadN X40.here hx rfl (hb hby d4_12) rfl k) ?_
  show own_G p.tables e below _ (T40.setTop (mkF m 13 #[.val (.ref a1), .val (.ref b2), .val (.int (2 : Int32))] [(.int (2 : Int32))]))
  refine own_step (fun t k => XS.aloadN X40.here hx rfl (hb hby d4_13) rfl rfl k) ?_
  show own_G p.tables e below _ (T40.setTop (mkF m 14 #[.val (.ref a1), .val (.ref b2), .val (.int (2 : Int32))] [(.ref a1), (.int (2 : Int32))]))
  obtain ⟨T47, X47, e47, st47⟩ := getF X40 hx hZ hown (host := "") (Or.inl (hw _ (List.mem_of_getElem? (i := 15) rfl))) Via.refl e40 c42 (g := (mkF m 14 #[.val (.ref a1), .val (.ref b2), .val (.int (2 : Int32))] [(.ref a1), (.int (2 : Int32))])) rfl rfl (hb hby d4_14)
  refine own_step st47 ?_
  show own_G p.tables e below _ (T47.setTop (mkF m 17 #[.val (.ref a1), .val (.ref b2), .val (.int (2 : Int32))] [(.ref u_from), (.int (2 : Int32))]))
  refine own_step (own_lenI X47 hx hZ e47 c44 (g := (mkF m 17 #[.val (.ref a1), .val (.ref b2), .val (.int (2 : Int32))] [(.ref u_from), (.int (2 : Int32))])) rfl rfl (hb hby d4_17)) ?_
  show own_G p.tables e below _ (T47.setTop (mkF m 18 #[.val (.ref a1), .val (.ref b2), .val (.int (2 : Int32))] [(.int (3 : Int32)), (.int (2 : Int32))]))
  have hk48 : (2 : Int32) < (3 : Int32) := (by decide)
  refine own_step (fun t k => XS.icmpNo X47.here hx rfl (hb hby d4_18) rfl ((tlt hk48).2.1) k) ?_
  show own_G p.tables e below _ (T47.setTop (mkF m 21 #[.val (.ref a1), .val (.ref b2), .val (.int (2 : Int32))] []))
  refine own_step (fun t k => XS.aloadN X47.here hx rfl (hb hby d4_21) rfl rfl k) ?_
  show own_G p.tables e below _ (T47.setTop (mkF m 22 #[.val (.ref a1), .val (.ref b2), .val (.int (2 : Int32))] [(.ref b2)]))
  refine own_step (fun t k => XS.iconst X47.here hx rfl (hb hby d4_22) k) ?_
  show own_G p.tables e below _ (T47.setTop (mkF m 23 #[.val (.ref a1), .val (.ref b2), .val (.int (2 : Int32))] [(.int (2 : Int32)), (.ref b2)]))
  refine own_step (fun t k => XS.iloadN X47.here hx rfl (hb hby d4_23) rfl k) ?_
  show own_G p.tables e below _ (T47.setTop (mkF m 24 #[.val (.ref a1), .val (.ref b2), .val (.int (2 : Int32))] [(.int (2 : Int32)), (.int (2 : Int32)), (.ref b2)]))
  refine own_step (fun t k => XS.imul X47.here hx rfl (hb hby d4_24) rfl k) ?_
  show own_G p.tables e below _ (T47.setTop (mkF m 25 #[.val (.ref a1), .val (.ref b2), .val (.int (2 : Int32))] [(.int (4 : Int32)), (.ref b2)]))
  refine own_step (fun t k => XS.aloadN X47.here hx rfl (hb hby d4_25) rfl rfl k) ?_
  show own_G p.tables e below _ (T47.setTop (mkF m 26 #[.val (.ref a1), .val (.ref b2), .val (.int (2 : Int32))] [(.ref a1), (.int (4 : Int32)), (.ref b2)]))
  obtain ⟨T49, X49, e49, st49⟩ := getF X47 hx hZ hown (host := "") (Or.inl (hw _ (List.mem_of_getElem? (i := 15) rfl))) Via.refl e47 c42 (g := (mkF m 26 #[.val (.ref a1), .val (.ref b2), .val (.int (2 : Int32))] [(.ref a1), (.int (4 : Int32)), (.ref b2)])) rfl rfl (hb hby d4_26)
  refine own_step st49 ?_
  show own_G p.tables e below _ (T49.setTop (mkF m 29 #[.val (.ref a1), .val (.ref b2), .val (.int (2 : Int32))] [(.ref u_from), (.int (4 : Int32)), (.ref b2)]))
  refine own_step (fun t k => XS.iloadN X49.here hx rfl (hb hby d4_29) rfl k) ?_
  show own_G p.tables e below _ (T49.setTop (mkF m 30 #[.val (.ref a1), .val (.ref b2), .val (.int (2 : Int32))] [(.int (2 : Int32)), (.ref u_from), (.int (4 : Int32)), (.ref b2)]))
  refine own_step (own_iaload X49 hx hZ e49 c44 (own_inb (by decide) (Nat.le_of_ble_eq_true rfl)) (g := (mkF m 30 #[.val (.ref a1), .val (.ref b2), .val (.int (2 : Int32))] [(.int (2 : Int32)), (.ref u_from), (.int (4 : Int32)), (.ref b2)])) rfl rfl (hb hby d4_30)) ?_
  show own_G p.tables e below _ (T49.setTop (mkF m 31 #[.val (.ref a1), .val (.ref b2), .val (.int (2 : Int32))] [(.int x2), (.int (4 : Int32)), (.ref b2)]))
  obtain ⟨T50, h50, X50, e50, W50, c50, st50⟩ := own_iastore X49 hx hZ e49 c41 (own_inb (by decide) (Nat.le_of_ble_eq_true rfl)) (g := (mkF m 31 #[.val (.ref a1), .val (.ref b2), .val (.int (2 : Int32))] [(.int x2), (.int (4 : Int32)), (.ref b2)])) rfl rfl (hb hby d4_31)
  have N50 := Fr.snoc X50 N40 ge2
  have c51 : own_Ari Z h50 b2 .int [x0, yy0, x1, yy1, x2, (0 : Int32)] := c50
  have c52 : Fld Z h50 a1 "com/example/stevedore/stevedore/MoveGraph" "from" "[I" (.ref u_from) := c42.other W50 (Or.inl ne3)
  have c53 : Fld Z h50 a1 "com/example/stevedore/stevedore/MoveGraph" "to" "[I" (.ref u_to) := c43.other W50 (Or.inl ne3)
  have c54 : own_Ari Z h50 u_from .int [x0, x1, x2] := c44.other W50 ne4
  have c55 : own_Ari Z h50 u_to .int [yy0, yy1, yy2] := c45.other W50 ne5
  have K50 : Keep h0 h50 [] := K40.wr W50 (Or.inr sz2)
  refine own_step st50 ?_
  show own_G p.tables e below _ (T50.setTop (mkF m 32 #[.val (.ref a1), .val (.ref b2), .val (.int (2 : Int32))] []))
  refine own_step (fun t k => XS.aloadN X50.here hx rfl (hb hby d4_32) rfl rfl k) ?_
  show own_G p.tables e below _ (T50.setTop (mkF m 33 #[.val (.ref a1), .val (.ref b2), .val (.int (2 : Int32))] [(.ref b2)]))
  refine own_step (fun t k => XS.iconst X50.here hx rfl (hb hby d4_33) k) ?_
  show own_G p.tables e below _ (T50.setTop (mkF m 34 #[.val (.ref a1), .val (.ref b2), .val (.int (2 : Int32))] [(.int (2 : Int32)), (.ref b2)]))
  refine own_step (fun t k => XS.iloadN X50.here hx rfl (hb hby d4_34) rfl k) ?_
  show own_G p.tables e below _ (T50.setTop (mkF m 35 #[.val (.ref a1), .val (.ref b2), .val (.int (2 : Int32))] [(.int (2 : Int32)), (.int (2 : Int32)), (.ref b2)]))
  refine own_step (fun t k => XS.imul X50.here hx rfl (hb hby d4_35) rfl k) ?_
  show own_G p.tables e below _ (T50.setTop (mkF m 36 #[.val (.ref a1), .val (.ref b2), .val (.int (2 : Int32))] [(.int (4 : Int32)), (.ref b2)]))
  refine own_step (fun t k => XS.iconst X50.here hx rfl (hb hby d4_36) k) ?_
  show own_G p.tables e below _ (T50.setTop (mkF m 37 #[.val (.ref a1), .val (.ref b2), .val (.int (2 : Int32))] [(.int (1 : Int32)), (.int (4 : Int32)), (.ref b2)]))
  refine own_step (fun t k => XS.iadd X50.here hx rfl (hb hby d4_37) rfl k) ?_
  show own_G p.tables e below _ (T50.setTop (mkF m 38 #[.val (.ref a1), .val (.ref b2), .val (.int (2 : Int32))] [(.int (5 : Int32)), (.ref b2)]))
  refine own_step (fun t k => XS.aloadN X50.here hx rfl (hb hby d4_38) rfl rfl k) ?_
  show own_G p.tables e below _ (T50.setTop (mkF m 39 #[.val (.ref a1), .val (.ref b2), .val (.int (2 : Int32))] [(.ref a1), (.int (5 : Int32)), (.ref b2)]))
  obtain ⟨T57, X57, e57, st57⟩ := getF X50 hx hZ hown (host := "") (Or.inl (hw _ (List.mem_of_getElem? (i := 17) rfl))) Via.refl e50 c53 (g := (mkF m 39 #[.val (.ref a1), .val (.ref b2), .val (.int (2 : Int32))] [(.ref a1), (.int (5 : Int32)), (.ref b2)])) rfl rfl (hb hby d4_39)
  refine own_step st57 ?_
  show own_G p.tables e below _ (T57.setTop (mkF m 42 #[.val (.ref a1), .val (.ref b2), .val (.int (2 : Int32))] [(.ref u_to), (.int (5 : Int32)), (.ref b2)]))
  refine own_step (fun t k => XS.iloadN X57.here hx rfl (hb hby d4_42) rfl k) ?_
  show own_G p.tables e below _ (T57.setTop (mkF m 43 #[.val (.ref a1), .val (.ref b2), .val (.int (2 : Int32))] [(.int (2 : Int32)), (.ref u_to), (.int (5 : Int32)), (.ref b2)]))
  refine own_step (own_iaload X57 hx hZ e57 c55 (own_inb (by decide) (Nat.le_of_ble_eq_true rfl)) (g := (mkF m 43 #[.val (.ref a1), .val (.ref b2), .val (.int (2 : Int32))] [(.int (2 : Int32)), (.ref u_to), (.int (5 : Int32)), (.ref b2)])) rfl rfl (hb hby d4_43)) ?_
  show own_G p.tables e below _ (T57.setTop (mkF m 44 #[.val (.ref a1), .val (.ref b2), .val (.int (2 : Int32))] [(.int yy2), (.int (5 : Int32)), (.ref b2)]))
  obtain ⟨T58, h58, X58, e58, W58, c58, st58⟩ := own_iastore X57 hx hZ e57 c51 (own_inb (by decide) (Nat.le_of_ble_eq_true rfl)) (g := (mkF m 44 #[.val (.ref a1), .val (.ref b2), .val (.int (2 : Int32))] [(.int yy2), (.int (5 : Int32)), (.ref b2)])) rfl rfl (hb hby d4_44)
  have N58 := Fr.snoc X58 N50 ge2
  have c59 : own_Ari Z h58 b2 .int [x0, yy0, x1, yy1, x2, yy2] := c58
  have c60 : Fld Z h58 a1 "com/example/stevedore/stevedore/MoveGraph" "from" "[I" (.ref u_from) := c52.other W58 (Or.inl ne3)
  have c61 : Fld Z h58 a1 "com/example/stevedore/stevedore/MoveGraph" "to" "[I" (.ref u_to) := c53.other W58 (Or.inl ne3)
  have c62 : own_Ari Z h58 u_from .int [x0, x1, x2] := c54.other W58 ne4
  have c63 : own_Ari Z h58 u_to .int [yy0, yy1, yy2] := c55.other W58 ne5
  have K58 : Keep h0 h58 [] := K50.wr W58 (Or.inr sz2)
  refine own_step st58 ?_
  show own_G p.tables e below _ (T58.setTop (mkF m 45 #[.val (.ref a1), .val (.ref b2), .val (.int (2 : Int32))] []))
  refine own_step (fun t k => XS.iinc X58.here hx rfl (hb hby d4_45) rfl (l' := #[.val (.ref a1), .val (.ref b2), .val (.int (3 : Int32))]) rfl k) ?_
  show own_G p.tables e below _ (T58.setTop (mkF m 48 #[.val (.ref a1), .val (.ref b2), .val (.int (3 : Int32))] []))
  refine own_step (fun t k => XS.goto X58.here hx rfl (pc0 := 48) (pc' := 12) rfl (hb hby d4_48) (by decide) (by decide) k) ?_
  show own_G p.tables e below _ (T58.setTop (mkF m 12 #[.val (.ref a1), .val (.ref b2), .val (.int (3 : Int32))] []))
  refine own_step (fun t k => XS.iloadN X58.here hx rfl (hb hby d4_12) rfl k) ?_
  show own_G p.tables e below _ (T58.setTop (mkF m 13 #[.val (.ref a1), .val (.ref b2), .val (.int (3 : Int32))] [(.int (3 : Int32))]))
  refine own_step (fun t k => XS.aloadN X58.here hx rfl (hb hby d4_13) rfl rfl k) ?_
  show own_G p.tables e below _ (T58.setTop (mkF m 14 #[.val (.ref a1), .val (.ref b2), .val (.int (3 : Int32))] [(.ref a1), (.int (3 : Int32))]))
  obtain ⟨T65, X65, e65, st65⟩ := getF X58 hx hZ hown (host := "") (Or.inl (hw _ (List.mem_of_getElem? (i := 15) rfl))) Via.refl e58 c60 (g := (mkF m 14 #[.val (.ref a1), .val (.ref b2), .val (.int (3 : Int32))] [(.ref a1), (.int (3 : Int32))])) rfl rfl (hb hby d4_14)
  refine own_step st65 ?_
  show own_G p.tables e below _ (T65.setTop (mkF m 17 #[.val (.ref a1), .val (.ref b2), .val (.int (3 : Int32))] [(.ref u_from), (.int (3 : Int32))]))
  refine own_step (own_lenI X65 hx hZ e65 c62 (g := (mkF m 17 #[.val (.ref a1), .val (.ref b2), .val (.int (3 : Int32))] [(.ref u_from), (.int (3 : Int32))])) rfl rfl (hb hby d4_17)) ?_
  show own_G p.tables e below _ (T65.setTop (mkF m 18 #[.val (.ref a1), .val (.ref b2), .val (.int (3 : Int32))] [(.int (3 : Int32)), (.int (3 : Int32))]))
  have hk66 : ¬ ((3 : Int32) < (3 : Int32)) := (by decide)
  refine own_step (fun t k => XS.icmpYes X65.here hx rfl (pc0 := 18) (pc' := 51) rfl (hb hby d4_18) rfl ((flt hk66).2.1) (by decide) (by decide) k) ?_
  show own_G p.tables e below _ (T65.setTop (mkF m 51 #[.val (.ref a1), .val (.ref b2), .val (.int (3 : Int32))] []))
  refine own_step (fun t k => XS.aloadN X65.here hx rfl (hb hby d4_51) rfl rfl k) ?_
  show own_G p.tables e below _ (T65.setTop (mkF m 52 #[.val (.ref a1), .val (.ref b2), .val (.int (3 : Int32))] [(.ref b2)]))
  obtain ⟨fs, hr, hrun, hended, hW, hsame⟩ := X65.leave (v := some (.ref b2)) (fun h => by rw [Bd.returns] at h; cases h)
  refine own_done (own_retA X65 hx Bd.returns (by decide) rfl (hb hby d4_52) hr) hrun hended ⟨_, _, rfl, ?_, ⟨_, rfl⟩, hW, hsame.mono (by decide) (by decide)⟩
  show Q4_k3 Z a1 u_from u_to x0 x1 x2 yy0 yy1 yy2 h0 n0 _ T65.heap _
  rw [e65]
  exact ⟨b2, rfl, N58, K58, c59, sz2⟩
theorem pn_5_e0_3 : plainName "com/example/stevedore/stevedore/MoveGraphEndsPinLaw" = true := by first | (simp [plainName, overriddenIn]; done) | decide +kernel
theorem pd_5_e0_3_0 : parseMethodDescriptor "(J)I" = some ⟨[.long], some .int⟩ := by decide +kernel
theorem ef_5_e0_3 (m : MethodId) (a1 : Addr) (a2 : Addr) (a3 : Addr) (q6 : Int64) : entryFrame m #[(.ref a1), (.ref a2), (.ref a3), (.int (0 : Int32)), (.int (3 : Int32)), (.long q6)] 7 = mkF m 0 #[.val (.ref a1), .val (.ref a2), .val (.ref a3), .val (.int (0 : Int32)), .val (.int (3 : Int32)), .val (.long q6), .second] [] := by first | (simp [entryFrame, mkF, argsToLocals, Value.category]; done) | rfl
def Q5_e0_3 (Z : State) (a1 : Addr) (a2 : Addr) (a3 : Addr) (q6 : Int64) (ee2 : Int32) (ee3 : Int32) (ee4 : Int32) (ee5 : Int32) (x1 : Int32) (x2 : Int32) (yy1 : Int32) (yy2 : Int32) (h0 : Heap) (n0 : Nat) (v : Option Value) (h : Heap) (L : List Loc) : Prop := v = some (.int (1 : Int32)) ∧ Fr n0 L ∧ h = h0
set_option maxRecDepth 65536 in
set_option maxHeartbeats 40000000 in
theorem rm5_e0_3 (l : Launch) (Z : State) (a0 : Array Value) (hw : ∀ d ∈ tables_1, d.before a0 Z = true) (ws : List Jvm.Cond) (a1 : Addr) (a2 : Addr) (a3 : Addr) (q6 : Int64) (ee2 : Int32) (ee3 : Int32) (ee4 : Int32) (ee5 : Int32) (x1 : Int32) (x2 : Int32) (yy1 : Int32) (yy2 : Int32) (h0 : Heap) (n0 : Nat) (Z0 : n0 ≤ h0.size) (fp0 : own_Ari Z h0 a1 .int [(((q6.toUInt64 >>> ((32 : Int32) &&& 0x3f).toInt64.toUInt64).toInt64).toInt32), (q6.toInt32), ee2, ee3, ee4, ee5]) (fp1 : own_Ari Z h0 a2 .int [(((q6.toUInt64 >>> ((32 : Int32) &&& 0x3f).toInt64.toUInt64).toInt64).toInt32), x1, x2]) (fp2 : own_Ari Z h0 a3 .int [(q6.toInt32), yy1, yy2]) :
    MetFree l (⟨"com/example/stevedore/stevedore/MoveGraphEndsPinLaw", "pair", "([I[I[IIIJ)Z"⟩ : MethodName) (head1 (Jvm.Cond.code (⟨"com/example/stevedore/stevedore/MoveGraphEndsPinLaw", "pair", "([I[I[IIIJ)Z"⟩ : MethodName) method_5_code 7 (some .boolean) :: ws) ({ frames := 1, cells := 0, slots := 0, locals := 14 } : Room)) (fun a U => a = #[(.ref a1), (.ref a2), (.ref a3), (.int (0 : Int32)), (.int (3 : Int32)), (.long q6)] ∧ Z.Warmed39 U.vm ∧ U.heap = h0) (fun _ _ _ _ _ => True) (fun _ U o U' => ∃ v L, o = .returned v ∧ Q5_e0_3 Z a1 a2 a3 q6 ee2 ee3 ee4 ee5 x1 x2 yy1 yy2 h0 n0 v U'.heap L ∧ FrameEnd U o U' L ({ frames := 1, cells := 0, slots := 0, locals := 14 } : Room).cells ({ frames := 1, cells := 0, slots := 0, locals := 14 } : Room).slots) := by
  refine MetFree.of_bodySF (plainFor_of_name pn_5_e0_3) hisR ?_
  intro p e s m args below meth c s₁ Bd hml0 hP hK
  obtain ⟨rfl, hZ, hh⟩ := hP
  have hx := Bd.exec
  have hby := Bd.bytes
  have hml : c.maxLocals = 7 := hml0
  have hown : s.vm.findClass "com/example/stevedore/stevedore/MoveGraphEndsPinLaw" = some m.cls := findClass_of_methodNamed Bd.named
  have hnm := (name_of_methodNamed Bd.named Bd.method).1
  have X0 : Stand p l e ({ frames := 1, cells := 0, slots := 0, locals := 14 } : Room) s m #[(.ref a1), (.ref a2), (.ref a3), (.int (0 : Int32)), (.int (3 : Int32)), (.long q6)] below meth c s₁ [] 0 0 := Stand.of_body Bd
  have e0 : s₁.heap = h0 := by rw [← hh, Bd.state]; rfl
  have N0 := Fr.nil n0
  refine own_start (fun t k => castTop (ef_5_e0_3 m a1 a2 a3 q6) k) ?_
  show own_G p.tables e below _ (s₁.setTop (mkF m 0 #[.val (.ref a1), .val (.ref a2), .val (.ref a3), .val (.int (0 : Int32)), .val (.int (3 : Int32)), .val (.long q6), .second] []))
  refine own_step (fun t k => XS.iloadN X0.here hx rfl (hb hby d5_0) rfl k) ?_
  show own_G p.tables e below _ (s₁.setTop (mkF m 1 #[.val (.ref a1), .val (.ref a2), .val (.ref a3), .val (.int (0 : Int32)), .val (.int (3 : Int32)), .val (.long q6), .second] [(.int (0 : Int32))]))
  refine own_step (fun t k => XS.iload X0.here hx rfl (hb hby d5_1) rfl k) ?_
  show own_G p.tables e below _ (s₁.setTop (mkF m 3 #[.val (.ref a1), .val (.ref a2), .val (.ref a3), .val (.int (0 : Int32)), .val (.int (3 : Int32)), .val (.long q6), .second] [(.int (3 : Int32)), (.int (0 : Int32))]))
  have hk1 : (0 : Int32) < (3 : Int32) := (by decide)
  refine own_step (fun t k => XS.icmpYes X0.here hx rfl (pc0 := 3) (pc' := 8) rfl (hb hby d5_3) rfl ((tlt hk1).1) (by decide) (by decide) k) ?_
  show own_G p.tables e below _ (s₁.setTop (mkF m 8 #[.val (.ref a1), .val (.ref a2), .val (.ref a3), .val (.int (0 : Int32)), .val (.int (3 : Int32)), .val (.long q6), .second] []))
  refine own_step (fun t k => XS.aloadN X0.here hx rfl (hb hby d5_8) rfl rfl k) ?_
  show own_G p.tables e below _ (s₁.setTop (mkF m 9 #[.val (.ref a1), .val (.ref a2), .val (.ref a3), .val (.int (0 : Int32)), .val (.int (3 : Int32)), .val (.long q6), .second] [(.ref a1)]))
  refine own_step (fun t k => XS.iconst X0.here hx rfl (hb hby d5_9) k) ?_
  show own_G p.tables e below _ (s₁.setTop (mkF m 10 #[.val (.ref a1), .val (.ref a2), .val (.ref a3), .val (.int (0 : Int32)), .val (.int (3 : Int32)), .val (.long q6), .second] [(.int (2 : Int32)), (.ref a1)]))
  refine own_step (fun t k => XS.iloadN X0.here hx rfl (hb hby d5_10) rfl k) ?_
  show own_G p.tables e below _ (s₁.setTop (mkF m 11 #[.val (.ref a1), .val (.ref a2), .val (.ref a3), .val (.int (0 : Int32)), .val (.int (3 : Int32)), .val (.long q6), .second] [(.int (0 : Int32)), (.int (2 : Int32)), (.ref a1)]))
  refine own_step (fun t k => XS.imul X0.here hx rfl (hb hby d5_11) rfl k) ?_
  show own_G p.tables e below _ (s₁.setTop (mkF m 12 #[.val (.ref a1), .val (.ref a2), .val (.ref a3), .val (.int (0 : Int32)), .val (.int (3 : Int32)), .val (.long q6), .second] [(.int (0 : Int32)), (.ref a1)]))
  refine own_step (own_iaload X0 hx hZ e0 fp0 (own_inb (by decide) (Nat.le_of_ble_eq_true rfl)) (g := (mkF m 12 #[.val (.ref a1), .val (.ref a2), .val (.ref a3), .val (.int (0 : Int32)), .val (.int (3 : Int32)), .val (.long q6), .second] [(.int (0 : Int32)), (.ref a1)])) rfl rfl (hb hby d5_12)) ?_
  show own_G p.tables e below _ (s₁.setTop (mkF m 13 #[.val (.ref a1), .val (.ref a2), .val (.ref a3), .val (.int (0 : Int32)), .val (.int (3 : Int32)), .val (.long q6), .second] [(.int (((q6.toUInt64 >>> ((32 : Int32) &&& 0x3f).toInt64.toUInt64).toInt64).toInt32))]))
  refine own_step (fun t k => XS.lload X0.here hx rfl (hb hby d5_13) rfl k) ?_
  show own_G p.tables e below _ (s₁.setTop (mkF m 15 #[.val (.ref a1), .val (.ref a2), .val (.ref a3), .val (.int (0 : Int32)), .val (.int (3 : Int32)), .val (.long q6), .second] [(.long q6), (.int (((q6.toUInt64 >>> ((32 : Int32) &&& 0x3f).toInt64.toUInt64).toInt64).toInt32))]))
  obtain ⟨_, _, ⟨T2, L2, k2, n2⟩, -, X2, ⟨Lc2, hQ2, l2, y2, z2⟩, st2⟩ := Jvm.LawKit.callS X0 hx (y := (⟨"com/example/stevedore/stevedore/MoveGraphEndsPinLaw", "hi", "(J)I"⟩ : MethodName)) hown (mvT hZ (hw _ (List.mem_of_getElem? (i := 36) rfl))) (mvT hZ (hw _ (List.mem_of_getElem? (i := 37) rfl))) (mvT hZ (hw _ (List.mem_of_getElem? (i := 34) rfl))) (mvT hZ (hw _ (List.mem_of_getElem? (i := 38) rfl))) (by decide) (backOf (W := 1) (rm6 l Z a0 hw [] q6 h0 n0 (Nat.le_trans Z0 (Keep.refl h0 []).1) ) hZ (hw _ (List.mem_of_getElem? (i := 38) rfl)) (hw _ (List.mem_of_getElem? (i := 34) rfl)) (by decide) (by decide)) (g := (mkF m 15 #[.val (.ref a1), .val (.ref a2), .val (.ref a3), .val (.int (0 : Int32)), .val (.int (3 : Int32)), .val (.long q6), .second] [(.long q6), (.int (((q6.toUInt64 >>> ((32 : Int32) &&& 0x3f).toInt64.toUInt64).toInt64).toInt32))])) rfl (by rw [hml]; rfl) (argsL := [(.long q6)]) (rest := [(.int (((q6.toUInt64 >>> ((32 : Int32) &&& 0x3f).toInt64.toUInt64).toInt64).toInt32))]) (lenOf pd_5_e0_3_0 rfl) rfl (by show 2 * 0 + _ ≤ _; exact Nat.le_of_eq rfl) (hb hby d5_15) (fun _ _ => ⟨rfl, e0, (by decide : 0 + 0 ≤ _), (by decide : 0 + 0 ≤ _)⟩)
  dsimp only [Pt.U, Pt.locs, Pt.cells, Pt.slots] at X2 l2 y2 z2 st2 hQ2
  subst l2 y2 z2
  obtain ⟨rfl, N2q, e2⟩ := hQ2
  have N2 := Fr.app N0 N2q
  refine own_step st2 ?_
  show own_G p.tables e below _ (T2.setTop (mkF m 18 #[.val (.ref a1), .val (.ref a2), .val (.ref a3), .val (.int (0 : Int32)), .val (.int (3 : Int32)), .val (.long q6), .second] [(.int (((q6.toUInt64 >>> ((32 : Int32) &&& 0x3f).toInt64.toUInt64).toInt64).toInt32)), (.int (((q6.toUInt64 >>> ((32 : Int32) &&& 0x3f).toInt64.toUInt64).toInt64).toInt32))]))
  have hk3 : (((q6.toUInt64 >>> ((32 : Int32) &&& 0x3f).toInt64.toUInt64).toInt64).toInt32) = (((q6.toUInt64 >>> ((32 : Int32) &&& 0x3f).toInt64.toUInt64).toInt64).toInt32) := rfl
  refine own_step (fun t k => XS.icmpNo X2.here hx rfl (hb hby d5_18) rfl ((teq hk3).2) k) ?_
  show own_G p.tables e below _ (T2.setTop (mkF m 21 #[.val (.ref a1), .val (.ref a2), .val (.ref a3), .val (.int (0 : Int32)), .val (.int (3 : Int32)), .val (.long q6), .second] []))
  refine own_step (fun t k => XS.aloadN X2.here hx rfl (hb hby d5_21) rfl rfl k) ?_
  show own_G p.tables e below _ (T2.setTop (mkF m 22 #[.val (.ref a1), .val (.ref a2), .val (.ref a3), .val (.int (0 : Int32)), .val (.int (3 : Int32)), .val (.long q6), .second] [(.ref a1)]))
  refine own_step (fun t k => XS.iconst X2.here hx rfl (hb hby d5_22) k) ?_
  show own_G p.tables e below _ (T2.setTop (mkF m 23 #[.val (.ref a1), .val (.ref a2), .val (.ref a3), .val (.int (0 : Int32)), .val (.int (3 : Int32)), .val (.long q6), .second] [(.int (2 : Int32)), (.ref a1)]))
  refine own_step (fun t k => XS.iloadN X2.here hx rfl (hb hby d5_23) rfl k) ?_
  show own_G p.tables e below _ (T2.setTop (mkF m 24 #[.val (.ref a1), .val (.ref a2), .val (.ref a3), .val (.int (0 : Int32)), .val (.int (3 : Int32)), .val (.long q6), .second] [(.int (0 : Int32)), (.int (2 : Int32)), (.ref a1)]))
  refine own_step (fun t k => XS.imul X2.here hx rfl (hb hby d5_24) rfl k) ?_
  show own_G p.tables e below _ (T2.setTop (mkF m 25 #[.val (.ref a1), .val (.ref a2), .val (.ref a3), .val (.int (0 : Int32)), .val (.int (3 : Int32)), .val (.long q6), .second] [(.int (0 : Int32)), (.ref a1)]))
  refine own_step (fun t k => XS.iconst X2.here hx rfl (hb hby d5_25) k) ?_
  show own_G p.tables e below _ (T2.setTop (mkF m 26 #[.val (.ref a1), .val (.ref a2), .val (.ref a3), .val (.int (0 : Int32)), .val (.int (3 : Int32)), .val (.long q6), .second] [(.int (1 : Int32)), (.int (0 : Int32)), (.ref a1)]))
  refine own_step (fun t k => XS.iadd X2.here hx rfl (hb hby d5_26) rfl k) ?_
  show own_G p.tables e below _ (T2.setTop (mkF m 27 #[.val (.ref a1), .val (.ref a2), .val (.ref a3), .val (.int (0 : Int32)), .val (.int (3 : Int32)), .val (.long q6), .second] [(.int (1 : Int32)), (.ref a1)]))
  refine own_step (own_iaload X2 hx hZ e2 fp0 (own_inb (by decide) (Nat.le_of_ble_eq_true rfl)) (g := (mkF m 27 #[.val (.ref a1), .val (.ref a2), .val (.ref a3), .val (.int (0 : Int32)), .val (.int (3 : Int32)), .val (.long q6), .second] [(.int (1 : Int32)), (.ref a1)])) rfl rfl (hb hby d5_27)) ?_
  show own_G p.tables e below _ (T2.setTop (mkF m 28 #[.val (.ref a1), .val (.ref a2), .val (.ref a3), .val (.int (0 : Int32)), .val (.int (3 : Int32)), .val (.long q6), .second] [(.int (q6.toInt32))]))
  refine own_step (fun t k => XS.lload X2.here hx rfl (hb hby d5_28) rfl k) ?_
  show own_G p.tables e below _ (T2.setTop (mkF m 30 #[.val (.ref a1), .val (.ref a2), .val (.ref a3), .val (.int (0 : Int32)), .val (.int (3 : Int32)), .val (.long q6), .second] [(.long q6), (.int (q6.toInt32))]))
  obtain ⟨_, _, ⟨T4, L4, k4, n4⟩, -, X4, ⟨Lc4, hQ4, l4, y4, z4⟩, st4⟩ := Jvm.LawKit.callS X2 hx (y := (⟨"com/example/stevedore/stevedore/MoveGraphEndsPinLaw", "lo", "(J)I"⟩ : MethodName)) hown (mvT hZ (hw _ (List.mem_of_getElem? (i := 39) rfl))) (mvT hZ (hw _ (List.mem_of_getElem? (i := 40) rfl))) (mvT hZ (hw _ (List.mem_of_getElem? (i := 34) rfl))) (mvT hZ (hw _ (List.mem_of_getElem? (i := 41) rfl))) (by decide) (backOf (W := 1) (rm7 l Z a0 hw [] q6 h0 n0 (Nat.le_trans Z0 (Keep.refl h0 []).1) ) hZ (hw _ (List.mem_of_getElem? (i := 41) rfl)) (hw _ (List.mem_of_getElem? (i := 34) rfl)) (by decide) (by decide)) (g := (mkF m 30 #[.val (.ref a1), .val (.ref a2), .val (.ref a3), .val (.int (0 : Int32)), .val (.int (3 : Int32)), .val (.long q6), .second] [(.long q6), (.int (q6.toInt32))])) rfl (by rw [hml]; rfl) (argsL := [(.long q6)]) (rest := [(.int (q6.toInt32))]) (lenOf pd_5_e0_3_0 rfl) rfl (by show 2 * 0 + _ ≤ _; exact Nat.le_of_eq rfl) (hb hby d5_30) (fun _ _ => ⟨rfl, e2, (by decide : 0 + 0 ≤ _), (by decide : 0 + 0 ≤ _)⟩)
  dsimp only [Pt.U, Pt.locs, Pt.cells, Pt.slots] at X4 l4 y4 z4 st4 hQ4
  subst l4 y4 z4
  obtain ⟨rfl, N4q, e4⟩ := hQ4
  have N4 := Fr.app N2 N4q
  refine own_step st4 ?_
  show own_G p.tables e below _ (T4.setTop (mkF m 33 #[.val (.ref a1), .val (.ref a2), .val (.ref a3), .val (.int (0 : Int32)), .val (.int (3 : Int32)), .val (.long q6), .second] [(.int (q6.toInt32)), (.int (q6.toInt32))]))
  have hk5 : (q6.toInt32) = (q6.toInt32) := rfl
  refine own_step (fun t k => XS.icmpNo X4.here hx rfl (hb hby d5_33) rfl ((teq hk5).2) k) ?_
  show own_G p.tables e below _ (T4.setTop (mkF m 36 #[.val (.ref a1), .val (.ref a2), .val (.ref a3), .val (.int (0 : Int32)), .val (.int (3 : Int32)), .val (.long q6), .second] []))
  refine own_step (fun t k => XS.aloadN X4.here hx rfl (hb hby d5_36) rfl rfl k) ?_
  show own_G p.tables e below _ (T4.setTop (mkF m 37 #[.val (.ref a1), .val (.ref a2), .val (.ref a3), .val (.int (0 : Int32)), .val (.int (3 : Int32)), .val (.long q6), .second] [(.ref a2)]))
  refine own_step (fun t k => XS.iloadN X4.here hx rfl (hb hby d5_37) rfl k) ?_
  show own_G p.tables e below _ (T4.setTop (mkF m 38 #[.val (.ref a1), .val (.ref a2), .val (.ref a3), .val (.int (0 : Int32)), .val (.int (3 : Int32)), .val (.long q6), .second] [(.int (0 : Int32)), (.ref a2)]))
  refine own_step (own_iaload X4 hx hZ e4 fp1 (own_inb (by decide) (Nat.le_of_ble_eq_true rfl)) (g := (mkF m 38 #[.val (.ref a1), .val (.ref a2), .val (.ref a3), .val (.int (0 : Int32)), .val (.int (3 : Int32)), .val (.long q6), .second] [(.int (0 : Int32)), (.ref a2)])) rfl rfl (hb hby d5_38)) ?_
  show own_G p.tables e below _ (T4.setTop (mkF m 39 #[.val (.ref a1), .val (.ref a2), .val (.ref a3), .val (.int (0 : Int32)), .val (.int (3 : Int32)), .val (.long q6), .second] [(.int (((q6.toUInt64 >>> ((32 : Int32) &&& 0x3f).toInt64.toUInt64).toInt64).toInt32))]))
  refine own_step (fun t k => XS.lload X4.here hx rfl (hb hby d5_39) rfl k) ?_
  show own_G p.tables e below _ (T4.setTop (mkF m 41 #[.val (.ref a1), .val (.ref a2), .val (.ref a3), .val (.int (0 : Int32)), .val (.int (3 : Int32)), .val (.long q6), .second] [(.long q6), (.int (((q6.toUInt64 >>> ((32 : Int32) &&& 0x3f).toInt64.toUInt64).toInt64).toInt32))]))
  obtain ⟨_, _, ⟨T6, L6, k6, n6⟩, -, X6, ⟨Lc6, hQ6, l6, y6, z6⟩, st6⟩ := Jvm.LawKit.callS X4 hx (y := (⟨"com/example/stevedore/stevedore/MoveGraphEndsPinLaw", "hi", "(J)I"⟩ : MethodName)) hown (mvT hZ (hw _ (List.mem_of_getElem? (i := 36) rfl))) (mvT hZ (hw _ (List.mem_of_getElem? (i := 37) rfl))) (mvT hZ (hw _ (List.mem_of_getElem? (i := 34) rfl))) (mvT hZ (hw _ (List.mem_of_getElem? (i := 38) rfl))) (by decide) (backOf (W := 1) (rm6 l Z a0 hw [] q6 h0 n0 (Nat.le_trans Z0 (Keep.refl h0 []).1) ) hZ (hw _ (List.mem_of_getElem? (i := 38) rfl)) (hw _ (List.mem_of_getElem? (i := 34) rfl)) (by decide) (by decide)) (g := (mkF m 41 #[.val (.ref a1), .val (.ref a2), .val (.ref a3), .val (.int (0 : Int32)), .val (.int (3 : Int32)), .val (.long q6), .second] [(.long q6), (.int (((q6.toUInt64 >>> ((32 : Int32) &&& 0x3f).toInt64.toUInt64).toInt64).toInt32))])) rfl (by rw [hml]; rfl) (argsL := [(.long q6)]) (rest := [(.int (((q6.toUInt64 >>> ((32 : Int32) &&& 0x3f).toInt64.toUInt64).toInt64).toInt32))]) (lenOf pd_5_e0_3_0 rfl) rfl (by show 2 * 0 + _ ≤ _; exact Nat.le_of_eq rfl) (hb hby d5_41) (fun _ _ => ⟨rfl, e4, (by decide : 0 + 0 ≤ _), (by decide : 0 + 0 ≤ _)⟩)
  dsimp only [Pt.U, Pt.locs, Pt.cells, Pt.slots] at X6 l6 y6 z6 st6 hQ6
  subst l6 y6 z6
  obtain ⟨rfl, N6q, e6⟩ := hQ6
  have N6 := Fr.app N4 N6q
  refine own_step st6 ?_
  show own_G p.tables e below _ (T6.setTop (mkF m 44 #[.val (.ref a1), .val (.ref a2), .val (.ref a3), .val (.int (0 : Int32)), .val (.int (3 : Int32)), .val (.long q6), .second] [(.int (((q6.toUInt64 >>> ((32 : Int32) &&& 0x3f).toInt64.toUInt64).toInt64).toInt32)), (.int (((q6.toUInt64 >>> ((32 : Int32) &&& 0x3f).toInt64.toUInt64).toInt64).toInt32))]))
  have hk7 : (((q6.toUInt64 >>> ((32 : Int32) &&& 0x3f).toInt64.toUInt64).toInt64).toInt32) = (((q6.toUInt64 >>> ((32 : Int32) &&& 0x3f).toInt64.toUInt64).toInt64).toInt32) := rfl
  refine own_step (fun t k => XS.icmpNo X6.here hx rfl (hb hby d5_44) rfl ((teq hk7).2) k) ?_
  show own_G p.tables e below _ (T6.setTop (mkF m 47 #[.val (.ref a1), .val (.ref a2), .val (.ref a3), .val (.int (0 : Int32)), .val (.int (3 : Int32)), .val (.long q6), .second] []))
  refine own_step (fun t k => XS.aloadN X6.here hx rfl (hb hby d5_47) rfl rfl k) ?_
  show own_G p.tables e below _ (T6.setTop (mkF m 48 #[.val (.ref a1), .val (.ref a2), .val (.ref a3), .val (.int (0 : Int32)), .val (.int (3 : Int32)), .val (.long q6), .second] [(.ref a3)]))
  refine own_step (fun t k => XS.iloadN X6.here hx rfl (hb hby d5_48) rfl k) ?_
  show own_G p.tables e below _ (T6.setTop (mkF m 49 #[.val (.ref a1), .val (.ref a2), .val (.ref a3), .val (.int (0 : Int32)), .val (.int (3 : Int32)), .val (.long q6), .second] [(.int (0 : Int32)), (.ref a3)]))
  refine own_step (own_iaload X6 hx hZ e6 fp2 (own_inb (by decide) (Nat.le_of_ble_eq_true rfl)) (g := (mkF m 49 #[.val (.ref a1), .val (.ref a2), .val (.ref a3), .val (.int (0 : Int32)), .val (.int (3 : Int32)), .val (.long q6), .second] [(.int (0 : Int32)), (.ref a3)])) rfl rfl (hb hby d5_49)) ?_
  show own_G p.tables e below _ (T6.setTop (mkF m 50 #[.val (.ref a1), .val (.ref a2), .val (.ref a3), .val (.int (0 : Int32)), .val (.int (3 : Int32)), .val (.long q6), .second] [(.int (q6.toInt32))]))
  refine own_step (fun t k => XS.lload X6.here hx rfl (hb hby d5_50) rfl k) ?_
  show own_G p.tables e below _ (T6.setTop (mkF m 52 #[.val (.ref a1), .val (.ref a2), .val (.ref a3), .val (.int (0 : Int32)), .val (.int (3 : Int32)), .val (.long q6), .second] [(.long q6), (.int (q6.toInt32))]))
  obtain ⟨_, _, ⟨T8, L8, k8, n8⟩, -, X8, ⟨Lc8, hQ8, l8, y8, z8⟩, st8⟩ := Jvm.LawKit.callS X6 hx (y := (⟨"com/example/stevedore/stevedore/MoveGraphEndsPinLaw", "lo", "(J)I"⟩ : MethodName)) hown (mvT hZ (hw _ (List.mem_of_getElem? (i := 39) rfl))) (mvT hZ (hw _ (List.mem_of_getElem? (i := 40) rfl))) (mvT hZ (hw _ (List.mem_of_getElem? (i := 34) rfl))) (mvT hZ (hw _ (List.mem_of_getElem? (i := 41) rfl))) (by decide) (backOf (W := 1) (rm7 l Z a0 hw [] q6 h0 n0 (Nat.le_trans Z0 (Keep.refl h0 []).1) ) hZ (hw _ (List.mem_of_getElem? (i := 41) rfl)) (hw _ (List.mem_of_getElem? (i := 34) rfl)) (by decide) (by decide)) (g := (mkF m 52 #[.val (.ref a1), .val (.ref a2), .val (.ref a3), .val (.int (0 : Int32)), .val (.int (3 : Int32)), .val (.long q6), .second] [(.long q6), (.int (q6.toInt32))])) rfl (by rw [hml]; rfl) (argsL := [(.long q6)]) (rest := [(.int (q6.toInt32))]) (lenOf pd_5_e0_3_0 rfl) rfl (by show 2 * 0 + _ ≤ _; exact Nat.le_of_eq rfl) (hb hby d5_52) (fun _ _ => ⟨rfl, e6, (by decide : 0 + 0 ≤ _), (by decide : 0 + 0 ≤ _)⟩)
  dsimp only [Pt.U, Pt.locs, Pt.cells, Pt.slots] at X8 l8 y8 z8 st8 hQ8
  subst l8 y8 z8
  obtain ⟨rfl, N8q, e8⟩ := hQ8
  have N8 := Fr.app N6 N8q
  refine own_step st8 ?_
  show own_G p.tables e below _ (T8.setTop (mkF m 55 #[.val (.ref a1), .val (.ref a2), .val (.ref a3), .val (.int (0 : Int32)), .val (.int (3 : Int32)), .val (.long q6), .second] [(.int (q6.toInt32)), (.int (q6.toInt32))]))
  have hk9 : (q6.toInt32) = (q6.toInt32) := rfl
  refine own_step (fun t k => XS.icmpNo X8.here hx rfl (hb hby d5_55) rfl ((teq hk9).2) k) ?_
  show own_G p.tables e below _ (T8.setTop (mkF m 58 #[.val (.ref a1), .val (.ref a2), .val (.ref a3), .val (.int (0 : Int32)), .val (.int (3 : Int32)), .val (.long q6), .second] []))
  refine own_step (fun t k => XS.iconst X8.here hx rfl (hb hby d5_58) k) ?_
  show own_G p.tables e below _ (T8.setTop (mkF m 59 #[.val (.ref a1), .val (.ref a2), .val (.ref a3), .val (.int (0 : Int32)), .val (.int (3 : Int32)), .val (.long q6), .second] [(.int (1 : Int32))]))
  refine own_step (fun t k => XS.goto X8.here hx rfl (pc0 := 59) (pc' := 63) rfl (hb hby d5_59) (by decide) (by decide) k) ?_
  show own_G p.tables e below _ (T8.setTop (mkF m 63 #[.val (.ref a1), .val (.ref a2), .val (.ref a3), .val (.int (0 : Int32)), .val (.int (3 : Int32)), .val (.long q6), .second] [(.int (1 : Int32))]))
  obtain ⟨fs, hr, hrun, hended, hW, hsame⟩ := X8.leave (v := some (.int (1 : Int32))) (fun h => by rw [Bd.returns] at h; cases h)
  refine own_done (retN X8 hx (t := .boolean) Bd.returns (by simp) (hb hby d5_63) hr) hrun hended ⟨_, _, rfl, ?_, ⟨_, rfl⟩, hW, hsame.mono (by decide) (by decide)⟩
  show Q5_e0_3 Z a1 a2 a3 q6 ee2 ee3 ee4 ee5 x1 x2 yy1 yy2 h0 n0 _ T8.heap _
  rw [e8]
  exact ⟨congrArg (fun z => some (Value.int z)) (show (1 : Int32) = (1 : Int32) from rfl), N8, rfl⟩
theorem pn_5_e1_3 : plainName "com/example/stevedore/stevedore/MoveGraphEndsPinLaw" = true := by first | (simp [plainName, overriddenIn]; done) | decide +kernel
theorem pd_5_e1_3_0 : parseMethodDescriptor "(J)I" = some ⟨[.long], some .int⟩ := by decide +kernel
theorem ef_5_e1_3 (m : MethodId) (a1 : Addr) (a2 : Addr) (a3 : Addr) (q6 : Int64) : entryFrame m #[(.ref a1), (.ref a2), (.ref a3), (.int (1 : Int32)), (.int (3 : Int32)), (.long q6)] 7 = mkF m 0 #[.val (.ref a1), .val (.ref a2), .val (.ref a3), .val (.int (1 : Int32)), .val (.int (3 : Int32)), .val (.long q6), .second] [] := by first | (simp [entryFrame, mkF, argsToLocals, Value.category]; done) | rfl
def Q5_e1_3 (Z : State) (a1 : Addr) (a2 : Addr) (a3 : Addr) (q6 : Int64) (ee0 : Int32) (ee1 : Int32) (ee4 : Int32) (ee5 : Int32) (x0 : Int32) (x2 : Int32) (yy0 : Int32) (yy2 : Int32) (h0 : Heap) (n0 : Nat) (v : Option Value) (h : Heap) (L : List Loc) : Prop := v = some (.int (1 : Int32)) ∧ Fr n0 L ∧ h = h0
set_option maxRecDepth 65536 in
set_option maxHeartbeats 40000000 in
theorem rm5_e1_3 (l : Launch) (Z : State) (a0 : Array Value) (hw : ∀ d ∈ tables_1, d.before a0 Z = true) (ws : List Jvm.Cond) (a1 : Addr) (a2 : Addr) (a3 : Addr) (q6 : Int64) (ee0 : Int32) (ee1 : Int32) (ee4 : Int32) (ee5 : Int32) (x0 : Int32) (x2 : Int32) (yy0 : Int32) (yy2 : Int32) (h0 : Heap) (n0 : Nat) (Z0 : n0 ≤ h0.size) (fp0 : own_Ari Z h0 a1 .int [ee0, ee1, (((q6.toUInt64 >>> ((32 : Int32) &&& 0x3f).toInt64.toUInt64).toInt64).toInt32), (q6.toInt32), ee4, ee5]) (fp1 : own_Ari Z h0 a2 .int [x0, (((q6.toUInt64 >>> ((32 : Int32) &&& 0x3f).toInt64.toUInt64).toInt64).toInt32), x2]) (fp2 : own_Ari Z h0 a3 .int [yy0, (q6.toInt32), yy2]) :
    MetFree l (⟨"com/example/stevedore/stevedore/MoveGraphEndsPinLaw", "pair", "([I[I[IIIJ)Z"⟩ : MethodName) (head1 (Jvm.Cond.code (⟨"com/example/stevedore/stevedore/MoveGraphEndsPinLaw", "pair", "([I[I[IIIJ)Z"⟩ : MethodName) method_5_code 7 (some .boolean) :: ws) ({ frames := 1, cells := 0, slots := 0, locals := 14 } : Room)) (fun a U => a = #[(.ref a1), (.ref a2), (.ref a3), (.int (1 : Int32)), (.int (3 : Int32)), (.long q6)] ∧ Z.Warmed39 U.vm ∧ U.heap = h0) (fun _ _ _ _ _ => True) (fun _ U o U' => ∃ v L, o = .returned v ∧ Q5_e1_3 Z a1 a2 a3 q6 ee0 ee1 ee4 ee5 x0 x2 yy0 yy2 h0 n0 v U'.heap L ∧ FrameEnd U o U' L ({ frames := 1, cells := 0, slots := 0, locals := 14 } : Room).cells ({ frames := 1, cells := 0, slots := 0, locals := 14 } : Room).slots) := by
  refine MetFree.of_bodySF (plainFor_of_name pn_5_e1_3) hisR ?_
  intro p e s m args below meth c s₁ Bd hml0 hP hK
  obtain ⟨rfl, hZ, hh⟩ := hP
  have hx := Bd.exec
  have hby := Bd.bytes
  have hml : c.maxLocals = 7 := hml0
  have hown : s.vm.findClass "com/example/stevedore/stevedore/MoveGraphEndsPinLaw" = some m.cls := findClass_of_methodNamed Bd.named
  have hnm := (name_of_methodNamed Bd.named Bd.method).1
  have X0 : Stand p l e ({ frames := 1, cells := 0, slots := 0, locals := 14 } : Room) s m #[(.ref a1), (.ref a2), (.ref a3), (.int (1 : Int32)), (.int (3 : Int32)), (.long q6)] below meth c s₁ [] 0 0 := Stand.of_body Bd
  have e0 : s₁.heap = h0 := by rw [← hh, Bd.state]; rfl
  have N0 := Fr.nil n0
  refine own_start (fun t k => castTop (ef_5_e1_3 m a1 a2 a3 q6) k) ?_
  show own_G p.tables e below _ (s₁.setTop (mkF m 0 #[.val (.ref a1), .val (.ref a2), .val (.ref a3), .val (.int (1 : Int32)), .val (.int (3 : Int32)), .val (.long q6), .second] []))
  refine own_step (fun t k => XS.iloadN X0.here hx rfl (hb hby d5_0) rfl k) ?_
  show own_G p.tables e below _ (s₁.setTop (mkF m 1 #[.val (.ref a1), .val (.ref a2), .val (.ref a3), .val (.int (1 : Int32)), .val (.int (3 : Int32)), .val (.long q6), .second] [(.int (1 : Int32))]))
  refine own_step (fun t k => XS.iload X0.here hx rfl (hb hby d5_1) rfl k) ?_
  show own_G p.tables e below _ (s₁.setTop (mkF m 3 #[.val (.ref a1), .val (.ref a2), .val (.ref a3), .val (.int (1 : Int32)), .val (.int (3 : Int32)), .val (.long q6), .second] [(.int (3 : Int32)), (.int (1 : Int32))]))
  have hk1 : (1 : Int32) < (3 : Int32) := (by decide)
  refine own_step (fun t k => XS.icmpYes X0.here hx rfl (pc0 := 3) (pc' := 8) rfl (hb hby d5_3) rfl ((tlt hk1).1) (by decide) (by decide) k) ?_
  show own_G p.tables e below _ (s₁.setTop (mkF m 8 #[.val (.ref a1), .val (.ref a2), .val (.ref a3), .val (.int (1 : Int32)), .val (.int (3 : Int32)), .val (.long q6), .second] []))
  refine own_step (fun t k => XS.aloadN X0.here hx rfl (hb hby d5_8) rfl rfl k) ?_
  show own_G p.tables e below _ (s₁.setTop (mkF m 9 #[.val (.ref a1), .val (.ref a2), .val (.ref a3), .val (.int (1 : Int32)), .val (.int (3 : Int32)), .val (.long q6), .second] [(.ref a1)]))
  refine own_step (fun t k => XS.iconst X0.here hx rfl (hb hby d5_9) k) ?_
  show own_G p.tables e below _ (s₁.setTop (mkF m 10 #[.val (.ref a1), .val (.ref a2), .val (.ref a3), .val (.int (1 : Int32)), .val (.int (3 : Int32)), .val (.long q6), .second] [(.int (2 : Int32)), (.ref a1)]))
  refine own_step (fun t k => XS.iloadN X0.here hx rfl (hb hby d5_10) rfl k) ?_
  show own_G p.tables e below _ (s₁.setTop (mkF m 11 #[.val (.ref a1), .val (.ref a2), .val (.ref a3), .val (.int (1 : Int32)), .val (.int (3 : Int32)), .val (.long q6), .second] [(.int (1 : Int32)), (.int (2 : Int32)), (.ref a1)]))
  refine own_step (fun t k => XS.imul X0.here hx rfl (hb hby d5_11) rfl k) ?_
  show own_G p.tables e below _ (s₁.setTop (mkF m 12 #[.val (.ref a1), .val (.ref a2), .val (.ref a3), .val (.int (1 : Int32)), .val (.int (3 : Int32)), .val (.long q6), .second] [(.int (2 : Int32)), (.ref a1)]))
  refine own_step (own_iaload X0 hx hZ e0 fp0 (own_inb (by decide) (Nat.le_of_ble_eq_true rfl)) (g := (mkF m 12 #[.val (.ref a1), .val (.ref a2), .val (.ref a3), .val (.int (1 : Int32)), .val (.int (3 : Int32)), .val (.long q6), .second] [(.int (2 : Int32)), (.ref a1)])) rfl rfl (hb hby d5_12)) ?_
  show own_G p.tables e below _ (s₁.setTop (mkF m 13 #[.val (.ref a1), .val (.ref a2), .val (.ref a3), .val (.int (1 : Int32)), .val (.int (3 : Int32)), .val (.long q6), .second] [(.int (((q6.toUInt64 >>> ((32 : Int32) &&& 0x3f).toInt64.toUInt64).toInt64).toInt32))]))
  refine own_step (fun t k => XS.lload X0.here hx rfl (hb hby d5_13) rfl k) ?_
  show own_G p.tables e below _ (s₁.setTop (mkF m 15 #[.val (.ref a1), .val (.ref a2), .val (.ref a3), .val (.int (1 : Int32)), .val (.int (3 : Int32)), .val (.long q6), .second] [(.long q6), (.int (((q6.toUInt64 >>> ((32 : Int32) &&& 0x3f).toInt64.toUInt64).toInt64).toInt32))]))
  obtain ⟨_, _, ⟨T2, L2, k2, n2⟩, -, X2, ⟨Lc2, hQ2, l2, y2, z2⟩, st2⟩ := Jvm.LawKit.callS X0 hx (y := (⟨"com/example/stevedore/stevedore/MoveGraphEndsPinLaw", "hi", "(J)I"⟩ : MethodName)) hown (mvT hZ (hw _ (List.mem_of_getElem? (i := 36) rfl))) (mvT hZ (hw _ (List.mem_of_getElem? (i := 37) rfl))) (mvT hZ (hw _ (List.mem_of_getElem? (i := 34) rfl))) (mvT hZ (hw _ (List.mem_of_getElem? (i := 38) rfl))) (by decide) (backOf (W := 1) (rm6 l Z a0 hw [] q6 h0 n0 (Nat.le_trans Z0 (Keep.refl h0 []).1) ) hZ (hw _ (List.mem_of_getElem? (i := 38) rfl)) (hw _ (List.mem_of_getElem? (i := 34) rfl)) (by decide) (by decide)) (g := (mkF m 15 #[.val (.ref a1), .val (.ref a2), .val (.ref a3), .val (.int (1 : Int32)), .val (.int (3 : Int32)), .val (.long q6), .second] [(.long q6), (.int (((q6.toUInt64 >>> ((32 : Int32) &&& 0x3f).toInt64.toUInt64).toInt64).toInt32))])) rfl (by rw [hml]; rfl) (argsL := [(.long q6)]) (rest := [(.int (((q6.toUInt64 >>> ((32 : Int32) &&& 0x3f).toInt64.toUInt64).toInt64).toInt32))]) (lenOf pd_5_e1_3_0 rfl) rfl (by show 2 * 0 + _ ≤ _; exact Nat.le_of_eq rfl) (hb hby d5_15) (fun _ _ => ⟨rfl, e0, (by decide : 0 + 0 ≤ _), (by decide : 0 + 0 ≤ _)⟩)
  dsimp only [Pt.U, Pt.locs, Pt.cells, Pt.slots] at X2 l2 y2 z2 st2 hQ2
  subst l2 y2 z2
  obtain ⟨rfl, N2q, e2⟩ := hQ2
  have N2 := Fr.app N0 N2q
  refine own_step st2 ?_
  show own_G p.tables e below _ (T2.setTop (mkF m 18 #[.val (.ref a1), .val (.ref a2), .val (.ref a3), .val (.int (1 : Int32)), .val (.int (3 : Int32)), .val (.long q6), .second] [(.int (((q6.toUInt64 >>> ((32 : Int32) &&& 0x3f).toInt64.toUInt64).toInt64).toInt32)), (.int (((q6.toUInt64 >>> ((32 : Int32) &&& 0x3f).toInt64.toUInt64).toInt64).toInt32))]))
  have hk3 : (((q6.toUInt64 >>> ((32 : Int32) &&& 0x3f).toInt64.toUInt64).toInt64).toInt32) = (((q6.toUInt64 >>> ((32 : Int32) &&& 0x3f).toInt64.toUInt64).toInt64).toInt32) := rfl
  refine own_step (fun t k => XS.icmpNo X2.here hx rfl (hb hby d5_18) rfl ((teq hk3).2) k) ?_
  show own_G p.tables e below _ (T2.setTop (mkF m 21 #[.val (.ref a1), .val (.ref a2), .val (.ref a3), .val (.int (1 : Int32)), .val (.int (3 : Int32)), .val (.long q6), .second] []))
  refine own_step (fun t k => XS.aloadN X2.here hx rfl (hb hby d5_21) rfl rfl k) ?_
  show own_G p.tables e below _ (T2.setTop (mkF m 22 #[.val (.ref a1), .val (.ref a2), .val (.ref a3), .val (.int (1 : Int32)), .val (.int (3 : Int32)), .val (.long q6), .second] [(.ref a1)]))
  refine own_step (fun t k => XS.iconst X2.here hx rfl (hb hby d5_22) k) ?_
  show own_G p.tables e below _ (T2.setTop (mkF m 23 #[.val (.ref a1), .val (.ref a2), .val (.ref a3), .val (.int (1 : Int32)), .val (.int (3 : Int32)), .val (.long q6), .second] [(.int (2 : Int32)), (.ref a1)]))
  refine own_step (fun t k => XS.iloadN X2.here hx rfl (hb hby d5_23) rfl k) ?_
  show own_G p.tables e below _ (T2.setTop (mkF m 24 #[.val (.ref a1), .val (.ref a2), .val (.ref a3), .val (.int (1 : Int32)), .val (.int (3 : Int32)), .val (.long q6), .second] [(.int (1 : Int32)), (.int (2 : Int32)), (.ref a1)]))
  refine own_step (fun t k => XS.imul X2.here hx rfl (hb hby d5_24) rfl k) ?_
  show own_G p.tables e below _ (T2.setTop (mkF m 25 #[.val (.ref a1), .val (.ref a2), .val (.ref a3), .val (.int (1 : Int32)), .val (.int (3 : Int32)), .val (.long q6), .second] [(.int (2 : Int32)), (.ref a1)]))
  refine own_step (fun t k => XS.iconst X2.here hx rfl (hb hby d5_25) k) ?_
  show own_G p.tables e below _ (T2.setTop (mkF m 26 #[.val (.ref a1), .val (.ref a2), .val (.ref a3), .val (.int (1 : Int32)), .val (.int (3 : Int32)), .val (.long q6), .second] [(.int (1 : Int32)), (.int (2 : Int32)), (.ref a1)]))
  refine own_step (fun t k => XS.iadd X2.here hx rfl (hb hby d5_26) rfl k) ?_
  show own_G p.tables e below _ (T2.setTop (mkF m 27 #[.val (.ref a1), .val (.ref a2), .val (.ref a3), .val (.int (1 : Int32)), .val (.int (3 : Int32)), .val (.long q6), .second] [(.int (3 : Int32)), (.ref a1)]))
  refine own_step (own_iaload X2 hx hZ e2 fp0 (own_inb (by decide) (Nat.le_of_ble_eq_true rfl)) (g := (mkF m 27 #[.val (.ref a1), .val (.ref a2), .val (.ref a3), .val (.int (1 : Int32)), .val (.int (3 : Int32)), .val (.long q6), .second] [(.int (3 : Int32)), (.ref a1)])) rfl rfl (hb hby d5_27)) ?_
  show own_G p.tables e below _ (T2.setTop (mkF m 28 #[.val (.ref a1), .val (.ref a2), .val (.ref a3), .val (.int (1 : Int32)), .val (.int (3 : Int32)), .val (.long q6), .second] [(.int (q6.toInt32))]))
  refine own_step (fun t k => XS.lload X2.here hx rfl (hb hby d5_28) rfl k) ?_
  show own_G p.tables e below _ (T2.setTop (mkF m 30 #[.val (.ref a1), .val (.ref a2), .val (.ref a3), .val (.int (1 : Int32)), .val (.int (3 : Int32)), .val (.long q6), .second] [(.long q6), (.int (q6.toInt32))]))
  obtain ⟨_, _, ⟨T4, L4, k4, n4⟩, -, X4, ⟨Lc4, hQ4, l4, y4, z4⟩, st4⟩ := Jvm.LawKit.callS X2 hx (y := (⟨"com/example/stevedore/stevedore/MoveGraphEndsPinLaw", "lo", "(J)I"⟩ : MethodName)) hown (mvT hZ (hw _ (List.mem_of_getElem? (i := 39) rfl))) (mvT hZ (hw _ (List.mem_of_getElem? (i := 40) rfl))) (mvT hZ (hw _ (List.mem_of_getElem? (i := 34) rfl))) (mvT hZ (hw _ (List.mem_of_getElem? (i := 41) rfl))) (by decide) (backOf (W := 1) (rm7 l Z a0 hw [] q6 h0 n0 (Nat.le_trans Z0 (Keep.refl h0 []).1) ) hZ (hw _ (List.mem_of_getElem? (i := 41) rfl)) (hw _ (List.mem_of_getElem? (i := 34) rfl)) (by decide) (by decide)) (g := (mkF m 30 #[.val (.ref a1), .val (.ref a2), .val (.ref a3), .val (.int (1 : Int32)), .val (.int (3 : Int32)), .val (.long q6), .second] [(.long q6), (.int (q6.toInt32))])) rfl (by rw [hml]; rfl) (argsL := [(.long q6)]) (rest := [(.int (q6.toInt32))]) (lenOf pd_5_e1_3_0 rfl) rfl (by show 2 * 0 + _ ≤ _; exact Nat.le_of_eq rfl) (hb hby d5_30) (fun _ _ => ⟨rfl, e2, (by decide : 0 + 0 ≤ _), (by decide : 0 + 0 ≤ _)⟩)
  dsimp only [Pt.U, Pt.locs, Pt.cells, Pt.slots] at X4 l4 y4 z4 st4 hQ4
  subst l4 y4 z4
  obtain ⟨rfl, N4q, e4⟩ := hQ4
  have N4 := Fr.app N2 N4q
  refine own_step st4 ?_
  show own_G p.tables e below _ (T4.setTop (mkF m 33 #[.val (.ref a1), .val (.ref a2), .val (.ref a3), .val (.int (1 : Int32)), .val (.int (3 : Int32)), .val (.long q6), .second] [(.int (q6.toInt32)), (.int (q6.toInt32))]))
  have hk5 : (q6.toInt32) = (q6.toInt32) := rfl
  refine own_step (fun t k => XS.icmpNo X4.here hx rfl (hb hby d5_33) rfl ((teq hk5).2) k) ?_
  show own_G p.tables e below _ (T4.setTop (mkF m 36 #[.val (.ref a1), .val (.ref a2), .val (.ref a3), .val (.int (1 : Int32)), .val (.int (3 : Int32)), .val (.long q6), .second] []))
  refine own_step (fun t k => XS.aloadN X4.here hx rfl (hb hby d5_36) rfl rfl k) ?_
  show own_G p.tables e below _ (T4.setTop (mkF m 37 #[.val (.ref a1), .val (.ref a2), .val (.ref a3), .val (.int (1 : Int32)), .val (.int (3 : Int32)), .val (.long q6), .second] [(.ref a2)]))
  refine own_step (fun t k => XS.iloadN X4.here hx rfl (hb hby d5_37) rfl k) ?_
  show own_G p.tables e below _ (T4.setTop (mkF m 38 #[.val (.ref a1), .val (.ref a2), .val (.ref a3), .val (.int (1 : Int32)), .val (.int (3 : Int32)), .val (.long q6), .second] [(.int (1 : Int32)), (.ref a2)]))
  refine own_step (own_iaload X4 hx hZ e4 fp1 (own_inb (by decide) (Nat.le_of_ble_eq_true rfl)) (g := (mkF m 38 #[.val (.ref a1), .val (.ref a2), .val (.ref a3), .val (.int (1 : Int32)), .val (.int (3 : Int32)), .val (.long q6), .second] [(.int (1 : Int32)), (.ref a2)])) rfl rfl (hb hby d5_38)) ?_
  show own_G p.tables e below _ (T4.setTop (mkF m 39 #[.val (.ref a1), .val (.ref a2), .val (.ref a3), .val (.int (1 : Int32)), .val (.int (3 : Int32)), .val (.long q6), .second] [(.int (((q6.toUInt64 >>> ((32 : Int32) &&& 0x3f).toInt64.toUInt64).toInt64).toInt32))]))
  refine own_step (fun t k => XS.lload X4.here hx rfl (hb hby d5_39) rfl k) ?_
  show own_G p.tables e below _ (T4.setTop (mkF m 41 #[.val (.ref a1), .val (.ref a2), .val (.ref a3), .val (.int (1 : Int32)), .val (.int (3 : Int32)), .val (.long q6), .second] [(.long q6), (.int (((q6.toUInt64 >>> ((32 : Int32) &&& 0x3f).toInt64.toUInt64).toInt64).toInt32))]))
  obtain ⟨_, _, ⟨T6, L6, k6, n6⟩, -, X6, ⟨Lc6, hQ6, l6, y6, z6⟩, st6⟩ := Jvm.LawKit.callS X4 hx (y := (⟨"com/example/stevedore/stevedore/MoveGraphEndsPinLaw", "hi", "(J)I"⟩ : MethodName)) hown (mvT hZ (hw _ (List.mem_of_getElem? (i := 36) rfl))) (mvT hZ (hw _ (List.mem_of_getElem? (i := 37) rfl))) (mvT hZ (hw _ (List.mem_of_getElem? (i := 34) rfl))) (mvT hZ (hw _ (List.mem_of_getElem? (i := 38) rfl))) (by decide) (backOf (W := 1) (rm6 l Z a0 hw [] q6 h0 n0 (Nat.le_trans Z0 (Keep.refl h0 []).1) ) hZ (hw _ (List.mem_of_getElem? (i := 38) rfl)) (hw _ (List.mem_of_getElem? (i := 34) rfl)) (by decide) (by decide)) (g := (mkF m 41 #[.val (.ref a1), .val (.ref a2), .val (.ref a3), .val (.int (1 : Int32)), .val (.int (3 : Int32)), .val (.long q6), .second] [(.long q6), (.int (((q6.toUInt64 >>> ((32 : Int32) &&& 0x3f).toInt64.toUInt64).toInt64).toInt32))])) rfl (by rw [hml]; rfl) (argsL := [(.long q6)]) (rest := [(.int (((q6.toUInt64 >>> ((32 : Int32) &&& 0x3f).toInt64.toUInt64).toInt64).toInt32))]) (lenOf pd_5_e1_3_0 rfl) rfl (by show 2 * 0 + _ ≤ _; exact Nat.le_of_eq rfl) (hb hby d5_41) (fun _ _ => ⟨rfl, e4, (by decide : 0 + 0 ≤ _), (by decide : 0 + 0 ≤ _)⟩)
  dsimp only [Pt.U, Pt.locs, Pt.cells, Pt.slots] at X6 l6 y6 z6 st6 hQ6
  subst l6 y6 z6
  obtain ⟨rfl, N6q, e6⟩ := hQ6
  have N6 := Fr.app N4 N6q
  refine own_step st6 ?_
  show own_G p.tables e below _ (T6.setTop (mkF m 44 #[.val (.ref a1), .val (.ref a2), .val (.ref a3), .val (.int (1 : Int32)), .val (.int (3 : Int32)), .val (.long q6), .second] [(.int (((q6.toUInt64 >>> ((32 : Int32) &&& 0x3f).toInt64.toUInt64).toInt64).toInt32)), (.int (((q6.toUInt64 >>> ((32 : Int32) &&& 0x3f).toInt64.toUInt64).toInt64).toInt32))]))
  have hk7 : (((q6.toUInt64 >>> ((32 : Int32) &&& 0x3f).toInt64.toUInt64).toInt64).toInt32) = (((q6.toUInt64 >>> ((32 : Int32) &&& 0x3f).toInt64.toUInt64).toInt64).toInt32) := rfl
  refine own_step (fun t k => XS.icmpNo X6.here hx rfl (hb hby d5_44) rfl ((teq hk7).2) k) ?_
  show own_G p.tables e below _ (T6.setTop (mkF m 47 #[.val (.ref a1), .val (.ref a2), .val (.ref a3), .val (.int (1 : Int32)), .val (.int (3 : Int32)), .val (.long q6), .second] []))
  refine own_step (fun t k => XS.aloadN X6.here hx rfl (hb hby d5_47) rfl rfl k) ?_
  show own_G p.tables e below _ (T6.setTop (mkF m 48 #[.val (.ref a1), .val (.ref a2), .val (.ref a3), .val (.int (1 : Int32)), .val (.int (3 : Int32)), .val (.long q6), .second] [(.ref a3)]))
  refine own_step (fun t k => XS.iloadN X6.here hx rfl (hb hby d5_48) rfl k) ?_
  show own_G p.tables e below _ (T6.setTop (mkF m 49 #[.val (.ref a1), .val (.ref a2), .val (.ref a3), .val (.int (1 : Int32)), .val (.int (3 : Int32)), .val (.long q6), .second] [(.int (1 : Int32)), (.ref a3)]))
  refine own_step (own_iaload X6 hx hZ e6 fp2 (own_inb (by decide) (Nat.le_of_ble_eq_true rfl)) (g := (mkF m 49 #[.val (.ref a1), .val (.ref a2), .val (.ref a3), .val (.int (1 : Int32)), .val (.int (3 : Int32)), .val (.long q6), .second] [(.int (1 : Int32)), (.ref a3)])) rfl rfl (hb hby d5_49)) ?_
  show own_G p.tables e below _ (T6.setTop (mkF m 50 #[.val (.ref a1), .val (.ref a2), .val (.ref a3), .val (.int (1 : Int32)), .val (.int (3 : Int32)), .val (.long q6), .second] [(.int (q6.toInt32))]))
  refine own_step (fun t k => XS.lload X6.here hx rfl (hb hby d5_50) rfl k) ?_
  show own_G p.tables e below _ (T6.setTop (mkF m 52 #[.val (.ref a1), .val (.ref a2), .val (.ref a3), .val (.int (1 : Int32)), .val (.int (3 : Int32)), .val (.long q6), .second] [(.long q6), (.int (q6.toInt32))]))
  obtain ⟨_, _, ⟨T8, L8, k8, n8⟩, -, X8, ⟨Lc8, hQ8, l8, y8, z8⟩, st8⟩ := Jvm.LawKit.callS X6 hx (y := (⟨"com/example/stevedore/stevedore/MoveGraphEndsPinLaw", "lo", "(J)I"⟩ : MethodName)) hown (mvT hZ (hw _ (List.mem_of_getElem? (i := 39) rfl))) (mvT hZ (hw _ (List.mem_of_getElem? (i := 40) rfl))) (mvT hZ (hw _ (List.mem_of_getElem? (i := 34) rfl))) (mvT hZ (hw _ (List.mem_of_getElem? (i := 41) rfl))) (by decide) (backOf (W := 1) (rm7 l Z a0 hw [] q6 h0 n0 (Nat.le_trans Z0 (Keep.refl h0 []).1) ) hZ (hw _ (List.mem_of_getElem? (i := 41) rfl)) (hw _ (List.mem_of_getElem? (i := 34) rfl)) (by decide) (by decide)) (g := (mkF m 52 #[.val (.ref a1), .val (.ref a2), .val (.ref a3), .val (.int (1 : Int32)), .val (.int (3 : Int32)), .val (.long q6), .second] [(.long q6), (.int (q6.toInt32))])) rfl (by rw [hml]; rfl) (argsL := [(.long q6)]) (rest := [(.int (q6.toInt32))]) (lenOf pd_5_e1_3_0 rfl) rfl (by show 2 * 0 + _ ≤ _; exact Nat.le_of_eq rfl) (hb hby d5_52) (fun _ _ => ⟨rfl, e6, (by decide : 0 + 0 ≤ _), (by decide : 0 + 0 ≤ _)⟩)
  dsimp only [Pt.U, Pt.locs, Pt.cells, Pt.slots] at X8 l8 y8 z8 st8 hQ8
  subst l8 y8 z8
  obtain ⟨rfl, N8q, e8⟩ := hQ8
  have N8 := Fr.app N6 N8q
  refine own_step st8 ?_
  show own_G p.tables e below _ (T8.setTop (mkF m 55 #[.val (.ref a1), .val (.ref a2), .val (.ref a3), .val (.int (1 : Int32)), .val (.int (3 : Int32)), .val (.long q6), .second] [(.int (q6.toInt32)), (.int (q6.toInt32))]))
  have hk9 : (q6.toInt32) = (q6.toInt32) := rfl
  refine own_step (fun t k => XS.icmpNo X8.here hx rfl (hb hby d5_55) rfl ((teq hk9).2) k) ?_
  show own_G p.tables e below _ (T8.setTop (mkF m 58 #[.val (.ref a1), .val (.ref a2), .val (.ref a3), .val (.int (1 : Int32)), .val (.int (3 : Int32)), .val (.long q6), .second] []))
  refine own_step (fun t k => XS.iconst X8.here hx rfl (hb hby d5_58) k) ?_
  show own_G p.tables e below _ (T8.setTop (mkF m 59 #[.val (.ref a1), .val (.ref a2), .val (.ref a3), .val (.int (1 : Int32)), .val (.int (3 : Int32)), .val (.long q6), .second] [(.int (1 : Int32))]))
  refine own_step (fun t k => XS.goto X8.here hx rfl (pc0 := 59) (pc' := 63) rfl (hb hby d5_59) (by decide) (by decide) k) ?_
  show own_G p.tables e below _ (T8.setTop (mkF m 63 #[.val (.ref a1), .val (.ref a2), .val (.ref a3), .val (.int (1 : Int32)), .val (.int (3 : Int32)), .val (.long q6), .second] [(.int (1 : Int32))]))
  obtain ⟨fs, hr, hrun, hended, hW, hsame⟩ := X8.leave (v := some (.int (1 : Int32))) (fun h => by rw [Bd.returns] at h; cases h)
  refine own_done (retN X8 hx (t := .boolean) Bd.returns (by simp) (hb hby d5_63) hr) hrun hended ⟨_, _, rfl, ?_, ⟨_, rfl⟩, hW, hsame.mono (by decide) (by decide)⟩
  show Q5_e1_3 Z a1 a2 a3 q6 ee0 ee1 ee4 ee5 x0 x2 yy0 yy2 h0 n0 _ T8.heap _
  rw [e8]
  exact ⟨congrArg (fun z => some (Value.int z)) (show (1 : Int32) = (1 : Int32) from rfl), N8, rfl⟩
theorem pn_5_e2_3 : plainName "com/example/stevedore/stevedore/MoveGraphEndsPinLaw" = true := by first | (simp [plainName, overriddenIn]; done) | decide +kernel
theorem pd_5_e2_3_0 : parseMethodDescriptor "(J)I" = some ⟨[.long], some .int⟩ := by decide +kernel
theorem ef_5_e2_3 (m : MethodId) (a1 : Addr) (a2 : Addr) (a3 : Addr) (q6 : Int64) : entryFrame m #[(.ref a1), (.ref a2), (.ref a3), (.int (2 : Int32)), (.int (3 : Int32)), (.long q6)] 7 = mkF m 0 #[.val (.ref a1), .val (.ref a2), .val (.ref a3), .val (.int (2 : Int32)), .val (.int (3 : Int32)), .val (.long q6), .second] [] := by first | (simp [entryFrame, mkF, argsToLocals, Value.category]; done) | rfl
def Q5_e2_3 (Z : State) (a1 : Addr) (a2 : Addr) (a3 : Addr) (q6 : Int64) (ee0 : Int32) (ee1 : Int32) (ee2 : Int32) (ee3 : Int32) (x0 : Int32) (x1 : Int32) (yy0 : Int32) (yy1 : Int32) (h0 : Heap) (n0 : Nat) (v : Option Value) (h : Heap) (L : List Loc) : Prop := v = some (.int (1 : Int32)) ∧ Fr n0 L ∧ h = h0
set_option maxRecDepth 65536 in
set_option maxHeartbeats 40000000 in
theorem rm5_e2_3 (l : Launch) (Z : State) (a0 : Array Value) (hw : ∀ d ∈ tables_1, d.before a0 Z = true) (ws : List Jvm.Cond) (a1 : Addr) (a2 : Addr) (a3 : Addr) (q6 : Int64) (ee0 : Int32) (ee1 : Int32) (ee2 : Int32) (ee3 : Int32) (x0 : Int32) (x1 : Int32) (yy0 : Int32) (yy1 : Int32) (h0 : Heap) (n0 : Nat) (Z0 : n0 ≤ h0.size) (fp0 : own_Ari Z h0 a1 .int [ee0, ee1, ee2, ee3, (((q6.toUInt64 >>> ((32 : Int32) &&& 0x3f).toInt64.toUInt64).toInt64).toInt32), (q6.toInt32)]) (fp1 : own_Ari Z h0 a2 .int [x0, x1, (((q6.toUInt64 >>> ((32 : Int32) &&& 0x3f).toInt64.toUInt64).toInt64).toInt32)]) (fp2 : own_Ari Z h0 a3 .int [yy0, yy1, (q6.toInt32)]) :
    MetFree l (⟨"com/example/stevedore/stevedore/MoveGraphEndsPinLaw", "pair", "([I[I[IIIJ)Z"⟩ : MethodName) (head1 (Jvm.Cond.code (⟨"com/example/stevedore/stevedore/MoveGraphEndsPinLaw", "pair", "([I[I[IIIJ)Z"⟩ : MethodName) method_5_code 7 (some .boolean) :: ws) ({ frames := 1, cells := 0, slots := 0, locals := 14 } : Room)) (fun a U => a = #[(.ref a1), (.ref a2), (.ref a3), (.int (2 : Int32)), (.int (3 : Int32)), (.long q6)] ∧ Z.Warmed39 U.vm ∧ U.heap = h0) (fun _ _ _ _ _ => True) (fun _ U o U' => ∃ v L, o = .returned v ∧ Q5_e2_3 Z a1 a2 a3 q6 ee0 ee1 ee2 ee3 x0 x1 yy0 yy1 h0 n0 v U'.heap L ∧ FrameEnd U o U' L ({ frames := 1, cells := 0, slots := 0, locals := 14 } : Room).cells ({ frames := 1, cells := 0, slots := 0, locals := 14 } : Room).slots) := by
  refine MetFree.of_bodySF (plainFor_of_name pn_5_e2_3) hisR ?_
  intro p e s m args below meth c s₁ Bd hml0 hP hK
  obtain ⟨rfl, hZ, hh⟩ := hP
  have hx := Bd.exec
  have hby := Bd.bytes
  have hml : c.maxLocals = 7 := hml0
  have hown : s.vm.findClass "com/example/stevedore/stevedore/MoveGraphEndsPinLaw" = some m.cls := findClass_of_methodNamed Bd.named
  have hnm := (name_of_methodNamed Bd.named Bd.method).1
  have X0 : Stand p l e ({ frames := 1, cells := 0, slots := 0, locals := 14 } : Room) s m #[(.ref a1), (.ref a2), (.ref a3), (.int (2 : Int32)), (.int (3 : Int32)), (.long q6)] below meth c s₁ [] 0 0 := Stand.of_body Bd
  have e0 : s₁.heap = h0 := by rw [← hh, Bd.state]; rfl
  have N0 := Fr.nil n0
  refine own_start (fun t k => castTop (ef_5_e2_3 m a1 a2 a3 q6) k) ?_
  show own_G p.tables e below _ (s₁.setTop (mkF m 0 #[.val (.ref a1), .val (.ref a2), .val (.ref a3), .val (.int (2 : Int32)), .val (.int (3 : Int32)), .val (.long q6), .second] []))
  refine own_step (fun t k => XS.iloadN X0.here hx rfl (hb hby d5_0) rfl k) ?_
  show own_G p.tables e below _ (s₁.setTop (mkF m 1 #[.val (.ref a1), .val (.ref a2), .val (.ref a3), .val (.int (2 : Int32)), .val (.int (3 : Int32)), .val (.long q6), .second] [(.int (2 : Int32))]))
  refine own_step (fun t k => XS.iload X0.here hx rfl (hb hby d5_1) rfl k) ?_
  show own_G p.tables e below _ (s₁.setTop (mkF m 3 #[.val (.ref a1), .val (.ref a2), .val (.ref a3), .val (.int (2 : Int32)), .val (.int (3 : Int32)), .val (.long q6), .second] [(.int (3 : Int32)), (.int (2 : Int32))]))
  have hk1 : (2 : Int32) < (3 : Int32) := (by decide)
  refine own_step (fun t k => XS.icmpYes X0.here hx rfl (pc0 := 3) (pc' := 8) rfl (hb hby d5_3) rfl ((tlt hk1).1) (by decide) (by decide) k) ?_
  show own_G p.tables e below _ (s₁.setTop (mkF m 8 #[.val (.ref a1), .val (.ref a2), .val (.ref a3), .val (.int (2 : Int32)), .val (.int (3 : Int32)), .val (.long q6), .second] []))
  refine own_step (fun t k => XS.aloadN X0.here hx rfl (hb hby d5_8) rfl rfl k) ?_
  show own_G p.tables e below _ (s₁.setTop (mkF m 9 #[.val (.ref a1), .val (.ref a2), .val (.ref a3), .val (.int (2 : Int32)), .val (.int (3 : Int32)), .val (.long q6), .second] [(.ref a1)]))
  refine own_step (fun t k => XS.iconst X0.here hx rfl (hb hby d5_9) k) ?_
  show own_G p.tables e below _ (s₁.setTop (mkF m 10 #[.val (.ref a1), .val (.ref a2), .val (.ref a3), .val (.int (2 : Int32)), .val (.int (3 : Int32)), .val (.long q6), .second] [(.int (2 : Int32)), (.ref a1)]))
  refine own_step (fun t k => XS.iloadN X0.here hx rfl (hb hby d5_10) rfl k) ?_
  show own_G p.tables e below _ (s₁.setTop (mkF m 11 #[.val (.ref a1), .val (.ref a2), .val (.ref a3), .val (.int (2 : Int32)), .val (.int (3 : Int32)), .val (.long q6), .second] [(.int (2 : Int32)), (.int (2 : Int32)), (.ref a1)]))
  refine own_step (fun t k => XS.imul X0.here hx rfl (hb hby d5_11) rfl k) ?_
  show own_G p.tables e below _ (s₁.setTop (mkF m 12 #[.val (.ref a1), .val (.ref a2), .val (.ref a3), .val (.int (2 : Int32)), .val (.int (3 : Int32)), .val (.long q6), .second] [(.int (4 : Int32)), (.ref a1)]))
  refine own_step (own_iaload X0 hx hZ e0 fp0 (own_inb (by decide) (Nat.le_of_ble_eq_true rfl)) (g := (mkF m 12 #[.val (.ref a1), .val (.ref a2), .val (.ref a3), .val (.int (2 : Int32)), .val (.int (3 : Int32)), .val (.long q6), .second] [(.int (4 : Int32)), (.ref a1)])) rfl rfl (hb hby d5_12)) ?_
  show own_G p.tables e below _ (s₁.setTop (mkF m 13 #[.val (.ref a1), .val (.ref a2), .val (.ref a3), .val (.int (2 : Int32)), .val (.int (3 : Int32)), .val (.long q6), .second] [(.int (((q6.toUInt64 >>> ((32 : Int32) &&& 0x3f).toInt64.toUInt64).toInt64).toInt32))]))
  refine own_step (fun t k => XS.lload X0.here hx rfl (hb hby d5_13) rfl k) ?_
  show own_G p.tables e below _ (s₁.setTop (mkF m 15 #[.val (.ref a1), .val (.ref a2), .val (.ref a3), .val (.int (2 : Int32)), .val (.int (3 : Int32)), .val (.long q6), .second] [(.long q6), (.int (((q6.toUInt64 >>> ((32 : Int32) &&& 0x3f).toInt64.toUInt64).toInt64).toInt32))]))
  obtain ⟨_, _, ⟨T2, L2, k2, n2⟩, -, X2, ⟨Lc2, hQ2, l2, y2, z2⟩, st2⟩ := Jvm.LawKit.callS X0 hx (y := (⟨"com/example/stevedore/stevedore/MoveGraphEndsPinLaw", "hi", "(J)I"⟩ : MethodName)) hown (mvT hZ (hw _ (List.mem_of_getElem? (i := 36) rfl))) (mvT hZ (hw _ (List.mem_of_getElem? (i := 37) rfl))) (mvT hZ (hw _ (List.mem_of_getElem? (i := 34) rfl))) (mvT hZ (hw _ (List.mem_of_getElem? (i := 38) rfl))) (by decide) (backOf (W := 1) (rm6 l Z a0 hw [] q6 h0 n0 (Nat.le_trans Z0 (Keep.refl h0 []).1) ) hZ (hw _ (List.mem_of_getElem? (i := 38) rfl)) (hw _ (List.mem_of_getElem? (i := 34) rfl)) (by decide) (by decide)) (g := (mkF m 15 #[.val (.ref a1), .val (.ref a2), .val (.ref a3), .val (.int (2 : Int32)), .val (.int (3 : Int32)), .val (.long q6), .second] [(.long q6), (.int (((q6.toUInt64 >>> ((32 : Int32) &&& 0x3f).toInt64.toUInt64).toInt64).toInt32))])) rfl (by rw [hml]; rfl) (argsL := [(.long q6)]) (rest := [(.int (((q6.toUInt64 >>> ((32 : Int32) &&& 0x3f).toInt64.toUInt64).toInt64).toInt32))]) (lenOf pd_5_e2_3_0 rfl) rfl (by show 2 * 0 + _ ≤ _; exact Nat.le_of_eq rfl) (hb hby d5_15) (fun _ _ => ⟨rfl, e0, (by decide : 0 + 0 ≤ _), (by decide : 0 + 0 ≤ _)⟩)
  dsimp only [Pt.U, Pt.locs, Pt.cells, Pt.slots] at X2 l2 y2 z2 st2 hQ2
  subst l2 y2 z2
  obtain ⟨rfl, N2q, e2⟩ := hQ2
  have N2 := Fr.app N0 N2q
  refine own_step st2 ?_
  show own_G p.tables e below _ (T2.setTop (mkF m 18 #[.val (.ref a1), .val (.ref a2), .val (.ref a3), .val (.int (2 : Int32)), .val (.int (3 : Int32)), .val (.long q6), .second] [(.int (((q6.toUInt64 >>> ((32 : Int32) &&& 0x3f).toInt64.toUInt64).toInt64).toInt32)), (.int (((q6.toUInt64 >>> ((32 : Int32) &&& 0x3f).toInt64.toUInt64).toInt64).toInt32))]))
  have hk3 : (((q6.toUInt64 >>> ((32 : Int32) &&& 0x3f).toInt64.toUInt64).toInt64).toInt32) = (((q6.toUInt64 >>> ((32 : Int32) &&& 0x3f).toInt64.toUInt64).toInt64).toInt32) := rfl
  refine own_step (fun t k => XS.icmpNo X2.here hx rfl (hb hby d5_18) rfl ((teq hk3).2) k) ?_
  show own_G p.tables e below _ (T2.setTop (mkF m 21 #[.val (.ref a1), .val (.ref a2), .val (.ref a3), .val (.int (2 : Int32)), .val (.int (3 : Int32)), .val (.long q6), .second] []))
  refine own_step (fun t k => XS.aloadN X2.here hx rfl (hb hby d5_21) rfl rfl k) ?_
  show own_G p.tables e below _ (T2.setTop (mkF m 22 #[.val (.ref a1), .val (.ref a2), .val (.ref a3), .val (.int (2 : Int32)), .val (.int (3 : Int32)), .val (.long q6), .second] [(.ref a1)]))
  refine own_step (fun t k => XS.iconst X2.here hx rfl (hb hby d5_22) k) ?_
  show own_G p.tables e below _ (T2.setTop (mkF m 23 #[.val (.ref a1), .val (.ref a2), .val (.ref a3), .val (.int (2 : Int32)), .val (.int (3 : Int32)), .val (.long q6), .second] [(.int (2 : Int32)), (.ref a1)]))
  refine own_step (fun t k => XS.iloadN X2.here hx rfl (hb hby d5_23) rfl k) ?_
  show own_G p.tables e below _ (T2.setTop (mkF m 24 #[.val (.ref a1), .val (.ref a2), .val (.ref a3), .val (.int (2 : Int32)), .val (.int (3 : Int32)), .val (.long q6), .second] [(.int (2 : Int32)), (.int (2 : Int32)), (.ref a1)]))
  refine own_step (fun t k => XS.imul X2.here hx rfl (hb hby d5_24) rfl k) ?_
  show own_G p.tables e below _ (T2.setTop (mkF m 25 #[.val (.ref a1), .val (.ref a2), .val (.ref a3), .val (.int (2 : Int32)), .val (.int (3 : Int32)), .val (.long q6), .second] [(.int (4 : Int32)), (.ref a1)]))
  refine own_step (fun t k => XS.iconst X2.here hx rfl (hb hby d5_25) k) ?_
  show own_G p.tables e below _ (T2.setTop (mkF m 26 #[.val (.ref a1), .val (.ref a2), .val (.ref a3), .val (.int (2 : Int32)), .val (.int (3 : Int32)), .val (.long q6), .second] [(.int (1 : Int32)), (.int (4 : Int32)), (.ref a1)]))
  refine own_step (fun t k => XS.iadd X2.here hx rfl (hb hby d5_26) rfl k) ?_
  show own_G p.tables e below _ (T2.setTop (mkF m 27 #[.val (.ref a1), .val (.ref a2), .val (.ref a3), .val (.int (2 : Int32)), .val (.int (3 : Int32)), .val (.long q6), .second] [(.int (5 : Int32)), (.ref a1)]))
  refine own_step (own_iaload X2 hx hZ e2 fp0 (own_inb (by decide) (Nat.le_of_ble_eq_true rfl)) (g := (mkF m 27 #[.val (.ref a1), .val (.ref a2), .val (.ref a3), .val (.int (2 : Int32)), .val (.int (3 : Int32)), .val (.long q6), .second] [(.int (5 : Int32)), (.ref a1)])) rfl rfl (hb hby d5_27)) ?_
  show own_G p.tables e below _ (T2.setTop (mkF m 28 #[.val (.ref a1), .val (.ref a2), .val (.ref a3), .val (.int (2 : Int32)), .val (.int (3 : Int32)), .val (.long q6), .second] [(.int (q6.toInt32))]))
  refine own_step (fun t k => XS.lload X2.here hx rfl (hb hby d5_28) rfl k) ?_
  show own_G p.tables e below _ (T2.setTop (mkF m 30 #[.val (.ref a1), .val (.ref a2), .val (.ref a3), .val (.int (2 : Int32)), .val (.int (3 : Int32)), .val (.long q6), .second] [(.long q6), (.int (q6.toInt32))]))
  obtain ⟨_, _, ⟨T4, L4, k4, n4⟩, -, X4, ⟨Lc4, hQ4, l4, y4, z4⟩, st4⟩ := Jvm.LawKit.callS X2 hx (y := (⟨"com/example/stevedore/stevedore/MoveGraphEndsPinLaw", "lo", "(J)I"⟩ : MethodName)) hown (mvT hZ (hw _ (List.mem_of_getElem? (i := 39) rfl))) (mvT hZ (hw _ (List.mem_of_getElem? (i := 40) rfl))) (mvT hZ (hw _ (List.mem_of_getElem? (i := 34) rfl))) (mvT hZ (hw _ (List.mem_of_getElem? (i := 41) rfl))) (by decide) (backOf (W := 1) (rm7 l Z a0 hw [] q6 h0 n0 (Nat.le_trans Z0 (Keep.refl h0 []).1) ) hZ (hw _ (List.mem_of_getElem? (i := 41) rfl)) (hw _ (List.mem_of_getElem? (i := 34) rfl)) (by decide) (by decide)) (g := (mkF m 30 #[.val (.ref a1), .val (.ref a2), .val (.ref a3), .val (.int (2 : Int32)), .val (.int (3 : Int32)), .val (.long q6), .second] [(.long q6), (.int (q6.toInt32))])) rfl (by rw [hml]; rfl) (argsL := [(.long q6)]) (rest := [(.int (q6.toInt32))]) (lenOf pd_5_e2_3_0 rfl) rfl (by show 2 * 0 + _ ≤ _; exact Nat.le_of_eq rfl) (hb hby d5_30) (fun _ _ => ⟨rfl, e2, (by decide : 0 + 0 ≤ _), (by decide : 0 + 0 ≤ _)⟩)
  dsimp only [Pt.U, Pt.locs, Pt.cells, Pt.slots] at X4 l4 y4 z4 st4 hQ4
  subst l4 y4 z4
  obtain ⟨rfl, N4q, e4⟩ := hQ4
  have N4 := Fr.app N2 N4q
  refine own_step st4 ?_
  show own_G p.tables e below _ (T4.setTop (mkF m 33 #[.val (.ref a1), .val (.ref a2), .val (.ref a3), .val (.int (2 : Int32)), .val (.int (3 : Int32)), .val (.long q6), .second] [(.int (q6.toInt32)), (.int (q6.toInt32))]))
  have hk5 : (q6.toInt32) = (q6.toInt32) := rfl
  refine own_step (fun t k => XS.icmpNo X4.here hx rfl (hb hby d5_33) rfl ((teq hk5).2) k) ?_
  show own_G p.tables e below _ (T4.setTop (mkF m 36 #[.val (.ref a1), .val (.ref a2), .val (.ref a3), .val (.int (2 : Int32)), .val (.int (3 : Int32)), .val (.long q6), .second] []))
  refine own_step (fun t k => XS.aloadN X4.here hx rfl (hb hby d5_36) rfl rfl k) ?_
  show own_G p.tables e below _ (T4.setTop (mkF m 37 #[.val (.ref a1), .val (.ref a2), .val (.ref a3), .val (.int (2 : Int32)), .val (.int (3 : Int32)), .val (.long q6), .second] [(.ref a2)]))
  refine own_step (fun t k => XS.iloadN X4.here hx rfl (hb hby d5_37) rfl k) ?_
  show own_G p.tables e below _ (T4.setTop (mkF m 38 #[.val (.ref a1), .val (.ref a2), .val (.ref a3), .val (.int (2 : Int32)), .val (.int (3 : Int32)), .val (.long q6), .second] [(.int (2 : Int32)), (.ref a2)]))
  refine own_step (own_iaload X4 hx hZ e4 fp1 (own_inb (by decide) (Nat.le_of_ble_eq_true rfl)) (g := (mkF m 38 #[.val (.ref a1), .val (.ref a2), .val (.ref a3), .val (.int (2 : Int32)), .val (.int (3 : Int32)), .val (.long q6), .second] [(.int (2 : Int32)), (.ref a2)])) rfl rfl (hb hby d5_38)) ?_
  show own_G p.tables e below _ (T4.setTop (mkF m 39 #[.val (.ref a1), .val (.ref a2), .val (.ref a3), .val (.int (2 : Int32)), .val (.int (3 : Int32)), .val (.long q6), .second] [(.int (((q6.toUInt64 >>> ((32 : Int32) &&& 0x3f).toInt64.toUInt64).toInt64).toInt32))]))
  refine own_step (fun t k => XS.lload X4.here hx rfl (hb hby d5_39) rfl k) ?_
  show own_G p.tables e below _ (T4.setTop (mkF m 41 #[.val (.ref a1), .val (.ref a2), .val (.ref a3), .val (.int (2 : Int32)), .val (.int (3 : Int32)), .val (.long q6), .second] [(.long q6), (.int (((q6.toUInt64 >>> ((32 : Int32) &&& 0x3f).toInt64.toUInt64).toInt64).toInt32))]))
  obtain ⟨_, _, ⟨T6, L6, k6, n6⟩, -, X6, ⟨Lc6, hQ6, l6, y6, z6⟩, st6⟩ := Jvm.LawKit.callS X4 hx (y := (⟨"com/example/stevedore/stevedore/MoveGraphEndsPinLaw", "hi", "(J)I"⟩ : MethodName)) hown (mvT hZ (hw _ (List.mem_of_getElem? (i := 36) rfl))) (mvT hZ (hw _ (List.mem_of_getElem? (i := 37) rfl))) (mvT hZ (hw _ (List.mem_of_getElem? (i := 34) rfl))) (mvT hZ (hw _ (List.mem_of_getElem? (i := 38) rfl))) (by decide) (backOf (W := 1) (rm6 l Z a0 hw [] q6 h0 n0 (Nat.le_trans Z0 (Keep.refl h0 []).1) ) hZ (hw _ (List.mem_of_getElem? (i := 38) rfl)) (hw _ (List.mem_of_getElem? (i := 34) rfl)) (by decide) (by decide)) (g := (mkF m 41 #[.val (.ref a1), .val (.ref a2), .val (.ref a3), .val (.int (2 : Int32)), .val (.int (3 : Int32)), .val (.long q6), .second] [(.long q6), (.int (((q6.toUInt64 >>> ((32 : Int32) &&& 0x3f).toInt64.toUInt64).toInt64).toInt32))])) rfl (by rw [hml]; rfl) (argsL := [(.long q6)]) (rest := [(.int (((q6.toUInt64 >>> ((32 : Int32) &&& 0x3f).toInt64.toUInt64).toInt64).toInt32))]) (lenOf pd_5_e2_3_0 rfl) rfl (by show 2 * 0 + _ ≤ _; exact Nat.le_of_eq rfl) (hb hby d5_41) (fun _ _ => ⟨rfl, e4, (by decide : 0 + 0 ≤ _), (by decide : 0 + 0 ≤ _)⟩)
  dsimp only [Pt.U, Pt.locs, Pt.cells, Pt.slots] at X6 l6 y6 z6 st6 hQ6
  subst l6 y6 z6
  obtain ⟨rfl, N6q, e6⟩ := hQ6
  have N6 := Fr.app N4 N6q
  refine own_step st6 ?_
  show own_G p.tables e below _ (T6.setTop (mkF m 44 #[.val (.ref a1), .val (.ref a2), .val (.ref a3), .val (.int (2 : Int32)), .val (.int (3 : Int32)), .val (.long q6), .second] [(.int (((q6.toUInt64 >>> ((32 : Int32) &&& 0x3f).toInt64.toUInt64).toInt64).toInt32)), (.int (((q6.toUInt64 >>> ((32 : Int32) &&& 0x3f).toInt64.toUInt64).toInt64).toInt32))]))
  have hk7 : (((q6.toUInt64 >>> ((32 : Int32) &&& 0x3f).toInt64.toUInt64).toInt64).toInt32) = (((q6.toUInt64 >>> ((32 : Int32) &&& 0x3f).toInt64.toUInt64).toInt64).toInt32) := rfl
  refine own_step (fun t k => XS.icmpNo X6.here hx rfl (hb hby d5_44) rfl ((teq hk7).2) k) ?_
  show own_G p.tables e below _ (T6.setTop (mkF m 47 #[.val (.ref a1), .val (.ref a2), .val (.ref a3), .val (.int (2 : Int32)), .val (.int (3 : Int32)), .val (.long q6), .second] []))
  refine own_step (fun t k => XS.aloadN X6.here hx rfl (hb hby d5_47) rfl rfl k) ?_
  show own_G p.tables e below _ (T6.setTop (mkF m 48 #[.val (.ref a1), .val (.ref a2), .val (.ref a3), .val (.int (2 : Int32)), .val (.int (3 : Int32)), .val (.long q6), .second] [(.ref a3)]))
  refine own_step (fun t k => XS.iloadN X6.here hx rfl (hb hby d5_48) rfl k) ?_
  show own_G p.tables e below _ (T6.setTop (mkF m 49 #[.val (.ref a1), .val (.ref a2), .val (.ref a3), .val (.int (2 : Int32)), .val (.int (3 : Int32)), .val (.long q6), .second] [(.int (2 : Int32)), (.ref a3)]))
  refine own_step (own_iaload X6 hx hZ e6 fp2 (own_inb (by decide) (Nat.le_of_ble_eq_true rfl)) (g := (mkF m 49 #[.val (.ref a1), .val (.ref a2), .val (.ref a3), .val (.int (2 : Int32)), .val (.int (3 : Int32)), .val (.long q6), .second] [(.int (2 : Int32)), (.ref a3)])) rfl rfl (hb hby d5_49)) ?_
  show own_G p.tables e below _ (T6.setTop (mkF m 50 #[.val (.ref a1), .val (.ref a2), .val (.ref a3), .val (.int (2 : Int32)), .val (.int (3 : Int32)), .val (.long q6), .second] [(.int (q6.toInt32))]))
  refine own_step (fun t k => XS.lload X6.here hx rfl (hb hby d5_50) rfl k) ?_
  show own_G p.tables e below _ (T6.setTop (mkF m 52 #[.val (.ref a1), .val (.ref a2), .val (.ref a3), .val (.int (2 : Int32)), .val (.int (3 : Int32)), .val (.long q6), .second] [(.long q6), (.int (q6.toInt32))]))
  obtain ⟨_, _, ⟨T8, L8, k8, n8⟩, -, X8, ⟨Lc8, hQ8, l8, y8, z8⟩, st8⟩ := Jvm.LawKit.callS X6 hx (y := (⟨"com/example/stevedore/stevedore/MoveGraphEndsPinLaw", "lo", "(J)I"⟩ : MethodName)) hown (mvT hZ (hw _ (List.mem_of_getElem? (i := 39) rfl))) (mvT hZ (hw _ (List.mem_of_getElem? (i := 40) rfl))) (mvT hZ (hw _ (List.mem_of_getElem? (i := 34) rfl))) (mvT hZ (hw _ (List.mem_of_getElem? (i := 41) rfl))) (by decide) (backOf (W := 1) (rm7 l Z a0 hw [] q6 h0 n0 (Nat.le_trans Z0 (Keep.refl h0 []).1) ) hZ (hw _ (List.mem_of_getElem? (i := 41) rfl)) (hw _ (List.mem_of_getElem? (i := 34) rfl)) (by decide) (by decide)) (g := (mkF m 52 #[.val (.ref a1), .val (.ref a2), .val (.ref a3), .val (.int (2 : Int32)), .val (.int (3 : Int32)), .val (.long q6), .second] [(.long q6), (.int (q6.toInt32))])) rfl (by rw [hml]; rfl) (argsL := [(.long q6)]) (rest := [(.int (q6.toInt32))]) (lenOf pd_5_e2_3_0 rfl) rfl (by show 2 * 0 + _ ≤ _; exact Nat.le_of_eq rfl) (hb hby d5_52) (fun _ _ => ⟨rfl, e6, (by decide : 0 + 0 ≤ _), (by decide : 0 + 0 ≤ _)⟩)
  dsimp only [Pt.U, Pt.locs, Pt.cells, Pt.slots] at X8 l8 y8 z8 st8 hQ8
  subst l8 y8 z8
  obtain ⟨rfl, N8q, e8⟩ := hQ8
  have N8 := Fr.app N6 N8q
  refine own_step st8 ?_
  show own_G p.tables e below _ (T8.setTop (mkF m 55 #[.val (.ref a1), .val (.ref a2), .val (.ref a3), .val (.int (2 : Int32)), .val (.int (3 : Int32)), .val (.long q6), .second] [(.int (q6.toInt32)), (.int (q6.toInt32))]))
  have hk9 : (q6.toInt32) = (q6.toInt32) := rfl
  refine own_step (fun t k => XS.icmpNo X8.here hx rfl (hb hby d5_55) rfl ((teq hk9).2) k) ?_
  show own_G p.tables e below _ (T8.setTop (mkF m 58 #[.val (.ref a1), .val (.ref a2), .val (.ref a3), .val (.int (2 : Int32)), .val (.int (3 : Int32)), .val (.long q6), .second] []))
  refine own_step (fun t k => XS.iconst X8.here hx rfl (hb hby d5_58) k) ?_
  show own_G p.tables e below _ (T8.setTop (mkF m 59 #[.val (.ref a1), .val (.ref a2), .val (.ref a3), .val (.int (2 : Int32)), .val (.int (3 : Int32)), .val (.long q6), .second] [(.int (1 : Int32))]))
  refine own_step (fun t k => XS.goto X8.here hx rfl (pc0 := 59) (pc' := 63) rfl (hb hby d5_59) (by decide) (by decide) k) ?_
  show own_G p.tables e below _ (T8.setTop (mkF m 63 #[.val (.ref a1), .val (.ref a2), .val (.ref a3), .val (.int (2 : Int32)), .val (.int (3 : Int32)), .val (.long q6), .second] [(.int (1 : Int32))]))
  obtain ⟨fs, hr, hrun, hended, hW, hsame⟩ := X8.leave (v := some (.int (1 : Int32))) (fun h => by rw [Bd.returns] at h; cases h)
  refine own_done (retN X8 hx (t := .boolean) Bd.returns (by simp) (hb hby d5_63) hr) hrun hended ⟨_, _, rfl, ?_, ⟨_, rfl⟩, hW, hsame.mono (by decide) (by decide)⟩
  show Q5_e2_3 Z a1 a2 a3 q6 ee0 ee1 ee2 ee3 x0 x1 yy0 yy1 h0 n0 _ T8.heap _
  rw [e8]
  exact ⟨congrArg (fun z => some (Value.int z)) (show (1 : Int32) = (1 : Int32) from rfl), N8, rfl⟩
theorem pn_0 : plainName "com/example/stevedore/stevedore/MoveGraphEndsPinLaw" = true := by first | (simp [plainName, overriddenIn]; done) | decide +kernel
theorem pd_0_0 : parseMethodDescriptor "([I[I[I[I[I[I)V" = some ⟨[(.array .int), (.array .int), (.array .int), (.array .int), (.array .int), (.array .int)], none⟩ := by decide +kernel
theorem pd_0_1 : parseMethodDescriptor "()[I" = some ⟨[], some (.array .int)⟩ := by decide +kernel
theorem pd_0_2 : parseMethodDescriptor "([I[I[IIIJ)Z" = some ⟨[(.array .int), (.array .int), (.array .int), .int, .int, .long], some .boolean⟩ := by decide +kernel
theorem pd_0_3 : parseMethodDescriptor "(J)I" = some ⟨[.long], some .int⟩ := by decide +kernel
theorem ef_0 (m : MethodId) (p1 : Int32) (q2 : Int64) (q3 : Int64) (q4 : Int64) : entryFrame m #[(.int p1), (.long q2), (.long q3), (.long q4)] maxLocals = mkF m 0 #[.val (.int p1), .val (.long q2), .second, .val (.long q3), .second, .val (.long q4), .second, .unset, .unset, .unset, .unset, .unset] [] := by first | (simp [entryFrame, mkF, argsToLocals, Value.category, maxLocals]; done) | rfl
def Q0 (Z : State) (p1 : Int32) (q2 : Int64) (q3 : Int64) (q4 : Int64) (h0 : Heap) (n0 : Nat) (v : Option Value) (h : Heap) (L : List Loc) : Prop := v = some (.int (1 : Int32)) ∧ Fr n0 L
set_option maxRecDepth 65536 in
set_option maxHeartbeats 40000000 in
theorem rm0 (l : Launch) (Z : State) (a0 : Array Value) (hw : ∀ d ∈ tables_1, d.before a0 Z = true) (ws : List Jvm.Cond) (p1 : Int32) (q2 : Int64) (q3 : Int64) (q4 : Int64) (h0 : Heap) (n0 : Nat) (Z0 : n0 ≤ h0.size) :
    MetFree l x (head1 (Jvm.Cond.code x code maxLocals ret :: ws) room_1) (fun a U => a = #[(.int p1), (.long q2), (.long q3), (.long q4)] ∧ Z.Warmed39 U.vm ∧ U.heap = h0) (fun _ _ _ _ _ => True) (fun _ U o U' => ∃ v L, o = .returned v ∧ Q0 Z p1 q2 q3 q4 h0 n0 v U'.heap L ∧ FrameEnd U o U' L room_1.cells room_1.slots) := by
  refine MetFree.of_bodySF (plainFor_of_name pn_0) hisR ?_
  intro p e s m args below meth c s₁ Bd hml0 hP hK
  obtain ⟨rfl, hZ, hh⟩ := hP
  have hx := Bd.exec
  have hby := Bd.bytes
  have hml : c.maxLocals = 12 := hml0
  have hown : s.vm.findClass "com/example/stevedore/stevedore/MoveGraphEndsPinLaw" = some m.cls := findClass_of_methodNamed Bd.named
  have hnm := (name_of_methodNamed Bd.named Bd.method).1
  have X0 : Stand p l e room_1 s m #[(.int p1), (.long q2), (.long q3), (.long q4)] below meth c s₁ [] 0 0 := Stand.of_body Bd
  have e0 : s₁.heap = h0 := by rw [← hh, Bd.state]; rfl
  have N0 := Fr.nil n0
  refine own_start (fun t k => castTop (ef_0 m p1 q2 q3 q4) k) ?_
  show own_G p.tables e below _ (s₁.setTop (mkF m 0 #[.val (.int p1), .val (.long q2), .second, .val (.long q3), .second, .val (.long q4), .second, .unset, .unset, .unset, .unset, .unset] []))
  refine own_step (fun t k => XS.iloadN X0.here hx rfl (hb hby at_0) rfl k) ?_
  show own_G p.tables e below _ (s₁.setTop (mkF m 1 #[.val (.int p1), .val (.long q2), .second, .val (.long q3), .second, .val (.long q4), .second, .unset, .unset, .unset, .unset, .unset] [(.int p1)]))
  refine own_step (fun t k => XS.iconst X0.here hx rfl (hb hby at_1) k) ?_
  show own_G p.tables e below _ (s₁.setTop (mkF m 2 #[.val (.int p1), .val (.long q2), .second, .val (.long q3), .second, .val (.long q4), .second, .unset, .unset, .unset, .unset, .unset] [(.int (3 : Int32)), (.int p1)]))
  refine own_step (fun t k => XS.iand X0.here hx rfl (hb hby at_2) rfl k) ?_
  show own_G p.tables e below _ (s₁.setTop (mkF m 3 #[.val (.int p1), .val (.long q2), .second, .val (.long q3), .second, .val (.long q4), .second, .unset, .unset, .unset, .unset, .unset] [(.int (p1 &&& (3 : Int32)))]))
  refine own_nm ((p1 &&& (3 : Int32)) : Int32) (fun kk => s₁.setTop (mkF m 3 #[.val (.int p1), .val (.long q2), .second, .val (.long q3), .second, .val (.long q4), .second, .unset, .unset, .unset, .unset, .unset] [(.int kk)])) ?_
  intro kk hd_kk
  show own_G p.tables e below _ (s₁.setTop (mkF m 3 #[.val (.int p1), .val (.long q2), .second, .val (.long q3), .second, .val (.long q4), .second, .unset, .unset, .unset, .unset, .unset] [(.int kk)]))
  refine own_step (fun t k => XS.istore X0.here hx rfl (hb hby at_3) rfl (l' := #[.val (.int p1), .val (.long q2), .second, .val (.long q3), .second, .val (.long q4), .second, .val (.int kk), .unset, .unset, .unset, .unset]) rfl k) ?_
  show own_G p.tables e below _ (s₁.setTop (mkF m 5 #[.val (.int p1), .val (.long q2), .second, .val (.long q3), .second, .val (.long q4), .second, .val (.int kk), .unset, .unset, .unset, .unset] []))
  rcases own_k4 _ _ hd_kk with rfl | rfl | rfl | rfl
  · skip
    show own_G p.tables e below _ (s₁.setTop (mkF m 5 #[.val (.int p1), .val (.long q2), .second, .val (.long q3), .second, .val (.long q4), .second, .val (.int (0 : Int32)), .unset, .unset, .unset, .unset] []))
    refine own_step (fun t k => XS.iload X0.here hx rfl (hb hby at_5) rfl k) ?_
    show own_G p.tables e below _ (s₁.setTop (mkF m 7 #[.val (.int p1), .val (.long q2), .second, .val (.long q3), .second, .val (.long q4), .second, .val (.int (0 : Int32)), .unset, .unset, .unset, .unset] [(.int (0 : Int32))]))
    obtain ⟨T2, h2, k2, X2, e2, E2, A2, st2⟩ := newP X0 hx hZ (hw _ (List.mem_of_getElem? (i := 0) rfl)) e0 (g := (mkF m 7 #[.val (.int p1), .val (.long q2), .second, .val (.long q3), .second, .val (.long q4), .second, .val (.int (0 : Int32)), .unset, .unset, .unset, .unset] [(.int (0 : Int32))])) rfl (hb hby at_7) rfl (by decide) (cap := 0) (by decide) (by decide) (by decide) (by decide)
    obtain ⟨b2, g2⟩ : ∃ z, z = h0.size := ⟨_, rfl⟩
    have sz2 : h0.size ≤ b2 := Nat.le_trans (Keep.refl h0 []).1 (Nat.le_of_eq g2.symm)
    have ge2 : n0 ≤ b2 := Nat.le_trans Z0 sz2
    have K2 : Keep h0 h2 [] := (Keep.refl h0 []).ext E2
    rw [← g2] at A2 st2
    have c3 : own_Ari Z h2 b2 .int [] := own_Ari_new (ty := .int) A2 (by decide) rfl
    refine own_step st2 ?_
    show own_G p.tables e below _ (T2.setTop (mkF m 9 #[.val (.int p1), .val (.long q2), .second, .val (.long q3), .second, .val (.long q4), .second, .val (.int (0 : Int32)), .unset, .unset, .unset, .unset] [(.ref b2)]))
    refine own_step (fun t k => XS.astore X2.here hx rfl (hb hby at_9) rfl rfl (l' := #[.val (.int p1), .val (.long q2), .second, .val (.long q3), .second, .val (.long q4), .second, .val (.int (0 : Int32)), .val (.ref b2), .unset, .unset, .unset]) rfl k) ?_
    show own_G p.tables e below _ (T2.setTop (mkF m 11 #[.val (.int p1), .val (.long q2), .second, .val (.long q3), .second, .val (.long q4), .second, .val (.int (0 : Int32)), .val (.ref b2), .unset, .unset, .unset] []))
    refine own_step (fun t k => XS.iload X2.here hx rfl (hb hby at_11) rfl k) ?_
    show own_G p.tables e below _ (T2.setTop (mkF m 13 #[.val (.int p1), .val (.long q2), .second, .val (.long q3), .second, .val (.long q4), .second, .val (.int (0 : Int32)), .val (.ref b2), .unset, .unset, .unset] [(.int (0 : Int32))]))
    obtain ⟨T4, h4, k4, X4, e4, E4, A4, st4⟩ := newP X2 hx hZ (hw _ (List.mem_of_getElem? (i := 0) rfl)) e2 (g := (mkF m 13 #[.val (.int p1), .val (.long q2), .second, .val (.long q3), .second, .val (.long q4), .second, .val (.int (0 : Int32)), .val (.ref b2), .unset, .unset, .unset] [(.int (0 : Int32))])) rfl (hb hby at_13) rfl (by decide) (cap := 0) (by decide) (by decide) (by decide) (by decide)
    obtain ⟨b4, g4⟩ : ∃ z, z = h2.size := ⟨_, rfl⟩
    have ne5 : b2 ≠ b4 := Nat.ne_of_lt (Nat.lt_of_lt_of_le c3.lt (Nat.le_of_eq g4.symm))
    have sz4 : h0.size ≤ b4 := Nat.le_trans K2.1 (Nat.le_of_eq g4.symm)
    have ge4 : n0 ≤ b4 := Nat.le_trans Z0 sz4
    have c6 : own_Ari Z h4 b2 .int [] := c3.ext E4
    have K4 : Keep h0 h4 [] := K2.ext E4
    rw [← g4] at A4 st4
    have c7 : own_Ari Z h4 b4 .int [] := own_Ari_new (ty := .int) A4 (by decide) rfl
    refine own_step st4 ?_
    show own_G p.tables e below _ (T4.setTop (mkF m 15 #[.val (.int p1), .val (.long q2), .second, .val (.long q3), .second, .val (.long q4), .second, .val (.int (0 : Int32)), .val (.ref b2), .unset, .unset, .unset] [(.ref b4)]))
    refine own_step (fun t k => XS.astore X4.here hx rfl (hb hby at_15) rfl rfl (l' := #[.val (.int p1), .val (.long q2), .second, .val (.long q3), .second, .val (.long q4), .second, .val (.int (0 : Int32)), .val (.ref b2), .val (.ref b4), .unset, .unset]) rfl k) ?_
    show own_G p.tables e below _ (T4.setTop (mkF m 17 #[.val (.int p1), .val (.long q2), .second, .val (.long q3), .second, .val (.long q4), .second, .val (.int (0 : Int32)), .val (.ref b2), .val (.ref b4), .unset, .unset] []))
    refine own_step (fun t k => XS.iload X4.here hx rfl (hb hby at_17) rfl k) ?_
    show own_G p.tables e below _ (T4.setTop (mkF m 19 #[.val (.int p1), .val (.long q2), .second, .val (.long q3), .second, .val (.long q4), .second, .val (.int (0 : Int32)), .val (.ref b2), .val (.ref b4), .unset, .unset] [(.int (0 : Int32))]))
    have hk8 : ¬ ((0 : Int32) < (0 : Int32)) := (by decide)
    refine own_step (fun t k => XS.ifYes X4.here hx rfl (pc0 := 19) (pc' := 38) rfl (hb hby at_19) rfl ((if0 _ _).trans (flt hk8).2.2.2) (by decide) (by decide) k) ?_
    show own_G p.tables e below _ (T4.setTop (mkF m 38 #[.val (.int p1), .val (.long q2), .second, .val (.long q3), .second, .val (.long q4), .second, .val (.int (0 : Int32)), .val (.ref b2), .val (.ref b4), .unset, .unset] []))
    refine own_step (fun t k => XS.iload X4.here hx rfl (hb hby at_38) rfl k) ?_
    show own_G p.tables e below _ (T4.setTop (mkF m 40 #[.val (.int p1), .val (.long q2), .second, .val (.long q3), .second, .val (.long q4), .second, .val (.int (0 : Int32)), .val (.ref b2), .val (.ref b4), .unset, .unset] [(.int (0 : Int32))]))
    refine own_step (fun t k => XS.iconst X4.here hx rfl (hb hby at_40) k) ?_
    show own_G p.tables e below _ (T4.setTop (mkF m 41 #[.val (.int p1), .val (.long q2), .second, .val (.long q3), .second, .val (.long q4), .second, .val (.int (0 : Int32)), .val (.ref b2), .val (.ref b4), .unset, .unset] [(.int (1 : Int32)), (.int (0 : Int32))]))
    have hk9 : ¬ ((1 : Int32) < (0 : Int32)) := (by decide)
    refine own_step (fun t k => XS.icmpYes X4.here hx rfl (pc0 := 41) (pc' := 60) rfl (hb hby at_41) rfl ((flt hk9).2.2.2) (by decide) (by decide) k) ?_
    show own_G p.tables e below _ (T4.setTop (mkF m 60 #[.val (.int p1), .val (.long q2), .second, .val (.long q3), .second, .val (.long q4), .second, .val (.int (0 : Int32)), .val (.ref b2), .val (.ref b4), .unset, .unset] []))
    refine own_step (fun t k => XS.iload X4.here hx rfl (hb hby at_60) rfl k) ?_
    show own_G p.tables e below _ (T4.setTop (mkF m 62 #[.val (.int p1), .val (.long q2), .second, .val (.long q3), .second, .val (.long q4), .second, .val (.int (0 : Int32)), .val (.ref b2), .val (.ref b4), .unset, .unset] [(.int (0 : Int32))]))
    refine own_step (fun t k => XS.iconst X4.here hx rfl (hb hby at_62) k) ?_
    show own_G p.tables e below _ (T4.setTop (mkF m 63 #[.val (.int p1), .val (.long q2), .second, .val (.long q3), .second, .val (.long q4), .second, .val (.int (0 : Int32)), .val (.ref b2), .val (.ref b4), .unset, .unset] [(.int (2 : Int32)), (.int (0 : Int32))]))
    have hk10 : ¬ ((2 : Int32) < (0 : Int32)) := (by decide)
    refine own_step (fun t k => XS.icmpYes X4.here hx rfl (pc0 := 63) (pc' := 84) rfl (hb hby at_63) rfl ((flt hk10).2.2.2) (by decide) (by decide) k) ?_
    show own_G p.tables e below _ (T4.setTop (mkF m 84 #[.val (.int p1), .val (.long q2), .second, .val (.long q3), .second, .val (.long q4), .second, .val (.int (0 : Int32)), .val (.ref b2), .val (.ref b4), .unset, .unset] []))
    obtain ⟨T11, h11, X11, e11, E11, A11, D11, -, st11⟩ := newO X4 hx hZ hown (hw _ (List.mem_of_getElem? (i := 1) rfl)) (hw _ (List.mem_of_getElem? (i := 2) rfl)) (hw _ (List.mem_of_getElem? (i := 3) rfl)) e4 (g := (mkF m 84 #[.val (.int p1), .val (.long q2), .second, .val (.long q3), .second, .val (.long q4), .second, .val (.int (0 : Int32)), .val (.ref b2), .val (.ref b4), .unset, .unset] [])) rfl (hb hby at_84) (by decide) (by decide)
    obtain ⟨b11, g11⟩ : ∃ z, z = h4.size := ⟨_, rfl⟩
    have ne12 : b2 ≠ b11 := Nat.ne_of_lt (Nat.lt_of_lt_of_le c6.lt (Nat.le_of_eq g11.symm))
    have ne13 : b4 ≠ b11 := Nat.ne_of_lt (Nat.lt_of_lt_of_le c7.lt (Nat.le_of_eq g11.symm))
    have sz11 : h0.size ≤ b11 := Nat.le_trans K4.1 (Nat.le_of_eq g11.symm)
    have ge11 : n0 ≤ b11 := Nat.le_trans Z0 sz11
    have c14 : own_Ari Z h11 b2 .int [] := c6.ext E11
    have c15 : own_Ari Z h11 b4 .int [] := c7.ext E11
    have K11 : Keep h0 h11 [] := K4.ext E11
    rw [← g11] at A11 D11 st11
    have c16 : Fld Z h11 b11 "com/example/stevedore/stevedore/MoveGraph" "from" "[I" .null := D11 (Or.inr (hw _ (List.mem_of_getElem? (i := 16) rfl))) (ty := (.array .int)) (by decide)
    have c17 : Fld Z h11 b11 "com/example/stevedore/stevedore/MoveGraph" "to" "[I" .null := D11 (Or.inr (hw _ (List.mem_of_getElem? (i := 18) rfl))) (ty := (.array .int)) (by decide)
    have c18 : Fld Z h11 b11 "com/example/stevedore/stevedore/MoveGraph" "limit" "[I" .null := D11 (Or.inr (hw _ (List.mem_of_getElem? (i := 20) rfl))) (ty := (.array .int)) (by decide)
    have c19 : Fld Z h11 b11 "com/example/stevedore/stevedore/MoveGraph" "send" "[I" .null := D11 (Or.inr (hw _ (List.mem_of_getElem? (i := 22) rfl))) (ty := (.array .int)) (by decide)
    have c20 : Fld Z h11 b11 "com/example/stevedore/stevedore/MoveGraph" "receive" "[I" .null := D11 (Or.inr (hw _ (List.mem_of_getElem? (i := 24) rfl))) (ty := (.array .int)) (by decide)
    have c21 : Fld Z h11 b11 "com/example/stevedore/stevedore/MoveGraph" "free" "[I" .null := D11 (Or.inr (hw _ (List.mem_of_getElem? (i := 26) rfl))) (ty := (.array .int)) (by decide)
    refine own_step st11 ?_
    show own_G p.tables e below _ (T11.setTop (mkF m 87 #[.val (.int p1), .val (.long q2), .second, .val (.long q3), .second, .val (.long q4), .second, .val (.int (0 : Int32)), .val (.ref b2), .val (.ref b4), .unset, .unset] [(.ref b11)]))
    refine own_step (fun t k => XS.dup X11.here hx rfl (hb hby at_87) rfl rfl k) ?_
    show own_G p.tables e below _ (T11.setTop (mkF m 88 #[.val (.int p1), .val (.long q2), .second, .val (.long q3), .second, .val (.long q4), .second, .val (.int (0 : Int32)), .val (.ref b2), .val (.ref b4), .unset, .unset] [(.ref b11), (.ref b11)]))
    refine own_step (fun t k => XS.aload X11.here hx rfl (hb hby at_88) rfl rfl k) ?_
    show own_G p.tables e below _ (T11.setTop (mkF m 90 #[.val (.int p1), .val (.long q2), .second, .val (.long q3), .second, .val (.long q4), .second, .val (.int (0 : Int32)), .val (.ref b2), .val (.ref b4), .unset, .unset] [(.ref b2), (.ref b11), (.ref b11)]))
    refine own_step (fun t k => XS.aload X11.here hx rfl (hb hby at_90) rfl rfl k) ?_
    show own_G p.tables e below _ (T11.setTop (mkF m 92 #[.val (.int p1), .val (.long q2), .second, .val (.long q3), .second, .val (.long q4), .second, .val (.int (0 : Int32)), .val (.ref b2), .val (.ref b4), .unset, .unset] [(.ref b4), (.ref b2), (.ref b11), (.ref b11)]))
    refine own_step (fun t k => XS.iconst X11.here hx rfl (hb hby at_92) k) ?_
    show own_G p.tables e below _ (T11.setTop (mkF m 93 #[.val (.int p1), .val (.long q2), .second, .val (.long q3), .second, .val (.long q4), .second, .val (.int (0 : Int32)), .val (.ref b2), .val (.ref b4), .unset, .unset] [(.int (0 : Int32)), (.ref b4), (.ref b2), (.ref b11), (.ref b11)]))
    obtain ⟨T22, h22, k22, X22, e22, E22, A22, st22⟩ := newP X11 hx hZ (hw _ (List.mem_of_getElem? (i := 0) rfl)) e11 (g := (mkF m 93 #[.val (.int p1), .val (.long q2), .second, .val (.long q3), .second, .val (.long q4), .second, .val (.int (0 : Int32)), .val (.ref b2), .val (.ref b4), .unset, .unset] [(.int (0 : Int32)), (.ref b4), (.ref b2), (.ref b11), (.ref b11)])) rfl (hb hby at_93) rfl (by decide) (cap := 0) (by decide) (by decide) (by decide) (by decide)
    obtain ⟨b22, g22⟩ : ∃ z, z = h11.size := ⟨_, rfl⟩
    have ne23 : b2 ≠ b22 := Nat.ne_of_lt (Nat.lt_of_lt_of_le c14.lt (Nat.le_of_eq g22.symm))
    have ne24 : b4 ≠ b22 := Nat.ne_of_lt (Nat.lt_of_lt_of_le c15.lt (Nat.le_of_eq g22.symm))
    have ne25 : b11 ≠ b22 := Nat.ne_of_lt (Nat.lt_of_lt_of_le A11.lt (Nat.le_of_eq g22.symm))
    have sz22 : h0.size ≤ b22 := Nat.le_trans K11.1 (Nat.le_of_eq g22.symm)
    have ge22 : n0 ≤ b22 := Nat.le_trans Z0 sz22
    have c26 : own_Ari Z h22 b2 .int [] := c14.ext E22
    have c27 : own_Ari Z h22 b4 .int [] := c15.ext E22
    have c28 : Exa Z h22 b11 "com/example/stevedore/stevedore/MoveGraph" := A11.ext E22
    have c29 : Fld Z h22 b11 "com/example/stevedore/stevedore/MoveGraph" "from" "[I" .null := c16.ext E22
    have c30 : Fld Z h22 b11 "com/example/stevedore/stevedore/MoveGraph" "to" "[I" .null := c17.ext E22
    have c31 : Fld Z h22 b11 "com/example/stevedore/stevedore/MoveGraph" "limit" "[I" .null := c18.ext E22
    have c32 : Fld Z h22 b11 "com/example/stevedore/stevedore/MoveGraph" "send" "[I" .null := c19.ext E22
    have c33 : Fld Z h22 b11 "com/example/stevedore/stevedore/MoveGraph" "receive" "[I" .null := c20.ext E22
    have c34 : Fld Z h22 b11 "com/example/stevedore/stevedore/MoveGraph" "free" "[I" .null := c21.ext E22
    have K22 : Keep h0 h22 [] := K11.ext E22
    rw [← g22] at A22 st22
    have c35 : own_Ari Z h22 b22 .int [] := own_Ari_new (ty := .int) A22 (by decide) rfl
    refine own_step st22 ?_
    show own_G p.tables e below _ (T22.setTop (mkF m 95 #[.val (.int p1), .val (.long q2), .second, .val (.long q3), .second, .val (.long q4), .second, .val (.int (0 : Int32)), .val (.ref b2), .val (.ref b4), .unset, .unset] [(.ref b22), (.ref b4), (.ref b2), (.ref b11), (.ref b11)]))
    refine own_step (fun t k => XS.iconst X22.here hx rfl (hb hby at_95) k) ?_
    show own_G p.tables e below _ (T22.setTop (mkF m 96 #[.val (.int p1), .val (.long q2), .second, .val (.long q3), .second, .val (.long q4), .second, .val (.int (0 : Int32)), .val (.ref b2), .val (.ref b4), .unset, .unset] [(.int (0 : Int32)), (.ref b22), (.ref b4), (.ref b2), (.ref b11), (.ref b11)]))
    obtain ⟨T36, h36, k36, X36, e36, E36, A36, st36⟩ := newP X22 hx hZ (hw _ (List.mem_of_getElem? (i := 0) rfl)) e22 (g := (mkF m 96 #[.val (.int p1), .val (.long q2), .second, .val (.long q3), .second, .val (.long q4), .second, .val (.int (0 : Int32)), .val (.ref b2), .val (.ref b4), .unset, .unset] [(.int (0 : Int32)), (.ref b22), (.ref b4), (.ref b2), (.ref b11), (.ref b11)])) rfl (hb hby at_96) rfl (by decide) (cap := 0) (by decide) (by decide) (by decide) (by decide)
    obtain ⟨b36, g36⟩ : ∃ z, z = h22.size := ⟨_, rfl⟩
    have ne37 : b2 ≠ b36 := Nat.ne_of_lt (Nat.lt_of_lt_of_le c26.lt (Nat.le_of_eq g36.symm))
    have ne38 : b4 ≠ b36 := Nat.ne_of_lt (Nat.lt_of_lt_of_le c27.lt (Nat.le_of_eq g36.symm))
    have ne39 : b11 ≠ b36 := Nat.ne_of_lt (Nat.lt_of_lt_of_le c28.lt (Nat.le_of_eq g36.symm))
    have ne40 : b22 ≠ b36 := Nat.ne_of_lt (Nat.lt_of_lt_of_le c35.lt (Nat.le_of_eq g36.symm))
    have sz36 : h0.size ≤ b36 := Nat.le_trans K22.1 (Nat.le_of_eq g36.symm)
    have ge36 : n0 ≤ b36 := Nat.le_trans Z0 sz36
    have c41 : own_Ari Z h36 b2 .int [] := c26.ext E36
    have c42 : own_Ari Z h36 b4 .int [] := c27.ext E36
    have c43 : Exa Z h36 b11 "com/example/stevedore/stevedore/MoveGraph" := c28.ext E36
    have c44 : Fld Z h36 b11 "com/example/stevedore/stevedore/MoveGraph" "from" "[I" .null := c29.ext E36
    have c45 : Fld Z h36 b11 "com/example/stevedore/stevedore/MoveGraph" "to" "[I" .null := c30.ext E36
    have c46 : Fld Z h36 b11 "com/example/stevedore/stevedore/MoveGraph" "limit" "[I" .null := c31.ext E36
    have c47 : Fld Z h36 b11 "com/example/stevedore/stevedore/MoveGraph" "send" "[I" .null := c32.ext E36
    have c48 : Fld Z h36 b11 "com/example/stevedore/stevedore/MoveGraph" "receive" "[I" .null := c33.ext E36
    have c49 : Fld Z h36 b11 "com/example/stevedore/stevedore/MoveGraph" "free" "[I" .null := c34.ext E36
    have c50 : own_Ari Z h36 b22 .int [] := c35.ext E36
    have K36 : Keep h0 h36 [] := K22.ext E36
    rw [← g36] at A36 st36
    have c51 : own_Ari Z h36 b36 .int [] := own_Ari_new (ty := .int) A36 (by decide) rfl
    refine own_step st36 ?_
    show own_G p.tables e below _ (T36.setTop (mkF m 98 #[.val (.int p1), .val (.long q2), .second, .val (.long q3), .second, .val (.long q4), .second, .val (.int (0 : Int32)), .val (.ref b2), .val (.ref b4), .unset, .unset] [(.ref b36), (.ref b22), (.ref b4), (.ref b2), (.ref b11), (.ref b11)]))
    refine own_step (fun t k => XS.iconst X36.here hx rfl (hb hby at_98) k) ?_
    show own_G p.tables e below _ (T36.setTop (mkF m 99 #[.val (.int p1), .val (.long q2), .second, .val (.long q3), .second, .val (.long q4), .second, .val (.int (0 : Int32)), .val (.ref b2), .val (.ref b4), .unset, .unset] [(.int (0 : Int32)), (.ref b36), (.ref b22), (.ref b4), (.ref b2), (.ref b11), (.ref b11)]))
    obtain ⟨T52, h52, k52, X52, e52, E52, A52, st52⟩ := newP X36 hx hZ (hw _ (List.mem_of_getElem? (i := 0) rfl)) e36 (g := (mkF m 99 #[.val (.int p1), .val (.long q2), .second, .val (.long q3), .second, .val (.long q4), .second, .val (.int (0 : Int32)), .val (.ref b2), .val (.ref b4), .unset, .unset] [(.int (0 : Int32)), (.ref b36), (.ref b22), (.ref b4), (.ref b2), (.ref b11), (.ref b11)])) rfl (hb hby at_99) rfl (by decide) (cap := 0) (by decide) (by decide) (by decide) (by decide)
    obtain ⟨b52, g52⟩ : ∃ z, z = h36.size := ⟨_, rfl⟩
    have ne53 : b2 ≠ b52 := Nat.ne_of_lt (Nat.lt_of_lt_of_le c41.lt (Nat.le_of_eq g52.symm))
    have ne54 : b4 ≠ b52 := Nat.ne_of_lt (Nat.lt_of_lt_of_le c42.lt (Nat.le_of_eq g52.symm))
    have ne55 : b11 ≠ b52 := Nat.ne_of_lt (Nat.lt_of_lt_of_le c43.lt (Nat.le_of_eq g52.symm))
    have ne56 : b22 ≠ b52 := Nat.ne_of_lt (Nat.lt_of_lt_of_le c50.lt (Nat.le_of_eq g52.symm))
    have ne57 : b36 ≠ b52 := Nat.ne_of_lt (Nat.lt_of_lt_of_le c51.lt (Nat.le_of_eq g52.symm))
    have sz52 : h0.size ≤ b52 := Nat.le_trans K36.1 (Nat.le_of_eq g52.symm)
    have ge52 : n0 ≤ b52 := Nat.le_trans Z0 sz52
    have c58 : own_Ari Z h52 b2 .int [] := c41.ext E52
    have c59 : own_Ari Z h52 b4 .int [] := c42.ext E52
    have c60 : Exa Z h52 b11 "com/example/stevedore/stevedore/MoveGraph" := c43.ext E52
    have c61 : Fld Z h52 b11 "com/example/stevedore/stevedore/MoveGraph" "from" "[I" .null := c44.ext E52
    have c62 : Fld Z h52 b11 "com/example/stevedore/stevedore/MoveGraph" "to" "[I" .null := c45.ext E52
    have c63 : Fld Z h52 b11 "com/example/stevedore/stevedore/MoveGraph" "limit" "[I" .null := c46.ext E52
    have c64 : Fld Z h52 b11 "com/example/stevedore/stevedore/MoveGraph" "send" "[I" .null := c47.ext E52
    have c65 : Fld Z h52 b11 "com/example/stevedore/stevedore/MoveGraph" "receive" "[I" .null := c48.ext E52
    have c66 : Fld Z h52 b11 "com/example/stevedore/stevedore/MoveGraph" "free" "[I" .null := c49.ext E52
    have c67 : own_Ari Z h52 b22 .int [] := c50.ext E52
    have c68 : own_Ari Z h52 b36 .int [] := c51.ext E52
    have K52 : Keep h0 h52 [] := K36.ext E52
    rw [← g52] at A52 st52
    have c69 : own_Ari Z h52 b52 .int [] := own_Ari_new (ty := .int) A52 (by decide) rfl
    refine own_step st52 ?_
    show own_G p.tables e below _ (T52.setTop (mkF m 101 #[.val (.int p1), .val (.long q2), .second, .val (.long q3), .second, .val (.long q4), .second, .val (.int (0 : Int32)), .val (.ref b2), .val (.ref b4), .unset, .unset] [(.ref b52), (.ref b36), (.ref b22), (.ref b4), (.ref b2), (.ref b11), (.ref b11)]))
    refine own_step (fun t k => XS.iconst X52.here hx rfl (hb hby at_101) k) ?_
    show own_G p.tables e below _ (T52.setTop (mkF m 102 #[.val (.int p1), .val (.long q2), .second, .val (.long q3), .second, .val (.long q4), .second, .val (.int (0 : Int32)), .val (.ref b2), .val (.ref b4), .unset, .unset] [(.int (0 : Int32)), (.ref b52), (.ref b36), (.ref b22), (.ref b4), (.ref b2), (.ref b11), (.ref b11)]))
    obtain ⟨T70, h70, k70, X70, e70, E70, A70, st70⟩ := newP X52 hx hZ (hw _ (List.mem_of_getElem? (i := 0) rfl)) e52 (g := (mkF m 102 #[.val (.int p1), .val (.long q2), .second, .val (.long q3), .second, .val (.long q4), .second, .val (.int (0 : Int32)), .val (.ref b2), .val (.ref b4), .unset, .unset] [(.int (0 : Int32)), (.ref b52), (.ref b36), (.ref b22), (.ref b4), (.ref b2), (.ref b11), (.ref b11)])) rfl (hb hby at_102) rfl (by decide) (cap := 0) (by decide) (by decide) (by decide) (by decide)
    obtain ⟨b70, g70⟩ : ∃ z, z = h52.size := ⟨_, rfl⟩
    have ne71 : b2 ≠ b70 := Nat.ne_of_lt (Nat.lt_of_lt_of_le c58.lt (Nat.le_of_eq g70.symm))
    have ne72 : b4 ≠ b70 := Nat.ne_of_lt (Nat.lt_of_lt_of_le c59.lt (Nat.le_of_eq g70.symm))
    have ne73 : b11 ≠ b70 := Nat.ne_of_lt (Nat.lt_of_lt_of_le c60.lt (Nat.le_of_eq g70.symm))
    have ne74 : b22 ≠ b70 := Nat.ne_of_lt (Nat.lt_of_lt_of_le c67.lt (Nat.le_of_eq g70.symm))
    have ne75 : b36 ≠ b70 := Nat.ne_of_lt (Nat.lt_of_lt_of_le c68.lt (Nat.le_of_eq g70.symm))
    have ne76 : b52 ≠ b70 := Nat.ne_of_lt (Nat.lt_of_lt_of_le c69.lt (Nat.le_of_eq g70.symm))
    have sz70 : h0.size ≤ b70 := Nat.le_trans K52.1 (Nat.le_of_eq g70.symm)
    have ge70 : n0 ≤ b70 := Nat.le_trans Z0 sz70
    have c77 : own_Ari Z h70 b2 .int [] := c58.ext E70
    have c78 : own_Ari Z h70 b4 .int [] := c59.ext E70
    have c79 : Exa Z h70 b11 "com/example/stevedore/stevedore/MoveGraph" := c60.ext E70
    have c80 : Fld Z h70 b11 "com/example/stevedore/stevedore/MoveGraph" "from" "[I" .null := c61.ext E70
    have c81 : Fld Z h70 b11 "com/example/stevedore/stevedore/MoveGraph" "to" "[I" .null := c62.ext E70
    have c82 : Fld Z h70 b11 "com/example/stevedore/stevedore/MoveGraph" "limit" "[I" .null := c63.ext E70
    have c83 : Fld Z h70 b11 "com/example/stevedore/stevedore/MoveGraph" "send" "[I" .null := c64.ext E70
    have c84 : Fld Z h70 b11 "com/example/stevedore/stevedore/MoveGraph" "receive" "[I" .null := c65.ext E70
    have c85 : Fld Z h70 b11 "com/example/stevedore/stevedore/MoveGraph" "free" "[I" .null := c66.ext E70
    have c86 : own_Ari Z h70 b22 .int [] := c67.ext E70
    have c87 : own_Ari Z h70 b36 .int [] := c68.ext E70
    have c88 : own_Ari Z h70 b52 .int [] := c69.ext E70
    have K70 : Keep h0 h70 [] := K52.ext E70
    rw [← g70] at A70 st70
    have c89 : own_Ari Z h70 b70 .int [] := own_Ari_new (ty := .int) A70 (by decide) rfl
    refine own_step st70 ?_
    show own_G p.tables e below _ (T70.setTop (mkF m 104 #[.val (.int p1), .val (.long q2), .second, .val (.long q3), .second, .val (.long q4), .second, .val (.int (0 : Int32)), .val (.ref b2), .val (.ref b4), .unset, .unset] [(.ref b70), (.ref b52), (.ref b36), (.ref b22), (.ref b4), (.ref b2), (.ref b11), (.ref b11)]))
    obtain ⟨_, _, ⟨T90, L90, k90, n90⟩, -, X90, ⟨Lc90, hQ90, l90, y90, z90⟩, st90⟩ := X70.specialBack hx (y := (⟨"com/example/stevedore/stevedore/MoveGraph", "<init>", "([I[I[I[I[I[I)V"⟩ : MethodName)) rfl hown (mvT hZ (hw _ (List.mem_of_getElem? (i := 4) rfl))) (mvT hZ (hw _ (List.mem_of_getElem? (i := 5) rfl))) (mvT hZ (hw _ (List.mem_of_getElem? (i := 6) rfl))) (by decide) (backOf (W := 1) (rm1 l Z a0 hw [] b11 b2 b4 b22 b36 b52 b70 .null .null .null .null .null .null h70 n0 (Nat.le_trans Z0 K70.1) c79 c80 c81 c82 c83 c84 c85 ge11) hZ (hw _ (List.mem_of_getElem? (i := 6) rfl)) (hw _ (List.mem_of_getElem? (i := 3) rfl)) (by decide) (by decide)) (g := (mkF m 104 #[.val (.int p1), .val (.long q2), .second, .val (.long q3), .second, .val (.long q4), .second, .val (.int (0 : Int32)), .val (.ref b2), .val (.ref b4), .unset, .unset] [(.ref b70), (.ref b52), (.ref b36), (.ref b22), (.ref b4), (.ref b2), (.ref b11), (.ref b11)])) rfl (by rw [hml]; rfl) (Steps.refl _) (a := b11) (argsL := [(.ref b2), (.ref b4), (.ref b22), (.ref b36), (.ref b52), (.ref b70)]) (rest := [(.ref b11)]) (lenOf pd_0_0 rfl) rfl (by show 2 * 0 + _ ≤ _; exact Nat.le_of_eq rfl) (hb hby at_104) (fun _ _ => ⟨rfl, e70, (by decide : 7 + 0 ≤ _), (by decide : 6 + 0 ≤ _)⟩)
    dsimp only [Pt.U, Pt.locs, Pt.cells, Pt.slots] at X90 l90 y90 z90 st90 hQ90
    subst l90 y90 z90
    obtain ⟨rfl, N90q, K90q, w90_0, w90_1, w90_2, w90_3, w90_4, w90_5⟩ := hQ90
    have c91 : own_Ari Z T90.heap b2 .int [] := c77.keep K90q (ninS ne12 nin0)
    have c92 : own_Ari Z T90.heap b4 .int [] := c78.keep K90q (ninS ne13 nin0)
    have c93 : Exa Z T90.heap b11 "com/example/stevedore/stevedore/MoveGraph" := c79.keep K90q
    have c100 : own_Ari Z T90.heap b22 .int [] := c86.keep K90q (ninS (Ne.symm ne25) nin0)
    have c101 : own_Ari Z T90.heap b36 .int [] := c87.keep K90q (ninS (Ne.symm ne39) nin0)
    have c102 : own_Ari Z T90.heap b52 .int [] := c88.keep K90q (ninS (Ne.symm ne55) nin0)
    have c103 : own_Ari Z T90.heap b70 .int [] := c89.keep K90q (ninS (Ne.symm ne73) nin0)
    have K90 : Keep h0 T90.heap [] := K70.trans K90q (allS (Or.inr sz11) all0)
    have N90 := Fr.app N0 N90q
    refine own_step (fun t k => st90.trans k) ?_
    show own_G p.tables e below _ (T90.setTop (mkF m 107 #[.val (.int p1), .val (.long q2), .second, .val (.long q3), .second, .val (.long q4), .second, .val (.int (0 : Int32)), .val (.ref b2), .val (.ref b4), .unset, .unset] [(.ref b11)]))
    refine own_step (fun t k => XS.astore X90.here hx rfl (hb hby at_107) rfl rfl (l' := #[.val (.int p1), .val (.long q2), .second, .val (.long q3), .second, .val (.long q4), .second, .val (.int (0 : Int32)), .val (.ref b2), .val (.ref b4), .val (.ref b11), .unset]) rfl k) ?_
    show own_G p.tables e below _ (T90.setTop (mkF m 109 #[.val (.int p1), .val (.long q2), .second, .val (.long q3), .second, .val (.long q4), .second, .val (.int (0 : Int32)), .val (.ref b2), .val (.ref b4), .val (.ref b11), .unset] []))
    refine own_step (fun t k => XS.aload X90.here hx rfl (hb hby at_109) rfl rfl k) ?_
    show own_G p.tables e below _ (T90.setTop (mkF m 111 #[.val (.int p1), .val (.long q2), .second, .val (.long q3), .second, .val (.long q4), .second, .val (.int (0 : Int32)), .val (.ref b2), .val (.ref b4), .val (.ref b11), .unset] [(.ref b11)]))
    obtain ⟨cq104, kq104, q104a, q104b, q104c⟩ := isOf hZ rfl c93
    obtain ⟨_, _, ⟨T104, L104, k104, n104⟩, -, X104, ⟨Lc104, hQ104, l104, y104, z104⟩, st104⟩ := X90.virtualBack hx (y := (⟨"com/example/stevedore/stevedore/MoveGraph", "ends", "()[I"⟩ : MethodName)) (z := (⟨"com/example/stevedore/stevedore/MoveGraph", "ends", "()[I"⟩ : MethodName)) hown (mvT hZ (hw _ (List.mem_of_getElem? (i := 27) rfl))) (mvT hZ (hw _ (List.mem_of_getElem? (i := 28) rfl))) (notFace_of_selects (args := #[]) (mvT hZ (hw _ (List.mem_of_getElem? (i := 30) rfl)))) (mvT hZ (hw _ (List.mem_of_getElem? (i := 30) rfl))) (mvT hZ (hw _ (List.mem_of_getElem? (i := 29) rfl))) (by decide) (backOf (W := 0) (rm4_k0 l Z a0 hw [] b11 b2 b4 T90.heap n0 (Nat.le_trans Z0 K90.1) w90_0 w90_1 c91 c92) hZ (hw _ (List.mem_of_getElem? (i := 31) rfl)) (hw _ (List.mem_of_getElem? (i := 3) rfl)) (by decide) (by decide)) q104a q104c (g := (mkF m 111 #[.val (.int p1), .val (.long q2), .second, .val (.long q3), .second, .val (.long q4), .second, .val (.int (0 : Int32)), .val (.ref b2), .val (.ref b4), .val (.ref b11), .unset] [(.ref b11)])) rfl (by rw [hml]; rfl) (Steps.refl _) (argsL := []) (rest := []) (lenOf pd_0_1 rfl) rfl (by show 2 * 0 + _ ≤ _; exact Nat.le_of_eq rfl) (hb hby at_111) (fun _ _ => ⟨rfl, rfl, (by decide : 7 + 1 ≤ _), (by decide : 6 + 0 ≤ _)⟩)
    dsimp only [Pt.U, Pt.locs, Pt.cells, Pt.slots] at X104 l104 y104 z104 st104 hQ104
    subst l104 y104 z104
    obtain ⟨bx104_rb, rfl, N104q, K104q, w104_0, sx104_0⟩ := hQ104
    have c105 : own_Ari Z T104.heap b2 .int [] := c91.keep K104q nin0
    have c106 : own_Ari Z T104.heap b4 .int [] := c92.keep K104q nin0
    have c107 : Exa Z T104.heap b11 "com/example/stevedore/stevedore/MoveGraph" := c93.keep K104q
    have c108 : own_Ari Z T104.heap b22 .int [] := c100.keep K104q nin0
    have c109 : own_Ari Z T104.heap b36 .int [] := c101.keep K104q nin0
    have c110 : own_Ari Z T104.heap b52 .int [] := c102.keep K104q nin0
    have c111 : own_Ari Z T104.heap b70 .int [] := c103.keep K104q nin0
    have c112 : Fld Z T104.heap b11 "com/example/stevedore/stevedore/MoveGraph" "from" "[I" (.ref b2) := w90_0.keep K104q nin0
    have c113 : Fld Z T104.heap b11 "com/example/stevedore/stevedore/MoveGraph" "to" "[I" (.ref b4) := w90_1.keep K104q nin0
    have c114 : Fld Z T104.heap b11 "com/example/stevedore/stevedore/MoveGraph" "limit" "[I" (.ref b22) := w90_2.keep K104q nin0
    have c115 : Fld Z T104.heap b11 "com/example/stevedore/stevedore/MoveGraph" "send" "[I" (.ref b36) := w90_3.keep K104q nin0
    have c116 : Fld Z T104.heap b11 "com/example/stevedore/stevedore/MoveGraph" "receive" "[I" (.ref b52) := w90_4.keep K104q nin0
    have c117 : Fld Z T104.heap b11 "com/example/stevedore/stevedore/MoveGraph" "free" "[I" (.ref b70) := w90_5.keep K104q nin0
    have sz104_0 : h0.size ≤ bx104_rb := Nat.le_trans K90.1 sx104_0
    have ge104_0 : n0 ≤ bx104_rb := Nat.le_trans Z0 sz104_0
    have ne118 : b2 ≠ bx104_rb := Nat.ne_of_lt (Nat.lt_of_lt_of_le c91.lt sx104_0)
    have ne119 : b4 ≠ bx104_rb := Nat.ne_of_lt (Nat.lt_of_lt_of_le c92.lt sx104_0)
    have ne120 : b11 ≠ bx104_rb := Nat.ne_of_lt (Nat.lt_of_lt_of_le c93.lt sx104_0)
    have ne121 : b22 ≠ bx104_rb := Nat.ne_of_lt (Nat.lt_of_lt_of_le c100.lt sx104_0)
    have ne122 : b36 ≠ bx104_rb := Nat.ne_of_lt (Nat.lt_of_lt_of_le c101.lt sx104_0)
    have ne123 : b52 ≠ bx104_rb := Nat.ne_of_lt (Nat.lt_of_lt_of_le c102.lt sx104_0)
    have ne124 : b70 ≠ bx104_rb := Nat.ne_of_lt (Nat.lt_of_lt_of_le c103.lt sx104_0)
    have K104 : Keep h0 T104.heap [] := K90.trans K104q all0
    have N104 := Fr.app N90 N104q
    refine own_step (fun t k => st104.trans k) ?_
    show own_G p.tables e below _ (T104.setTop (mkF m 114 #[.val (.int p1), .val (.long q2), .second, .val (.long q3), .second, .val (.long q4), .second, .val (.int (0 : Int32)), .val (.ref b2), .val (.ref b4), .val (.ref b11), .unset] [(.ref bx104_rb)]))
    refine own_step (fun t k => XS.astore X104.here hx rfl (hb hby at_114) rfl rfl (l' := #[.val (.int p1), .val (.long q2), .second, .val (.long q3), .second, .val (.long q4), .second, .val (.int (0 : Int32)), .val (.ref b2), .val (.ref b4), .val (.ref b11), .val (.ref bx104_rb)]) rfl k) ?_
    show own_G p.tables e below _ (T104.setTop (mkF m 116 #[.val (.int p1), .val (.long q2), .second, .val (.long q3), .second, .val (.long q4), .second, .val (.int (0 : Int32)), .val (.ref b2), .val (.ref b4), .val (.ref b11), .val (.ref bx104_rb)] []))
    refine own_step (fun t k => XS.aload X104.here hx rfl (hb hby at_116) rfl rfl k) ?_
    show own_G p.tables e below _ (T104.setTop (mkF m 118 #[.val (.int p1), .val (.long q2), .second, .val (.long q3), .second, .val (.long q4), .second, .val (.int (0 : Int32)), .val (.ref b2), .val (.ref b4), .val (.ref b11), .val (.ref bx104_rb)] [(.ref bx104_rb)]))
    refine own_step (own_lenI X104 hx hZ rfl w104_0 (g := (mkF m 118 #[.val (.int p1), .val (.long q2), .second, .val (.long q3), .second, .val (.long q4), .second, .val (.int (0 : Int32)), .val (.ref b2), .val (.ref b4), .val (.ref b11), .val (.ref bx104_rb)] [(.ref bx104_rb)])) rfl rfl (hb hby at_118)) ?_
    show own_G p.tables e below _ (T104.setTop (mkF m 119 #[.val (.int p1), .val (.long q2), .second, .val (.long q3), .second, .val (.long q4), .second, .val (.int (0 : Int32)), .val (.ref b2), .val (.ref b4), .val (.ref b11), .val (.ref bx104_rb)] [(.int (0 : Int32))]))
    refine own_step (fun t k => XS.iconst X104.here hx rfl (hb hby at_119) k) ?_
    show own_G p.tables e below _ (T104.setTop (mkF m 120 #[.val (.int p1), .val (.long q2), .second, .val (.long q3), .second, .val (.long q4), .second, .val (.int (0 : Int32)), .val (.ref b2), .val (.ref b4), .val (.ref b11), .val (.ref bx104_rb)] [(.int (2 : Int32)), (.int (0 : Int32))]))
    refine own_step (fun t k => XS.iload X104.here hx rfl (hb hby at_120) rfl k) ?_
    show own_G p.tables e below _ (T104.setTop (mkF m 122 #[.val (.int p1), .val (.long q2), .second, .val (.long q3), .second, .val (.long q4), .second, .val (.int (0 : Int32)), .val (.ref b2), .val (.ref b4), .val (.ref b11), .val (.ref bx104_rb)] [(.int (0 : Int32)), (.int (2 : Int32)), (.int (0 : Int32))]))
    refine own_step (fun t k => XS.imul X104.here hx rfl (hb hby at_122) rfl k) ?_
    show own_G p.tables e below _ (T104.setTop (mkF m 123 #[.val (.int p1), .val (.long q2), .second, .val (.long q3), .second, .val (.long q4), .second, .val (.int (0 : Int32)), .val (.ref b2), .val (.ref b4), .val (.ref b11), .val (.ref bx104_rb)] [(.int (0 : Int32)), (.int (0 : Int32))]))
    have hk125 : (0 : Int32) = (0 : Int32) := rfl
    refine own_step (fun t k => XS.icmpYes X104.here hx rfl (pc0 := 123) (pc' := 128) rfl (hb hby at_123) rfl ((teq hk125).1) (by decide) (by decide) k) ?_
    show own_G p.tables e below _ (T104.setTop (mkF m 128 #[.val (.int p1), .val (.long q2), .second, .val (.long q3), .second, .val (.long q4), .second, .val (.int (0 : Int32)), .val (.ref b2), .val (.ref b4), .val (.ref b11), .val (.ref bx104_rb)] []))
    refine own_step (fun t k => XS.aload X104.here hx rfl (hb hby at_128) rfl rfl k) ?_
    show own_G p.tables e below _ (T104.setTop (mkF m 130 #[.val (.int p1), .val (.long q2), .second, .val (.long q3), .second, .val (.long q4), .second, .val (.int (0 : Int32)), .val (.ref b2), .val (.ref b4), .val (.ref b11), .val (.ref bx104_rb)] [(.ref bx104_rb)]))
    refine own_step (fun t k => XS.aload X104.here hx rfl (hb hby at_130) rfl rfl k) ?_
    show own_G p.tables e below _ (T104.setTop (mkF m 132 #[.val (.int p1), .val (.long q2), .second, .val (.long q3), .second, .val (.long q4), .second, .val (.int (0 : Int32)), .val (.ref b2), .val (.ref b4), .val (.ref b11), .val (.ref bx104_rb)] [(.ref b2), (.ref bx104_rb)]))
    refine own_step (fun t k => XS.aload X104.here hx rfl (hb hby at_132) rfl rfl k) ?_
    show own_G p.tables e below _ (T104.setTop (mkF m 134 #[.val (.int p1), .val (.long q2), .second, .val (.long q3), .second, .val (.long q4), .second, .val (.int (0 : Int32)), .val (.ref b2), .val (.ref b4), .val (.ref b11), .val (.ref bx104_rb)] [(.ref b4), (.ref b2), (.ref bx104_rb)]))
    refine own_step (fun t k => XS.iconst X104.here hx rfl (hb hby at_134) k) ?_
    show own_G p.tables e below _ (T104.setTop (mkF m 135 #[.val (.int p1), .val (.long q2), .second, .val (.long q3), .second, .val (.long q4), .second, .val (.int (0 : Int32)), .val (.ref b2), .val (.ref b4), .val (.ref b11), .val (.ref bx104_rb)] [(.int (0 : Int32)), (.ref b4), (.ref b2), (.ref bx104_rb)]))
    refine own_step (fun t k => XS.iload X104.here hx rfl (hb hby at_135) rfl k) ?_
    show own_G p.tables e below _ (T104.setTop (mkF m 137 #[.val (.int p1), .val (.long q2), .second, .val (.long q3), .second, .val (.long q4), .second, .val (.int (0 : Int32)), .val (.ref b2), .val (.ref b4), .val (.ref b11), .val (.ref bx104_rb)] [(.int (0 : Int32)), (.int (0 : Int32)), (.ref b4), (.ref b2), (.ref bx104_rb)]))
    refine own_step (fun t k => XS.lloadN X104.here hx rfl (hb hby at_137) rfl k) ?_
    show own_G p.tables e below _ (T104.setTop (mkF m 138 #[.val (.int p1), .val (.long q2), .second, .val (.long q3), .second, .val (.long q4), .second, .val (.int (0 : Int32)), .val (.ref b2), .val (.ref b4), .val (.ref b11), .val (.ref bx104_rb)] [(.long q2), (.int (0 : Int32)), (.int (0 : Int32)), (.ref b4), (.ref b2), (.ref bx104_rb)]))
    obtain ⟨_, _, ⟨T126, L126, k126, n126⟩, -, X126, ⟨Lc126, hQ126, l126, y126, z126⟩, st126⟩ := Jvm.LawKit.callS X104 hx (y := (⟨"com/example/stevedore/stevedore/MoveGraphEndsPinLaw", "pair", "([I[I[IIIJ)Z"⟩ : MethodName)) hown (mvT hZ (hw _ (List.mem_of_getElem? (i := 32) rfl))) (mvT hZ (hw _ (List.mem_of_getElem? (i := 33) rfl))) (mvT hZ (hw _ (List.mem_of_getElem? (i := 34) rfl))) (mvT hZ (hw _ (List.mem_of_getElem? (i := 35) rfl))) (by decide) (backOf (W := 0) (rm5_e0_0 l Z a0 hw [] bx104_rb b2 b4 q2 T104.heap n0 (Nat.le_trans Z0 K104.1) w104_0 c105 c106) hZ (hw _ (List.mem_of_getElem? (i := 35) rfl)) (hw _ (List.mem_of_getElem? (i := 34) rfl)) (by decide) (by decide)) (g := (mkF m 138 #[.val (.int p1), .val (.long q2), .second, .val (.long q3), .second, .val (.long q4), .second, .val (.int (0 : Int32)), .val (.ref b2), .val (.ref b4), .val (.ref b11), .val (.ref bx104_rb)] [(.long q2), (.int (0 : Int32)), (.int (0 : Int32)), (.ref b4), (.ref b2), (.ref bx104_rb)])) rfl (by rw [hml]; rfl) (argsL := [(.ref bx104_rb), (.ref b2), (.ref b4), (.int (0 : Int32)), (.int (0 : Int32)), (.long q2)]) (rest := []) (lenOf pd_0_2 rfl) rfl (by show 2 * 0 + _ ≤ _; exact Nat.le_of_eq rfl) (hb hby at_138) (fun _ _ => ⟨rfl, rfl, (by decide : 8 + 0 ≤ _), (by decide : 6 + 0 ≤ _)⟩)
    dsimp only [Pt.U, Pt.locs, Pt.cells, Pt.slots] at X126 l126 y126 z126 st126 hQ126
    subst l126 y126 z126
    obtain ⟨rfl, N126q, e126⟩ := hQ126
    have N126 := Fr.app N104 N126q
    refine own_step st126 ?_
    show own_G p.tables e below _ (T126.setTop (mkF m 141 #[.val (.int p1), .val (.long q2), .second, .val (.long q3), .second, .val (.long q4), .second, .val (.int (0 : Int32)), .val (.ref b2), .val (.ref b4), .val (.ref b11), .val (.ref bx104_rb)] [(.int (1 : Int32))]))
    have hk127 : ¬ ((1 : Int32) = (0 : Int32)) := (by decide)
    refine own_step (fun t k => XS.ifNo X126.here hx rfl (hb hby at_141) rfl ((if0 _ _).trans (feq hk127).1) k) ?_
    show own_G p.tables e below _ (T126.setTop (mkF m 144 #[.val (.int p1), .val (.long q2), .second, .val (.long q3), .second, .val (.long q4), .second, .val (.int (0 : Int32)), .val (.ref b2), .val (.ref b4), .val (.ref b11), .val (.ref bx104_rb)] []))
    refine own_step (fun t k => XS.aload X126.here hx rfl (hb hby at_144) rfl rfl k) ?_
    show own_G p.tables e below _ (T126.setTop (mkF m 146 #[.val (.int p1), .val (.long q2), .second, .val (.long q3), .second, .val (.long q4), .second, .val (.int (0 : Int32)), .val (.ref b2), .val (.ref b4), .val (.ref b11), .val (.ref bx104_rb)] [(.ref bx104_rb)]))
    refine own_step (fun t k => XS.aload X126.here hx rfl (hb hby at_146) rfl rfl k) ?_
    show own_G p.tables e below _ (T126.setTop (mkF m 148 #[.val (.int p1), .val (.long q2), .second, .val (.long q3), .second, .val (.long q4), .second, .val (.int (0 : Int32)), .val (.ref b2), .val (.ref b4), .val (.ref b11), .val (.ref bx104_rb)] [(.ref b2), (.ref bx104_rb)]))
    refine own_step (fun t k => XS.aload X126.here hx rfl (hb hby at_148) rfl rfl k) ?_
    show own_G p.tables e below _ (T126.setTop (mkF m 150 #[.val (.int p1), .val (.long q2), .second, .val (.long q3), .second, .val (.long q4), .second, .val (.int (0 : Int32)), .val (.ref b2), .val (.ref b4), .val (.ref b11), .val (.ref bx104_rb)] [(.ref b4), (.ref b2), (.ref bx104_rb)]))
    refine own_step (fun t k => XS.iconst X126.here hx rfl (hb hby at_150) k) ?_
    show own_G p.tables e below _ (T126.setTop (mkF m 151 #[.val (.int p1), .val (.long q2), .second, .val (.long q3), .second, .val (.long q4), .second, .val (.int (0 : Int32)), .val (.ref b2), .val (.ref b4), .val (.ref b11), .val (.ref bx104_rb)] [(.int (1 : Int32)), (.ref b4), (.ref b2), (.ref bx104_rb)]))
    refine own_step (fun t k => XS.iload X126.here hx rfl (hb hby at_151) rfl k) ?_
    show own_G p.tables e below _ (T126.setTop (mkF m 153 #[.val (.int p1), .val (.long q2), .second, .val (.long q3), .second, .val (.long q4), .second, .val (.int (0 : Int32)), .val (.ref b2), .val (.ref b4), .val (.ref b11), .val (.ref bx104_rb)] [(.int (0 : Int32)), (.int (1 : Int32)), (.ref b4), (.ref b2), (.ref bx104_rb)]))
    refine own_step (fun t k => XS.lloadN X126.here hx rfl (hb hby at_153) rfl k) ?_
    show own_G p.tables e below _ (T126.setTop (mkF m 154 #[.val (.int p1), .val (.long q2), .second, .val (.long q3), .second, .val (.long q4), .second, .val (.int (0 : Int32)), .val (.ref b2), .val (.ref b4), .val (.ref b11), .val (.ref bx104_rb)] [(.long q3), (.int (0 : Int32)), (.int (1 : Int32)), (.ref b4), (.ref b2), (.ref bx104_rb)]))
    obtain ⟨_, _, ⟨T128, L128, k128, n128⟩, -, X128, ⟨Lc128, hQ128, l128, y128, z128⟩, st128⟩ := Jvm.LawKit.callS X126 hx (y := (⟨"com/example/stevedore/stevedore/MoveGraphEndsPinLaw", "pair", "([I[I[IIIJ)Z"⟩ : MethodName)) hown (mvT hZ (hw _ (List.mem_of_getElem? (i := 32) rfl))) (mvT hZ (hw _ (List.mem_of_getElem? (i := 33) rfl))) (mvT hZ (hw _ (List.mem_of_getElem? (i := 34) rfl))) (mvT hZ (hw _ (List.mem_of_getElem? (i := 35) rfl))) (by decide) (backOf (W := 0) (rm5_e1_0 l Z a0 hw [] bx104_rb b2 b4 q3 T104.heap n0 (Nat.le_trans Z0 K104.1) w104_0 c105 c106) hZ (hw _ (List.mem_of_getElem? (i := 35) rfl)) (hw _ (List.mem_of_getElem? (i := 34) rfl)) (by decide) (by decide)) (g := (mkF m 154 #[.val (.int p1), .val (.long q2), .second, .val (.long q3), .second, .val (.long q4), .second, .val (.int (0 : Int32)), .val (.ref b2), .val (.ref b4), .val (.ref b11), .val (.ref bx104_rb)] [(.long q3), (.int (0 : Int32)), (.int (1 : Int32)), (.ref b4), (.ref b2), (.ref bx104_rb)])) rfl (by rw [hml]; rfl) (argsL := [(.ref bx104_rb), (.ref b2), (.ref b4), (.int (1 : Int32)), (.int (0 : Int32)), (.long q3)]) (rest := []) (lenOf pd_0_2 rfl) rfl (by show 2 * 0 + _ ≤ _; exact Nat.le_of_eq rfl) (hb hby at_154) (fun _ _ => ⟨rfl, e126, (by decide : 8 + 0 ≤ _), (by decide : 6 + 0 ≤ _)⟩)
    dsimp only [Pt.U, Pt.locs, Pt.cells, Pt.slots] at X128 l128 y128 z128 st128 hQ128
    subst l128 y128 z128
    obtain ⟨rfl, N128q, e128⟩ := hQ128
    have N128 := Fr.app N126 N128q
    refine own_step st128 ?_
    show own_G p.tables e below _ (T128.setTop (mkF m 157 #[.val (.int p1), .val (.long q2), .second, .val (.long q3), .second, .val (.long q4), .second, .val (.int (0 : Int32)), .val (.ref b2), .val (.ref b4), .val (.ref b11), .val (.ref bx104_rb)] [(.int (1 : Int32))]))
    have hk129 : ¬ ((1 : Int32) = (0 : Int32)) := (by decide)
    refine own_step (fun t k => XS.ifNo X128.here hx rfl (hb hby at_157) rfl ((if0 _ _).trans (feq hk129).1) k) ?_
    show own_G p.tables e below _ (T128.setTop (mkF m 160 #[.val (.int p1), .val (.long q2), .second, .val (.long q3), .second, .val (.long q4), .second, .val (.int (0 : Int32)), .val (.ref b2), .val (.ref b4), .val (.ref b11), .val (.ref bx104_rb)] []))
    refine own_step (fun t k => XS.aload X128.here hx rfl (hb hby at_160) rfl rfl k) ?_
    show own_G p.tables e below _ (T128.setTop (mkF m 162 #[.val (.int p1), .val (.long q2), .second, .val (.long q3), .second, .val (.long q4), .second, .val (.int (0 : Int32)), .val (.ref b2), .val (.ref b4), .val (.ref b11), .val (.ref bx104_rb)] [(.ref bx104_rb)]))
    refine own_step (fun t k => XS.aload X128.here hx rfl (hb hby at_162) rfl rfl k) ?_
    show own_G p.tables e below _ (T128.setTop (mkF m 164 #[.val (.int p1), .val (.long q2), .second, .val (.long q3), .second, .val (.long q4), .second, .val (.int (0 : Int32)), .val (.ref b2), .val (.ref b4), .val (.ref b11), .val (.ref bx104_rb)] [(.ref b2), (.ref bx104_rb)]))
    refine own_step (fun t k => XS.aload X128.here hx rfl (hb hby at_164) rfl rfl k) ?_
    show own_G p.tables e below _ (T128.setTop (mkF m 166 #[.val (.int p1), .val (.long q2), .second, .val (.long q3), .second, .val (.long q4), .second, .val (.int (0 : Int32)), .val (.ref b2), .val (.ref b4), .val (.ref b11), .val (.ref bx104_rb)] [(.ref b4), (.ref b2), (.ref bx104_rb)]))
    refine own_step (fun t k => XS.iconst X128.here hx rfl (hb hby at_166) k) ?_
    show own_G p.tables e below _ (T128.setTop (mkF m 167 #[.val (.int p1), .val (.long q2), .second, .val (.long q3), .second, .val (.long q4), .second, .val (.int (0 : Int32)), .val (.ref b2), .val (.ref b4), .val (.ref b11), .val (.ref bx104_rb)] [(.int (2 : Int32)), (.ref b4), (.ref b2), (.ref bx104_rb)]))
    refine own_step (fun t k => XS.iload X128.here hx rfl (hb hby at_167) rfl k) ?_
    show own_G p.tables e below _ (T128.setTop (mkF m 169 #[.val (.int p1), .val (.long q2), .second, .val (.long q3), .second, .val (.long q4), .second, .val (.int (0 : Int32)), .val (.ref b2), .val (.ref b4), .val (.ref b11), .val (.ref bx104_rb)] [(.int (0 : Int32)), (.int (2 : Int32)), (.ref b4), (.ref b2), (.ref bx104_rb)]))
    refine own_step (fun t k => XS.lload X128.here hx rfl (hb hby at_169) rfl k) ?_
    show own_G p.tables e below _ (T128.setTop (mkF m 171 #[.val (.int p1), .val (.long q2), .second, .val (.long q3), .second, .val (.long q4), .second, .val (.int (0 : Int32)), .val (.ref b2), .val (.ref b4), .val (.ref b11), .val (.ref bx104_rb)] [(.long q4), (.int (0 : Int32)), (.int (2 : Int32)), (.ref b4), (.ref b2), (.ref bx104_rb)]))
    obtain ⟨_, _, ⟨T130, L130, k130, n130⟩, -, X130, ⟨Lc130, hQ130, l130, y130, z130⟩, st130⟩ := Jvm.LawKit.callS X128 hx (y := (⟨"com/example/stevedore/stevedore/MoveGraphEndsPinLaw", "pair", "([I[I[IIIJ)Z"⟩ : MethodName)) hown (mvT hZ (hw _ (List.mem_of_getElem? (i := 32) rfl))) (mvT hZ (hw _ (List.mem_of_getElem? (i := 33) rfl))) (mvT hZ (hw _ (List.mem_of_getElem? (i := 34) rfl))) (mvT hZ (hw _ (List.mem_of_getElem? (i := 35) rfl))) (by decide) (backOf (W := 0) (rm5_e2_0 l Z a0 hw [] bx104_rb b2 b4 q4 T104.heap n0 (Nat.le_trans Z0 K104.1) w104_0 c105 c106) hZ (hw _ (List.mem_of_getElem? (i := 35) rfl)) (hw _ (List.mem_of_getElem? (i := 34) rfl)) (by decide) (by decide)) (g := (mkF m 171 #[.val (.int p1), .val (.long q2), .second, .val (.long q3), .second, .val (.long q4), .second, .val (.int (0 : Int32)), .val (.ref b2), .val (.ref b4), .val (.ref b11), .val (.ref bx104_rb)] [(.long q4), (.int (0 : Int32)), (.int (2 : Int32)), (.ref b4), (.ref b2), (.ref bx104_rb)])) rfl (by rw [hml]; rfl) (argsL := [(.ref bx104_rb), (.ref b2), (.ref b4), (.int (2 : Int32)), (.int (0 : Int32)), (.long q4)]) (rest := []) (lenOf pd_0_2 rfl) rfl (by show 2 * 0 + _ ≤ _; exact Nat.le_of_eq rfl) (hb hby at_171) (fun _ _ => ⟨rfl, e128, (by decide : 8 + 0 ≤ _), (by decide : 6 + 0 ≤ _)⟩)
    dsimp only [Pt.U, Pt.locs, Pt.cells, Pt.slots] at X130 l130 y130 z130 st130 hQ130
    subst l130 y130 z130
    obtain ⟨rfl, N130q, e130⟩ := hQ130
    have N130 := Fr.app N128 N130q
    refine own_step st130 ?_
    show own_G p.tables e below _ (T130.setTop (mkF m 174 #[.val (.int p1), .val (.long q2), .second, .val (.long q3), .second, .val (.long q4), .second, .val (.int (0 : Int32)), .val (.ref b2), .val (.ref b4), .val (.ref b11), .val (.ref bx104_rb)] [(.int (1 : Int32))]))
    have hk131 : ¬ ((1 : Int32) = (0 : Int32)) := (by decide)
    refine own_step (fun t k => XS.ifNo X130.here hx rfl (hb hby at_174) rfl ((if0 _ _).trans (feq hk131).1) k) ?_
    show own_G p.tables e below _ (T130.setTop (mkF m 177 #[.val (.int p1), .val (.long q2), .second, .val (.long q3), .second, .val (.long q4), .second, .val (.int (0 : Int32)), .val (.ref b2), .val (.ref b4), .val (.ref b11), .val (.ref bx104_rb)] []))
    refine own_step (fun t k => XS.iconst X130.here hx rfl (hb hby at_177) k) ?_
    show own_G p.tables e below _ (T130.setTop (mkF m 178 #[.val (.int p1), .val (.long q2), .second, .val (.long q3), .second, .val (.long q4), .second, .val (.int (0 : Int32)), .val (.ref b2), .val (.ref b4), .val (.ref b11), .val (.ref bx104_rb)] [(.int (1 : Int32))]))
    refine own_step (fun t k => XS.goto X130.here hx rfl (pc0 := 178) (pc' := 182) rfl (hb hby at_178) (by decide) (by decide) k) ?_
    show own_G p.tables e below _ (T130.setTop (mkF m 182 #[.val (.int p1), .val (.long q2), .second, .val (.long q3), .second, .val (.long q4), .second, .val (.int (0 : Int32)), .val (.ref b2), .val (.ref b4), .val (.ref b11), .val (.ref bx104_rb)] [(.int (1 : Int32))]))
    obtain ⟨fs, hr, hrun, hended, hW, hsame⟩ := X130.leave (v := some (.int (1 : Int32))) (fun h => by rw [Bd.returns] at h; cases h)
    refine own_done (retN X130 hx (t := .boolean) Bd.returns (by simp) (hb hby at_182) hr) hrun hended ⟨_, _, rfl, ?_, ⟨_, rfl⟩, hW, hsame.mono (by decide) (by decide)⟩
    show Q0 Z p1 q2 q3 q4 h0 n0 _ T130.heap _
    rw [e130]
    exact ⟨rfl, N130⟩
  · skip
    show own_G p.tables e below _ (s₁.setTop (mkF m 5 #[.val (.int p1), .val (.long q2), .second, .val (.long q3), .second, .val (.long q4), .second, .val (.int (1 : Int32)), .unset, .unset, .unset, .unset] []))
    refine own_step (fun t k => XS.iload X0.here hx rfl (hb hby at_5) rfl k) ?_
    show own_G p.tables e below _ (s₁.setTop (mkF m 7 #[.val (.int p1), .val (.long q2), .second, .val (.long q3), .second, .val (.long q4), .second, .val (.int (1 : Int32)), .unset, .unset, .unset, .unset] [(.int (1 : Int32))]))
    obtain ⟨T132, h132, k132, X132, e132, E132, A132, st132⟩ := newP X0 hx hZ (hw _ (List.mem_of_getElem? (i := 0) rfl)) e0 (g := (mkF m 7 #[.val (.int p1), .val (.long q2), .second, .val (.long q3), .second, .val (.long q4), .second, .val (.int (1 : Int32)), .unset, .unset, .unset, .unset] [(.int (1 : Int32))])) rfl (hb hby at_7) rfl (by decide) (cap := 1) (by decide) (by decide) (by decide) (by decide)
    obtain ⟨b132, g132⟩ : ∃ z, z = h0.size := ⟨_, rfl⟩
    have sz132 : h0.size ≤ b132 := Nat.le_trans (Keep.refl h0 []).1 (Nat.le_of_eq g132.symm)
    have ge132 : n0 ≤ b132 := Nat.le_trans Z0 sz132
    have K132 : Keep h0 h132 [] := (Keep.refl h0 []).ext E132
    rw [← g132] at A132 st132
    have c133 : own_Ari Z h132 b132 .int [(0 : Int32)] := own_Ari_new (ty := .int) A132 (by decide) rfl
    refine own_step st132 ?_
    show own_G p.tables e below _ (T132.setTop (mkF m 9 #[.val (.int p1), .val (.long q2), .second, .val (.long q3), .second, .val (.long q4), .second, .val (.int (1 : Int32)), .unset, .unset, .unset, .unset] [(.ref b132)]))
    refine own_step (fun t k => XS.astore X132.here hx rfl (hb hby at_9) rfl rfl (l' := #[.val (.int p1), .val (.long q2), .second, .val (.long q3), .second, .val (.long q4), .second, .val (.int (1 : Int32)), .val (.ref b132), .unset, .unset, .unset]) rfl k) ?_
    show own_G p.tables e below _ (T132.setTop (mkF m 11 #[.val (.int p1), .val (.long q2), .second, .val (.long q3), .second, .val (.long q4), .second, .val (.int (1 : Int32)), .val (.ref b132), .unset, .unset, .unset] []))
    refine own_step (fun t k => XS.iload X132.here hx rfl (hb hby at_11) rfl k) ?_
    show own_G p.tables e below _ (T132.setTop (mkF m 13 #[.val (.int p1), .val (.long q2), .second, .val (.long q3), .second, .val (.long q4), .second, .val (.int (1 : Int32)), .val (.ref b132), .unset, .unset, .unset] [(.int (1 : Int32))]))
    obtain ⟨T134, h134, k134, X134, e134, E134, A134, st134⟩ := newP X132 hx hZ (hw _ (List.mem_of_getElem? (i := 0) rfl)) e132 (g := (mkF m 13 #[.val (.int p1), .val (.long q2), .second, .val (.long q3), .second, .val (.long q4), .second, .val (.int (1 : Int32)), .val (.ref b132), .unset, .unset, .unset] [(.int (1 : Int32))])) rfl (hb hby at_13) rfl (by decide) (cap := 1) (by decide) (by decide) (by decide) (by decide)
    obtain ⟨b134, g134⟩ : ∃ z, z = h132.size := ⟨_, rfl⟩
    have ne135 : b132 ≠ b134 := Nat.ne_of_lt (Nat.lt_of_lt_of_le c133.lt (Nat.le_of_eq g134.symm))
    have sz134 : h0.size ≤ b134 := Nat.le_trans K132.1 (Nat.le_of_eq g134.symm)
    have ge134 : n0 ≤ b134 := Nat.le_trans Z0 sz134
    have c136 : own_Ari Z h134 b132 .int [(0 : Int32)] := c133.ext E134
    have K134 : Keep h0 h134 [] := K132.ext E134
    rw [← g134] at A134 st134
    have c137 : own_Ari Z h134 b134 .int [(0 : Int32)] := own_Ari_new (ty := .int) A134 (by decide) rfl
    refine own_step st134 ?_
    show own_G p.tables e below _ (T134.setTop (mkF m 15 #[.val (.int p1), .val (.long q2), .second, .val (.long q3), .second, .val (.long q4), .second, .val (.int (1 : Int32)), .val (.ref b132), .unset, .unset, .unset] [(.ref b134)]))
    refine own_step (fun t k => XS.astore X134.here hx rfl (hb hby at_15) rfl rfl (l' := #[.val (.int p1), .val (.long q2), .second, .val (.long q3), .second, .val (.long q4), .second, .val (.int (1 : Int32)), .val (.ref b132), .val (.ref b134), .unset, .unset]) rfl k) ?_
    show own_G p.tables e below _ (T134.setTop (mkF m 17 #[.val (.int p1), .val (.long q2), .second, .val (.long q3), .second, .val (.long q4), .second, .val (.int (1 : Int32)), .val (.ref b132), .val (.ref b134), .unset, .unset] []))
    refine own_step (fun t k => XS.iload X134.here hx rfl (hb hby at_17) rfl k) ?_
    show own_G p.tables e below _ (T134.setTop (mkF m 19 #[.val (.int p1), .val (.long q2), .second, .val (.long q3), .second, .val (.long q4), .second, .val (.int (1 : Int32)), .val (.ref b132), .val (.ref b134), .unset, .unset] [(.int (1 : Int32))]))
    have hk138 : (0 : Int32) < (1 : Int32) := (by decide)
    refine own_step (fun t k => XS.ifNo X134.here hx rfl (hb hby at_19) rfl ((if0 _ _).trans (tlt hk138).2.2.2) k) ?_
    show own_G p.tables e below _ (T134.setTop (mkF m 22 #[.val (.int p1), .val (.long q2), .second, .val (.long q3), .second, .val (.long q4), .second, .val (.int (1 : Int32)), .val (.ref b132), .val (.ref b134), .unset, .unset] []))
    refine own_step (fun t k => XS.aload X134.here hx rfl (hb hby at_22) rfl rfl k) ?_
    show own_G p.tables e below _ (T134.setTop (mkF m 24 #[.val (.int p1), .val (.long q2), .second, .val (.long q3), .second, .val (.long q4), .second, .val (.int (1 : Int32)), .val (.ref b132), .val (.ref b134), .unset, .unset] [(.ref b132)]))
    refine own_step (fun t k => XS.iconst X134.here hx rfl (hb hby at_24) k) ?_
    show own_G p.tables e below _ (T134.setTop (mkF m 25 #[.val (.int p1), .val (.long q2), .second, .val (.long q3), .second, .val (.long q4), .second, .val (.int (1 : Int32)), .val (.ref b132), .val (.ref b134), .unset, .unset] [(.int (0 : Int32)), (.ref b132)]))
    refine own_step (fun t k => XS.lloadN X134.here hx rfl (hb hby at_25) rfl k) ?_
    show own_G p.tables e below _ (T134.setTop (mkF m 26 #[.val (.int p1), .val (.long q2), .second, .val (.long q3), .second, .val (.long q4), .second, .val (.int (1 : Int32)), .val (.ref b132), .val (.ref b134), .unset, .unset] [(.long q2), (.int (0 : Int32)), (.ref b132)]))
    obtain ⟨_, _, ⟨T139, L139, k139, n139⟩, -, X139, ⟨Lc139, hQ139, l139, y139, z139⟩, st139⟩ := Jvm.LawKit.callS X134 hx (y := (⟨"com/example/stevedore/stevedore/MoveGraphEndsPinLaw", "hi", "(J)I"⟩ : MethodName)) hown (mvT hZ (hw _ (List.mem_of_getElem? (i := 36) rfl))) (mvT hZ (hw _ (List.mem_of_getElem? (i := 37) rfl))) (mvT hZ (hw _ (List.mem_of_getElem? (i := 34) rfl))) (mvT hZ (hw _ (List.mem_of_getElem? (i := 38) rfl))) (by decide) (backOf (W := 2) (rm6 l Z a0 hw [] q2 h134 n0 (Nat.le_trans Z0 K134.1) ) hZ (hw _ (List.mem_of_getElem? (i := 38) rfl)) (hw _ (List.mem_of_getElem? (i := 34) rfl)) (by decide) (by decide)) (g := (mkF m 26 #[.val (.int p1), .val (.long q2), .second, .val (.long q3), .second, .val (.long q4), .second, .val (.int (1 : Int32)), .val (.ref b132), .val (.ref b134), .unset, .unset] [(.long q2), (.int (0 : Int32)), (.ref b132)])) rfl (by rw [hml]; rfl) (argsL := [(.long q2)]) (rest := [(.int (0 : Int32)), (.ref b132)]) (lenOf pd_0_3 rfl) rfl (by show 2 * 0 + _ ≤ _; exact Nat.le_of_eq rfl) (hb hby at_26) (fun _ _ => ⟨rfl, e134, (by decide : 2 + 0 ≤ _), (by decide : 2 + 0 ≤ _)⟩)
    dsimp only [Pt.U, Pt.locs, Pt.cells, Pt.slots] at X139 l139 y139 z139 st139 hQ139
    subst l139 y139 z139
    obtain ⟨rfl, N139q, e139⟩ := hQ139
    have N139 := Fr.app N0 N139q
    refine own_step st139 ?_
    show own_G p.tables e below _ (T139.setTop (mkF m 29 #[.val (.int p1), .val (.long q2), .second, .val (.long q3), .second, .val (.long q4), .second, .val (.int (1 : Int32)), .val (.ref b132), .val (.ref b134), .unset, .unset] [(.int (((q2.toUInt64 >>> ((32 : Int32) &&& 0x3f).toInt64.toUInt64).toInt64).toInt32)), (.int (0 : Int32)), (.ref b132)]))
    obtain ⟨T140, h140, X140, e140, W140, c140, st140⟩ := own_iastore X139 hx hZ e139 c136 (own_inb (by decide) (Nat.le_of_ble_eq_true rfl)) (g := (mkF m 29 #[.val (.int p1), .val (.long q2), .second, .val (.long q3), .second, .val (.long q4), .second, .val (.int (1 : Int32)), .val (.ref b132), .val (.ref b134), .unset, .unset] [(.int (((q2.toUInt64 >>> ((32 : Int32) &&& 0x3f).toInt64.toUInt64).toInt64).toInt32)), (.int (0 : Int32)), (.ref b132)])) rfl rfl (hb hby at_29)
    have N140 := Fr.snoc X140 N139 ge132
    have c141 : own_Ari Z h140 b132 .int [(((q2.toUInt64 >>> ((32 : Int32) &&& 0x3f).toInt64.toUInt64).toInt64).toInt32)] := c140
    have c143 : own_Ari Z h140 b134 .int [(0 : Int32)] := c137.other W140 (Ne.symm ne135)
    have K140 : Keep h0 h140 [] := K134.wr W140 (Or.inr sz132)
    refine own_step st140 ?_
    show own_G p.tables e below _ (T140.setTop (mkF m 30 #[.val (.int p1), .val (.long q2), .second, .val (.long q3), .second, .val (.long q4), .second, .val (.int (1 : Int32)), .val (.ref b132), .val (.ref b134), .unset, .unset] []))
    refine own_step (fun t k => XS.aload X140.here hx rfl (hb hby at_30) rfl rfl k) ?_
    show own_G p.tables e below _ (T140.setTop (mkF m 32 #[.val (.int p1), .val (.long q2), .second, .val (.long q3), .second, .val (.long q4), .second, .val (.int (1 : Int32)), .val (.ref b132), .val (.ref b134), .unset, .unset] [(.ref b134)]))
    refine own_step (fun t k => XS.iconst X140.here hx rfl (hb hby at_32) k) ?_
    show own_G p.tables e below _ (T140.setTop (mkF m 33 #[.val (.int p1), .val (.long q2), .second, .val (.long q3), .second, .val (.long q4), .second, .val (.int (1 : Int32)), .val (.ref b132), .val (.ref b134), .unset, .unset] [(.int (0 : Int32)), (.ref b134)]))
    refine own_step (fun t k => XS.lloadN X140.here hx rfl (hb hby at_33) rfl k) ?_
    show own_G p.tables e below _ (T140.setTop (mkF m 34 #[.val (.int p1), .val (.long q2), .second, .val (.long q3), .second, .val (.long q4), .second, .val (.int (1 : Int32)), .val (.ref b132), .val (.ref b134), .unset, .unset] [(.long q2), (.int (0 : Int32)), (.ref b134)]))
    obtain ⟨_, _, ⟨T144, L144, k144, n144⟩, -, X144, ⟨Lc144, hQ144, l144, y144, z144⟩, st144⟩ := Jvm.LawKit.callS X140 hx (y := (⟨"com/example/stevedore/stevedore/MoveGraphEndsPinLaw", "lo", "(J)I"⟩ : MethodName)) hown (mvT hZ (hw _ (List.mem_of_getElem? (i := 39) rfl))) (mvT hZ (hw _ (List.mem_of_getElem? (i := 40) rfl))) (mvT hZ (hw _ (List.mem_of_getElem? (i := 34) rfl))) (mvT hZ (hw _ (List.mem_of_getElem? (i := 41) rfl))) (by decide) (backOf (W := 2) (rm7 l Z a0 hw [] q2 h140 n0 (Nat.le_trans Z0 K140.1) ) hZ (hw _ (List.mem_of_getElem? (i := 41) rfl)) (hw _ (List.mem_of_getElem? (i := 34) rfl)) (by decide) (by decide)) (g := (mkF m 34 #[.val (.int p1), .val (.long q2), .second, .val (.long q3), .second, .val (.long q4), .second, .val (.int (1 : Int32)), .val (.ref b132), .val (.ref b134), .unset, .unset] [(.long q2), (.int (0 : Int32)), (.ref b134)])) rfl (by rw [hml]; rfl) (argsL := [(.long q2)]) (rest := [(.int (0 : Int32)), (.ref b134)]) (lenOf pd_0_3 rfl) rfl (by show 2 * 0 + _ ≤ _; exact Nat.le_of_eq rfl) (hb hby at_34) (fun _ _ => ⟨rfl, e140, (by decide : 2 + 0 ≤ _), (by decide : 2 + 0 ≤ _)⟩)
    dsimp only [Pt.U, Pt.locs, Pt.cells, Pt.slots] at X144 l144 y144 z144 st144 hQ144
    subst l144 y144 z144
    obtain ⟨rfl, N144q, e144⟩ := hQ144
    have N144 := Fr.app N140 N144q
    refine own_step st144 ?_
    show own_G p.tables e below _ (T144.setTop (mkF m 37 #[.val (.int p1), .val (.long q2), .second, .val (.long q3), .second, .val (.long q4), .second, .val (.int (1 : Int32)), .val (.ref b132), .val (.ref b134), .unset, .unset] [(.int (q2.toInt32)), (.int (0 : Int32)), (.ref b134)]))
    obtain ⟨T145, h145, X145, e145, W145, c145, st145⟩ := own_iastore X144 hx hZ e144 c143 (own_inb (by decide) (Nat.le_of_ble_eq_true rfl)) (g := (mkF m 37 #[.val (.int p1), .val (.long q2), .second, .val (.long q3), .second, .val (.long q4), .second, .val (.int (1 : Int32)), .val (.ref b132), .val (.ref b134), .unset, .unset] [(.int (q2.toInt32)), (.int (0 : Int32)), (.ref b134)])) rfl rfl (hb hby at_37)
    have N145 := Fr.snoc X145 N144 ge134
    have c146 : own_Ari Z h145 b134 .int [(q2.toInt32)] := c145
    have c147 : own_Ari Z h145 b132 .int [(((q2.toUInt64 >>> ((32 : Int32) &&& 0x3f).toInt64.toUInt64).toInt64).toInt32)] := c141.other W145 ne135
    have K145 : Keep h0 h145 [] := K140.wr W145 (Or.inr sz134)
    refine own_step st145 ?_
    show own_G p.tables e below _ (T145.setTop (mkF m 38 #[.val (.int p1), .val (.long q2), .second, .val (.long q3), .second, .val (.long q4), .second, .val (.int (1 : Int32)), .val (.ref b132), .val (.ref b134), .unset, .unset] []))
    refine own_step (fun t k => XS.iload X145.here hx rfl (hb hby at_38) rfl k) ?_
    show own_G p.tables e below _ (T145.setTop (mkF m 40 #[.val (.int p1), .val (.long q2), .second, .val (.long q3), .second, .val (.long q4), .second, .val (.int (1 : Int32)), .val (.ref b132), .val (.ref b134), .unset, .unset] [(.int (1 : Int32))]))
    refine own_step (fun t k => XS.iconst X145.here hx rfl (hb hby at_40) k) ?_
    show own_G p.tables e below _ (T145.setTop (mkF m 41 #[.val (.int p1), .val (.long q2), .second, .val (.long q3), .second, .val (.long q4), .second, .val (.int (1 : Int32)), .val (.ref b132), .val (.ref b134), .unset, .unset] [(.int (1 : Int32)), (.int (1 : Int32))]))
    have hk149 : ¬ ((1 : Int32) < (1 : Int32)) := (by decide)
    refine own_step (fun t k => XS.icmpYes X145.here hx rfl (pc0 := 41) (pc' := 60) rfl (hb hby at_41) rfl ((flt hk149).2.2.2) (by decide) (by decide) k) ?_
    show own_G p.tables e below _ (T145.setTop (mkF m 60 #[.val (.int p1), .val (.long q2), .second, .val (.long q3), .second, .val (.long q4), .second, .val (.int (1 : Int32)), .val (.ref b132), .val (.ref b134), .unset, .unset] []))
    refine own_step (fun t k => XS.iload X145.here hx rfl (hb hby at_60) rfl k) ?_
    show own_G p.tables e below _ (T145.setTop (mkF m 62 #[.val (.int p1), .val (.long q2), .second, .val (.long q3), .second, .val (.long q4), .second, .val (.int (1 : Int32)), .val (.ref b132), .val (.ref b134), .unset, .unset] [(.int (1 : Int32))]))
    refine own_step (fun t k => XS.iconst X145.here hx rfl (hb hby at_62) k) ?_
    show own_G p.tables e below _ (T145.setTop (mkF m 63 #[.val (.int p1), .val (.long q2), .second, .val (.long q3), .second, .val (.long q4), .second, .val (.int (1 : Int32)), .val (.ref b132), .val (.ref b134), .unset, .unset] [(.int (2 : Int32)), (.int (1 : Int32))]))
    have hk150 : ¬ ((2 : Int32) < (1 : Int32)) := (by decide)
    refine own_step (fun t k => XS.icmpYes X145.here hx rfl (pc0 := 63) (pc' := 84) rfl (hb hby at_63) rfl ((flt hk150).2.2.2) (by decide) (by decide) k) ?_
    show own_G p.tables e below _ (T145.setTop (mkF m 84 #[.val (.int p1), .val (.long q2), .second, .val (.long q3), .second, .val (.long q4), .second, .val (.int (1 : Int32)), .val (.ref b132), .val (.ref b134), .unset, .unset] []))
    obtain ⟨T151, h151, X151, e151, E151, A151, D151, -, st151⟩ := newO X145 hx hZ hown (hw _ (List.mem_of_getElem? (i := 1) rfl)) (hw _ (List.mem_of_getElem? (i := 2) rfl)) (hw _ (List.mem_of_getElem? (i := 3) rfl)) e145 (g := (mkF m 84 #[.val (.int p1), .val (.long q2), .second, .val (.long q3), .second, .val (.long q4), .second, .val (.int (1 : Int32)), .val (.ref b132), .val (.ref b134), .unset, .unset] [])) rfl (hb hby at_84) (by decide) (by decide)
    obtain ⟨b151, g151⟩ : ∃ z, z = h145.size := ⟨_, rfl⟩
    have ne152 : b132 ≠ b151 := Nat.ne_of_lt (Nat.lt_of_lt_of_le c147.lt (Nat.le_of_eq g151.symm))
    have ne153 : b134 ≠ b151 := Nat.ne_of_lt (Nat.lt_of_lt_of_le c146.lt (Nat.le_of_eq g151.symm))
    have sz151 : h0.size ≤ b151 := Nat.le_trans K145.1 (Nat.le_of_eq g151.symm)
    have ge151 : n0 ≤ b151 := Nat.le_trans Z0 sz151
    have c154 : own_Ari Z h151 b132 .int [(((q2.toUInt64 >>> ((32 : Int32) &&& 0x3f).toInt64.toUInt64).toInt64).toInt32)] := c147.ext E151
    have c155 : own_Ari Z h151 b134 .int [(q2.toInt32)] := c146.ext E151
    have K151 : Keep h0 h151 [] := K145.ext E151
    rw [← g151] at A151 D151 st151
    have c156 : Fld Z h151 b151 "com/example/stevedore/stevedore/MoveGraph" "from" "[I" .null := D151 (Or.inr (hw _ (List.mem_of_getElem? (i := 16) rfl))) (ty := (.array .int)) (by decide)
    have c157 : Fld Z h151 b151 "com/example/stevedore/stevedore/MoveGraph" "to" "[I" .null := D151 (Or.inr (hw _ (List.mem_of_getElem? (i := 18) rfl))) (ty := (.array .int)) (by decide)
    have c158 : Fld Z h151 b151 "com/example/stevedore/stevedore/MoveGraph" "limit" "[I" .null := D151 (Or.inr (hw _ (List.mem_of_getElem? (i := 20) rfl))) (ty := (.array .int)) (by decide)
    have c159 : Fld Z h151 b151 "com/example/stevedore/stevedore/MoveGraph" "send" "[I" .null := D151 (Or.inr (hw _ (List.mem_of_getElem? (i := 22) rfl))) (ty := (.array .int)) (by decide)
    have c160 : Fld Z h151 b151 "com/example/stevedore/stevedore/MoveGraph" "receive" "[I" .null := D151 (Or.inr (hw _ (List.mem_of_getElem? (i := 24) rfl))) (ty := (.array .int)) (by decide)
    have c161 : Fld Z h151 b151 "com/example/stevedore/stevedore/MoveGraph" "free" "[I" .null := D151 (Or.inr (hw _ (List.mem_of_getElem? (i := 26) rfl))) (ty := (.array .int)) (by decide)
    refine own_step st151 ?_
    show own_G p.tables e below _ (T151.setTop (mkF m 87 #[.val (.int p1), .val (.long q2), .second, .val (.long q3), .second, .val (.long q4), .second, .val (.int (1 : Int32)), .val (.ref b132), .val (.ref b134), .unset, .unset] [(.ref b151)]))
    refine own_step (fun t k => XS.dup X151.here hx rfl (hb hby at_87) rfl rfl k) ?_
    show own_G p.tables e below _ (T151.setTop (mkF m 88 #[.val (.int p1), .val (.long q2), .second, .val (.long q3), .second, .val (.long q4), .second, .val (.int (1 : Int32)), .val (.ref b132), .val (.ref b134), .unset, .unset] [(.ref b151), (.ref b151)]))
    refine own_step (fun t k => XS.aload X151.here hx rfl (hb hby at_88) rfl rfl k) ?_
    show own_G p.tables e below _ (T151.setTop (mkF m 90 #[.val (.int p1), .val (.long q2), .second, .val (.long q3), .second, .val (.long q4), .second, .val (.int (1 : Int32)), .val (.ref b132), .val (.ref b134), .unset, .unset] [(.ref b132), (.ref b151), (.ref b151)]))
    refine own_step (fun t k => XS.aload X151.here hx rfl (hb hby at_90) rfl rfl k) ?_
    show own_G p.tables e below _ (T151.setTop (mkF m 92 #[.val (.int p1), .val (.long q2), .second, .val (.long q3), .second, .val (.long q4), .second, .val (.int (1 : Int32)), .val (.ref b132), .val (.ref b134), .unset, .unset] [(.ref b134), (.ref b132), (.ref b151), (.ref b151)]))
    refine own_step (fun t k => XS.iconst X151.here hx rfl (hb hby at_92) k) ?_
    show own_G p.tables e below _ (T151.setTop (mkF m 93 #[.val (.int p1), .val (.long q2), .second, .val (.long q3), .second, .val (.long q4), .second, .val (.int (1 : Int32)), .val (.ref b132), .val (.ref b134), .unset, .unset] [(.int (0 : Int32)), (.ref b134), (.ref b132), (.ref b151), (.ref b151)]))
    obtain ⟨T162, h162, k162, X162, e162, E162, A162, st162⟩ := newP X151 hx hZ (hw _ (List.mem_of_getElem? (i := 0) rfl)) e151 (g := (mkF m 93 #[.val (.int p1), .val (.long q2), .second, .val (.long q3), .second, .val (.long q4), .second, .val (.int (1 : Int32)), .val (.ref b132), .val (.ref b134), .unset, .unset] [(.int (0 : Int32)), (.ref b134), (.ref b132), (.ref b151), (.ref b151)])) rfl (hb hby at_93) rfl (by decide) (cap := 0) (by decide) (by decide) (by decide) (by decide)
    obtain ⟨b162, g162⟩ : ∃ z, z = h151.size := ⟨_, rfl⟩
    have ne163 : b132 ≠ b162 := Nat.ne_of_lt (Nat.lt_of_lt_of_le c154.lt (Nat.le_of_eq g162.symm))
    have ne164 : b134 ≠ b162 := Nat.ne_of_lt (Nat.lt_of_lt_of_le c155.lt (Nat.le_of_eq g162.symm))
    have ne165 : b151 ≠ b162 := Nat.ne_of_lt (Nat.lt_of_lt_of_le A151.lt (Nat.le_of_eq g162.symm))
    have sz162 : h0.size ≤ b162 := Nat.le_trans K151.1 (Nat.le_of_eq g162.symm)
    have ge162 : n0 ≤ b162 := Nat.le_trans Z0 sz162
    have c166 : own_Ari Z h162 b132 .int [(((q2.toUInt64 >>> ((32 : Int32) &&& 0x3f).toInt64.toUInt64).toInt64).toInt32)] := c154.ext E162
    have c167 : own_Ari Z h162 b134 .int [(q2.toInt32)] := c155.ext E162
    have c168 : Exa Z h162 b151 "com/example/stevedore/stevedore/MoveGraph" := A151.ext E162
    have c169 : Fld Z h162 b151 "com/example/stevedore/stevedore/MoveGraph" "from" "[I" .null := c156.ext E162
    have c170 : Fld Z h162 b151 "com/example/stevedore/stevedore/MoveGraph" "to" "[I" .null := c157.ext E162
    have c171 : Fld Z h162 b151 "com/example/stevedore/stevedore/MoveGraph" "limit" "[I" .null := c158.ext E162
    have c172 : Fld Z h162 b151 "com/example/stevedore/stevedore/MoveGraph" "send" "[I" .null := c159.ext E162
    have c173 : Fld Z h162 b151 "com/example/stevedore/stevedore/MoveGraph" "receive" "[I" .null := c160.ext E162
    have c174 : Fld Z h162 b151 "com/example/stevedore/stevedore/MoveGraph" "free" "[I" .null := c161.ext E162
    have K162 : Keep h0 h162 [] := K151.ext E162
    rw [← g162] at A162 st162
    have c175 : own_Ari Z h162 b162 .int [] := own_Ari_new (ty := .int) A162 (by decide) rfl
    refine own_step st162 ?_
    show own_G p.tables e below _ (T162.setTop (mkF m 95 #[.val (.int p1), .val (.long q2), .second, .val (.long q3), .second, .val (.long q4), .second, .val (.int (1 : Int32)), .val (.ref b132), .val (.ref b134), .unset, .unset] [(.ref b162), (.ref b134), (.ref b132), (.ref b151), (.ref b151)]))
    refine own_step (fun t k => XS.iconst X162.here hx rfl (hb hby at_95) k) ?_
    show own_G p.tables e below _ (T162.setTop (mkF m 96 #[.val (.int p1), .val (.long q2), .second, .val (.long q3), .second, .val (.long q4), .second, .val (.int (1 : Int32)), .val (.ref b132), .val (.ref b134), .unset, .unset] [(.int (0 : Int32)), (.ref b162), (.ref b134), (.ref b132), (.ref b151), (.ref b151)]))
    obtain ⟨T176, h176, k176, X176, e176, E176, A176, st176⟩ := newP X162 hx hZ (hw _ (List.mem_of_getElem? (i := 0) rfl)) e162 (g := (mkF m 96 #[.val (.int p1), .val (.long q2), .second, .val (.long q3), .second, .val (.long q4), .second, .val (.int (1 : Int32)), .val (.ref b132), .val (.ref b134), .unset, .unset] [(.int (0 : Int32)), (.ref b162), (.ref b134), (.ref b132), (.ref b151), (.ref b151)])) rfl (hb hby at_96) rfl (by decide) (cap := 0) (by decide) (by decide) (by decide) (by decide)
    obtain ⟨b176, g176⟩ : ∃ z, z = h162.size := ⟨_, rfl⟩
    have ne177 : b132 ≠ b176 := Nat.ne_of_lt (Nat.lt_of_lt_of_le c166.lt (Nat.le_of_eq g176.symm))
    have ne178 : b134 ≠ b176 := Nat.ne_of_lt (Nat.lt_of_lt_of_le c167.lt (Nat.le_of_eq g176.symm))
    have ne179 : b151 ≠ b176 := Nat.ne_of_lt (Nat.lt_of_lt_of_le c168.lt (Nat.le_of_eq g176.symm))
    have ne180 : b162 ≠ b176 := Nat.ne_of_lt (Nat.lt_of_lt_of_le c175.lt (Nat.le_of_eq g176.symm))
    have sz176 : h0.size ≤ b176 := Nat.le_trans K162.1 (Nat.le_of_eq g176.symm)
    have ge176 : n0 ≤ b176 := Nat.le_trans Z0 sz176
    have c181 : own_Ari Z h176 b132 .int [(((q2.toUInt64 >>> ((32 : Int32) &&& 0x3f).toInt64.toUInt64).toInt64).toInt32)] := c166.ext E176
    have c182 : own_Ari Z h176 b134 .int [(q2.toInt32)] := c167.ext E176
    have c183 : Exa Z h176 b151 "com/example/stevedore/stevedore/MoveGraph" := c168.ext E176
    have c184 : Fld Z h176 b151 "com/example/stevedore/stevedore/MoveGraph" "from" "[I" .null := c169.ext E176
    have c185 : Fld Z h176 b151 "com/example/stevedore/stevedore/MoveGraph" "to" "[I" .null := c170.ext E176
    have c186 : Fld Z h176 b151 "com/example/stevedore/stevedore/MoveGraph" "limit" "[I" .null := c171.ext E176
    have c187 : Fld Z h176 b151 "com/example/stevedore/stevedore/MoveGraph" "send" "[I" .null := c172.ext E176
    have c188 : Fld Z h176 b151 "com/example/stevedore/stevedore/MoveGraph" "receive" "[I" .null := c173.ext E176
    have c189 : Fld Z h176 b151 "com/example/stevedore/stevedore/MoveGraph" "free" "[I" .null := c174.ext E176
    have c190 : own_Ari Z h176 b162 .int [] := c175.ext E176
    have K176 : Keep h0 h176 [] := K162.ext E176
    rw [← g176] at A176 st176
    have c191 : own_Ari Z h176 b176 .int [] := own_Ari_new (ty := .int) A176 (by decide) rfl
    refine own_step st176 ?_
    show own_G p.tables e below _ (T176.setTop (mkF m 98 #[.val (.int p1), .val (.long q2), .second, .val (.long q3), .second, .val (.long q4), .second, .val (.int (1 : Int32)), .val (.ref b132), .val (.ref b134), .unset, .unset] [(.ref b176), (.ref b162), (.ref b134), (.ref b132), (.ref b151), (.ref b151)]))
    refine own_step (fun t k => XS.iconst X176.here hx rfl (hb hby at_98) k) ?_
    show own_G p.tables e below _ (T176.setTop (mkF m 99 #[.val (.int p1), .val (.long q2), .second, .val (.long q3), .second, .val (.long q4), .second, .val (.int (1 : Int32)), .val (.ref b132), .val (.ref b134), .unset, .unset] [(.int (0 : Int32)), (.ref b176), (.ref b162), (.ref b134), (.ref b132), (.ref b151), (.ref b151)]))
    obtain ⟨T192, h192, k192, X192, e192, E192, A192, st192⟩ := newP X176 hx hZ (hw _ (List.mem_of_getElem? (i := 0) rfl)) e176 (g := (mkF m 99 #[.val (.int p1), .val (.long q2), .second, .val (.long q3), .second, .val (.long q4), .second, .val (.int (1 : Int32)), .val (.ref b132), .val (.ref b134), .unset, .unset] [(.int (0 : Int32)), (.ref b176), (.ref b162), (.ref b134), (.ref b132), (.ref b151), (.ref b151)])) rfl (hb hby at_99) rfl (by decide) (cap := 0) (by decide) (by decide) (by decide) (by decide)
    obtain ⟨b192, g192⟩ : ∃ z, z = h176.size := ⟨_, rfl⟩
    have ne193 : b132 ≠ b192 := Nat.ne_of_lt (Nat.lt_of_lt_of_le c181.lt (Nat.le_of_eq g192.symm))
    have ne194 : b134 ≠ b192 := Nat.ne_of_lt (Nat.lt_of_lt_of_le c182.lt (Nat.le_of_eq g192.symm))
    have ne195 : b151 ≠ b192 := Nat.ne_of_lt (Nat.lt_of_lt_of_le c183.lt (Nat.le_of_eq g192.symm))
    have ne196 : b162 ≠ b192 := Nat.ne_of_lt (Nat.lt_of_lt_of_le c190.lt (Nat.le_of_eq g192.symm))
    have ne197 : b176 ≠ b192 := Nat.ne_of_lt (Nat.lt_of_lt_of_le c191.lt (Nat.le_of_eq g192.symm))
    have sz192 : h0.size ≤ b192 := Nat.le_trans K176.1 (Nat.le_of_eq g192.symm)
    have ge192 : n0 ≤ b192 := Nat.le_trans Z0 sz192
    have c198 : own_Ari Z h192 b132 .int [(((q2.toUInt64 >>> ((32 : Int32) &&& 0x3f).toInt64.toUInt64).toInt64).toInt32)] := c181.ext E192
    have c199 : own_Ari Z h192 b134 .int [(q2.toInt32)] := c182.ext E192
    have c200 : Exa Z h192 b151 "com/example/stevedore/stevedore/MoveGraph" := c183.ext E192
    have c201 : Fld Z h192 b151 "com/example/stevedore/stevedore/MoveGraph" "from" "[I" .null := c184.ext E192
    have c202 : Fld Z h192 b151 "com/example/stevedore/stevedore/MoveGraph" "to" "[I" .null := c185.ext E192
    have c203 : Fld Z h192 b151 "com/example/stevedore/stevedore/MoveGraph" "limit" "[I" .null := c186.ext E192
    have c204 : Fld Z h192 b151 "com/example/stevedore/stevedore/MoveGraph" "send" "[I" .null := c187.ext E192
    have c205 : Fld Z h192 b151 "com/example/stevedore/stevedore/MoveGraph" "receive" "[I" .null := c188.ext E192
    have c206 : Fld Z h192 b151 "com/example/stevedore/stevedore/MoveGraph" "free" "[I" .null := c189.ext E192
    have c207 : own_Ari Z h192 b162 .int [] := c190.ext E192
    have c208 : own_Ari Z h192 b176 .int [] := c191.ext E192
    have K192 : Keep h0 h192 [] := K176.ext E192
    rw [← g192] at A192 st192
    have c209 : own_Ari Z h192 b192 .int [] := own_Ari_new (ty := .int) A192 (by decide) rfl
    refine own_step st192 ?_
    show own_G p.tables e below _ (T192.setTop (mkF m 101 #[.val (.int p1), .val (.long q2), .second, .val (.long q3), .second, .val (.long q4), .second, .val (.int (1 : Int32)), .val (.ref b132), .val (.ref b134), .unset, .unset] [(.ref b192), (.ref b176), (.ref b162), (.ref b134), (.ref b132), (.ref b151), (.ref b151)]))
    refine own_step (fun t k => XS.iconst X192.here hx rfl (hb hby at_101) k) ?_
    show own_G p.tables e below _ (T192.setTop (mkF m 102 #[.val (.int p1), .val (.long q2), .second, .val (.long q3), .second, .val (.long q4), .second, .val (.int (1 : Int32)), .val (.ref b132), .val (.ref b134), .unset, .unset] [(.int (0 : Int32)), (.ref b192), (.ref b176), (.ref b162), (.ref b134), (.ref b132), (.ref b151), (.ref b151)]))
    obtain ⟨T210, h210, k210, X210, e210, E210, A210, st210⟩ := newP X192 hx hZ (hw _ (List.mem_of_getElem? (i := 0) rfl)) e192 (g := (mkF m 102 #[.val (.int p1), .val (.long q2), .second, .val (.long q3), .second, .val (.long q4), .second, .val (.int (1 : Int32)), .val (.ref b132), .val (.ref b134), .unset, .unset] [(.int (0 : Int32)), (.ref b192), (.ref b176), (.ref b162), (.ref b134), (.ref b132), (.ref b151), (.ref b151)])) rfl (hb hby at_102) rfl (by decide) (cap := 0) (by decide) (by decide) (by decide) (by decide)
    obtain ⟨b210, g210⟩ : ∃ z, z = h192.size := ⟨_, rfl⟩
    have ne211 : b132 ≠ b210 := Nat.ne_of_lt (Nat.lt_of_lt_of_le c198.lt (Nat.le_of_eq g210.symm))
    have ne212 : b134 ≠ b210 := Nat.ne_of_lt (Nat.lt_of_lt_of_le c199.lt (Nat.le_of_eq g210.symm))
    have ne213 : b151 ≠ b210 := Nat.ne_of_lt (Nat.lt_of_lt_of_le c200.lt (Nat.le_of_eq g210.symm))
    have ne214 : b162 ≠ b210 := Nat.ne_of_lt (Nat.lt_of_lt_of_le c207.lt (Nat.le_of_eq g210.symm))
    have ne215 : b176 ≠ b210 := Nat.ne_of_lt (Nat.lt_of_lt_of_le c208.lt (Nat.le_of_eq g210.symm))
    have ne216 : b192 ≠ b210 := Nat.ne_of_lt (Nat.lt_of_lt_of_le c209.lt (Nat.le_of_eq g210.symm))
    have sz210 : h0.size ≤ b210 := Nat.le_trans K192.1 (Nat.le_of_eq g210.symm)
    have ge210 : n0 ≤ b210 := Nat.le_trans Z0 sz210
    have c217 : own_Ari Z h210 b132 .int [(((q2.toUInt64 >>> ((32 : Int32) &&& 0x3f).toInt64.toUInt64).toInt64).toInt32)] := c198.ext E210
    have c218 : own_Ari Z h210 b134 .int [(q2.toInt32)] := c199.ext E210
    have c219 : Exa Z h210 b151 "com/example/stevedore/stevedore/MoveGraph" := c200.ext E210
    have c220 : Fld Z h210 b151 "com/example/stevedore/stevedore/MoveGraph" "from" "[I" .null := c201.ext E210
    have c221 : Fld Z h210 b151 "com/example/stevedore/stevedore/MoveGraph" "to" "[I" .null := c202.ext E210
    have c222 : Fld Z h210 b151 "com/example/stevedore/stevedore/MoveGraph" "limit" "[I" .null := c203.ext E210
    have c223 : Fld Z h210 b151 "com/example/stevedore/stevedore/MoveGraph" "send" "[I" .null := c204.ext E210
    have c224 : Fld Z h210 b151 "com/example/stevedore/stevedore/MoveGraph" "receive" "[I" .null := c205.ext E210
    have c225 : Fld Z h210 b151 "com/example/stevedore/stevedore/MoveGraph" "free" "[I" .null := c206.ext E210
    have c226 : own_Ari Z h210 b162 .int [] := c207.ext E210
    have c227 : own_Ari Z h210 b176 .int [] := c208.ext E210
    have c228 : own_Ari Z h210 b192 .int [] := c209.ext E210
    have K210 : Keep h0 h210 [] := K192.ext E210
    rw [← g210] at A210 st210
    have c229 : own_Ari Z h210 b210 .int [] := own_Ari_new (ty := .int) A210 (by decide) rfl
    refine own_step st210 ?_
    show own_G p.tables e below _ (T210.setTop (mkF m 104 #[.val (.int p1), .val (.long q2), .second, .val (.long q3), .second, .val (.long q4), .second, .val (.int (1 : Int32)), .val (.ref b132), .val (.ref b134), .unset, .unset] [(.ref b210), (.ref b192), (.ref b176), (.ref b162), (.ref b134), (.ref b132), (.ref b151), (.ref b151)]))
    obtain ⟨_, _, ⟨T230, L230, k230, n230⟩, -, X230, ⟨Lc230, hQ230, l230, y230, z230⟩, st230⟩ := X210.specialBack hx (y := (⟨"com/example/stevedore/stevedore/MoveGraph", "<init>", "([I[I[I[I[I[I)V"⟩ : MethodName)) rfl hown (mvT hZ (hw _ (List.mem_of_getElem? (i := 4) rfl))) (mvT hZ (hw _ (List.mem_of_getElem? (i := 5) rfl))) (mvT hZ (hw _ (List.mem_of_getElem? (i := 6) rfl))) (by decide) (backOf (W := 1) (rm1 l Z a0 hw [] b151 b132 b134 b162 b176 b192 b210 .null .null .null .null .null .null h210 n0 (Nat.le_trans Z0 K210.1) c219 c220 c221 c222 c223 c224 c225 ge151) hZ (hw _ (List.mem_of_getElem? (i := 6) rfl)) (hw _ (List.mem_of_getElem? (i := 3) rfl)) (by decide) (by decide)) (g := (mkF m 104 #[.val (.int p1), .val (.long q2), .second, .val (.long q3), .second, .val (.long q4), .second, .val (.int (1 : Int32)), .val (.ref b132), .val (.ref b134), .unset, .unset] [(.ref b210), (.ref b192), (.ref b176), (.ref b162), (.ref b134), (.ref b132), (.ref b151), (.ref b151)])) rfl (by rw [hml]; rfl) (Steps.refl _) (a := b151) (argsL := [(.ref b132), (.ref b134), (.ref b162), (.ref b176), (.ref b192), (.ref b210)]) (rest := [(.ref b151)]) (lenOf pd_0_0 rfl) rfl (by show 2 * 0 + _ ≤ _; exact Nat.le_of_eq rfl) (hb hby at_104) (fun _ _ => ⟨rfl, e210, (by decide : 7 + 0 ≤ _), (by decide : 8 + 0 ≤ _)⟩)
    dsimp only [Pt.U, Pt.locs, Pt.cells, Pt.slots] at X230 l230 y230 z230 st230 hQ230
    subst l230 y230 z230
    obtain ⟨rfl, N230q, K230q, w230_0, w230_1, w230_2, w230_3, w230_4, w230_5⟩ := hQ230
    have c231 : own_Ari Z T230.heap b132 .int [(((q2.toUInt64 >>> ((32 : Int32) &&& 0x3f).toInt64.toUInt64).toInt64).toInt32)] := c217.keep K230q (ninS ne152 nin0)
    have c232 : own_Ari Z T230.heap b134 .int [(q2.toInt32)] := c218.keep K230q (ninS ne153 nin0)
    have c233 : Exa Z T230.heap b151 "com/example/stevedore/stevedore/MoveGraph" := c219.keep K230q
    have c240 : own_Ari Z T230.heap b162 .int [] := c226.keep K230q (ninS (Ne.symm ne165) nin0)
    have c241 : own_Ari Z T230.heap b176 .int [] := c227.keep K230q (ninS (Ne.symm ne179) nin0)
    have c242 : own_Ari Z T230.heap b192 .int [] := c228.keep K230q (ninS (Ne.symm ne195) nin0)
    have c243 : own_Ari Z T230.heap b210 .int [] := c229.keep K230q (ninS (Ne.symm ne213) nin0)
    have K230 : Keep h0 T230.heap [] := K210.trans K230q (allS (Or.inr sz151) all0)
    have N230 := Fr.app N145 N230q
    refine own_step (fun t k => st230.trans k) ?_
    show own_G p.tables e below _ (T230.setTop (mkF m 107 #[.val (.int p1), .val (.long q2), .second, .val (.long q3), .second, .val (.long q4), .second, .val (.int (1 : Int32)), .val (.ref b132), .val (.ref b134), .unset, .unset] [(.ref b151)]))
    refine own_step (fun t k => XS.astore X230.here hx rfl (hb hby at_107) rfl rfl (l' := #[.val (.int p1), .val (.long q2), .second, .val (.long q3), .second, .val (.long q4), .second, .val (.int (1 : Int32)), .val (.ref b132), .val (.ref b134), .val (.ref b151), .unset]) rfl k) ?_
    show own_G p.tables e below _ (T230.setTop (mkF m 109 #[.val (.int p1), .val (.long q2), .second, .val (.long q3), .second, .val (.long q4), .second, .val (.int (1 : Int32)), .val (.ref b132), .val (.ref b134), .val (.ref b151), .unset] []))
    refine own_step (fun t k => XS.aload X230.here hx rfl (hb hby at_109) rfl rfl k) ?_
    show own_G p.tables e below _ (T230.setTop (mkF m 111 #[.val (.int p1), .val (.long q2), .second, .val (.long q3), .second, .val (.long q4), .second, .val (.int (1 : Int32)), .val (.ref b132), .val (.ref b134), .val (.ref b151), .unset] [(.ref b151)]))
    obtain ⟨cq244, kq244, q244a, q244b, q244c⟩ := isOf hZ rfl c233
    obtain ⟨_, _, ⟨T244, L244, k244, n244⟩, -, X244, ⟨Lc244, hQ244, l244, y244, z244⟩, st244⟩ := X230.virtualBack hx (y := (⟨"com/example/stevedore/stevedore/MoveGraph", "ends", "()[I"⟩ : MethodName)) (z := (⟨"com/example/stevedore/stevedore/MoveGraph", "ends", "()[I"⟩ : MethodName)) hown (mvT hZ (hw _ (List.mem_of_getElem? (i := 27) rfl))) (mvT hZ (hw _ (List.mem_of_getElem? (i := 28) rfl))) (notFace_of_selects (args := #[]) (mvT hZ (hw _ (List.mem_of_getElem? (i := 30) rfl)))) (mvT hZ (hw _ (List.mem_of_getElem? (i := 30) rfl))) (mvT hZ (hw _ (List.mem_of_getElem? (i := 29) rfl))) (by decide) (backOf (W := 0) (rm4_k1 l Z a0 hw [] b151 b132 b134 (((q2.toUInt64 >>> ((32 : Int32) &&& 0x3f).toInt64.toUInt64).toInt64).toInt32) (q2.toInt32) T230.heap n0 (Nat.le_trans Z0 K230.1) w230_0 w230_1 c231 c232) hZ (hw _ (List.mem_of_getElem? (i := 31) rfl)) (hw _ (List.mem_of_getElem? (i := 3) rfl)) (by decide) (by decide)) q244a q244c (g := (mkF m 111 #[.val (.int p1), .val (.long q2), .second, .val (.long q3), .second, .val (.long q4), .second, .val (.int (1 : Int32)), .val (.ref b132), .val (.ref b134), .val (.ref b151), .unset] [(.ref b151)])) rfl (by rw [hml]; rfl) (Steps.refl _) (argsL := []) (rest := []) (lenOf pd_0_1 rfl) rfl (by show 2 * 0 + _ ≤ _; exact Nat.le_of_eq rfl) (hb hby at_111) (fun _ _ => ⟨rfl, rfl, (by decide : 7 + 1 ≤ _), (by decide : 8 + 2 ≤ _)⟩)
    dsimp only [Pt.U, Pt.locs, Pt.cells, Pt.slots] at X244 l244 y244 z244 st244 hQ244
    subst l244 y244 z244
    obtain ⟨bx244_rb, rfl, N244q, K244q, w244_0, sx244_0⟩ := hQ244
    have c245 : own_Ari Z T244.heap b132 .int [(((q2.toUInt64 >>> ((32 : Int32) &&& 0x3f).toInt64.toUInt64).toInt64).toInt32)] := c231.keep K244q nin0
    have c246 : own_Ari Z T244.heap b134 .int [(q2.toInt32)] := c232.keep K244q nin0
    have c247 : Exa Z T244.heap b151 "com/example/stevedore/stevedore/MoveGraph" := c233.keep K244q
    have c248 : own_Ari Z T244.heap b162 .int [] := c240.keep K244q nin0
    have c249 : own_Ari Z T244.heap b176 .int [] := c241.keep K244q nin0
    have c250 : own_Ari Z T244.heap b192 .int [] := c242.keep K244q nin0
    have c251 : own_Ari Z T244.heap b210 .int [] := c243.keep K244q nin0
    have c252 : Fld Z T244.heap b151 "com/example/stevedore/stevedore/MoveGraph" "from" "[I" (.ref b132) := w230_0.keep K244q nin0
    have c253 : Fld Z T244.heap b151 "com/example/stevedore/stevedore/MoveGraph" "to" "[I" (.ref b134) := w230_1.keep K244q nin0
    have c254 : Fld Z T244.heap b151 "com/example/stevedore/stevedore/MoveGraph" "limit" "[I" (.ref b162) := w230_2.keep K244q nin0
    have c255 : Fld Z T244.heap b151 "com/example/stevedore/stevedore/MoveGraph" "send" "[I" (.ref b176) := w230_3.keep K244q nin0
    have c256 : Fld Z T244.heap b151 "com/example/stevedore/stevedore/MoveGraph" "receive" "[I" (.ref b192) := w230_4.keep K244q nin0
    have c257 : Fld Z T244.heap b151 "com/example/stevedore/stevedore/MoveGraph" "free" "[I" (.ref b210) := w230_5.keep K244q nin0
    have sz244_0 : h0.size ≤ bx244_rb := Nat.le_trans K230.1 sx244_0
    have ge244_0 : n0 ≤ bx244_rb := Nat.le_trans Z0 sz244_0
    have ne258 : b132 ≠ bx244_rb := Nat.ne_of_lt (Nat.lt_of_lt_of_le c231.lt sx244_0)
    have ne259 : b134 ≠ bx244_rb := Nat.ne_of_lt (Nat.lt_of_lt_of_le c232.lt sx244_0)
    have ne260 : b151 ≠ bx244_rb := Nat.ne_of_lt (Nat.lt_of_lt_of_le c233.lt sx244_0)
    have ne261 : b162 ≠ bx244_rb := Nat.ne_of_lt (Nat.lt_of_lt_of_le c240.lt sx244_0)
    have ne262 : b176 ≠ bx244_rb := Nat.ne_of_lt (Nat.lt_of_lt_of_le c241.lt sx244_0)
    have ne263 : b192 ≠ bx244_rb := Nat.ne_of_lt (Nat.lt_of_lt_of_le c242.lt sx244_0)
    have ne264 : b210 ≠ bx244_rb := Nat.ne_of_lt (Nat.lt_of_lt_of_le c243.lt sx244_0)
    have K244 : Keep h0 T244.heap [] := K230.trans K244q all0
    have N244 := Fr.app N230 N244q
    refine own_step (fun t k => st244.trans k) ?_
    show own_G p.tables e below _ (T244.setTop (mkF m 114 #[.val (.int p1), .val (.long q2), .second, .val (.long q3), .second, .val (.long q4), .second, .val (.int (1 : Int32)), .val (.ref b132), .val (.ref b134), .val (.ref b151), .unset] [(.ref bx244_rb)]))
    refine own_step (fun t k => XS.astore X244.here hx rfl (hb hby at_114) rfl rfl (l' := #[.val (.int p1), .val (.long q2), .second, .val (.long q3), .second, .val (.long q4), .second, .val (.int (1 : Int32)), .val (.ref b132), .val (.ref b134), .val (.ref b151), .val (.ref bx244_rb)]) rfl k) ?_
    show own_G p.tables e below _ (T244.setTop (mkF m 116 #[.val (.int p1), .val (.long q2), .second, .val (.long q3), .second, .val (.long q4), .second, .val (.int (1 : Int32)), .val (.ref b132), .val (.ref b134), .val (.ref b151), .val (.ref bx244_rb)] []))
    refine own_step (fun t k => XS.aload X244.here hx rfl (hb hby at_116) rfl rfl k) ?_
    show own_G p.tables e below _ (T244.setTop (mkF m 118 #[.val (.int p1), .val (.long q2), .second, .val (.long q3), .second, .val (.long q4), .second, .val (.int (1 : Int32)), .val (.ref b132), .val (.ref b134), .val (.ref b151), .val (.ref bx244_rb)] [(.ref bx244_rb)]))
    refine own_step (own_lenI X244 hx hZ rfl w244_0 (g := (mkF m 118 #[.val (.int p1), .val (.long q2), .second, .val (.long q3), .second, .val (.long q4), .second, .val (.int (1 : Int32)), .val (.ref b132), .val (.ref b134), .val (.ref b151), .val (.ref bx244_rb)] [(.ref bx244_rb)])) rfl rfl (hb hby at_118)) ?_
    show own_G p.tables e below _ (T244.setTop (mkF m 119 #[.val (.int p1), .val (.long q2), .second, .val (.long q3), .second, .val (.long q4), .second, .val (.int (1 : Int32)), .val (.ref b132), .val (.ref b134), .val (.ref b151), .val (.ref bx244_rb)] [(.int (2 : Int32))]))
    refine own_step (fun t k => XS.iconst X244.here hx rfl (hb hby at_119) k) ?_
    show own_G p.tables e below _ (T244.setTop (mkF m 120 #[.val (.int p1), .val (.long q2), .second, .val (.long q3), .second, .val (.long q4), .second, .val (.int (1 : Int32)), .val (.ref b132), .val (.ref b134), .val (.ref b151), .val (.ref bx244_rb)] [(.int (2 : Int32)), (.int (2 : Int32))]))
    refine own_step (fun t k => XS.iload X244.here hx rfl (hb hby at_120) rfl k) ?_
    show own_G p.tables e below _ (T244.setTop (mkF m 122 #[.val (.int p1), .val (.long q2), .second, .val (.long q3), .second, .val (.long q4), .second, .val (.int (1 : Int32)), .val (.ref b132), .val (.ref b134), .val (.ref b151), .val (.ref bx244_rb)] [(.int (1 : Int32)), (.int (2 : Int32)), (.int (2 : Int32))]))
    refine own_step (fun t k => XS.imul X244.here hx rfl (hb hby at_122) rfl k) ?_
    show own_G p.tables e below _ (T244.setTop (mkF m 123 #[.val (.int p1), .val (.long q2), .second, .val (.long q3), .second, .val (.long q4), .second, .val (.int (1 : Int32)), .val (.ref b132), .val (.ref b134), .val (.ref b151), .val (.ref bx244_rb)] [(.int (2 : Int32)), (.int (2 : Int32))]))
    have hk265 : (2 : Int32) = (2 : Int32) := rfl
    refine own_step (fun t k => XS.icmpYes X244.here hx rfl (pc0 := 123) (pc' := 128) rfl (hb hby at_123) rfl ((teq hk265).1) (by decide) (by decide) k) ?_
    show own_G p.tables e below _ (T244.setTop (mkF m 128 #[.val (.int p1), .val (.long q2), .second, .val (.long q3), .second, .val (.long q4), .second, .val (.int (1 : Int32)), .val (.ref b132), .val (.ref b134), .val (.ref b151), .val (.ref bx244_rb)] []))
    refine own_step (fun t k => XS.aload X244.here hx rfl (hb hby at_128) rfl rfl k) ?_
    show own_G p.tables e below _ (T244.setTop (mkF m 130 #[.val (.int p1), .val (.long q2), .second, .val (.long q3), .second, .val (.long q4), .second, .val (.int (1 : Int32)), .val (.ref b132), .val (.ref b134), .val (.ref b151), .val (.ref bx244_rb)] [(.ref bx244_rb)]))
    refine own_step (fun t k => XS.aload X244.here hx rfl (hb hby at_130) rfl rfl k) ?_
    show own_G p.tables e below _ (T244.setTop (mkF m 132 #[.val (.int p1), .val (.long q2), .second, .val (.long q3), .second, .val (.long q4), .second, .val (.int (1 : Int32)), .val (.ref b132), .val (.ref b134), .val (.ref b151), .val (.ref bx244_rb)] [(.ref b132), (.ref bx244_rb)]))
    refine own_step (fun t k => XS.aload X244.here hx rfl (hb hby at_132) rfl rfl k) ?_
    show own_G p.tables e below _ (T244.setTop (mkF m 134 #[.val (.int p1), .val (.long q2), .second, .val (.long q3), .second, .val (.long q4), .second, .val (.int (1 : Int32)), .val (.ref b132), .val (.ref b134), .val (.ref b151), .val (.ref bx244_rb)] [(.ref b134), (.ref b132), (.ref bx244_rb)]))
    refine own_step (fun t k => XS.iconst X244.here hx rfl (hb hby at_134) k) ?_
    show own_G p.tables e below _ (T244.setTop (mkF m 135 #[.val (.int p1), .val (.long q2), .second, .val (.long q3), .second, .val (.long q4), .second, .val (.int (1 : Int32)), .val (.ref b132), .val (.ref b134), .val (.ref b151), .val (.ref bx244_rb)] [(.int (0 : Int32)), (.ref b134), (.ref b132), (.ref bx244_rb)]))
    refine own_step (fun t k => XS.iload X244.here hx rfl (hb hby at_135) rfl k) ?_
    show own_G p.tables e below _ (T244.setTop (mkF m 137 #[.val (.int p1), .val (.long q2), .second, .val (.long q3), .second, .val (.long q4), .second, .val (.int (1 : Int32)), .val (.ref b132), .val (.ref b134), .val (.ref b151), .val (.ref bx244_rb)] [(.int (1 : Int32)), (.int (0 : Int32)), (.ref b134), (.ref b132), (.ref bx244_rb)]))
    refine own_step (fun t k => XS.lloadN X244.here hx rfl (hb hby at_137) rfl k) ?_
    show own_G p.tables e below _ (T244.setTop (mkF m 138 #[.val (.int p1), .val (.long q2), .second, .val (.long q3), .second, .val (.long q4), .second, .val (.int (1 : Int32)), .val (.ref b132), .val (.ref b134), .val (.ref b151), .val (.ref bx244_rb)] [(.long q2), (.int (1 : Int32)), (.int (0 : Int32)), (.ref b134), (.ref b132), (.ref bx244_rb)]))
    obtain ⟨_, _, ⟨T266, L266, k266, n266⟩, -, X266, ⟨Lc266, hQ266, l266, y266, z266⟩, st266⟩ := Jvm.LawKit.callS X244 hx (y := (⟨"com/example/stevedore/stevedore/MoveGraphEndsPinLaw", "pair", "([I[I[IIIJ)Z"⟩ : MethodName)) hown (mvT hZ (hw _ (List.mem_of_getElem? (i := 32) rfl))) (mvT hZ (hw _ (List.mem_of_getElem? (i := 33) rfl))) (mvT hZ (hw _ (List.mem_of_getElem? (i := 34) rfl))) (mvT hZ (hw _ (List.mem_of_getElem? (i := 35) rfl))) (by decide) (backOf (W := 0) (rm5_e0_1 l Z a0 hw [] bx244_rb b132 b134 q2 T244.heap n0 (Nat.le_trans Z0 K244.1) w244_0 c245 c246) hZ (hw _ (List.mem_of_getElem? (i := 35) rfl)) (hw _ (List.mem_of_getElem? (i := 34) rfl)) (by decide) (by decide)) (g := (mkF m 138 #[.val (.int p1), .val (.long q2), .second, .val (.long q3), .second, .val (.long q4), .second, .val (.int (1 : Int32)), .val (.ref b132), .val (.ref b134), .val (.ref b151), .val (.ref bx244_rb)] [(.long q2), (.int (1 : Int32)), (.int (0 : Int32)), (.ref b134), (.ref b132), (.ref bx244_rb)])) rfl (by rw [hml]; rfl) (argsL := [(.ref bx244_rb), (.ref b132), (.ref b134), (.int (0 : Int32)), (.int (1 : Int32)), (.long q2)]) (rest := []) (lenOf pd_0_2 rfl) rfl (by show 2 * 0 + _ ≤ _; exact Nat.le_of_eq rfl) (hb hby at_138) (fun _ _ => ⟨rfl, rfl, (by decide : 8 + 0 ≤ _), (by decide : 10 + 0 ≤ _)⟩)
    dsimp only [Pt.U, Pt.locs, Pt.cells, Pt.slots] at X266 l266 y266 z266 st266 hQ266
    subst l266 y266 z266
    obtain ⟨rfl, N266q, e266⟩ := hQ266
    have N266 := Fr.app N244 N266q
    refine own_step st266 ?_
    show own_G p.tables e below _ (T266.setTop (mkF m 141 #[.val (.int p1), .val (.long q2), .second, .val (.long q3), .second, .val (.long q4), .second, .val (.int (1 : Int32)), .val (.ref b132), .val (.ref b134), .val (.ref b151), .val (.ref bx244_rb)] [(.int (1 : Int32))]))
    have hk267 : ¬ ((1 : Int32) = (0 : Int32)) := (by decide)
    refine own_step (fun t k => XS.ifNo X266.here hx rfl (hb hby at_141) rfl ((if0 _ _).trans (feq hk267).1) k) ?_
    show own_G p.tables e below _ (T266.setTop (mkF m 144 #[.val (.int p1), .val (.long q2), .second, .val (.long q3), .second, .val (.long q4), .second, .val (.int (1 : Int32)), .val (.ref b132), .val (.ref b134), .val (.ref b151), .val (.ref bx244_rb)] []))
    refine own_step (fun t k => XS.aload X266.here hx rfl (hb hby at_144) rfl rfl k) ?_
    show own_G p.tables e below _ (T266.setTop (mkF m 146 #[.val (.int p1), .val (.long q2), .second, .val (.long q3), .second, .val (.long q4), .second, .val (.int (1 : Int32)), .val (.ref b132), .val (.ref b134), .val (.ref b151), .val (.ref bx244_rb)] [(.ref bx244_rb)]))
    refine own_step (fun t k => XS.aload X266.here hx rfl (hb hby at_146) rfl rfl k) ?_
    show own_G p.tables e below _ (T266.setTop (mkF m 148 #[.val (.int p1), .val (.long q2), .second, .val (.long q3), .second, .val (.long q4), .second, .val (.int (1 : Int32)), .val (.ref b132), .val (.ref b134), .val (.ref b151), .val (.ref bx244_rb)] [(.ref b132), (.ref bx244_rb)]))
    refine own_step (fun t k => XS.aload X266.here hx rfl (hb hby at_148) rfl rfl k) ?_
    show own_G p.tables e below _ (T266.setTop (mkF m 150 #[.val (.int p1), .val (.long q2), .second, .val (.long q3), .second, .val (.long q4), .second, .val (.int (1 : Int32)), .val (.ref b132), .val (.ref b134), .val (.ref b151), .val (.ref bx244_rb)] [(.ref b134), (.ref b132), (.ref bx244_rb)]))
    refine own_step (fun t k => XS.iconst X266.here hx rfl (hb hby at_150) k) ?_
    show own_G p.tables e below _ (T266.setTop (mkF m 151 #[.val (.int p1), .val (.long q2), .second, .val (.long q3), .second, .val (.long q4), .second, .val (.int (1 : Int32)), .val (.ref b132), .val (.ref b134), .val (.ref b151), .val (.ref bx244_rb)] [(.int (1 : Int32)), (.ref b134), (.ref b132), (.ref bx244_rb)]))
    refine own_step (fun t k => XS.iload X266.here hx rfl (hb hby at_151) rfl k) ?_
    show own_G p.tables e below _ (T266.setTop (mkF m 153 #[.val (.int p1), .val (.long q2), .second, .val (.long q3), .second, .val (.long q4), .second, .val (.int (1 : Int32)), .val (.ref b132), .val (.ref b134), .val (.ref b151), .val (.ref bx244_rb)] [(.int (1 : Int32)), (.int (1 : Int32)), (.ref b134), (.ref b132), (.ref bx244_rb)]))
    refine own_step (fun t k => XS.lloadN X266.here hx rfl (hb hby at_153) rfl k) ?_
    show own_G p.tables e below _ (T266.setTop (mkF m 154 #[.val (.int p1), .val (.long q2), .second, .val (.long q3), .second, .val (.long q4), .second, .val (.int (1 : Int32)), .val (.ref b132), .val (.ref b134), .val (.ref b151), .val (.ref bx244_rb)] [(.long q3), (.int (1 : Int32)), (.int (1 : Int32)), (.ref b134), (.ref b132), (.ref bx244_rb)]))
    obtain ⟨_, _, ⟨T268, L268, k268, n268⟩, -, X268, ⟨Lc268, hQ268, l268, y268, z268⟩, st268⟩ := Jvm.LawKit.callS X266 hx (y := (⟨"com/example/stevedore/stevedore/MoveGraphEndsPinLaw", "pair", "([I[I[IIIJ)Z"⟩ : MethodName)) hown (mvT hZ (hw _ (List.mem_of_getElem? (i := 32) rfl))) (mvT hZ (hw _ (List.mem_of_getElem? (i := 33) rfl))) (mvT hZ (hw _ (List.mem_of_getElem? (i := 34) rfl))) (mvT hZ (hw _ (List.mem_of_getElem? (i := 35) rfl))) (by decide) (backOf (W := 0) (rm5_e1_1 l Z a0 hw [] bx244_rb b132 b134 q3 (((q2.toUInt64 >>> ((32 : Int32) &&& 0x3f).toInt64.toUInt64).toInt64).toInt32) (q2.toInt32) (((q2.toUInt64 >>> ((32 : Int32) &&& 0x3f).toInt64.toUInt64).toInt64).toInt32) (q2.toInt32) T244.heap n0 (Nat.le_trans Z0 K244.1) w244_0 c245 c246) hZ (hw _ (List.mem_of_getElem? (i := 35) rfl)) (hw _ (List.mem_of_getElem? (i := 34) rfl)) (by decide) (by decide)) (g := (mkF m 154 #[.val (.int p1), .val (.long q2), .second, .val (.long q3), .second, .val (.long q4), .second, .val (.int (1 : Int32)), .val (.ref b132), .val (.ref b134), .val (.ref b151), .val (.ref bx244_rb)] [(.long q3), (.int (1 : Int32)), (.int (1 : Int32)), (.ref b134), (.ref b132), (.ref bx244_rb)])) rfl (by rw [hml]; rfl) (argsL := [(.ref bx244_rb), (.ref b132), (.ref b134), (.int (1 : Int32)), (.int (1 : Int32)), (.long q3)]) (rest := []) (lenOf pd_0_2 rfl) rfl (by show 2 * 0 + _ ≤ _; exact Nat.le_of_eq rfl) (hb hby at_154) (fun _ _ => ⟨rfl, e266, (by decide : 8 + 0 ≤ _), (by decide : 10 + 0 ≤ _)⟩)
    dsimp only [Pt.U, Pt.locs, Pt.cells, Pt.slots] at X268 l268 y268 z268 st268 hQ268
    subst l268 y268 z268
    obtain ⟨rfl, N268q, e268⟩ := hQ268
    have N268 := Fr.app N266 N268q
    refine own_step st268 ?_
    show own_G p.tables e below _ (T268.setTop (mkF m 157 #[.val (.int p1), .val (.long q2), .second, .val (.long q3), .second, .val (.long q4), .second, .val (.int (1 : Int32)), .val (.ref b132), .val (.ref b134), .val (.ref b151), .val (.ref bx244_rb)] [(.int (1 : Int32))]))
    have hk269 : ¬ ((1 : Int32) = (0 : Int32)) := (by decide)
    refine own_step (fun t k => XS.ifNo X268.here hx rfl (hb hby at_157) rfl ((if0 _ _).trans (feq hk269).1) k) ?_
    show own_G p.tables e below _ (T268.setTop (mkF m 160 #[.val (.int p1), .val (.long q2), .second, .val (.long q3), .second, .val (.long q4), .second, .val (.int (1 : Int32)), .val (.ref b132), .val (.ref b134), .val (.ref b151), .val (.ref bx244_rb)] []))
    refine own_step (fun t k => XS.aload X268.here hx rfl (hb hby at_160) rfl rfl k) ?_
    show own_G p.tables e below _ (T268.setTop (mkF m 162 #[.val (.int p1), .val (.long q2), .second, .val (.long q3), .second, .val (.long q4), .second, .val (.int (1 : Int32)), .val (.ref b132), .val (.ref b134), .val (.ref b151), .val (.ref bx244_rb)] [(.ref bx244_rb)]))
    refine own_step (fun t k => XS.aload X268.here hx rfl (hb hby at_162) rfl rfl k) ?_
    show own_G p.tables e below _ (T268.setTop (mkF m 164 #[.val (.int p1), .val (.long q2), .second, .val (.long q3), .second, .val (.long q4), .second, .val (.int (1 : Int32)), .val (.ref b132), .val (.ref b134), .val (.ref b151), .val (.ref bx244_rb)] [(.ref b132), (.ref bx244_rb)]))
    refine own_step (fun t k => XS.aload X268.here hx rfl (hb hby at_164) rfl rfl k) ?_
    show own_G p.tables e below _ (T268.setTop (mkF m 166 #[.val (.int p1), .val (.long q2), .second, .val (.long q3), .second, .val (.long q4), .second, .val (.int (1 : Int32)), .val (.ref b132), .val (.ref b134), .val (.ref b151), .val (.ref bx244_rb)] [(.ref b134), (.ref b132), (.ref bx244_rb)]))
    refine own_step (fun t k => XS.iconst X268.here hx rfl (hb hby at_166) k) ?_
    show own_G p.tables e below _ (T268.setTop (mkF m 167 #[.val (.int p1), .val (.long q2), .second, .val (.long q3), .second, .val (.long q4), .second, .val (.int (1 : Int32)), .val (.ref b132), .val (.ref b134), .val (.ref b151), .val (.ref bx244_rb)] [(.int (2 : Int32)), (.ref b134), (.ref b132), (.ref bx244_rb)]))
    refine own_step (fun t k => XS.iload X268.here hx rfl (hb hby at_167) rfl k) ?_
    show own_G p.tables e below _ (T268.setTop (mkF m 169 #[.val (.int p1), .val (.long q2), .second, .val (.long q3), .second, .val (.long q4), .second, .val (.int (1 : Int32)), .val (.ref b132), .val (.ref b134), .val (.ref b151), .val (.ref bx244_rb)] [(.int (1 : Int32)), (.int (2 : Int32)), (.ref b134), (.ref b132), (.ref bx244_rb)]))
    refine own_step (fun t k => XS.lload X268.here hx rfl (hb hby at_169) rfl k) ?_
    show own_G p.tables e below _ (T268.setTop (mkF m 171 #[.val (.int p1), .val (.long q2), .second, .val (.long q3), .second, .val (.long q4), .second, .val (.int (1 : Int32)), .val (.ref b132), .val (.ref b134), .val (.ref b151), .val (.ref bx244_rb)] [(.long q4), (.int (1 : Int32)), (.int (2 : Int32)), (.ref b134), (.ref b132), (.ref bx244_rb)]))
    obtain ⟨_, _, ⟨T270, L270, k270, n270⟩, -, X270, ⟨Lc270, hQ270, l270, y270, z270⟩, st270⟩ := Jvm.LawKit.callS X268 hx (y := (⟨"com/example/stevedore/stevedore/MoveGraphEndsPinLaw", "pair", "([I[I[IIIJ)Z"⟩ : MethodName)) hown (mvT hZ (hw _ (List.mem_of_getElem? (i := 32) rfl))) (mvT hZ (hw _ (List.mem_of_getElem? (i := 33) rfl))) (mvT hZ (hw _ (List.mem_of_getElem? (i := 34) rfl))) (mvT hZ (hw _ (List.mem_of_getElem? (i := 35) rfl))) (by decide) (backOf (W := 0) (rm5_e2_1 l Z a0 hw [] bx244_rb b132 b134 q4 (((q2.toUInt64 >>> ((32 : Int32) &&& 0x3f).toInt64.toUInt64).toInt64).toInt32) (q2.toInt32) (((q2.toUInt64 >>> ((32 : Int32) &&& 0x3f).toInt64.toUInt64).toInt64).toInt32) (q2.toInt32) T244.heap n0 (Nat.le_trans Z0 K244.1) w244_0 c245 c246) hZ (hw _ (List.mem_of_getElem? (i := 35) rfl)) (hw _ (List.mem_of_getElem? (i := 34) rfl)) (by decide) (by decide)) (g := (mkF m 171 #[.val (.int p1), .val (.long q2), .second, .val (.long q3), .second, .val (.long q4), .second, .val (.int (1 : Int32)), .val (.ref b132), .val (.ref b134), .val (.ref b151), .val (.ref bx244_rb)] [(.long q4), (.int (1 : Int32)), (.int (2 : Int32)), (.ref b134), (.ref b132), (.ref bx244_rb)])) rfl (by rw [hml]; rfl) (argsL := [(.ref bx244_rb), (.ref b132), (.ref b134), (.int (2 : Int32)), (.int (1 : Int32)), (.long q4)]) (rest := []) (lenOf pd_0_2 rfl) rfl (by show 2 * 0 + _ ≤ _; exact Nat.le_of_eq rfl) (hb hby at_171) (fun _ _ => ⟨rfl, e268, (by decide : 8 + 0 ≤ _), (by decide : 10 + 0 ≤ _)⟩)
    dsimp only [Pt.U, Pt.locs, Pt.cells, Pt.slots] at X270 l270 y270 z270 st270 hQ270
    subst l270 y270 z270
    obtain ⟨rfl, N270q, e270⟩ := hQ270
    have N270 := Fr.app N268 N270q
    refine own_step st270 ?_
    show own_G p.tables e below _ (T270.setTop (mkF m 174 #[.val (.int p1), .val (.long q2), .second, .val (.long q3), .second, .val (.long q4), .second, .val (.int (1 : Int32)), .val (.ref b132), .val (.ref b134), .val (.ref b151), .val (.ref bx244_rb)] [(.int (1 : Int32))]))
    have hk271 : ¬ ((1 : Int32) = (0 : Int32)) := (by decide)
    refine own_step (fun t k => XS.ifNo X270.here hx rfl (hb hby at_174) rfl ((if0 _ _).trans (feq hk271).1) k) ?_
    show own_G p.tables e below _ (T270.setTop (mkF m 177 #[.val (.int p1), .val (.long q2), .second, .val (.long q3), .second, .val (.long q4), .second, .val (.int (1 : Int32)), .val (.ref b132), .val (.ref b134), .val (.ref b151), .val (.ref bx244_rb)] []))
    refine own_step (fun t k => XS.iconst X270.here hx rfl (hb hby at_177) k) ?_
    show own_G p.tables e below _ (T270.setTop (mkF m 178 #[.val (.int p1), .val (.long q2), .second, .val (.long q3), .second, .val (.long q4), .second, .val (.int (1 : Int32)), .val (.ref b132), .val (.ref b134), .val (.ref b151), .val (.ref bx244_rb)] [(.int (1 : Int32))]))
    refine own_step (fun t k => XS.goto X270.here hx rfl (pc0 := 178) (pc' := 182) rfl (hb hby at_178) (by decide) (by decide) k) ?_
    show own_G p.tables e below _ (T270.setTop (mkF m 182 #[.val (.int p1), .val (.long q2), .second, .val (.long q3), .second, .val (.long q4), .second, .val (.int (1 : Int32)), .val (.ref b132), .val (.ref b134), .val (.ref b151), .val (.ref bx244_rb)] [(.int (1 : Int32))]))
    obtain ⟨fs, hr, hrun, hended, hW, hsame⟩ := X270.leave (v := some (.int (1 : Int32))) (fun h => by rw [Bd.returns] at h; cases h)
    refine own_done (retN X270 hx (t := .boolean) Bd.returns (by simp) (hb hby at_182) hr) hrun hended ⟨_, _, rfl, ?_, ⟨_, rfl⟩, hW, hsame.mono (by decide) (by decide)⟩
    show Q0 Z p1 q2 q3 q4 h0 n0 _ T270.heap _
    rw [e270]
    exact ⟨rfl, N270⟩
  · skip
    show own_G p.tables e below _ (s₁.setTop (mkF m 5 #[.val (.int p1), .val (.long q2), .second, .val (.long q3), .second, .val (.long q4), .second, .val (.int (2 : Int32)), .unset, .unset, .unset, .unset] []))
    refine own_step (fun t k => XS.iload X0.here hx rfl (hb hby at_5) rfl k) ?_
    show own_G p.tables e below _ (s₁.setTop (mkF m 7 #[.val (.int p1), .val (.long q2), .second, .val (.long q3), .second, .val (.long q4), .second, .val (.int (2 : Int32)), .unset, .unset, .unset, .unset] [(.int (2 : Int32))]))
    obtain ⟨T272, h272, k272, X272, e272, E272, A272, st272⟩ := newP X0 hx hZ (hw _ (List.mem_of_getElem? (i := 0) rfl)) e0 (g := (mkF m 7 #[.val (.int p1), .val (.long q2), .second, .val (.long q3), .second, .val (.long q4), .second, .val (.int (2 : Int32)), .unset, .unset, .unset, .unset] [(.int (2 : Int32))])) rfl (hb hby at_7) rfl (by decide) (cap := 2) (by decide) (by decide) (by decide) (by decide)
    obtain ⟨b272, g272⟩ : ∃ z, z = h0.size := ⟨_, rfl⟩
    have sz272 : h0.size ≤ b272 := Nat.le_trans (Keep.refl h0 []).1 (Nat.le_of_eq g272.symm)
    have ge272 : n0 ≤ b272 := Nat.le_trans Z0 sz272
    have K272 : Keep h0 h272 [] := (Keep.refl h0 []).ext E272
    rw [← g272] at A272 st272
    have c273 : own_Ari Z h272 b272 .int [(0 : Int32), (0 : Int32)] := own_Ari_new (ty := .int) A272 (by decide) rfl
    refine own_step st272 ?_
    show own_G p.tables e below _ (T272.setTop (mkF m 9 #[.val (.int p1), .val (.long q2), .second, .val (.long q3), .second, .val (.long q4), .second, .val (.int (2 : Int32)), .unset, .unset, .unset, .unset] [(.ref b272)]))
    refine own_step (fun t k => XS.astore X272.here hx rfl (hb hby at_9) rfl rfl (l' := #[.val (.int p1), .val (.long q2), .second, .val (.long q3), .second, .val (.long q4), .second, .val (.int (2 : Int32)), .val (.ref b272), .unset, .unset, .unset]) rfl k) ?_
    show own_G p.tables e below _ (T272.setTop (mkF m 11 #[.val (.int p1), .val (.long q2), .second, .val (.long q3), .second, .val (.long q4), .second, .val (.int (2 : Int32)), .val (.ref b272), .unset, .unset, .unset] []))
    refine own_step (fun t k => XS.iload X272.here hx rfl (hb hby at_11) rfl k) ?_
    show own_G p.tables e below _ (T272.setTop (mkF m 13 #[.val (.int p1), .val (.long q2), .second, .val (.long q3), .second, .val (.long q4), .second, .val (.int (2 : Int32)), .val (.ref b272), .unset, .unset, .unset] [(.int (2 : Int32))]))
    obtain ⟨T274, h274, k274, X274, e274, E274, A274, st274⟩ := newP X272 hx hZ (hw _ (List.mem_of_getElem? (i := 0) rfl)) e272 (g := (mkF m 13 #[.val (.int p1), .val (.long q2), .second, .val (.long q3), .second, .val (.long q4), .second, .val (.int (2 : Int32)), .val (.ref b272), .unset, .unset, .unset] [(.int (2 : Int32))])) rfl (hb hby at_13) rfl (by decide) (cap := 2) (by decide) (by decide) (by decide) (by decide)
    obtain ⟨b274, g274⟩ : ∃ z, z = h272.size := ⟨_, rfl⟩
    have ne275 : b272 ≠ b274 := Nat.ne_of_lt (Nat.lt_of_lt_of_le c273.lt (Nat.le_of_eq g274.symm))
    have sz274 : h0.size ≤ b274 := Nat.le_trans K272.1 (Nat.le_of_eq g274.symm)
    have ge274 : n0 ≤ b274 := Nat.le_trans Z0 sz274
    have c276 : own_Ari Z h274 b272 .int [(0 : Int32), (0 : Int32)] := c273.ext E274
    have K274 : Keep h0 h274 [] := K272.ext E274
    rw [← g274] at A274 st274
    have c277 : own_Ari Z h274 b274 .int [(0 : Int32), (0 : Int32)] := own_Ari_new (ty := .int) A274 (by decide) rfl
    refine own_step st274 ?_
    show own_G p.tables e below _ (T274.setTop (mkF m 15 #[.val (.int p1), .val (.long q2), .second, .val (.long q3), .second, .val (.long q4), .second, .val (.int (2 : Int32)), .val (.ref b272), .unset, .unset, .unset] [(.ref b274)]))
    refine own_step (fun t k => XS.astore X274.here hx rfl (hb hby at_15) rfl rfl (l' := #[.val (.int p1), .val (.long q2), .second, .val (.long q3), .second, .val (.long q4), .second, .val (.int (2 : Int32)), .val (.ref b272), .val (.ref b274), .unset, .unset]) rfl k) ?_
    show own_G p.tables e below _ (T274.setTop (mkF m 17 #[.val (.int p1), .val (.long q2), .second, .val (.long q3), .second, .val (.long q4), .second, .val (.int (2 : Int32)), .val (.ref b272), .val (.ref b274), .unset, .unset] []))
    refine own_step (fun t k => XS.iload X274.here hx rfl (hb hby at_17) rfl k) ?_
    show own_G p.tables e below _ (T274.setTop (mkF m 19 #[.val (.int p1), .val (.long q2), .second, .val (.long q3), .second, .val (.long q4), .second, .val (.int (2 : Int32)), .val (.ref b272), .val (.ref b274), .unset, .unset] [(.int (2 : Int32))]))
    have hk278 : (0 : Int32) < (2 : Int32) := (by decide)
    refine own_step (fun t k => XS.ifNo X274.here hx rfl (hb hby at_19) rfl ((if0 _ _).trans (tlt hk278).2.2.2) k) ?_
    show own_G p.tables e below _ (T274.setTop (mkF m 22 #[.val (.int p1), .val (.long q2), .second, .val (.long q3), .second, .val (.long q4), .second, .val (.int (2 : Int32)), .val (.ref b272), .val (.ref b274), .unset, .unset] []))
    refine own_step (fun t k => XS.aload X274.here hx rfl (hb hby at_22) rfl rfl k) ?_
    show own_G p.tables e below _ (T274.setTop (mkF m 24 #[.val (.int p1), .val (.long q2), .second, .val (.long q3), .second, .val (.long q4), .second, .val (.int (2 : Int32)), .val (.ref b272), .val (.ref b274), .unset, .unset] [(.ref b272)]))
    refine own_step (fun t k => XS.iconst X274.here hx rfl (hb hby at_24) k) ?_
    show own_G p.tables e below _ (T274.setTop (mkF m 25 #[.val (.int p1), .val (.long q2), .second, .val (.long q3), .second, .val (.long q4), .second, .val (.int (2 : Int32)), .val (.ref b272), .val (.ref b274), .unset, .unset] [(.int (0 : Int32)), (.ref b272)]))
    refine own_step (fun t k => XS.lloadN X274.here hx rfl (hb hby at_25) rfl k) ?_
    show own_G p.tables e below _ (T274.setTop (mkF m 26 #[.val (.int p1), .val (.long q2), .second, .val (.long q3), .second, .val (.long q4), .second, .val (.int (2 : Int32)), .val (.ref b272), .val (.ref b274), .unset, .unset] [(.long q2), (.int (0 : Int32)), (.ref b272)]))
    obtain ⟨_, _, ⟨T279, L279, k279, n279⟩, -, X279, ⟨Lc279, hQ279, l279, y279, z279⟩, st279⟩ := Jvm.LawKit.callS X274 hx (y := (⟨"com/example/stevedore/stevedore/MoveGraphEndsPinLaw", "hi", "(J)I"⟩ : MethodName)) hown (mvT hZ (hw _ (List.mem_of_getElem? (i := 36) rfl))) (mvT hZ (hw _ (List.mem_of_getElem? (i := 37) rfl))) (mvT hZ (hw _ (List.mem_of_getElem? (i := 34) rfl))) (mvT hZ (hw _ (List.mem_of_getElem? (i := 38) rfl))) (by decide) (backOf (W := 2) (rm6 l Z a0 hw [] q2 h274 n0 (Nat.le_trans Z0 K274.1) ) hZ (hw _ (List.mem_of_getElem? (i := 38) rfl)) (hw _ (List.mem_of_getElem? (i := 34) rfl)) (by decide) (by decide)) (g := (mkF m 26 #[.val (.int p1), .val (.long q2), .second, .val (.long q3), .second, .val (.long q4), .second, .val (.int (2 : Int32)), .val (.ref b272), .val (.ref b274), .unset, .unset] [(.long q2), (.int (0 : Int32)), (.ref b272)])) rfl (by rw [hml]; rfl) (argsL := [(.long q2)]) (rest := [(.int (0 : Int32)), (.ref b272)]) (lenOf pd_0_3 rfl) rfl (by show 2 * 0 + _ ≤ _; exact Nat.le_of_eq rfl) (hb hby at_26) (fun _ _ => ⟨rfl, e274, (by decide : 2 + 0 ≤ _), (by decide : 4 + 0 ≤ _)⟩)
    dsimp only [Pt.U, Pt.locs, Pt.cells, Pt.slots] at X279 l279 y279 z279 st279 hQ279
    subst l279 y279 z279
    obtain ⟨rfl, N279q, e279⟩ := hQ279
    have N279 := Fr.app N0 N279q
    refine own_step st279 ?_
    show own_G p.tables e below _ (T279.setTop (mkF m 29 #[.val (.int p1), .val (.long q2), .second, .val (.long q3), .second, .val (.long q4), .second, .val (.int (2 : Int32)), .val (.ref b272), .val (.ref b274), .unset, .unset] [(.int (((q2.toUInt64 >>> ((32 : Int32) &&& 0x3f).toInt64.toUInt64).toInt64).toInt32)), (.int (0 : Int32)), (.ref b272)]))
    obtain ⟨T280, h280, X280, e280, W280, c280, st280⟩ := own_iastore X279 hx hZ e279 c276 (own_inb (by decide) (Nat.le_of_ble_eq_true rfl)) (g := (mkF m 29 #[.val (.int p1), .val (.long q2), .second, .val (.long q3), .second, .val (.long q4), .second, .val (.int (2 : Int32)), .val (.ref b272), .val (.ref b274), .unset, .unset] [(.int (((q2.toUInt64 >>> ((32 : Int32) &&& 0x3f).toInt64.toUInt64).toInt64).toInt32)), (.int (0 : Int32)), (.ref b272)])) rfl rfl (hb hby at_29)
    have N280 := Fr.snoc X280 N279 ge272
    have c281 : own_Ari Z h280 b272 .int [(((q2.toUInt64 >>> ((32 : Int32) &&& 0x3f).toInt64.toUInt64).toInt64).toInt32), (0 : Int32)] := c280
    have c283 : own_Ari Z h280 b274 .int [(0 : Int32), (0 : Int32)] := c277.other W280 (Ne.symm ne275)
    have K280 : Keep h0 h280 [] := K274.wr W280 (Or.inr sz272)
    refine own_step st280 ?_
    show own_G p.tables e below _ (T280.setTop (mkF m 30 #[.val (.int p1), .val (.long q2), .second, .val (.long q3), .second, .val (.long q4), .second, .val (.int (2 : Int32)), .val (.ref b272), .val (.ref b274), .unset, .unset] []))
    refine own_step (fun t k => XS.aload X280.here hx rfl (hb hby at_30) rfl rfl k) ?_
    show own_G p.tables e below _ (T280.setTop (mkF m 32 #[.val (.int p1), .val (.long q2), .second, .val (.long q3), .second, .val (.long q4), .second, .val (.int (2 : Int32)), .val (.ref b272), .val (.ref b274), .unset, .unset] [(.ref b274)]))
    refine own_step (fun t k => XS.iconst X280.here hx rfl (hb hby at_32) k) ?_
    show own_G p.tables e below _ (T280.setTop (mkF m 33 #[.val (.int p1), .val (.long q2), .second, .val (.long q3), .second, .val (.long q4), .second, .val (.int (2 : Int32)), .val (.ref b272), .val (.ref b274), .unset, .unset] [(.int (0 : Int32)), (.ref b274)]))
    refine own_step (fun t k => XS.lloadN X280.here hx rfl (hb hby at_33) rfl k) ?_
    show own_G p.tables e below _ (T280.setTop (mkF m 34 #[.val (.int p1), .val (.long q2), .second, .val (.long q3), .second, .val (.long q4), .second, .val (.int (2 : Int32)), .val (.ref b272), .val (.ref b274), .unset, .unset] [(.long q2), (.int (0 : Int32)), (.ref b274)]))
    obtain ⟨_, _, ⟨T284, L284, k284, n284⟩, -, X284, ⟨Lc284, hQ284, l284, y284, z284⟩, st284⟩ := Jvm.LawKit.callS X280 hx (y := (⟨"com/example/stevedore/stevedore/MoveGraphEndsPinLaw", "lo", "(J)I"⟩ : MethodName)) hown (mvT hZ (hw _ (List.mem_of_getElem? (i := 39) rfl))) (mvT hZ (hw _ (List.mem_of_getElem? (i := 40) rfl))) (mvT hZ (hw _ (List.mem_of_getElem? (i := 34) rfl))) (mvT hZ (hw _ (List.mem_of_getElem? (i := 41) rfl))) (by decide) (backOf (W := 2) (rm7 l Z a0 hw [] q2 h280 n0 (Nat.le_trans Z0 K280.1) ) hZ (hw _ (List.mem_of_getElem? (i := 41) rfl)) (hw _ (List.mem_of_getElem? (i := 34) rfl)) (by decide) (by decide)) (g := (mkF m 34 #[.val (.int p1), .val (.long q2), .second, .val (.long q3), .second, .val (.long q4), .second, .val (.int (2 : Int32)), .val (.ref b272), .val (.ref b274), .unset, .unset] [(.long q2), (.int (0 : Int32)), (.ref b274)])) rfl (by rw [hml]; rfl) (argsL := [(.long q2)]) (rest := [(.int (0 : Int32)), (.ref b274)]) (lenOf pd_0_3 rfl) rfl (by show 2 * 0 + _ ≤ _; exact Nat.le_of_eq rfl) (hb hby at_34) (fun _ _ => ⟨rfl, e280, (by decide : 2 + 0 ≤ _), (by decide : 4 + 0 ≤ _)⟩)
    dsimp only [Pt.U, Pt.locs, Pt.cells, Pt.slots] at X284 l284 y284 z284 st284 hQ284
    subst l284 y284 z284
    obtain ⟨rfl, N284q, e284⟩ := hQ284
    have N284 := Fr.app N280 N284q
    refine own_step st284 ?_
    show own_G p.tables e below _ (T284.setTop (mkF m 37 #[.val (.int p1), .val (.long q2), .second, .val (.long q3), .second, .val (.long q4), .second, .val (.int (2 : Int32)), .val (.ref b272), .val (.ref b274), .unset, .unset] [(.int (q2.toInt32)), (.int (0 : Int32)), (.ref b274)]))
    obtain ⟨T285, h285, X285, e285, W285, c285, st285⟩ := own_iastore X284 hx hZ e284 c283 (own_inb (by decide) (Nat.le_of_ble_eq_true rfl)) (g := (mkF m 37 #[.val (.int p1), .val (.long q2), .second, .val (.long q3), .second, .val (.long q4), .second, .val (.int (2 : Int32)), .val (.ref b272), .val (.ref b274), .unset, .unset] [(.int (q2.toInt32)), (.int (0 : Int32)), (.ref b274)])) rfl rfl (hb hby at_37)
    have N285 := Fr.snoc X285 N284 ge274
    have c286 : own_Ari Z h285 b274 .int [(q2.toInt32), (0 : Int32)] := c285
    have c287 : own_Ari Z h285 b272 .int [(((q2.toUInt64 >>> ((32 : Int32) &&& 0x3f).toInt64.toUInt64).toInt64).toInt32), (0 : Int32)] := c281.other W285 ne275
    have K285 : Keep h0 h285 [] := K280.wr W285 (Or.inr sz274)
    refine own_step st285 ?_
    show own_G p.tables e below _ (T285.setTop (mkF m 38 #[.val (.int p1), .val (.long q2), .second, .val (.long q3), .second, .val (.long q4), .second, .val (.int (2 : Int32)), .val (.ref b272), .val (.ref b274), .unset, .unset] []))
    refine own_step (fun t k => XS.iload X285.here hx rfl (hb hby at_38) rfl k) ?_
    show own_G p.tables e below _ (T285.setTop (mkF m 40 #[.val (.int p1), .val (.long q2), .second, .val (.long q3), .second, .val (.long q4), .second, .val (.int (2 : Int32)), .val (.ref b272), .val (.ref b274), .unset, .unset] [(.int (2 : Int32))]))
    refine own_step (fun t k => XS.iconst X285.here hx rfl (hb hby at_40) k) ?_
    show own_G p.tables e below _ (T285.setTop (mkF m 41 #[.val (.int p1), .val (.long q2), .second, .val (.long q3), .second, .val (.long q4), .second, .val (.int (2 : Int32)), .val (.ref b272), .val (.ref b274), .unset, .unset] [(.int (1 : Int32)), (.int (2 : Int32))]))
    have hk289 : (1 : Int32) < (2 : Int32) := (by decide)
    refine own_step (fun t k => XS.icmpNo X285.here hx rfl (hb hby at_41) rfl ((tlt hk289).2.2.2) k) ?_
    show own_G p.tables e below _ (T285.setTop (mkF m 44 #[.val (.int p1), .val (.long q2), .second, .val (.long q3), .second, .val (.long q4), .second, .val (.int (2 : Int32)), .val (.ref b272), .val (.ref b274), .unset, .unset] []))
    refine own_step (fun t k => XS.aload X285.here hx rfl (hb hby at_44) rfl rfl k) ?_
    show own_G p.tables e below _ (T285.setTop (mkF m 46 #[.val (.int p1), .val (.long q2), .second, .val (.long q3), .second, .val (.long q4), .second, .val (.int (2 : Int32)), .val (.ref b272), .val (.ref b274), .unset, .unset] [(.ref b272)]))
    refine own_step (fun t k => XS.iconst X285.here hx rfl (hb hby at_46) k) ?_
    show own_G p.tables e below _ (T285.setTop (mkF m 47 #[.val (.int p1), .val (.long q2), .second, .val (.long q3), .second, .val (.long q4), .second, .val (.int (2 : Int32)), .val (.ref b272), .val (.ref b274), .unset, .unset] [(.int (1 : Int32)), (.ref b272)]))
    refine own_step (fun t k => XS.lloadN X285.here hx rfl (hb hby at_47) rfl k) ?_
    show own_G p.tables e below _ (T285.setTop (mkF m 48 #[.val (.int p1), .val (.long q2), .second, .val (.long q3), .second, .val (.long q4), .second, .val (.int (2 : Int32)), .val (.ref b272), .val (.ref b274), .unset, .unset] [(.long q3), (.int (1 : Int32)), (.ref b272)]))
    obtain ⟨_, _, ⟨T290, L290, k290, n290⟩, -, X290, ⟨Lc290, hQ290, l290, y290, z290⟩, st290⟩ := Jvm.LawKit.callS X285 hx (y := (⟨"com/example/stevedore/stevedore/MoveGraphEndsPinLaw", "hi", "(J)I"⟩ : MethodName)) hown (mvT hZ (hw _ (List.mem_of_getElem? (i := 36) rfl))) (mvT hZ (hw _ (List.mem_of_getElem? (i := 37) rfl))) (mvT hZ (hw _ (List.mem_of_getElem? (i := 34) rfl))) (mvT hZ (hw _ (List.mem_of_getElem? (i := 38) rfl))) (by decide) (backOf (W := 2) (rm6 l Z a0 hw [] q3 h285 n0 (Nat.le_trans Z0 K285.1) ) hZ (hw _ (List.mem_of_getElem? (i := 38) rfl)) (hw _ (List.mem_of_getElem? (i := 34) rfl)) (by decide) (by decide)) (g := (mkF m 48 #[.val (.int p1), .val (.long q2), .second, .val (.long q3), .second, .val (.long q4), .second, .val (.int (2 : Int32)), .val (.ref b272), .val (.ref b274), .unset, .unset] [(.long q3), (.int (1 : Int32)), (.ref b272)])) rfl (by rw [hml]; rfl) (argsL := [(.long q3)]) (rest := [(.int (1 : Int32)), (.ref b272)]) (lenOf pd_0_3 rfl) rfl (by show 2 * 0 + _ ≤ _; exact Nat.le_of_eq rfl) (hb hby at_48) (fun _ _ => ⟨rfl, e285, (by decide : 2 + 0 ≤ _), (by decide : 4 + 0 ≤ _)⟩)
    dsimp only [Pt.U, Pt.locs, Pt.cells, Pt.slots] at X290 l290 y290 z290 st290 hQ290
    subst l290 y290 z290
    obtain ⟨rfl, N290q, e290⟩ := hQ290
    have N290 := Fr.app N285 N290q
    refine own_step st290 ?_
    show own_G p.tables e below _ (T290.setTop (mkF m 51 #[.val (.int p1), .val (.long q2), .second, .val (.long q3), .second, .val (.long q4), .second, .val (.int (2 : Int32)), .val (.ref b272), .val (.ref b274), .unset, .unset] [(.int (((q3.toUInt64 >>> ((32 : Int32) &&& 0x3f).toInt64.toUInt64).toInt64).toInt32)), (.int (1 : Int32)), (.ref b272)]))
    obtain ⟨T291, h291, X291, e291, W291, c291, st291⟩ := own_iastore X290 hx hZ e290 c287 (own_inb (by decide) (Nat.le_of_ble_eq_true rfl)) (g := (mkF m 51 #[.val (.int p1), .val (.long q2), .second, .val (.long q3), .second, .val (.long q4), .second, .val (.int (2 : Int32)), .val (.ref b272), .val (.ref b274), .unset, .unset] [(.int (((q3.toUInt64 >>> ((32 : Int32) &&& 0x3f).toInt64.toUInt64).toInt64).toInt32)), (.int (1 : Int32)), (.ref b272)])) rfl rfl (hb hby at_51)
    have N291 := Fr.snoc X291 N290 ge272
    have c292 : own_Ari Z h291 b272 .int [(((q2.toUInt64 >>> ((32 : Int32) &&& 0x3f).toInt64.toUInt64).toInt64).toInt32), (((q3.toUInt64 >>> ((32 : Int32) &&& 0x3f).toInt64.toUInt64).toInt64).toInt32)] := c291
    have c294 : own_Ari Z h291 b274 .int [(q2.toInt32), (0 : Int32)] := c286.other W291 (Ne.symm ne275)
    have K291 : Keep h0 h291 [] := K285.wr W291 (Or.inr sz272)
    refine own_step st291 ?_
    show own_G p.tables e below _ (T291.setTop (mkF m 52 #[.val (.int p1), .val (.long q2), .second, .val (.long q3), .second, .val (.long q4), .second, .val (.int (2 : Int32)), .val (.ref b272), .val (.ref b274), .unset, .unset] []))
    refine own_step (fun t k => XS.aload X291.here hx rfl (hb hby at_52) rfl rfl k) ?_
    show own_G p.tables e below _ (T291.setTop (mkF m 54 #[.val (.int p1), .val (.long q2), .second, .val (.long q3), .second, .val (.long q4), .second, .val (.int (2 : Int32)), .val (.ref b272), .val (.ref b274), .unset, .unset] [(.ref b274)]))
    refine own_step (fun t k => XS.iconst X291.here hx rfl (hb hby at_54) k) ?_
    show own_G p.tables e below _ (T291.setTop (mkF m 55 #[.val (.int p1), .val (.long q2), .second, .val (.long q3), .second, .val (.long q4), .second, .val (.int (2 : Int32)), .val (.ref b272), .val (.ref b274), .unset, .unset] [(.int (1 : Int32)), (.ref b274)]))
    refine own_step (fun t k => XS.lloadN X291.here hx rfl (hb hby at_55) rfl k) ?_
    show own_G p.tables e below _ (T291.setTop (mkF m 56 #[.val (.int p1), .val (.long q2), .second, .val (.long q3), .second, .val (.long q4), .second, .val (.int (2 : Int32)), .val (.ref b272), .val (.ref b274), .unset, .unset] [(.long q3), (.int (1 : Int32)), (.ref b274)]))
    obtain ⟨_, _, ⟨T295, L295, k295, n295⟩, -, X295, ⟨Lc295, hQ295, l295, y295, z295⟩, st295⟩ := Jvm.LawKit.callS X291 hx (y := (⟨"com/example/stevedore/stevedore/MoveGraphEndsPinLaw", "lo", "(J)I"⟩ : MethodName)) hown (mvT hZ (hw _ (List.mem_of_getElem? (i := 39) rfl))) (mvT hZ (hw _ (List.mem_of_getElem? (i := 40) rfl))) (mvT hZ (hw _ (List.mem_of_getElem? (i := 34) rfl))) (mvT hZ (hw _ (List.mem_of_getElem? (i := 41) rfl))) (by decide) (backOf (W := 2) (rm7 l Z a0 hw [] q3 h291 n0 (Nat.le_trans Z0 K291.1) ) hZ (hw _ (List.mem_of_getElem? (i := 41) rfl)) (hw _ (List.mem_of_getElem? (i := 34) rfl)) (by decide) (by decide)) (g := (mkF m 56 #[.val (.int p1), .val (.long q2), .second, .val (.long q3), .second, .val (.long q4), .second, .val (.int (2 : Int32)), .val (.ref b272), .val (.ref b274), .unset, .unset] [(.long q3), (.int (1 : Int32)), (.ref b274)])) rfl (by rw [hml]; rfl) (argsL := [(.long q3)]) (rest := [(.int (1 : Int32)), (.ref b274)]) (lenOf pd_0_3 rfl) rfl (by show 2 * 0 + _ ≤ _; exact Nat.le_of_eq rfl) (hb hby at_56) (fun _ _ => ⟨rfl, e291, (by decide : 2 + 0 ≤ _), (by decide : 4 + 0 ≤ _)⟩)
    dsimp only [Pt.U, Pt.locs, Pt.cells, Pt.slots] at X295 l295 y295 z295 st295 hQ295
    subst l295 y295 z295
    obtain ⟨rfl, N295q, e295⟩ := hQ295
    have N295 := Fr.app N291 N295q
    refine own_step st295 ?_
    show own_G p.tables e below _ (T295.setTop (mkF m 59 #[.val (.int p1), .val (.long q2), .second, .val (.long q3), .second, .val (.long q4), .second, .val (.int (2 : Int32)), .val (.ref b272), .val (.ref b274), .unset, .unset] [(.int (q3.toInt32)), (.int (1 : Int32)), (.ref b274)]))
    obtain ⟨T296, h296, X296, e296, W296, c296, st296⟩ := own_iastore X295 hx hZ e295 c294 (own_inb (by decide) (Nat.le_of_ble_eq_true rfl)) (g := (mkF m 59 #[.val (.int p1), .val (.long q2), .second, .val (.long q3), .second, .val (.long q4), .second, .val (.int (2 : Int32)), .val (.ref b272), .val (.ref b274), .unset, .unset] [(.int (q3.toInt32)), (.int (1 : Int32)), (.ref b274)])) rfl rfl (hb hby at_59)
    have N296 := Fr.snoc X296 N295 ge274
    have c297 : own_Ari Z h296 b274 .int [(q2.toInt32), (q3.toInt32)] := c296
    have c298 : own_Ari Z h296 b272 .int [(((q2.toUInt64 >>> ((32 : Int32) &&& 0x3f).toInt64.toUInt64).toInt64).toInt32), (((q3.toUInt64 >>> ((32 : Int32) &&& 0x3f).toInt64.toUInt64).toInt64).toInt32)] := c292.other W296 ne275
    have K296 : Keep h0 h296 [] := K291.wr W296 (Or.inr sz274)
    refine own_step st296 ?_
    show own_G p.tables e below _ (T296.setTop (mkF m 60 #[.val (.int p1), .val (.long q2), .second, .val (.long q3), .second, .val (.long q4), .second, .val (.int (2 : Int32)), .val (.ref b272), .val (.ref b274), .unset, .unset] []))
    refine own_step (fun t k => XS.iload X296.here hx rfl (hb hby at_60) rfl k) ?_
    show own_G p.tables e below _ (T296.setTop (mkF m 62 #[.val (.int p1), .val (.long q2), .second, .val (.long q3), .second, .val (.long q4), .second, .val (.int (2 : Int32)), .val (.ref b272), .val (.ref b274), .unset, .unset] [(.int (2 : Int32))]))
    refine own_step (fun t k => XS.iconst X296.here hx rfl (hb hby at_62) k) ?_
    show own_G p.tables e below _ (T296.setTop (mkF m 63 #[.val (.int p1), .val (.long q2), .second, .val (.long q3), .second, .val (.long q4), .second, .val (.int (2 : Int32)), .val (.ref b272), .val (.ref b274), .unset, .unset] [(.int (2 : Int32)), (.int (2 : Int32))]))
    have hk300 : ¬ ((2 : Int32) < (2 : Int32)) := (by decide)
    refine own_step (fun t k => XS.icmpYes X296.here hx rfl (pc0 := 63) (pc' := 84) rfl (hb hby at_63) rfl ((flt hk300).2.2.2) (by decide) (by decide) k) ?_
    show own_G p.tables e below _ (T296.setTop (mkF m 84 #[.val (.int p1), .val (.long q2), .second, .val (.long q3), .second, .val (.long q4), .second, .val (.int (2 : Int32)), .val (.ref b272), .val (.ref b274), .unset, .unset] []))
    obtain ⟨T301, h301, X301, e301, E301, A301, D301, -, st301⟩ := newO X296 hx hZ hown (hw _ (List.mem_of_getElem? (i := 1) rfl)) (hw _ (List.mem_of_getElem? (i := 2) rfl)) (hw _ (List.mem_of_getElem? (i := 3) rfl)) e296 (g := (mkF m 84 #[.val (.int p1), .val (.long q2), .second, .val (.long q3), .second, .val (.long q4), .second, .val (.int (2 : Int32)), .val (.ref b272), .val (.ref b274), .unset, .unset] [])) rfl (hb hby at_84) (by decide) (by decide)
    obtain ⟨b301, g301⟩ : ∃ z, z = h296.size := ⟨_, rfl⟩
    have ne302 : b272 ≠ b301 := Nat.ne_of_lt (Nat.lt_of_lt_of_le c298.lt (Nat.le_of_eq g301.symm))
    have ne303 : b274 ≠ b301 := Nat.ne_of_lt (Nat.lt_of_lt_of_le c297.lt (Nat.le_of_eq g301.symm))
    have sz301 : h0.size ≤ b301 := Nat.le_trans K296.1 (Nat.le_of_eq g301.symm)
    have ge301 : n0 ≤ b301 := Nat.le_trans Z0 sz301
    have c304 : own_Ari Z h301 b272 .int [(((q2.toUInt64 >>> ((32 : Int32) &&& 0x3f).toInt64.toUInt64).toInt64).toInt32), (((q3.toUInt64 >>> ((32 : Int32) &&& 0x3f).toInt64.toUInt64).toInt64).toInt32)] := c298.ext E301
    have c305 : own_Ari Z h301 b274 .int [(q2.toInt32), (q3.toInt32)] := c297.ext E301
    have K301 : Keep h0 h301 [] := K296.ext E301
    rw [← g301] at A301 D301 st301
    have c306 : Fld Z h301 b301 "com/example/stevedore/stevedore/MoveGraph" "from" "[I" .null := D301 (Or.inr (hw _ (List.mem_of_getElem? (i := 16) rfl))) (ty := (.array .int)) (by decide)
    have c307 : Fld Z h301 b301 "com/example/stevedore/stevedore/MoveGraph" "to" "[I" .null := D301 (Or.inr (hw _ (List.mem_of_getElem? (i := 18) rfl))) (ty := (.array .int)) (by decide)
    have c308 : Fld Z h301 b301 "com/example/stevedore/stevedore/MoveGraph" "limit" "[I" .null := D301 (Or.inr (hw _ (List.mem_of_getElem? (i := 20) rfl))) (ty := (.array .int)) (by decide)
    have c309 : Fld Z h301 b301 "com/example/stevedore/stevedore/MoveGraph" "send" "[I" .null := D301 (Or.inr (hw _ (List.mem_of_getElem? (i := 22) rfl))) (ty := (.array .int)) (by decide)
    have c310 : Fld Z h301 b301 "com/example/stevedore/stevedore/MoveGraph" "receive" "[I" .null := D301 (Or.inr (hw _ (List.mem_of_getElem? (i := 24) rfl))) (ty := (.array .int)) (by decide)
    have c311 : Fld Z h301 b301 "com/example/stevedore/stevedore/MoveGraph" "free" "[I" .null := D301 (Or.inr (hw _ (List.mem_of_getElem? (i := 26) rfl))) (ty := (.array .int)) (by decide)
    refine own_step st301 ?_
    show own_G p.tables e below _ (T301.setTop (mkF m 87 #[.val (.int p1), .val (.long q2), .second, .val (.long q3), .second, .val (.long q4), .second, .val (.int (2 : Int32)), .val (.ref b272), .val (.ref b274), .unset, .unset] [(.ref b301)]))
    refine own_step (fun t k => XS.dup X301.here hx rfl (hb hby at_87) rfl rfl k) ?_
    show own_G p.tables e below _ (T301.setTop (mkF m 88 #[.val (.int p1), .val (.long q2), .second, .val (.long q3), .second, .val (.long q4), .second, .val (.int (2 : Int32)), .val (.ref b272), .val (.ref b274), .unset, .unset] [(.ref b301), (.ref b301)]))
    refine own_step (fun t k => XS.aload X301.here hx rfl (hb hby at_88) rfl rfl k) ?_
    show own_G p.tables e below _ (T301.setTop (mkF m 90 #[.val (.int p1), .val (.long q2), .second, .val (.long q3), .second, .val (.long q4), .second, .val (.int (2 : Int32)), .val (.ref b272), .val (.ref b274), .unset, .unset] [(.ref b272), (.ref b301), (.ref b301)]))
    refine own_step (fun t k => XS.aload X301.here hx rfl (hb hby at_90) rfl rfl k) ?_
    show own_G p.tables e below _ (T301.setTop (mkF m 92 #[.val (.int p1), .val (.long q2), .second, .val (.long q3), .second, .val (.long q4), .second, .val (.int (2 : Int32)), .val (.ref b272), .val (.ref b274), .unset, .unset] [(.ref b274), (.ref b272), (.ref b301), (.ref b301)]))
    refine own_step (fun t k => XS.iconst X301.here hx rfl (hb hby at_92) k) ?_
    show own_G p.tables e below _ (T301.setTop (mkF m 93 #[.val (.int p1), .val (.long q2), .second, .val (.long q3), .second, .val (.long q4), .second, .val (.int (2 : Int32)), .val (.ref b272), .val (.ref b274), .unset, .unset] [(.int (0 : Int32)), (.ref b274), (.ref b272), (.ref b301), (.ref b301)]))
    obtain ⟨T312, h312, k312, X312, e312, E312, A312, st312⟩ := newP X301 hx hZ (hw _ (List.mem_of_getElem? (i := 0) rfl)) e301 (g := (mkF m 93 #[.val (.int p1), .val (.long q2), .second, .val (.long q3), .second, .val (.long q4), .second, .val (.int (2 : Int32)), .val (.ref b272), .val (.ref b274), .unset, .unset] [(.int (0 : Int32)), (.ref b274), (.ref b272), (.ref b301), (.ref b301)])) rfl (hb hby at_93) rfl (by decide) (cap := 0) (by decide) (by decide) (by decide) (by decide)
    obtain ⟨b312, g312⟩ : ∃ z, z = h301.size := ⟨_, rfl⟩
    have ne313 : b272 ≠ b312 := Nat.ne_of_lt (Nat.lt_of_lt_of_le c304.lt (Nat.le_of_eq g312.symm))
    have ne314 : b274 ≠ b312 := Nat.ne_of_lt (Nat.lt_of_lt_of_le c305.lt (Nat.le_of_eq g312.symm))
    have ne315 : b301 ≠ b312 := Nat.ne_of_lt (Nat.lt_of_lt_of_le A301.lt (Nat.le_of_eq g312.symm))
    have sz312 : h0.size ≤ b312 := Nat.le_trans K301.1 (Nat.le_of_eq g312.symm)
    have ge312 : n0 ≤ b312 := Nat.le_trans Z0 sz312
    have c316 : own_Ari Z h312 b272 .int [(((q2.toUInt64 >>> ((32 : Int32) &&& 0x3f).toInt64.toUInt64).toInt64).toInt32), (((q3.toUInt64 >>> ((32 : Int32) &&& 0x3f).toInt64.toUInt64).toInt64).toInt32)] := c304.ext E312
    have c317 : own_Ari Z h312 b274 .int [(q2.toInt32), (q3.toInt32)] := c305.ext E312
    have c318 : Exa Z h312 b301 "com/example/stevedore/stevedore/MoveGraph" := A301.ext E312
    have c319 : Fld Z h312 b301 "com/example/stevedore/stevedore/MoveGraph" "from" "[I" .null := c306.ext E312
    have c320 : Fld Z h312 b301 "com/example/stevedore/stevedore/MoveGraph" "to" "[I" .null := c307.ext E312
    have c321 : Fld Z h312 b301 "com/example/stevedore/stevedore/MoveGraph" "limit" "[I" .null := c308.ext E312
    have c322 : Fld Z h312 b301 "com/example/stevedore/stevedore/MoveGraph" "send" "[I" .null := c309.ext E312
    have c323 : Fld Z h312 b301 "com/example/stevedore/stevedore/MoveGraph" "receive" "[I" .null := c310.ext E312
    have c324 : Fld Z h312 b301 "com/example/stevedore/stevedore/MoveGraph" "free" "[I" .null := c311.ext E312
    have K312 : Keep h0 h312 [] := K301.ext E312
    rw [← g312] at A312 st312
    have c325 : own_Ari Z h312 b312 .int [] := own_Ari_new (ty := .int) A312 (by decide) rfl
    refine own_step st312 ?_
    show own_G p.tables e below _ (T312.setTop (mkF m 95 #[.val (.int p1), .val (.long q2), .second, .val (.long q3), .second, .val (.long q4), .second, .val (.int (2 : Int32)), .val (.ref b272), .val (.ref b274), .unset, .unset] [(.ref b312), (.ref b274), (.ref b272), (.ref b301), (.ref b301)]))
    refine own_step (fun t k => XS.iconst X312.here hx rfl (hb hby at_95) k) ?_
    show own_G p.tables e below _ (T312.setTop (mkF m 96 #[.val (.int p1), .val (.long q2), .second, .val (.long q3), .second, .val (.long q4), .second, .val (.int (2 : Int32)), .val (.ref b272), .val (.ref b274), .unset, .unset] [(.int (0 : Int32)), (.ref b312), (.ref b274), (.ref b272), (.ref b301), (.ref b301)]))
    obtain ⟨T326, h326, k326, X326, e326, E326, A326, st326⟩ := newP X312 hx hZ (hw _ (List.mem_of_getElem? (i := 0) rfl)) e312 (g := (mkF m 96 #[.val (.int p1), .val (.long q2), .second, .val (.long q3), .second, .val (.long q4), .second, .val (.int (2 : Int32)), .val (.ref b272), .val (.ref b274), .unset, .unset] [(.int (0 : Int32)), (.ref b312), (.ref b274), (.ref b272), (.ref b301), (.ref b301)])) rfl (hb hby at_96) rfl (by decide) (cap := 0) (by decide) (by decide) (by decide) (by decide)
    obtain ⟨b326, g326⟩ : ∃ z, z = h312.size := ⟨_, rfl⟩
    have ne327 : b272 ≠ b326 := Nat.ne_of_lt (Nat.lt_of_lt_of_le c316.lt (Nat.le_of_eq g326.symm))
    have ne328 : b274 ≠ b326 := Nat.ne_of_lt (Nat.lt_of_lt_of_le c317.lt (Nat.le_of_eq g326.symm))
    have ne329 : b301 ≠ b326 := Nat.ne_of_lt (Nat.lt_of_lt_of_le c318.lt (Nat.le_of_eq g326.symm))
    have ne330 : b312 ≠ b326 := Nat.ne_of_lt (Nat.lt_of_lt_of_le c325.lt (Nat.le_of_eq g326.symm))
    have sz326 : h0.size ≤ b326 := Nat.le_trans K312.1 (Nat.le_of_eq g326.symm)
    have ge326 : n0 ≤ b326 := Nat.le_trans Z0 sz326
    have c331 : own_Ari Z h326 b272 .int [(((q2.toUInt64 >>> ((32 : Int32) &&& 0x3f).toInt64.toUInt64).toInt64).toInt32), (((q3.toUInt64 >>> ((32 : Int32) &&& 0x3f).toInt64.toUInt64).toInt64).toInt32)] := c316.ext E326
    have c332 : own_Ari Z h326 b274 .int [(q2.toInt32), (q3.toInt32)] := c317.ext E326
    have c333 : Exa Z h326 b301 "com/example/stevedore/stevedore/MoveGraph" := c318.ext E326
    have c334 : Fld Z h326 b301 "com/example/stevedore/stevedore/MoveGraph" "from" "[I" .null := c319.ext E326
    have c335 : Fld Z h326 b301 "com/example/stevedore/stevedore/MoveGraph" "to" "[I" .null := c320.ext E326
    have c336 : Fld Z h326 b301 "com/example/stevedore/stevedore/MoveGraph" "limit" "[I" .null := c321.ext E326
    have c337 : Fld Z h326 b301 "com/example/stevedore/stevedore/MoveGraph" "send" "[I" .null := c322.ext E326
    have c338 : Fld Z h326 b301 "com/example/stevedore/stevedore/MoveGraph" "receive" "[I" .null := c323.ext E326
    have c339 : Fld Z h326 b301 "com/example/stevedore/stevedore/MoveGraph" "free" "[I" .null := c324.ext E326
    have c340 : own_Ari Z h326 b312 .int [] := c325.ext E326
    have K326 : Keep h0 h326 [] := K312.ext E326
    rw [← g326] at A326 st326
    have c341 : own_Ari Z h326 b326 .int [] := own_Ari_new (ty := .int) A326 (by decide) rfl
    refine own_step st326 ?_
    show own_G p.tables e below _ (T326.setTop (mkF m 98 #[.val (.int p1), .val (.long q2), .second, .val (.long q3), .second, .val (.long q4), .second, .val (.int (2 : Int32)), .val (.ref b272), .val (.ref b274), .unset, .unset] [(.ref b326), (.ref b312), (.ref b274), (.ref b272), (.ref b301), (.ref b301)]))
    refine own_step (fun t k => XS.iconst X326.here hx rfl (hb hby at_98) k) ?_
    show own_G p.tables e below _ (T326.setTop (mkF m 99 #[.val (.int p1), .val (.long q2), .second, .val (.long q3), .second, .val (.long q4), .second, .val (.int (2 : Int32)), .val (.ref b272), .val (.ref b274), .unset, .unset] [(.int (0 : Int32)), (.ref b326), (.ref b312), (.ref b274), (.ref b272), (.ref b301), (.ref b301)]))
    obtain ⟨T342, h342, k342, X342, e342, E342, A342, st342⟩ := newP X326 hx hZ (hw _ (List.mem_of_getElem? (i := 0) rfl)) e326 (g := (mkF m 99 #[.val (.int p1), .val (.long q2), .second, .val (.long q3), .second, .val (.long q4), .second, .val (.int (2 : Int32)), .val (.ref b272), .val (.ref b274), .unset, .unset] [(.int (0 : Int32)), (.ref b326), (.ref b312), (.ref b274), (.ref b272), (.ref b301), (.ref b301)])) rfl (hb hby at_99) rfl (by decide) (cap := 0) (by decide) (by decide) (by decide) (by decide)
    obtain ⟨b342, g342⟩ : ∃ z, z = h326.size := ⟨_, rfl⟩
    have ne343 : b272 ≠ b342 := Nat.ne_of_lt (Nat.lt_of_lt_of_le c331.lt (Nat.le_of_eq g342.symm))
    have ne344 : b274 ≠ b342 := Nat.ne_of_lt (Nat.lt_of_lt_of_le c332.lt (Nat.le_of_eq g342.symm))
    have ne345 : b301 ≠ b342 := Nat.ne_of_lt (Nat.lt_of_lt_of_le c333.lt (Nat.le_of_eq g342.symm))
    have ne346 : b312 ≠ b342 := Nat.ne_of_lt (Nat.lt_of_lt_of_le c340.lt (Nat.le_of_eq g342.symm))
    have ne347 : b326 ≠ b342 := Nat.ne_of_lt (Nat.lt_of_lt_of_le c341.lt (Nat.le_of_eq g342.symm))
    have sz342 : h0.size ≤ b342 := Nat.le_trans K326.1 (Nat.le_of_eq g342.symm)
    have ge342 : n0 ≤ b342 := Nat.le_trans Z0 sz342
    have c348 : own_Ari Z h342 b272 .int [(((q2.toUInt64 >>> ((32 : Int32) &&& 0x3f).toInt64.toUInt64).toInt64).toInt32), (((q3.toUInt64 >>> ((32 : Int32) &&& 0x3f).toInt64.toUInt64).toInt64).toInt32)] := c331.ext E342
    have c349 : own_Ari Z h342 b274 .int [(q2.toInt32), (q3.toInt32)] := c332.ext E342
    have c350 : Exa Z h342 b301 "com/example/stevedore/stevedore/MoveGraph" := c333.ext E342
    have c351 : Fld Z h342 b301 "com/example/stevedore/stevedore/MoveGraph" "from" "[I" .null := c334.ext E342
    have c352 : Fld Z h342 b301 "com/example/stevedore/stevedore/MoveGraph" "to" "[I" .null := c335.ext E342
    have c353 : Fld Z h342 b301 "com/example/stevedore/stevedore/MoveGraph" "limit" "[I" .null := c336.ext E342
    have c354 : Fld Z h342 b301 "com/example/stevedore/stevedore/MoveGraph" "send" "[I" .null := c337.ext E342
    have c355 : Fld Z h342 b301 "com/example/stevedore/stevedore/MoveGraph" "receive" "[I" .null := c338.ext E342
    have c356 : Fld Z h342 b301 "com/example/stevedore/stevedore/MoveGraph" "free" "[I" .null := c339.ext E342
    have c357 : own_Ari Z h342 b312 .int [] := c340.ext E342
    have c358 : own_Ari Z h342 b326 .int [] := c341.ext E342
    have K342 : Keep h0 h342 [] := K326.ext E342
    rw [← g342] at A342 st342
    have c359 : own_Ari Z h342 b342 .int [] := own_Ari_new (ty := .int) A342 (by decide) rfl
    refine own_step st342 ?_
    show own_G p.tables e below _ (T342.setTop (mkF m 101 #[.val (.int p1), .val (.long q2), .second, .val (.long q3), .second, .val (.long q4), .second, .val (.int (2 : Int32)), .val (.ref b272), .val (.ref b274), .unset, .unset] [(.ref b342), (.ref b326), (.ref b312), (.ref b274), (.ref b272), (.ref b301), (.ref b301)]))
    refine own_step (fun t k => XS.iconst X342.here hx rfl (hb hby at_101) k) ?_
    show own_G p.tables e below _ (T342.setTop (mkF m 102 #[.val (.int p1), .val (.long q2), .second, .val (.long q3), .second, .val (.long q4), .second, .val (.int (2 : Int32)), .val (.ref b272), .val (.ref b274), .unset, .unset] [(.int (0 : Int32)), (.ref b342), (.ref b326), (.ref b312), (.ref b274), (.ref b272), (.ref b301), (.ref b301)]))
    obtain ⟨T360, h360, k360, X360, e360, E360, A360, st360⟩ := newP X342 hx hZ (hw _ (List.mem_of_getElem? (i := 0) rfl)) e342 (g := (mkF m 102 #[.val (.int p1), .val (.long q2), .second, .val (.long q3), .second, .val (.long q4), .second, .val (.int (2 : Int32)), .val (.ref b272), .val (.ref b274), .unset, .unset] [(.int (0 : Int32)), (.ref b342), (.ref b326), (.ref b312), (.ref b274), (.ref b272), (.ref b301), (.ref b301)])) rfl (hb hby at_102) rfl (by decide) (cap := 0) (by decide) (by decide) (by decide) (by decide)
    obtain ⟨b360, g360⟩ : ∃ z, z = h342.size := ⟨_, rfl⟩
    have ne361 : b272 ≠ b360 := Nat.ne_of_lt (Nat.lt_of_lt_of_le c348.lt (Nat.le_of_eq g360.symm))
    have ne362 : b274 ≠ b360 := Nat.ne_of_lt (Nat.lt_of_lt_of_le c349.lt (Nat.le_of_eq g360.symm))
    have ne363 : b301 ≠ b360 := Nat.ne_of_lt (Nat.lt_of_lt_of_le c350.lt (Nat.le_of_eq g360.symm))
    have ne364 : b312 ≠ b360 := Nat.ne_of_lt (Nat.lt_of_lt_of_le c357.lt (Nat.le_of_eq g360.symm))
    have ne365 : b326 ≠ b360 := Nat.ne_of_lt (Nat.lt_of_lt_of_le c358.lt (Nat.le_of_eq g360.symm))
    have ne366 : b342 ≠ b360 := Nat.ne_of_lt (Nat.lt_of_lt_of_le c359.lt (Nat.le_of_eq g360.symm))
    have sz360 : h0.size ≤ b360 := Nat.le_trans K342.1 (Nat.le_of_eq g360.symm)
    have ge360 : n0 ≤ b360 := Nat.le_trans Z0 sz360
    have c367 : own_Ari Z h360 b272 .int [(((q2.toUInt64 >>> ((32 : Int32) &&& 0x3f).toInt64.toUInt64).toInt64).toInt32), (((q3.toUInt64 >>> ((32 : Int32) &&& 0x3f).toInt64.toUInt64).toInt64).toInt32)] := c348.ext E360
    have c368 : own_Ari Z h360 b274 .int [(q2.toInt32), (q3.toInt32)] := c349.ext E360
    have c369 : Exa Z h360 b301 "com/example/stevedore/stevedore/MoveGraph" := c350.ext E360
    have c370 : Fld Z h360 b301 "com/example/stevedore/stevedore/MoveGraph" "from" "[I" .null := c351.ext E360
    have c371 : Fld Z h360 b301 "com/example/stevedore/stevedore/MoveGraph" "to" "[I" .null := c352.ext E360
    have c372 : Fld Z h360 b301 "com/example/stevedore/stevedore/MoveGraph" "limit" "[I" .null := c353.ext E360
    have c373 : Fld Z h360 b301 "com/example/stevedore/stevedore/MoveGraph" "send" "[I" .null := c354.ext E360
    have c374 : Fld Z h360 b301 "com/example/stevedore/stevedore/MoveGraph" "receive" "[I" .null := c355.ext E360
    have c375 : Fld Z h360 b301 "com/example/stevedore/stevedore/MoveGraph" "free" "[I" .null := c356.ext E360
    have c376 : own_Ari Z h360 b312 .int [] := c357.ext E360
    have c377 : own_Ari Z h360 b326 .int [] := c358.ext E360
    have c378 : own_Ari Z h360 b342 .int [] := c359.ext E360
    have K360 : Keep h0 h360 [] := K342.ext E360
    rw [← g360] at A360 st360
    have c379 : own_Ari Z h360 b360 .int [] := own_Ari_new (ty := .int) A360 (by decide) rfl
    refine own_step st360 ?_
    show own_G p.tables e below _ (T360.setTop (mkF m 104 #[.val (.int p1), .val (.long q2), .second, .val (.long q3), .second, .val (.long q4), .second, .val (.int (2 : Int32)), .val (.ref b272), .val (.ref b274), .unset, .unset] [(.ref b360), (.ref b342), (.ref b326), (.ref b312), (.ref b274), (.ref b272), (.ref b301), (.ref b301)]))
    obtain ⟨_, _, ⟨T380, L380, k380, n380⟩, -, X380, ⟨Lc380, hQ380, l380, y380, z380⟩, st380⟩ := X360.specialBack hx (y := (⟨"com/example/stevedore/stevedore/MoveGraph", "<init>", "([I[I[I[I[I[I)V"⟩ : MethodName)) rfl hown (mvT hZ (hw _ (List.mem_of_getElem? (i := 4) rfl))) (mvT hZ (hw _ (List.mem_of_getElem? (i := 5) rfl))) (mvT hZ (hw _ (List.mem_of_getElem? (i := 6) rfl))) (by decide) (backOf (W := 1) (rm1 l Z a0 hw [] b301 b272 b274 b312 b326 b342 b360 .null .null .null .null .null .null h360 n0 (Nat.le_trans Z0 K360.1) c369 c370 c371 c372 c373 c374 c375 ge301) hZ (hw _ (List.mem_of_getElem? (i := 6) rfl)) (hw _ (List.mem_of_getElem? (i := 3) rfl)) (by decide) (by decide)) (g := (mkF m 104 #[.val (.int p1), .val (.long q2), .second, .val (.long q3), .second, .val (.long q4), .second, .val (.int (2 : Int32)), .val (.ref b272), .val (.ref b274), .unset, .unset] [(.ref b360), (.ref b342), (.ref b326), (.ref b312), (.ref b274), (.ref b272), (.ref b301), (.ref b301)])) rfl (by rw [hml]; rfl) (Steps.refl _) (a := b301) (argsL := [(.ref b272), (.ref b274), (.ref b312), (.ref b326), (.ref b342), (.ref b360)]) (rest := [(.ref b301)]) (lenOf pd_0_0 rfl) rfl (by show 2 * 0 + _ ≤ _; exact Nat.le_of_eq rfl) (hb hby at_104) (fun _ _ => ⟨rfl, e360, (by decide : 7 + 0 ≤ _), (by decide : 10 + 0 ≤ _)⟩)
    dsimp only [Pt.U, Pt.locs, Pt.cells, Pt.slots] at X380 l380 y380 z380 st380 hQ380
    subst l380 y380 z380
    obtain ⟨rfl, N380q, K380q, w380_0, w380_1, w380_2, w380_3, w380_4, w380_5⟩ := hQ380
    have c381 : own_Ari Z T380.heap b272 .int [(((q2.toUInt64 >>> ((32 : Int32) &&& 0x3f).toInt64.toUInt64).toInt64).toInt32), (((q3.toUInt64 >>> ((32 : Int32) &&& 0x3f).toInt64.toUInt64).toInt64).toInt32)] := c367.keep K380q (ninS ne302 nin0)
    have c382 : own_Ari Z T380.heap b274 .int [(q2.toInt32), (q3.toInt32)] := c368.keep K380q (ninS ne303 nin0)
    have c383 : Exa Z T380.heap b301 "com/example/stevedore/stevedore/MoveGraph" := c369.keep K380q
    have c390 : own_Ari Z T380.heap b312 .int [] := c376.keep K380q (ninS (Ne.symm ne315) nin0)
    have c391 : own_Ari Z T380.heap b326 .int [] := c377.keep K380q (ninS (Ne.symm ne329) nin0)
    have c392 : own_Ari Z T380.heap b342 .int [] := c378.keep K380q (ninS (Ne.symm ne345) nin0)
    have c393 : own_Ari Z T380.heap b360 .int [] := c379.keep K380q (ninS (Ne.symm ne363) nin0)
    have K380 : Keep h0 T380.heap [] := K360.trans K380q (allS (Or.inr sz301) all0)
    have N380 := Fr.app N296 N380q
    refine own_step (fun t k => st380.trans k) ?_
    show own_G p.tables e below _ (T380.setTop (mkF m 107 #[.val (.int p1), .val (.long q2), .second, .val (.long q3), .second, .val (.long q4), .second, .val (.int (2 : Int32)), .val (.ref b272), .val (.ref b274), .unset, .unset] [(.ref b301)]))
    refine own_step (fun t k => XS.astore X380.here hx rfl (hb hby at_107) rfl rfl (l' := #[.val (.int p1), .val (.long q2), .second, .val (.long q3), .second, .val (.long q4), .second, .val (.int (2 : Int32)), .val (.ref b272), .val (.ref b274), .val (.ref b301), .unset]) rfl k) ?_
    show own_G p.tables e below _ (T380.setTop (mkF m 109 #[.val (.int p1), .val (.long q2), .second, .val (.long q3), .second, .val (.long q4), .second, .val (.int (2 : Int32)), .val (.ref b272), .val (.ref b274), .val (.ref b301), .unset] []))
    refine own_step (fun t k => XS.aload X380.here hx rfl (hb hby at_109) rfl rfl k) ?_
    show own_G p.tables e below _ (T380.setTop (mkF m 111 #[.val (.int p1), .val (.long q2), .second, .val (.long q3), .second, .val (.long q4), .second, .val (.int (2 : Int32)), .val (.ref b272), .val (.ref b274), .val (.ref b301), .unset] [(.ref b301)]))
    obtain ⟨cq394, kq394, q394a, q394b, q394c⟩ := isOf hZ rfl c383
    obtain ⟨_, _, ⟨T394, L394, k394, n394⟩, -, X394, ⟨Lc394, hQ394, l394, y394, z394⟩, st394⟩ := X380.virtualBack hx (y := (⟨"com/example/stevedore/stevedore/MoveGraph", "ends", "()[I"⟩ : MethodName)) (z := (⟨"com/example/stevedore/stevedore/MoveGraph", "ends", "()[I"⟩ : MethodName)) hown (mvT hZ (hw _ (List.mem_of_getElem? (i := 27) rfl))) (mvT hZ (hw _ (List.mem_of_getElem? (i := 28) rfl))) (notFace_of_selects (args := #[]) (mvT hZ (hw _ (List.mem_of_getElem? (i := 30) rfl)))) (mvT hZ (hw _ (List.mem_of_getElem? (i := 30) rfl))) (mvT hZ (hw _ (List.mem_of_getElem? (i := 29) rfl))) (by decide) (backOf (W := 0) (rm4_k2 l Z a0 hw [] b301 b272 b274 (((q2.toUInt64 >>> ((32 : Int32) &&& 0x3f).toInt64.toUInt64).toInt64).toInt32) (((q3.toUInt64 >>> ((32 : Int32) &&& 0x3f).toInt64.toUInt64).toInt64).toInt32) (q2.toInt32) (q3.toInt32) T380.heap n0 (Nat.le_trans Z0 K380.1) w380_0 w380_1 c381 c382) hZ (hw _ (List.mem_of_getElem? (i := 31) rfl)) (hw _ (List.mem_of_getElem? (i := 3) rfl)) (by decide) (by decide)) q394a q394c (g := (mkF m 111 #[.val (.int p1), .val (.long q2), .second, .val (.long q3), .second, .val (.long q4), .second, .val (.int (2 : Int32)), .val (.ref b272), .val (.ref b274), .val (.ref b301), .unset] [(.ref b301)])) rfl (by rw [hml]; rfl) (Steps.refl _) (argsL := []) (rest := []) (lenOf pd_0_1 rfl) rfl (by show 2 * 0 + _ ≤ _; exact Nat.le_of_eq rfl) (hb hby at_111) (fun _ _ => ⟨rfl, rfl, (by decide : 7 + 1 ≤ _), (by decide : 10 + 4 ≤ _)⟩)
    dsimp only [Pt.U, Pt.locs, Pt.cells, Pt.slots] at X394 l394 y394 z394 st394 hQ394
    subst l394 y394 z394
    obtain ⟨bx394_rb, rfl, N394q, K394q, w394_0, sx394_0⟩ := hQ394
    have c395 : own_Ari Z T394.heap b272 .int [(((q2.toUInt64 >>> ((32 : Int32) &&& 0x3f).toInt64.toUInt64).toInt64).toInt32), (((q3.toUInt64 >>> ((32 : Int32) &&& 0x3f).toInt64.toUInt64).toInt64).toInt32)] := c381.keep K394q nin0
    have c396 : own_Ari Z T394.heap b274 .int [(q2.toInt32), (q3.toInt32)] := c382.keep K394q nin0
    have c397 : Exa Z T394.heap b301 "com/example/stevedore/stevedore/MoveGraph" := c383.keep K394q
    have c398 : own_Ari Z T394.heap b312 .int [] := c390.keep K394q nin0
    have c399 : own_Ari Z T394.heap b326 .int [] := c391.keep K394q nin0
    have c400 : own_Ari Z T394.heap b342 .int [] := c392.keep K394q nin0
    have c401 : own_Ari Z T394.heap b360 .int [] := c393.keep K394q nin0
    have c402 : Fld Z T394.heap b301 "com/example/stevedore/stevedore/MoveGraph" "from" "[I" (.ref b272) := w380_0.keep K394q nin0
    have c403 : Fld Z T394.heap b301 "com/example/stevedore/stevedore/MoveGraph" "to" "[I" (.ref b274) := w380_1.keep K394q nin0
    have c404 : Fld Z T394.heap b301 "com/example/stevedore/stevedore/MoveGraph" "limit" "[I" (.ref b312) := w380_2.keep K394q nin0
    have c405 : Fld Z T394.heap b301 "com/example/stevedore/stevedore/MoveGraph" "send" "[I" (.ref b326) := w380_3.keep K394q nin0
    have c406 : Fld Z T394.heap b301 "com/example/stevedore/stevedore/MoveGraph" "receive" "[I" (.ref b342) := w380_4.keep K394q nin0
    have c407 : Fld Z T394.heap b301 "com/example/stevedore/stevedore/MoveGraph" "free" "[I" (.ref b360) := w380_5.keep K394q nin0
    have sz394_0 : h0.size ≤ bx394_rb := Nat.le_trans K380.1 sx394_0
    have ge394_0 : n0 ≤ bx394_rb := Nat.le_trans Z0 sz394_0
    have ne408 : b272 ≠ bx394_rb := Nat.ne_of_lt (Nat.lt_of_lt_of_le c381.lt sx394_0)
    have ne409 : b274 ≠ bx394_rb := Nat.ne_of_lt (Nat.lt_of_lt_of_le c382.lt sx394_0)
    have ne410 : b301 ≠ bx394_rb := Nat.ne_of_lt (Nat.lt_of_lt_of_le c383.lt sx394_0)
    have ne411 : b312 ≠ bx394_rb := Nat.ne_of_lt (Nat.lt_of_lt_of_le c390.lt sx394_0)
    have ne412 : b326 ≠ bx394_rb := Nat.ne_of_lt (Nat.lt_of_lt_of_le c391.lt sx394_0)
    have ne413 : b342 ≠ bx394_rb := Nat.ne_of_lt (Nat.lt_of_lt_of_le c392.lt sx394_0)
    have ne414 : b360 ≠ bx394_rb := Nat.ne_of_lt (Nat.lt_of_lt_of_le c393.lt sx394_0)
    have K394 : Keep h0 T394.heap [] := K380.trans K394q all0
    have N394 := Fr.app N380 N394q
    refine own_step (fun t k => st394.trans k) ?_
    show own_G p.tables e below _ (T394.setTop (mkF m 114 #[.val (.int p1), .val (.long q2), .second, .val (.long q3), .second, .val (.long q4), .second, .val (.int (2 : Int32)), .val (.ref b272), .val (.ref b274), .val (.ref b301), .unset] [(.ref bx394_rb)]))
    refine own_step (fun t k => XS.astore X394.here hx rfl (hb hby at_114) rfl rfl (l' := #[.val (.int p1), .val (.long q2), .second, .val (.long q3), .second, .val (.long q4), .second, .val (.int (2 : Int32)), .val (.ref b272), .val (.ref b274), .val (.ref b301), .val (.ref bx394_rb)]) rfl k) ?_
    show own_G p.tables e below _ (T394.setTop (mkF m 116 #[.val (.int p1), .val (.long q2), .second, .val (.long q3), .second, .val (.long q4), .second, .val (.int (2 : Int32)), .val (.ref b272), .val (.ref b274), .val (.ref b301), .val (.ref bx394_rb)] []))
    refine own_step (fun t k => XS.aload X394.here hx rfl (hb hby at_116) rfl rfl k) ?_
    show own_G p.tables e below _ (T394.setTop (mkF m 118 #[.val (.int p1), .val (.long q2), .second, .val (.long q3), .second, .val (.long q4), .second, .val (.int (2 : Int32)), .val (.ref b272), .val (.ref b274), .val (.ref b301), .val (.ref bx394_rb)] [(.ref bx394_rb)]))
    refine own_step (own_lenI X394 hx hZ rfl w394_0 (g := (mkF m 118 #[.val (.int p1), .val (.long q2), .second, .val (.long q3), .second, .val (.long q4), .second, .val (.int (2 : Int32)), .val (.ref b272), .val (.ref b274), .val (.ref b301), .val (.ref bx394_rb)] [(.ref bx394_rb)])) rfl rfl (hb hby at_118)) ?_
    show own_G p.tables e below _ (T394.setTop (mkF m 119 #[.val (.int p1), .val (.long q2), .second, .val (.long q3), .second, .val (.long q4), .second, .val (.int (2 : Int32)), .val (.ref b272), .val (.ref b274), .val (.ref b301), .val (.ref bx394_rb)] [(.int (4 : Int32))]))
    refine own_step (fun t k => XS.iconst X394.here hx rfl (hb hby at_119) k) ?_
    show own_G p.tables e below _ (T394.setTop (mkF m 120 #[.val (.int p1), .val (.long q2), .second, .val (.long q3), .second, .val (.long q4), .second, .val (.int (2 : Int32)), .val (.ref b272), .val (.ref b274), .val (.ref b301), .val (.ref bx394_rb)] [(.int (2 : Int32)), (.int (4 : Int32))]))
    refine own_step (fun t k => XS.iload X394.here hx rfl (hb hby at_120) rfl k) ?_
    show own_G p.tables e below _ (T394.setTop (mkF m 122 #[.val (.int p1), .val (.long q2), .second, .val (.long q3), .second, .val (.long q4), .second, .val (.int (2 : Int32)), .val (.ref b272), .val (.ref b274), .val (.ref b301), .val (.ref bx394_rb)] [(.int (2 : Int32)), (.int (2 : Int32)), (.int (4 : Int32))]))
    refine own_step (fun t k => XS.imul X394.here hx rfl (hb hby at_122) rfl k) ?_
    show own_G p.tables e below _ (T394.setTop (mkF m 123 #[.val (.int p1), .val (.long q2), .second, .val (.long q3), .second, .val (.long q4), .second, .val (.int (2 : Int32)), .val (.ref b272), .val (.ref b274), .val (.ref b301), .val (.ref bx394_rb)] [(.int (4 : Int32)), (.int (4 : Int32))]))
    have hk415 : (4 : Int32) = (4 : Int32) := rfl
    refine own_step (fun t k => XS.icmpYes X394.here hx rfl (pc0 := 123) (pc' := 128) rfl (hb hby at_123) rfl ((teq hk415).1) (by decide) (by decide) k) ?_
    show own_G p.tables e below _ (T394.setTop (mkF m 128 #[.val (.int p1), .val (.long q2), .second, .val (.long q3), .second, .val (.long q4), .second, .val (.int (2 : Int32)), .val (.ref b272), .val (.ref b274), .val (.ref b301), .val (.ref bx394_rb)] []))
    refine own_step (fun t k => XS.aload X394.here hx rfl (hb hby at_128) rfl rfl k) ?_
    show own_G p.tables e below _ (T394.setTop (mkF m 130 #[.val (.int p1), .val (.long q2), .second, .val (.long q3), .second, .val (.long q4), .second, .val (.int (2 : Int32)), .val (.ref b272), .val (.ref b274), .val (.ref b301), .val (.ref bx394_rb)] [(.ref bx394_rb)]))
    refine own_step (fun t k => XS.aload X394.here hx rfl (hb hby at_130) rfl rfl k) ?_
    show own_G p.tables e below _ (T394.setTop (mkF m 132 #[.val (.int p1), .val (.long q2), .second, .val (.long q3), .second, .val (.long q4), .second, .val (.int (2 : Int32)), .val (.ref b272), .val (.ref b274), .val (.ref b301), .val (.ref bx394_rb)] [(.ref b272), (.ref bx394_rb)]))
    refine own_step (fun t k => XS.aload X394.here hx rfl (hb hby at_132) rfl rfl k) ?_
    show own_G p.tables e below _ (T394.setTop (mkF m 134 #[.val (.int p1), .val (.long q2), .second, .val (.long q3), .second, .val (.long q4), .second, .val (.int (2 : Int32)), .val (.ref b272), .val (.ref b274), .val (.ref b301), .val (.ref bx394_rb)] [(.ref b274), (.ref b272), (.ref bx394_rb)]))
    refine own_step (fun t k => XS.iconst X394.here hx rfl (hb hby at_134) k) ?_
    show own_G p.tables e below _ (T394.setTop (mkF m 135 #[.val (.int p1), .val (.long q2), .second, .val (.long q3), .second, .val (.long q4), .second, .val (.int (2 : Int32)), .val (.ref b272), .val (.ref b274), .val (.ref b301), .val (.ref bx394_rb)] [(.int (0 : Int32)), (.ref b274), (.ref b272), (.ref bx394_rb)]))
    refine own_step (fun t k => XS.iload X394.here hx rfl (hb hby at_135) rfl k) ?_
    show own_G p.tables e below _ (T394.setTop (mkF m 137 #[.val (.int p1), .val (.long q2), .second, .val (.long q3), .second, .val (.long q4), .second, .val (.int (2 : Int32)), .val (.ref b272), .val (.ref b274), .val (.ref b301), .val (.ref bx394_rb)] [(.int (2 : Int32)), (.int (0 : Int32)), (.ref b274), (.ref b272), (.ref bx394_rb)]))
    refine own_step (fun t k => XS.lloadN X394.here hx rfl (hb hby at_137) rfl k) ?_
    show own_G p.tables e below _ (T394.setTop (mkF m 138 #[.val (.int p1), .val (.long q2), .second, .val (.long q3), .second, .val (.long q4), .second, .val (.int (2 : Int32)), .val (.ref b272), .val (.ref b274), .val (.ref b301), .val (.ref bx394_rb)] [(.long q2), (.int (2 : Int32)), (.int (0 : Int32)), (.ref b274), (.ref b272), (.ref bx394_rb)]))
    obtain ⟨_, _, ⟨T416, L416, k416, n416⟩, -, X416, ⟨Lc416, hQ416, l416, y416, z416⟩, st416⟩ := Jvm.LawKit.callS X394 hx (y := (⟨"com/example/stevedore/stevedore/MoveGraphEndsPinLaw", "pair", "([I[I[IIIJ)Z"⟩ : MethodName)) hown (mvT hZ (hw _ (List.mem_of_getElem? (i := 32) rfl))) (mvT hZ (hw _ (List.mem_of_getElem? (i := 33) rfl))) (mvT hZ (hw _ (List.mem_of_getElem? (i := 34) rfl))) (mvT hZ (hw _ (List.mem_of_getElem? (i := 35) rfl))) (by decide) (backOf (W := 0) (rm5_e0_2 l Z a0 hw [] bx394_rb b272 b274 q2 (((q3.toUInt64 >>> ((32 : Int32) &&& 0x3f).toInt64.toUInt64).toInt64).toInt32) (q3.toInt32) (((q3.toUInt64 >>> ((32 : Int32) &&& 0x3f).toInt64.toUInt64).toInt64).toInt32) (q3.toInt32) T394.heap n0 (Nat.le_trans Z0 K394.1) w394_0 c395 c396) hZ (hw _ (List.mem_of_getElem? (i := 35) rfl)) (hw _ (List.mem_of_getElem? (i := 34) rfl)) (by decide) (by decide)) (g := (mkF m 138 #[.val (.int p1), .val (.long q2), .second, .val (.long q3), .second, .val (.long q4), .second, .val (.int (2 : Int32)), .val (.ref b272), .val (.ref b274), .val (.ref b301), .val (.ref bx394_rb)] [(.long q2), (.int (2 : Int32)), (.int (0 : Int32)), (.ref b274), (.ref b272), (.ref bx394_rb)])) rfl (by rw [hml]; rfl) (argsL := [(.ref bx394_rb), (.ref b272), (.ref b274), (.int (0 : Int32)), (.int (2 : Int32)), (.long q2)]) (rest := []) (lenOf pd_0_2 rfl) rfl (by show 2 * 0 + _ ≤ _; exact Nat.le_of_eq rfl) (hb hby at_138) (fun _ _ => ⟨rfl, rfl, (by decide : 8 + 0 ≤ _), (by decide : 14 + 0 ≤ _)⟩)
    dsimp only [Pt.U, Pt.locs, Pt.cells, Pt.slots] at X416 l416 y416 z416 st416 hQ416
    subst l416 y416 z416
    obtain ⟨rfl, N416q, e416⟩ := hQ416
    have N416 := Fr.app N394 N416q
    refine own_step st416 ?_
    show own_G p.tables e below _ (T416.setTop (mkF m 141 #[.val (.int p1), .val (.long q2), .second, .val (.long q3), .second, .val (.long q4), .second, .val (.int (2 : Int32)), .val (.ref b272), .val (.ref b274), .val (.ref b301), .val (.ref bx394_rb)] [(.int (1 : Int32))]))
    have hk417 : ¬ ((1 : Int32) = (0 : Int32)) := (by decide)
    refine own_step (fun t k => XS.ifNo X416.here hx rfl (hb hby at_141) rfl ((if0 _ _).trans (feq hk417).1) k) ?_
    show own_G p.tables e below _ (T416.setTop (mkF m 144 #[.val (.int p1), .val (.long q2), .second, .val (.long q3), .second, .val (.long q4), .second, .val (.int (2 : Int32)), .val (.ref b272), .val (.ref b274), .val (.ref b301), .val (.ref bx394_rb)] []))
    refine own_step (fun t k => XS.aload X416.here hx rfl (hb hby at_144) rfl rfl k) ?_
    show own_G p.tables e below _ (T416.setTop (mkF m 146 #[.val (.int p1), .val (.long q2), .second, .val (.long q3), .second, .val (.long q4), .second, .val (.int (2 : Int32)), .val (.ref b272), .val (.ref b274), .val (.ref b301), .val (.ref bx394_rb)] [(.ref bx394_rb)]))
    refine own_step (fun t k => XS.aload X416.here hx rfl (hb hby at_146) rfl rfl k) ?_
    show own_G p.tables e below _ (T416.setTop (mkF m 148 #[.val (.int p1), .val (.long q2), .second, .val (.long q3), .second, .val (.long q4), .second, .val (.int (2 : Int32)), .val (.ref b272), .val (.ref b274), .val (.ref b301), .val (.ref bx394_rb)] [(.ref b272), (.ref bx394_rb)]))
    refine own_step (fun t k => XS.aload X416.here hx rfl (hb hby at_148) rfl rfl k) ?_
    show own_G p.tables e below _ (T416.setTop (mkF m 150 #[.val (.int p1), .val (.long q2), .second, .val (.long q3), .second, .val (.long q4), .second, .val (.int (2 : Int32)), .val (.ref b272), .val (.ref b274), .val (.ref b301), .val (.ref bx394_rb)] [(.ref b274), (.ref b272), (.ref bx394_rb)]))
    refine own_step (fun t k => XS.iconst X416.here hx rfl (hb hby at_150) k) ?_
    show own_G p.tables e below _ (T416.setTop (mkF m 151 #[.val (.int p1), .val (.long q2), .second, .val (.long q3), .second, .val (.long q4), .second, .val (.int (2 : Int32)), .val (.ref b272), .val (.ref b274), .val (.ref b301), .val (.ref bx394_rb)] [(.int (1 : Int32)), (.ref b274), (.ref b272), (.ref bx394_rb)]))
    refine own_step (fun t k => XS.iload X416.here hx rfl (hb hby at_151) rfl k) ?_
    show own_G p.tables e below _ (T416.setTop (mkF m 153 #[.val (.int p1), .val (.long q2), .second, .val (.long q3), .second, .val (.long q4), .second, .val (.int (2 : Int32)), .val (.ref b272), .val (.ref b274), .val (.ref b301), .val (.ref bx394_rb)] [(.int (2 : Int32)), (.int (1 : Int32)), (.ref b274), (.ref b272), (.ref bx394_rb)]))
    refine own_step (fun t k => XS.lloadN X416.here hx rfl (hb hby at_153) rfl k) ?_
    show own_G p.tables e below _ (T416.setTop (mkF m 154 #[.val (.int p1), .val (.long q2), .second, .val (.long q3), .second, .val (.long q4), .second, .val (.int (2 : Int32)), .val (.ref b272), .val (.ref b274), .val (.ref b301), .val (.ref bx394_rb)] [(.long q3), (.int (2 : Int32)), (.int (1 : Int32)), (.ref b274), (.ref b272), (.ref bx394_rb)]))
    obtain ⟨_, _, ⟨T418, L418, k418, n418⟩, -, X418, ⟨Lc418, hQ418, l418, y418, z418⟩, st418⟩ := Jvm.LawKit.callS X416 hx (y := (⟨"com/example/stevedore/stevedore/MoveGraphEndsPinLaw", "pair", "([I[I[IIIJ)Z"⟩ : MethodName)) hown (mvT hZ (hw _ (List.mem_of_getElem? (i := 32) rfl))) (mvT hZ (hw _ (List.mem_of_getElem? (i := 33) rfl))) (mvT hZ (hw _ (List.mem_of_getElem? (i := 34) rfl))) (mvT hZ (hw _ (List.mem_of_getElem? (i := 35) rfl))) (by decide) (backOf (W := 0) (rm5_e1_2 l Z a0 hw [] bx394_rb b272 b274 q3 (((q2.toUInt64 >>> ((32 : Int32) &&& 0x3f).toInt64.toUInt64).toInt64).toInt32) (q2.toInt32) (((q2.toUInt64 >>> ((32 : Int32) &&& 0x3f).toInt64.toUInt64).toInt64).toInt32) (q2.toInt32) T394.heap n0 (Nat.le_trans Z0 K394.1) w394_0 c395 c396) hZ (hw _ (List.mem_of_getElem? (i := 35) rfl)) (hw _ (List.mem_of_getElem? (i := 34) rfl)) (by decide) (by decide)) (g := (mkF m 154 #[.val (.int p1), .val (.long q2), .second, .val (.long q3), .second, .val (.long q4), .second, .val (.int (2 : Int32)), .val (.ref b272), .val (.ref b274), .val (.ref b301), .val (.ref bx394_rb)] [(.long q3), (.int (2 : Int32)), (.int (1 : Int32)), (.ref b274), (.ref b272), (.ref bx394_rb)])) rfl (by rw [hml]; rfl) (argsL := [(.ref bx394_rb), (.ref b272), (.ref b274), (.int (1 : Int32)), (.int (2 : Int32)), (.long q3)]) (rest := []) (lenOf pd_0_2 rfl) rfl (by show 2 * 0 + _ ≤ _; exact Nat.le_of_eq rfl) (hb hby at_154) (fun _ _ => ⟨rfl, e416, (by decide : 8 + 0 ≤ _), (by decide : 14 + 0 ≤ _)⟩)
    dsimp only [Pt.U, Pt.locs, Pt.cells, Pt.slots] at X418 l418 y418 z418 st418 hQ418
    subst l418 y418 z418
    obtain ⟨rfl, N418q, e418⟩ := hQ418
    have N418 := Fr.app N416 N418q
    refine own_step st418 ?_
    show own_G p.tables e below _ (T418.setTop (mkF m 157 #[.val (.int p1), .val (.long q2), .second, .val (.long q3), .second, .val (.long q4), .second, .val (.int (2 : Int32)), .val (.ref b272), .val (.ref b274), .val (.ref b301), .val (.ref bx394_rb)] [(.int (1 : Int32))]))
    have hk419 : ¬ ((1 : Int32) = (0 : Int32)) := (by decide)
    refine own_step (fun t k => XS.ifNo X418.here hx rfl (hb hby at_157) rfl ((if0 _ _).trans (feq hk419).1) k) ?_
    show own_G p.tables e below _ (T418.setTop (mkF m 160 #[.val (.int p1), .val (.long q2), .second, .val (.long q3), .second, .val (.long q4), .second, .val (.int (2 : Int32)), .val (.ref b272), .val (.ref b274), .val (.ref b301), .val (.ref bx394_rb)] []))
    refine own_step (fun t k => XS.aload X418.here hx rfl (hb hby at_160) rfl rfl k) ?_
    show own_G p.tables e below _ (T418.setTop (mkF m 162 #[.val (.int p1), .val (.long q2), .second, .val (.long q3), .second, .val (.long q4), .second, .val (.int (2 : Int32)), .val (.ref b272), .val (.ref b274), .val (.ref b301), .val (.ref bx394_rb)] [(.ref bx394_rb)]))
    refine own_step (fun t k => XS.aload X418.here hx rfl (hb hby at_162) rfl rfl k) ?_
    show own_G p.tables e below _ (T418.setTop (mkF m 164 #[.val (.int p1), .val (.long q2), .second, .val (.long q3), .second, .val (.long q4), .second, .val (.int (2 : Int32)), .val (.ref b272), .val (.ref b274), .val (.ref b301), .val (.ref bx394_rb)] [(.ref b272), (.ref bx394_rb)]))
    refine own_step (fun t k => XS.aload X418.here hx rfl (hb hby at_164) rfl rfl k) ?_
    show own_G p.tables e below _ (T418.setTop (mkF m 166 #[.val (.int p1), .val (.long q2), .second, .val (.long q3), .second, .val (.long q4), .second, .val (.int (2 : Int32)), .val (.ref b272), .val (.ref b274), .val (.ref b301), .val (.ref bx394_rb)] [(.ref b274), (.ref b272), (.ref bx394_rb)]))
    refine own_step (fun t k => XS.iconst X418.here hx rfl (hb hby at_166) k) ?_
    show own_G p.tables e below _ (T418.setTop (mkF m 167 #[.val (.int p1), .val (.long q2), .second, .val (.long q3), .second, .val (.long q4), .second, .val (.int (2 : Int32)), .val (.ref b272), .val (.ref b274), .val (.ref b301), .val (.ref bx394_rb)] [(.int (2 : Int32)), (.ref b274), (.ref b272), (.ref bx394_rb)]))
    refine own_step (fun t k => XS.iload X418.here hx rfl (hb hby at_167) rfl k) ?_
    show own_G p.tables e below _ (T418.setTop (mkF m 169 #[.val (.int p1), .val (.long q2), .second, .val (.long q3), .second, .val (.long q4), .second, .val (.int (2 : Int32)), .val (.ref b272), .val (.ref b274), .val (.ref b301), .val (.ref bx394_rb)] [(.int (2 : Int32)), (.int (2 : Int32)), (.ref b274), (.ref b272), (.ref bx394_rb)]))
    refine own_step (fun t k => XS.lload X418.here hx rfl (hb hby at_169) rfl k) ?_
    show own_G p.tables e below _ (T418.setTop (mkF m 171 #[.val (.int p1), .val (.long q2), .second, .val (.long q3), .second, .val (.long q4), .second, .val (.int (2 : Int32)), .val (.ref b272), .val (.ref b274), .val (.ref b301), .val (.ref bx394_rb)] [(.long q4), (.int (2 : Int32)), (.int (2 : Int32)), (.ref b274), (.ref b272), (.ref bx394_rb)]))
    obtain ⟨_, _, ⟨T420, L420, k420, n420⟩, -, X420, ⟨Lc420, hQ420, l420, y420, z420⟩, st420⟩ := Jvm.LawKit.callS X418 hx (y := (⟨"com/example/stevedore/stevedore/MoveGraphEndsPinLaw", "pair", "([I[I[IIIJ)Z"⟩ : MethodName)) hown (mvT hZ (hw _ (List.mem_of_getElem? (i := 32) rfl))) (mvT hZ (hw _ (List.mem_of_getElem? (i := 33) rfl))) (mvT hZ (hw _ (List.mem_of_getElem? (i := 34) rfl))) (mvT hZ (hw _ (List.mem_of_getElem? (i := 35) rfl))) (by decide) (backOf (W := 0) (rm5_e2_2 l Z a0 hw [] bx394_rb b272 b274 q4 (((q2.toUInt64 >>> ((32 : Int32) &&& 0x3f).toInt64.toUInt64).toInt64).toInt32) (q2.toInt32) (((q3.toUInt64 >>> ((32 : Int32) &&& 0x3f).toInt64.toUInt64).toInt64).toInt32) (q3.toInt32) (((q2.toUInt64 >>> ((32 : Int32) &&& 0x3f).toInt64.toUInt64).toInt64).toInt32) (((q3.toUInt64 >>> ((32 : Int32) &&& 0x3f).toInt64.toUInt64).toInt64).toInt32) (q2.toInt32) (q3.toInt32) T394.heap n0 (Nat.le_trans Z0 K394.1) w394_0 c395 c396) hZ (hw _ (List.mem_of_getElem? (i := 35) rfl)) (hw _ (List.mem_of_getElem? (i := 34) rfl)) (by decide) (by decide)) (g := (mkF m 171 #[.val (.int p1), .val (.long q2), .second, .val (.long q3), .second, .val (.long q4), .second, .val (.int (2 : Int32)), .val (.ref b272), .val (.ref b274), .val (.ref b301), .val (.ref bx394_rb)] [(.long q4), (.int (2 : Int32)), (.int (2 : Int32)), (.ref b274), (.ref b272), (.ref bx394_rb)])) rfl (by rw [hml]; rfl) (argsL := [(.ref bx394_rb), (.ref b272), (.ref b274), (.int (2 : Int32)), (.int (2 : Int32)), (.long q4)]) (rest := []) (lenOf pd_0_2 rfl) rfl (by show 2 * 0 + _ ≤ _; exact Nat.le_of_eq rfl) (hb hby at_171) (fun _ _ => ⟨rfl, e418, (by decide : 8 + 0 ≤ _), (by decide : 14 + 0 ≤ _)⟩)
    dsimp only [Pt.U, Pt.locs, Pt.cells, Pt.slots] at X420 l420 y420 z420 st420 hQ420
    subst l420 y420 z420
    obtain ⟨rfl, N420q, e420⟩ := hQ420
    have N420 := Fr.app N418 N420q
    refine own_step st420 ?_
    show own_G p.tables e below _ (T420.setTop (mkF m 174 #[.val (.int p1), .val (.long q2), .second, .val (.long q3), .second, .val (.long q4), .second, .val (.int (2 : Int32)), .val (.ref b272), .val (.ref b274), .val (.ref b301), .val (.ref bx394_rb)] [(.int (1 : Int32))]))
    have hk421 : ¬ ((1 : Int32) = (0 : Int32)) := (by decide)
    refine own_step (fun t k => XS.ifNo X420.here hx rfl (hb hby at_174) rfl ((if0 _ _).trans (feq hk421).1) k) ?_
    show own_G p.tables e below _ (T420.setTop (mkF m 177 #[.val (.int p1), .val (.long q2), .second, .val (.long q3), .second, .val (.long q4), .second, .val (.int (2 : Int32)), .val (.ref b272), .val (.ref b274), .val (.ref b301), .val (.ref bx394_rb)] []))
    refine own_step (fun t k => XS.iconst X420.here hx rfl (hb hby at_177) k) ?_
    show own_G p.tables e below _ (T420.setTop (mkF m 178 #[.val (.int p1), .val (.long q2), .second, .val (.long q3), .second, .val (.long q4), .second, .val (.int (2 : Int32)), .val (.ref b272), .val (.ref b274), .val (.ref b301), .val (.ref bx394_rb)] [(.int (1 : Int32))]))
    refine own_step (fun t k => XS.goto X420.here hx rfl (pc0 := 178) (pc' := 182) rfl (hb hby at_178) (by decide) (by decide) k) ?_
    show own_G p.tables e below _ (T420.setTop (mkF m 182 #[.val (.int p1), .val (.long q2), .second, .val (.long q3), .second, .val (.long q4), .second, .val (.int (2 : Int32)), .val (.ref b272), .val (.ref b274), .val (.ref b301), .val (.ref bx394_rb)] [(.int (1 : Int32))]))
    obtain ⟨fs, hr, hrun, hended, hW, hsame⟩ := X420.leave (v := some (.int (1 : Int32))) (fun h => by rw [Bd.returns] at h; cases h)
    refine own_done (retN X420 hx (t := .boolean) Bd.returns (by simp) (hb hby at_182) hr) hrun hended ⟨_, _, rfl, ?_, ⟨_, rfl⟩, hW, hsame.mono (by decide) (by decide)⟩
    show Q0 Z p1 q2 q3 q4 h0 n0 _ T420.heap _
    rw [e420]
    exact ⟨rfl, N420⟩
  · skip
    show own_G p.tables e below _ (s₁.setTop (mkF m 5 #[.val (.int p1), .val (.long q2), .second, .val (.long q3), .second, .val (.long q4), .second, .val (.int (3 : Int32)), .unset, .unset, .unset, .unset] []))
    refine own_step (fun t k => XS.iload X0.here hx rfl (hb hby at_5) rfl k) ?_
    show own_G p.tables e below _ (s₁.setTop (mkF m 7 #[.val (.int p1), .val (.long q2), .second, .val (.long q3), .second, .val (.long q4), .second, .val (.int (3 : Int32)), .unset, .unset, .unset, .unset] [(.int (3 : Int32))]))
    obtain ⟨T422, h422, k422, X422, e422, E422, A422, st422⟩ := newP X0 hx hZ (hw _ (List.mem_of_getElem? (i := 0) rfl)) e0 (g := (mkF m 7 #[.val (.int p1), .val (.long q2), .second, .val (.long q3), .second, .val (.long q4), .second, .val (.int (3 : Int32)), .unset, .unset, .unset, .unset] [(.int (3 : Int32))])) rfl (hb hby at_7) rfl (by decide) (cap := 3) (by decide) (by decide) (by decide) (by decide)
    obtain ⟨b422, g422⟩ : ∃ z, z = h0.size := ⟨_, rfl⟩
    have sz422 : h0.size ≤ b422 := Nat.le_trans (Keep.refl h0 []).1 (Nat.le_of_eq g422.symm)
    have ge422 : n0 ≤ b422 := Nat.le_trans Z0 sz422
    have K422 : Keep h0 h422 [] := (Keep.refl h0 []).ext E422
    rw [← g422] at A422 st422
    have c423 : own_Ari Z h422 b422 .int [(0 : Int32), (0 : Int32), (0 : Int32)] := own_Ari_new (ty := .int) A422 (by decide) rfl
    refine own_step st422 ?_
    show own_G p.tables e below _ (T422.setTop (mkF m 9 #[.val (.int p1), .val (.long q2), .second, .val (.long q3), .second, .val (.long q4), .second, .val (.int (3 : Int32)), .unset, .unset, .unset, .unset] [(.ref b422)]))
    refine own_step (fun t k => XS.astore X422.here hx rfl (hb hby at_9) rfl rfl (l' := #[.val (.int p1), .val (.long q2), .second, .val (.long q3), .second, .val (.long q4), .second, .val (.int (3 : Int32)), .val (.ref b422), .unset, .unset, .unset]) rfl k) ?_
    show own_G p.tables e below _ (T422.setTop (mkF m 11 #[.val (.int p1), .val (.long q2), .second, .val (.long q3), .second, .val (.long q4), .second, .val (.int (3 : Int32)), .val (.ref b422), .unset, .unset, .unset] []))
    refine own_step (fun t k => XS.iload X422.here hx rfl (hb hby at_11) rfl k) ?_
    show own_G p.tables e below _ (T422.setTop (mkF m 13 #[.val (.int p1), .val (.long q2), .second, .val (.long q3), .second, .val (.long q4), .second, .val (.int (3 : Int32)), .val (.ref b422), .unset, .unset, .unset] [(.int (3 : Int32))]))
    obtain ⟨T424, h424, k424, X424, e424, E424, A424, st424⟩ := newP X422 hx hZ (hw _ (List.mem_of_getElem? (i := 0) rfl)) e422 (g := (mkF m 13 #[.val (.int p1), .val (.long q2), .second, .val (.long q3), .second, .val (.long q4), .second, .val (.int (3 : Int32)), .val (.ref b422), .unset, .unset, .unset] [(.int (3 : Int32))])) rfl (hb hby at_13) rfl (by decide) (cap := 3) (by decide) (by decide) (by decide) (by decide)
    obtain ⟨b424, g424⟩ : ∃ z, z = h422.size := ⟨_, rfl⟩
    have ne425 : b422 ≠ b424 := Nat.ne_of_lt (Nat.lt_of_lt_of_le c423.lt (Nat.le_of_eq g424.symm))
    have sz424 : h0.size ≤ b424 := Nat.le_trans K422.1 (Nat.le_of_eq g424.symm)
    have ge424 : n0 ≤ b424 := Nat.le_trans Z0 sz424
    have c426 : own_Ari Z h424 b422 .int [(0 : Int32), (0 : Int32), (0 : Int32)] := c423.ext E424
    have K424 : Keep h0 h424 [] := K422.ext E424
    rw [← g424] at A424 st424
    have c427 : own_Ari Z h424 b424 .int [(0 : Int32), (0 : Int32), (0 : Int32)] := own_Ari_new (ty := .int) A424 (by decide) rfl
    refine own_step st424 ?_
    show own_G p.tables e below _ (T424.setTop (mkF m 15 #[.val (.int p1), .val (.long q2), .second, .val (.long q3), .second, .val (.long q4), .second, .val (.int (3 : Int32)), .val (.ref b422), .unset, .unset, .unset] [(.ref b424)]))
    refine own_step (fun t k => XS.astore X424.here hx rfl (hb hby at_15) rfl rfl (l' := #[.val (.int p1), .val (.long q2), .second, .val (.long q3), .second, .val (.long q4), .second, .val (.int (3 : Int32)), .val (.ref b422), .val (.ref b424), .unset, .unset]) rfl k) ?_
    show own_G p.tables e below _ (T424.setTop (mkF m 17 #[.val (.int p1), .val (.long q2), .second, .val (.long q3), .second, .val (.long q4), .second, .val (.int (3 : Int32)), .val (.ref b422), .val (.ref b424), .unset, .unset] []))
    refine own_step (fun t k => XS.iload X424.here hx rfl (hb hby at_17) rfl k) ?_
    show own_G p.tables e below _ (T424.setTop (mkF m 19 #[.val (.int p1), .val (.long q2), .second, .val (.long q3), .second, .val (.long q4), .second, .val (.int (3 : Int32)), .val (.ref b422), .val (.ref b424), .unset, .unset] [(.int (3 : Int32))]))
    have hk428 : (0 : Int32) < (3 : Int32) := (by decide)
    refine own_step (fun t k => XS.ifNo X424.here hx rfl (hb hby at_19) rfl ((if0 _ _).trans (tlt hk428).2.2.2) k) ?_
    show own_G p.tables e below _ (T424.setTop (mkF m 22 #[.val (.int p1), .val (.long q2), .second, .val (.long q3), .second, .val (.long q4), .second, .val (.int (3 : Int32)), .val (.ref b422), .val (.ref b424), .unset, .unset] []))
    refine own_step (fun t k => XS.aload X424.here hx rfl (hb hby at_22) rfl rfl k) ?_
    show own_G p.tables e below _ (T424.setTop (mkF m 24 #[.val (.int p1), .val (.long q2), .second, .val (.long q3), .second, .val (.long q4), .second, .val (.int (3 : Int32)), .val (.ref b422), .val (.ref b424), .unset, .unset] [(.ref b422)]))
    refine own_step (fun t k => XS.iconst X424.here hx rfl (hb hby at_24) k) ?_
    show own_G p.tables e below _ (T424.setTop (mkF m 25 #[.val (.int p1), .val (.long q2), .second, .val (.long q3), .second, .val (.long q4), .second, .val (.int (3 : Int32)), .val (.ref b422), .val (.ref b424), .unset, .unset] [(.int (0 : Int32)), (.ref b422)]))
    refine own_step (fun t k => XS.lloadN X424.here hx rfl (hb hby at_25) rfl k) ?_
    show own_G p.tables e below _ (T424.setTop (mkF m 26 #[.val (.int p1), .val (.long q2), .second, .val (.long q3), .second, .val (.long q4), .second, .val (.int (3 : Int32)), .val (.ref b422), .val (.ref b424), .unset, .unset] [(.long q2), (.int (0 : Int32)), (.ref b422)]))
    obtain ⟨_, _, ⟨T429, L429, k429, n429⟩, -, X429, ⟨Lc429, hQ429, l429, y429, z429⟩, st429⟩ := Jvm.LawKit.callS X424 hx (y := (⟨"com/example/stevedore/stevedore/MoveGraphEndsPinLaw", "hi", "(J)I"⟩ : MethodName)) hown (mvT hZ (hw _ (List.mem_of_getElem? (i := 36) rfl))) (mvT hZ (hw _ (List.mem_of_getElem? (i := 37) rfl))) (mvT hZ (hw _ (List.mem_of_getElem? (i := 34) rfl))) (mvT hZ (hw _ (List.mem_of_getElem? (i := 38) rfl))) (by decide) (backOf (W := 2) (rm6 l Z a0 hw [] q2 h424 n0 (Nat.le_trans Z0 K424.1) ) hZ (hw _ (List.mem_of_getElem? (i := 38) rfl)) (hw _ (List.mem_of_getElem? (i := 34) rfl)) (by decide) (by decide)) (g := (mkF m 26 #[.val (.int p1), .val (.long q2), .second, .val (.long q3), .second, .val (.long q4), .second, .val (.int (3 : Int32)), .val (.ref b422), .val (.ref b424), .unset, .unset] [(.long q2), (.int (0 : Int32)), (.ref b422)])) rfl (by rw [hml]; rfl) (argsL := [(.long q2)]) (rest := [(.int (0 : Int32)), (.ref b422)]) (lenOf pd_0_3 rfl) rfl (by show 2 * 0 + _ ≤ _; exact Nat.le_of_eq rfl) (hb hby at_26) (fun _ _ => ⟨rfl, e424, (by decide : 2 + 0 ≤ _), (by decide : 6 + 0 ≤ _)⟩)
    dsimp only [Pt.U, Pt.locs, Pt.cells, Pt.slots] at X429 l429 y429 z429 st429 hQ429
    subst l429 y429 z429
    obtain ⟨rfl, N429q, e429⟩ := hQ429
    have N429 := Fr.app N0 N429q
    refine own_step st429 ?_
    show own_G p.tables e below _ (T429.setTop (mkF m 29 #[.val (.int p1), .val (.long q2), .second, .val (.long q3), .second, .val (.long q4), .second, .val (.int (3 : Int32)), .val (.ref b422), .val (.ref b424), .unset, .unset] [(.int (((q2.toUInt64 >>> ((32 : Int32) &&& 0x3f).toInt64.toUInt64).toInt64).toInt32)), (.int (0 : Int32)), (.ref b422)]))
    obtain ⟨T430, h430, X430, e430, W430, c430, st430⟩ := own_iastore X429 hx hZ e429 c426 (own_inb (by decide) (Nat.le_of_ble_eq_true rfl)) (g := (mkF m 29 #[.val (.int p1), .val (.long q2), .second, .val (.long q3), .second, .val (.long q4), .second, .val (.int (3 : Int32)), .val (.ref b422), .val (.ref b424), .unset, .unset] [(.int (((q2.toUInt64 >>> ((32 : Int32) &&& 0x3f).toInt64.toUInt64).toInt64).toInt32)), (.int (0 : Int32)), (.ref b422)])) rfl rfl (hb hby at_29)
    have N430 := Fr.snoc X430 N429 ge422
    have c431 : own_Ari Z h430 b422 .int [(((q2.toUInt64 >>> ((32 : Int32) &&& 0x3f).toInt64.toUInt64).toInt64).toInt32), (0 : Int32), (0 : Int32)] := c430
    have c433 : own_Ari Z h430 b424 .int [(0 : Int32), (0 : Int32), (0 : Int32)] := c427.other W430 (Ne.symm ne425)
    have K430 : Keep h0 h430 [] := K424.wr W430 (Or.inr sz422)
    refine own_step st430 ?_
    show own_G p.tables e below _ (T430.setTop (mkF m 30 #[.val (.int p1), .val (.long q2), .second, .val (.long q3), .second, .val (.long q4), .second, .val (.int (3 : Int32)), .val (.ref b422), .val (.ref b424), .unset, .unset] []))
    refine own_step (fun t k => XS.aload X430.here hx rfl (hb hby at_30) rfl rfl k) ?_
    show own_G p.tables e below _ (T430.setTop (mkF m 32 #[.val (.int p1), .val (.long q2), .second, .val (.long q3), .second, .val (.long q4), .second, .val (.int (3 : Int32)), .val (.ref b422), .val (.ref b424), .unset, .unset] [(.ref b424)]))
    refine own_step (fun t k => XS.iconst X430.here hx rfl (hb hby at_32) k) ?_
    show own_G p.tables e below _ (T430.setTop (mkF m 33 #[.val (.int p1), .val (.long q2), .second, .val (.long q3), .second, .val (.long q4), .second, .val (.int (3 : Int32)), .val (.ref b422), .val (.ref b424), .unset, .unset] [(.int (0 : Int32)), (.ref b424)]))
    refine own_step (fun t k => XS.lloadN X430.here hx rfl (hb hby at_33) rfl k) ?_
    show own_G p.tables e below _ (T430.setTop (mkF m 34 #[.val (.int p1), .val (.long q2), .second, .val (.long q3), .second, .val (.long q4), .second, .val (.int (3 : Int32)), .val (.ref b422), .val (.ref b424), .unset, .unset] [(.long q2), (.int (0 : Int32)), (.ref b424)]))
    obtain ⟨_, _, ⟨T434, L434, k434, n434⟩, -, X434, ⟨Lc434, hQ434, l434, y434, z434⟩, st434⟩ := Jvm.LawKit.callS X430 hx (y := (⟨"com/example/stevedore/stevedore/MoveGraphEndsPinLaw", "lo", "(J)I"⟩ : MethodName)) hown (mvT hZ (hw _ (List.mem_of_getElem? (i := 39) rfl))) (mvT hZ (hw _ (List.mem_of_getElem? (i := 40) rfl))) (mvT hZ (hw _ (List.mem_of_getElem? (i := 34) rfl))) (mvT hZ (hw _ (List.mem_of_getElem? (i := 41) rfl))) (by decide) (backOf (W := 2) (rm7 l Z a0 hw [] q2 h430 n0 (Nat.le_trans Z0 K430.1) ) hZ (hw _ (List.mem_of_getElem? (i := 41) rfl)) (hw _ (List.mem_of_getElem? (i := 34) rfl)) (by decide) (by decide)) (g := (mkF m 34 #[.val (.int p1), .val (.long q2), .second, .val (.long q3), .second, .val (.long q4), .second, .val (.int (3 : Int32)), .val (.ref b422), .val (.ref b424), .unset, .unset] [(.long q2), (.int (0 : Int32)), (.ref b424)])) rfl (by rw [hml]; rfl) (argsL := [(.long q2)]) (rest := [(.int (0 : Int32)), (.ref b424)]) (lenOf pd_0_3 rfl) rfl (by show 2 * 0 + _ ≤ _; exact Nat.le_of_eq rfl) (hb hby at_34) (fun _ _ => ⟨rfl, e430, (by decide : 2 + 0 ≤ _), (by decide : 6 + 0 ≤ _)⟩)
    dsimp only [Pt.U, Pt.locs, Pt.cells, Pt.slots] at X434 l434 y434 z434 st434 hQ434
    subst l434 y434 z434
    obtain ⟨rfl, N434q, e434⟩ := hQ434
    have N434 := Fr.app N430 N434q
    refine own_step st434 ?_
    show own_G p.tables e below _ (T434.setTop (mkF m 37 #[.val (.int p1), .val (.long q2), .second, .val (.long q3), .second, .val (.long q4), .second, .val (.int (3 : Int32)), .val (.ref b422), .val (.ref b424), .unset, .unset] [(.int (q2.toInt32)), (.int (0 : Int32)), (.ref b424)]))
    obtain ⟨T435, h435, X435, e435, W435, c435, st435⟩ := own_iastore X434 hx hZ e434 c433 (own_inb (by decide) (Nat.le_of_ble_eq_true rfl)) (g := (mkF m 37 #[.val (.int p1), .val (.long q2), .second, .val (.long q3), .second, .val (.long q4), .second, .val (.int (3 : Int32)), .val (.ref b422), .val (.ref b424), .unset, .unset] [(.int (q2.toInt32)), (.int (0 : Int32)), (.ref b424)])) rfl rfl (hb hby at_37)
    have N435 := Fr.snoc X435 N434 ge424
    have c436 : own_Ari Z h435 b424 .int [(q2.toInt32), (0 : Int32), (0 : Int32)] := c435
    have c437 : own_Ari Z h435 b422 .int [(((q2.toUInt64 >>> ((32 : Int32) &&& 0x3f).toInt64.toUInt64).toInt64).toInt32), (0 : Int32), (0 : Int32)] := c431.other W435 ne425
    have K435 : Keep h0 h435 [] := K430.wr W435 (Or.inr sz424)
    refine own_step st435 ?_
    show own_G p.tables e below _ (T435.setTop (mkF m 38 #[.val (.int p1), .val (.long q2), .second, .val (.long q3), .second, .val (.long q4), .second, .val (.int (3 : Int32)), .val (.ref b422), .val (.ref b424), .unset, .unset] []))
    refine own_step (fun t k => XS.iload X435.here hx rfl (hb hby at_38) rfl k) ?_
    show own_G p.tables e below _ (T435.setTop (mkF m 40 #[.val (.int p1), .val (.long q2), .second, .val (.long q3), .second, .val (.long q4), .second, .val (.int (3 : Int32)), .val (.ref b422), .val (.ref b424), .unset, .unset] [(.int (3 : Int32))]))
    refine own_step (fun t k => XS.iconst X435.here hx rfl (hb hby at_40) k) ?_
    show own_G p.tables e below _ (T435.setTop (mkF m 41 #[.val (.int p1), .val (.long q2), .second, .val (.long q3), .second, .val (.long q4), .second, .val (.int (3 : Int32)), .val (.ref b422), .val (.ref b424), .unset, .unset] [(.int (1 : Int32)), (.int (3 : Int32))]))
    have hk439 : (1 : Int32) < (3 : Int32) := (by decide)
    refine own_step (fun t k => XS.icmpNo X435.here hx rfl (hb hby at_41) rfl ((tlt hk439).2.2.2) k) ?_
    show own_G p.tables e below _ (T435.setTop (mkF m 44 #[.val (.int p1), .val (.long q2), .second, .val (.long q3), .second, .val (.long q4), .second, .val (.int (3 : Int32)), .val (.ref b422), .val (.ref b424), .unset, .unset] []))
    refine own_step (fun t k => XS.aload X435.here hx rfl (hb hby at_44) rfl rfl k) ?_
    show own_G p.tables e below _ (T435.setTop (mkF m 46 #[.val (.int p1), .val (.long q2), .second, .val (.long q3), .second, .val (.long q4), .second, .val (.int (3 : Int32)), .val (.ref b422), .val (.ref b424), .unset, .unset] [(.ref b422)]))
    refine own_step (fun t k => XS.iconst X435.here hx rfl (hb hby at_46) k) ?_
    show own_G p.tables e below _ (T435.setTop (mkF m 47 #[.val (.int p1), .val (.long q2), .second, .val (.long q3), .second, .val (.long q4), .second, .val (.int (3 : Int32)), .val (.ref b422), .val (.ref b424), .unset, .unset] [(.int (1 : Int32)), (.ref b422)]))
    refine own_step (fun t k => XS.lloadN X435.here hx rfl (hb hby at_47) rfl k) ?_
    show own_G p.tables e below _ (T435.setTop (mkF m 48 #[.val (.int p1), .val (.long q2), .second, .val (.long q3), .second, .val (.long q4), .second, .val (.int (3 : Int32)), .val (.ref b422), .val (.ref b424), .unset, .unset] [(.long q3), (.int (1 : Int32)), (.ref b422)]))
    obtain ⟨_, _, ⟨T440, L440, k440, n440⟩, -, X440, ⟨Lc440, hQ440, l440, y440, z440⟩, st440⟩ := Jvm.LawKit.callS X435 hx (y := (⟨"com/example/stevedore/stevedore/MoveGraphEndsPinLaw", "hi", "(J)I"⟩ : MethodName)) hown (mvT hZ (hw _ (List.mem_of_getElem? (i := 36) rfl))) (mvT hZ (hw _ (List.mem_of_getElem? (i := 37) rfl))) (mvT hZ (hw _ (List.mem_of_getElem? (i := 34) rfl))) (mvT hZ (hw _ (List.mem_of_getElem? (i := 38) rfl))) (by decide) (backOf (W := 2) (rm6 l Z a0 hw [] q3 h435 n0 (Nat.le_trans Z0 K435.1) ) hZ (hw _ (List.mem_of_getElem? (i := 38) rfl)) (hw _ (List.mem_of_getElem? (i := 34) rfl)) (by decide) (by decide)) (g := (mkF m 48 #[.val (.int p1), .val (.long q2), .second, .val (.long q3), .second, .val (.long q4), .second, .val (.int (3 : Int32)), .val (.ref b422), .val (.ref b424), .unset, .unset] [(.long q3), (.int (1 : Int32)), (.ref b422)])) rfl (by rw [hml]; rfl) (argsL := [(.long q3)]) (rest := [(.int (1 : Int32)), (.ref b422)]) (lenOf pd_0_3 rfl) rfl (by show 2 * 0 + _ ≤ _; exact Nat.le_of_eq rfl) (hb hby at_48) (fun _ _ => ⟨rfl, e435, (by decide : 2 + 0 ≤ _), (by decide : 6 + 0 ≤ _)⟩)
    dsimp only [Pt.U, Pt.locs, Pt.cells, Pt.slots] at X440 l440 y440 z440 st440 hQ440
    subst l440 y440 z440
    obtain ⟨rfl, N440q, e440⟩ := hQ440
    have N440 := Fr.app N435 N440q
    refine own_step st440 ?_
    show own_G p.tables e below _ (T440.setTop (mkF m 51 #[.val (.int p1), .val (.long q2), .second, .val (.long q3), .second, .val (.long q4), .second, .val (.int (3 : Int32)), .val (.ref b422), .val (.ref b424), .unset, .unset] [(.int (((q3.toUInt64 >>> ((32 : Int32) &&& 0x3f).toInt64.toUInt64).toInt64).toInt32)), (.int (1 : Int32)), (.ref b422)]))
    obtain ⟨T441, h441, X441, e441, W441, c441, st441⟩ := own_iastore X440 hx hZ e440 c437 (own_inb (by decide) (Nat.le_of_ble_eq_true rfl)) (g := (mkF m 51 #[.val (.int p1), .val (.long q2), .second, .val (.long q3), .second, .val (.long q4), .second, .val (.int (3 : Int32)), .val (.ref b422), .val (.ref b424), .unset, .unset] [(.int (((q3.toUInt64 >>> ((32 : Int32) &&& 0x3f).toInt64.toUInt64).toInt64).toInt32)), (.int (1 : Int32)), (.ref b422)])) rfl rfl (hb hby at_51)
    have N441 := Fr.snoc X441 N440 ge422
    have c442 : own_Ari Z h441 b422 .int [(((q2.toUInt64 >>> ((32 : Int32) &&& 0x3f).toInt64.toUInt64).toInt64).toInt32), (((q3.toUInt64 >>> ((32 : Int32) &&& 0x3f).toInt64.toUInt64).toInt64).toInt32), (0 : Int32)] := c441
    have c444 : own_Ari Z h441 b424 .int [(q2.toInt32), (0 : Int32), (0 : Int32)] := c436.other W441 (Ne.symm ne425)
    have K441 : Keep h0 h441 [] := K435.wr W441 (Or.inr sz422)
    refine own_step st441 ?_
    show own_G p.tables e below _ (T441.setTop (mkF m 52 #[.val (.int p1), .val (.long q2), .second, .val (.long q3), .second, .val (.long q4), .second, .val (.int (3 : Int32)), .val (.ref b422), .val (.ref b424), .unset, .unset] []))
    refine own_step (fun t k => XS.aload X441.here hx rfl (hb hby at_52) rfl rfl k) ?_
    show own_G p.tables e below _ (T441.setTop (mkF m 54 #[.val (.int p1), .val (.long q2), .second, .val (.long q3), .second, .val (.long q4), .second, .val (.int (3 : Int32)), .val (.ref b422), .val (.ref b424), .unset, .unset] [(.ref b424)]))
    refine own_step (fun t k => XS.iconst X441.here hx rfl (hb hby at_54) k) ?_
    show own_G p.tables e below _ (T441.setTop (mkF m 55 #[.val (.int p1), .val (.long q2), .second, .val (.long q3), .second, .val (.long q4), .second, .val (.int (3 : Int32)), .val (.ref b422), .val (.ref b424), .unset, .unset] [(.int (1 : Int32)), (.ref b424)]))
    refine own_step (fun t k => XS.lloadN X441.here hx rfl (hb hby at_55) rfl k) ?_
    show own_G p.tables e below _ (T441.setTop (mkF m 56 #[.val (.int p1), .val (.long q2), .second, .val (.long q3), .second, .val (.long q4), .second, .val (.int (3 : Int32)), .val (.ref b422), .val (.ref b424), .unset, .unset] [(.long q3), (.int (1 : Int32)), (.ref b424)]))
    obtain ⟨_, _, ⟨T445, L445, k445, n445⟩, -, X445, ⟨Lc445, hQ445, l445, y445, z445⟩, st445⟩ := Jvm.LawKit.callS X441 hx (y := (⟨"com/example/stevedore/stevedore/MoveGraphEndsPinLaw", "lo", "(J)I"⟩ : MethodName)) hown (mvT hZ (hw _ (List.mem_of_getElem? (i := 39) rfl))) (mvT hZ (hw _ (List.mem_of_getElem? (i := 40) rfl))) (mvT hZ (hw _ (List.mem_of_getElem? (i := 34) rfl))) (mvT hZ (hw _ (List.mem_of_getElem? (i := 41) rfl))) (by decide) (backOf (W := 2) (rm7 l Z a0 hw [] q3 h441 n0 (Nat.le_trans Z0 K441.1) ) hZ (hw _ (List.mem_of_getElem? (i := 41) rfl)) (hw _ (List.mem_of_getElem? (i := 34) rfl)) (by decide) (by decide)) (g := (mkF m 56 #[.val (.int p1), .val (.long q2), .second, .val (.long q3), .second, .val (.long q4), .second, .val (.int (3 : Int32)), .val (.ref b422), .val (.ref b424), .unset, .unset] [(.long q3), (.int (1 : Int32)), (.ref b424)])) rfl (by rw [hml]; rfl) (argsL := [(.long q3)]) (rest := [(.int (1 : Int32)), (.ref b424)]) (lenOf pd_0_3 rfl) rfl (by show 2 * 0 + _ ≤ _; exact Nat.le_of_eq rfl) (hb hby at_56) (fun _ _ => ⟨rfl, e441, (by decide : 2 + 0 ≤ _), (by decide : 6 + 0 ≤ _)⟩)
    dsimp only [Pt.U, Pt.locs, Pt.cells, Pt.slots] at X445 l445 y445 z445 st445 hQ445
    subst l445 y445 z445
    obtain ⟨rfl, N445q, e445⟩ := hQ445
    have N445 := Fr.app N441 N445q
    refine own_step st445 ?_
    show own_G p.tables e below _ (T445.setTop (mkF m 59 #[.val (.int p1), .val (.long q2), .second, .val (.long q3), .second, .val (.long q4), .second, .val (.int (3 : Int32)), .val (.ref b422), .val (.ref b424), .unset, .unset] [(.int (q3.toInt32)), (.int (1 : Int32)), (.ref b424)]))
    obtain ⟨T446, h446, X446, e446, W446, c446, st446⟩ := own_iastore X445 hx hZ e445 c444 (own_inb (by decide) (Nat.le_of_ble_eq_true rfl)) (g := (mkF m 59 #[.val (.int p1), .val (.long q2), .second, .val (.long q3), .second, .val (.long q4), .second, .val (.int (3 : Int32)), .val (.ref b422), .val (.ref b424), .unset, .unset] [(.int (q3.toInt32)), (.int (1 : Int32)), (.ref b424)])) rfl rfl (hb hby at_59)
    have N446 := Fr.snoc X446 N445 ge424
    have c447 : own_Ari Z h446 b424 .int [(q2.toInt32), (q3.toInt32), (0 : Int32)] := c446
    have c448 : own_Ari Z h446 b422 .int [(((q2.toUInt64 >>> ((32 : Int32) &&& 0x3f).toInt64.toUInt64).toInt64).toInt32), (((q3.toUInt64 >>> ((32 : Int32) &&& 0x3f).toInt64.toUInt64).toInt64).toInt32), (0 : Int32)] := c442.other W446 ne425
    have K446 : Keep h0 h446 [] := K441.wr W446 (Or.inr sz424)
    refine own_step st446 ?_
    show own_G p.tables e below _ (T446.setTop (mkF m 60 #[.val (.int p1), .val (.long q2), .second, .val (.long q3), .second, .val (.long q4), .second, .val (.int (3 : Int32)), .val (.ref b422), .val (.ref b424), .unset, .unset] []))
    refine own_step (fun t k => XS.iload X446.here hx rfl (hb hby at_60) rfl k) ?_
    show own_G p.tables e below _ (T446.setTop (mkF m 62 #[.val (.int p1), .val (.long q2), .second, .val (.long q3), .second, .val (.long q4), .second, .val (.int (3 : Int32)), .val (.ref b422), .val (.ref b424), .unset, .unset] [(.int (3 : Int32))]))
    refine own_step (fun t k => XS.iconst X446.here hx rfl (hb hby at_62) k) ?_
    show own_G p.tables e below _ (T446.setTop (mkF m 63 #[.val (.int p1), .val (.long q2), .second, .val (.long q3), .second, .val (.long q4), .second, .val (.int (3 : Int32)), .val (.ref b422), .val (.ref b424), .unset, .unset] [(.int (2 : Int32)), (.int (3 : Int32))]))
    have hk450 : (2 : Int32) < (3 : Int32) := (by decide)
    refine own_step (fun t k => XS.icmpNo X446.here hx rfl (hb hby at_63) rfl ((tlt hk450).2.2.2) k) ?_
    show own_G p.tables e below _ (T446.setTop (mkF m 66 #[.val (.int p1), .val (.long q2), .second, .val (.long q3), .second, .val (.long q4), .second, .val (.int (3 : Int32)), .val (.ref b422), .val (.ref b424), .unset, .unset] []))
    refine own_step (fun t k => XS.aload X446.here hx rfl (hb hby at_66) rfl rfl k) ?_
    show own_G p.tables e below _ (T446.setTop (mkF m 68 #[.val (.int p1), .val (.long q2), .second, .val (.long q3), .second, .val (.long q4), .second, .val (.int (3 : Int32)), .val (.ref b422), .val (.ref b424), .unset, .unset] [(.ref b422)]))
    refine own_step (fun t k => XS.iconst X446.here hx rfl (hb hby at_68) k) ?_
    show own_G p.tables e below _ (T446.setTop (mkF m 69 #[.val (.int p1), .val (.long q2), .second, .val (.long q3), .second, .val (.long q4), .second, .val (.int (3 : Int32)), .val (.ref b422), .val (.ref b424), .unset, .unset] [(.int (2 : Int32)), (.ref b422)]))
    refine own_step (fun t k => XS.lload X446.here hx rfl (hb hby at_69) rfl k) ?_
    show own_G p.tables e below _ (T446.setTop (mkF m 71 #[.val (.int p1), .val (.long q2), .second, .val (.long q3), .second, .val (.long q4), .second, .val (.int (3 : Int32)), .val (.ref b422), .val (.ref b424), .unset, .unset] [(.long q4), (.int (2 : Int32)), (.ref b422)]))
    obtain ⟨_, _, ⟨T451, L451, k451, n451⟩, -, X451, ⟨Lc451, hQ451, l451, y451, z451⟩, st451⟩ := Jvm.LawKit.callS X446 hx (y := (⟨"com/example/stevedore/stevedore/MoveGraphEndsPinLaw", "hi", "(J)I"⟩ : MethodName)) hown (mvT hZ (hw _ (List.mem_of_getElem? (i := 36) rfl))) (mvT hZ (hw _ (List.mem_of_getElem? (i := 37) rfl))) (mvT hZ (hw _ (List.mem_of_getElem? (i := 34) rfl))) (mvT hZ (hw _ (List.mem_of_getElem? (i := 38) rfl))) (by decide) (backOf (W := 2) (rm6 l Z a0 hw [] q4 h446 n0 (Nat.le_trans Z0 K446.1) ) hZ (hw _ (List.mem_of_getElem? (i := 38) rfl)) (hw _ (List.mem_of_getElem? (i := 34) rfl)) (by decide) (by decide)) (g := (mkF m 71 #[.val (.int p1), .val (.long q2), .second, .val (.long q3), .second, .val (.long q4), .second, .val (.int (3 : Int32)), .val (.ref b422), .val (.ref b424), .unset, .unset] [(.long q4), (.int (2 : Int32)), (.ref b422)])) rfl (by rw [hml]; rfl) (argsL := [(.long q4)]) (rest := [(.int (2 : Int32)), (.ref b422)]) (lenOf pd_0_3 rfl) rfl (by show 2 * 0 + _ ≤ _; exact Nat.le_of_eq rfl) (hb hby at_71) (fun _ _ => ⟨rfl, e446, (by decide : 2 + 0 ≤ _), (by decide : 6 + 0 ≤ _)⟩)
    dsimp only [Pt.U, Pt.locs, Pt.cells, Pt.slots] at X451 l451 y451 z451 st451 hQ451
    subst l451 y451 z451
    obtain ⟨rfl, N451q, e451⟩ := hQ451
    have N451 := Fr.app N446 N451q
    refine own_step st451 ?_
    show own_G p.tables e below _ (T451.setTop (mkF m 74 #[.val (.int p1), .val (.long q2), .second, .val (.long q3), .second, .val (.long q4), .second, .val (.int (3 : Int32)), .val (.ref b422), .val (.ref b424), .unset, .unset] [(.int (((q4.toUInt64 >>> ((32 : Int32) &&& 0x3f).toInt64.toUInt64).toInt64).toInt32)), (.int (2 : Int32)), (.ref b422)]))
    obtain ⟨T452, h452, X452, e452, W452, c452, st452⟩ := own_iastore X451 hx hZ e451 c448 (own_inb (by decide) (Nat.le_of_ble_eq_true rfl)) (g := (mkF m 74 #[.val (.int p1), .val (.long q2), .second, .val (.long q3), .second, .val (.long q4), .second, .val (.int (3 : Int32)), .val (.ref b422), .val (.ref b424), .unset, .unset] [(.int (((q4.toUInt64 >>> ((32 : Int32) &&& 0x3f).toInt64.toUInt64).toInt64).toInt32)), (.int (2 : Int32)), (.ref b422)])) rfl rfl (hb hby at_74)
    have N452 := Fr.snoc X452 N451 ge422
    have c453 : own_Ari Z h452 b422 .int [(((q2.toUInt64 >>> ((32 : Int32) &&& 0x3f).toInt64.toUInt64).toInt64).toInt32), (((q3.toUInt64 >>> ((32 : Int32) &&& 0x3f).toInt64.toUInt64).toInt64).toInt32), (((q4.toUInt64 >>> ((32 : Int32) &&& 0x3f).toInt64.toUInt64).toInt64).toInt32)] := c452
    have c455 : own_Ari Z h452 b424 .int [(q2.toInt32), (q3.toInt32), (0 : Int32)] := c447.other W452 (Ne.symm ne425)
    have K452 : Keep h0 h452 [] := K446.wr W452 (Or.inr sz422)
    refine own_step st452 ?_
    show own_G p.tables e below _ (T452.setTop (mkF m 75 #[.val (.int p1), .val (.long q2), .second, .val (.long q3), .second, .val (.long q4), .second, .val (.int (3 : Int32)), .val (.ref b422), .val (.ref b424), .unset, .unset] []))
    refine own_step (fun t k => XS.aload X452.here hx rfl (hb hby at_75) rfl rfl k) ?_
    show own_G p.tables e below _ (T452.setTop (mkF m 77 #[.val (.int p1), .val (.long q2), .second, .val (.long q3), .second, .val (.long q4), .second, .val (.int (3 : Int32)), .val (.ref b422), .val (.ref b424), .unset, .unset] [(.ref b424)]))
    refine own_step (fun t k => XS.iconst X452.here hx rfl (hb hby at_77) k) ?_
    show own_G p.tables e below _ (T452.setTop (mkF m 78 #[.val (.int p1), .val (.long q2), .second, .val (.long q3), .second, .val (.long q4), .second, .val (.int (3 : Int32)), .val (.ref b422), .val (.ref b424), .unset, .unset] [(.int (2 : Int32)), (.ref b424)]))
    refine own_step (fun t k => XS.lload X452.here hx rfl (hb hby at_78) rfl k) ?_
    show own_G p.tables e below _ (T452.setTop (mkF m 80 #[.val (.int p1), .val (.long q2), .second, .val (.long q3), .second, .val (.long q4), .second, .val (.int (3 : Int32)), .val (.ref b422), .val (.ref b424), .unset, .unset] [(.long q4), (.int (2 : Int32)), (.ref b424)]))
    obtain ⟨_, _, ⟨T456, L456, k456, n456⟩, -, X456, ⟨Lc456, hQ456, l456, y456, z456⟩, st456⟩ := Jvm.LawKit.callS X452 hx (y := (⟨"com/example/stevedore/stevedore/MoveGraphEndsPinLaw", "lo", "(J)I"⟩ : MethodName)) hown (mvT hZ (hw _ (List.mem_of_getElem? (i := 39) rfl))) (mvT hZ (hw _ (List.mem_of_getElem? (i := 40) rfl))) (mvT hZ (hw _ (List.mem_of_getElem? (i := 34) rfl))) (mvT hZ (hw _ (List.mem_of_getElem? (i := 41) rfl))) (by decide) (backOf (W := 2) (rm7 l Z a0 hw [] q4 h452 n0 (Nat.le_trans Z0 K452.1) ) hZ (hw _ (List.mem_of_getElem? (i := 41) rfl)) (hw _ (List.mem_of_getElem? (i := 34) rfl)) (by decide) (by decide)) (g := (mkF m 80 #[.val (.int p1), .val (.long q2), .second, .val (.long q3), .second, .val (.long q4), .second, .val (.int (3 : Int32)), .val (.ref b422), .val (.ref b424), .unset, .unset] [(.long q4), (.int (2 : Int32)), (.ref b424)])) rfl (by rw [hml]; rfl) (argsL := [(.long q4)]) (rest := [(.int (2 : Int32)), (.ref b424)]) (lenOf pd_0_3 rfl) rfl (by show 2 * 0 + _ ≤ _; exact Nat.le_of_eq rfl) (hb hby at_80) (fun _ _ => ⟨rfl, e452, (by decide : 2 + 0 ≤ _), (by decide : 6 + 0 ≤ _)⟩)
    dsimp only [Pt.U, Pt.locs, Pt.cells, Pt.slots] at X456 l456 y456 z456 st456 hQ456
    subst l456 y456 z456
    obtain ⟨rfl, N456q, e456⟩ := hQ456
    have N456 := Fr.app N452 N456q
    refine own_step st456 ?_
    show own_G p.tables e below _ (T456.setTop (mkF m 83 #[.val (.int p1), .val (.long q2), .second, .val (.long q3), .second, .val (.long q4), .second, .val (.int (3 : Int32)), .val (.ref b422), .val (.ref b424), .unset, .unset] [(.int (q4.toInt32)), (.int (2 : Int32)), (.ref b424)]))
    obtain ⟨T457, h457, X457, e457, W457, c457, st457⟩ := own_iastore X456 hx hZ e456 c455 (own_inb (by decide) (Nat.le_of_ble_eq_true rfl)) (g := (mkF m 83 #[.val (.int p1), .val (.long q2), .second, .val (.long q3), .second, .val (.long q4), .second, .val (.int (3 : Int32)), .val (.ref b422), .val (.ref b424), .unset, .unset] [(.int (q4.toInt32)), (.int (2 : Int32)), (.ref b424)])) rfl rfl (hb hby at_83)
    have N457 := Fr.snoc X457 N456 ge424
    have c458 : own_Ari Z h457 b424 .int [(q2.toInt32), (q3.toInt32), (q4.toInt32)] := c457
    have c459 : own_Ari Z h457 b422 .int [(((q2.toUInt64 >>> ((32 : Int32) &&& 0x3f).toInt64.toUInt64).toInt64).toInt32), (((q3.toUInt64 >>> ((32 : Int32) &&& 0x3f).toInt64.toUInt64).toInt64).toInt32), (((q4.toUInt64 >>> ((32 : Int32) &&& 0x3f).toInt64.toUInt64).toInt64).toInt32)] := c453.other W457 ne425
    have K457 : Keep h0 h457 [] := K452.wr W457 (Or.inr sz424)
    refine own_step st457 ?_
    show own_G p.tables e below _ (T457.setTop (mkF m 84 #[.val (.int p1), .val (.long q2), .second, .val (.long q3), .second, .val (.long q4), .second, .val (.int (3 : Int32)), .val (.ref b422), .val (.ref b424), .unset, .unset] []))
    obtain ⟨T461, h461, X461, e461, E461, A461, D461, -, st461⟩ := newO X457 hx hZ hown (hw _ (List.mem_of_getElem? (i := 1) rfl)) (hw _ (List.mem_of_getElem? (i := 2) rfl)) (hw _ (List.mem_of_getElem? (i := 3) rfl)) e457 (g := (mkF m 84 #[.val (.int p1), .val (.long q2), .second, .val (.long q3), .second, .val (.long q4), .second, .val (.int (3 : Int32)), .val (.ref b422), .val (.ref b424), .unset, .unset] [])) rfl (hb hby at_84) (by decide) (by decide)
    obtain ⟨b461, g461⟩ : ∃ z, z = h457.size := ⟨_, rfl⟩
    have ne462 : b422 ≠ b461 := Nat.ne_of_lt (Nat.lt_of_lt_of_le c459.lt (Nat.le_of_eq g461.symm))
    have ne463 : b424 ≠ b461 := Nat.ne_of_lt (Nat.lt_of_lt_of_le c458.lt (Nat.le_of_eq g461.symm))
    have sz461 : h0.size ≤ b461 := Nat.le_trans K457.1 (Nat.le_of_eq g461.symm)
    have ge461 : n0 ≤ b461 := Nat.le_trans Z0 sz461
    have c464 : own_Ari Z h461 b422 .int [(((q2.toUInt64 >>> ((32 : Int32) &&& 0x3f).toInt64.toUInt64).toInt64).toInt32), (((q3.toUInt64 >>> ((32 : Int32) &&& 0x3f).toInt64.toUInt64).toInt64).toInt32), (((q4.toUInt64 >>> ((32 : Int32) &&& 0x3f).toInt64.toUInt64).toInt64).toInt32)] := c459.ext E461
    have c465 : own_Ari Z h461 b424 .int [(q2.toInt32), (q3.toInt32), (q4.toInt32)] := c458.ext E461
    have K461 : Keep h0 h461 [] := K457.ext E461
    rw [← g461] at A461 D461 st461
    have c466 : Fld Z h461 b461 "com/example/stevedore/stevedore/MoveGraph" "from" "[I" .null := D461 (Or.inr (hw _ (List.mem_of_getElem? (i := 16) rfl))) (ty := (.array .int)) (by decide)
    have c467 : Fld Z h461 b461 "com/example/stevedore/stevedore/MoveGraph" "to" "[I" .null := D461 (Or.inr (hw _ (List.mem_of_getElem? (i := 18) rfl))) (ty := (.array .int)) (by decide)
    have c468 : Fld Z h461 b461 "com/example/stevedore/stevedore/MoveGraph" "limit" "[I" .null := D461 (Or.inr (hw _ (List.mem_of_getElem? (i := 20) rfl))) (ty := (.array .int)) (by decide)
    have c469 : Fld Z h461 b461 "com/example/stevedore/stevedore/MoveGraph" "send" "[I" .null := D461 (Or.inr (hw _ (List.mem_of_getElem? (i := 22) rfl))) (ty := (.array .int)) (by decide)
    have c470 : Fld Z h461 b461 "com/example/stevedore/stevedore/MoveGraph" "receive" "[I" .null := D461 (Or.inr (hw _ (List.mem_of_getElem? (i := 24) rfl))) (ty := (.array .int)) (by decide)
    have c471 : Fld Z h461 b461 "com/example/stevedore/stevedore/MoveGraph" "free" "[I" .null := D461 (Or.inr (hw _ (List.mem_of_getElem? (i := 26) rfl))) (ty := (.array .int)) (by decide)
    refine own_step st461 ?_
    show own_G p.tables e below _ (T461.setTop (mkF m 87 #[.val (.int p1), .val (.long q2), .second, .val (.long q3), .second, .val (.long q4), .second, .val (.int (3 : Int32)), .val (.ref b422), .val (.ref b424), .unset, .unset] [(.ref b461)]))
    refine own_step (fun t k => XS.dup X461.here hx rfl (hb hby at_87) rfl rfl k) ?_
    show own_G p.tables e below _ (T461.setTop (mkF m 88 #[.val (.int p1), .val (.long q2), .second, .val (.long q3), .second, .val (.long q4), .second, .val (.int (3 : Int32)), .val (.ref b422), .val (.ref b424), .unset, .unset] [(.ref b461), (.ref b461)]))
    refine own_step (fun t k => XS.aload X461.here hx rfl (hb hby at_88) rfl rfl k) ?_
    show own_G p.tables e below _ (T461.setTop (mkF m 90 #[.val (.int p1), .val (.long q2), .second, .val (.long q3), .second, .val (.long q4), .second, .val (.int (3 : Int32)), .val (.ref b422), .val (.ref b424), .unset, .unset] [(.ref b422), (.ref b461), (.ref b461)]))
    refine own_step (fun t k => XS.aload X461.here hx rfl (hb hby at_90) rfl rfl k) ?_
    show own_G p.tables e below _ (T461.setTop (mkF m 92 #[.val (.int p1), .val (.long q2), .second, .val (.long q3), .second, .val (.long q4), .second, .val (.int (3 : Int32)), .val (.ref b422), .val (.ref b424), .unset, .unset] [(.ref b424), (.ref b422), (.ref b461), (.ref b461)]))
    refine own_step (fun t k => XS.iconst X461.here hx rfl (hb hby at_92) k) ?_
    show own_G p.tables e below _ (T461.setTop (mkF m 93 #[.val (.int p1), .val (.long q2), .second, .val (.long q3), .second, .val (.long q4), .second, .val (.int (3 : Int32)), .val (.ref b422), .val (.ref b424), .unset, .unset] [(.int (0 : Int32)), (.ref b424), (.ref b422), (.ref b461), (.ref b461)]))
    obtain ⟨T472, h472, k472, X472, e472, E472, A472, st472⟩ := newP X461 hx hZ (hw _ (List.mem_of_getElem? (i := 0) rfl)) e461 (g := (mkF m 93 #[.val (.int p1), .val (.long q2), .second, .val (.long q3), .second, .val (.long q4), .second, .val (.int (3 : Int32)), .val (.ref b422), .val (.ref b424), .unset, .unset] [(.int (0 : Int32)), (.ref b424), (.ref b422), (.ref b461), (.ref b461)])) rfl (hb hby at_93) rfl (by decide) (cap := 0) (by decide) (by decide) (by decide) (by decide)
    obtain ⟨b472, g472⟩ : ∃ z, z = h461.size := ⟨_, rfl⟩
    have ne473 : b422 ≠ b472 := Nat.ne_of_lt (Nat.lt_of_lt_of_le c464.lt (Nat.le_of_eq g472.symm))
    have ne474 : b424 ≠ b472 := Nat.ne_of_lt (Nat.lt_of_lt_of_le c465.lt (Nat.le_of_eq g472.symm))
    have ne475 : b461 ≠ b472 := Nat.ne_of_lt (Nat.lt_of_lt_of_le A461.lt (Nat.le_of_eq g472.symm))
    have sz472 : h0.size ≤ b472 := Nat.le_trans K461.1 (Nat.le_of_eq g472.symm)
    have ge472 : n0 ≤ b472 := Nat.le_trans Z0 sz472
    have c476 : own_Ari Z h472 b422 .int [(((q2.toUInt64 >>> ((32 : Int32) &&& 0x3f).toInt64.toUInt64).toInt64).toInt32), (((q3.toUInt64 >>> ((32 : Int32) &&& 0x3f).toInt64.toUInt64).toInt64).toInt32), (((q4.toUInt64 >>> ((32 : Int32) &&& 0x3f).toInt64.toUInt64).toInt64).toInt32)] := c464.ext E472
    have c477 : own_Ari Z h472 b424 .int [(q2.toInt32), (q3.toInt32), (q4.toInt32)] := c465.ext E472
    have c478 : Exa Z h472 b461 "com/example/stevedore/stevedore/MoveGraph" := A461.ext E472
    have c479 : Fld Z h472 b461 "com/example/stevedore/stevedore/MoveGraph" "from" "[I" .null := c466.ext E472
    have c480 : Fld Z h472 b461 "com/example/stevedore/stevedore/MoveGraph" "to" "[I" .null := c467.ext E472
    have c481 : Fld Z h472 b461 "com/example/stevedore/stevedore/MoveGraph" "limit" "[I" .null := c468.ext E472
    have c482 : Fld Z h472 b461 "com/example/stevedore/stevedore/MoveGraph" "send" "[I" .null := c469.ext E472
    have c483 : Fld Z h472 b461 "com/example/stevedore/stevedore/MoveGraph" "receive" "[I" .null := c470.ext E472
    have c484 : Fld Z h472 b461 "com/example/stevedore/stevedore/MoveGraph" "free" "[I" .null := c471.ext E472
    have K472 : Keep h0 h472 [] := K461.ext E472
    rw [← g472] at A472 st472
    have c485 : own_Ari Z h472 b472 .int [] := own_Ari_new (ty := .int) A472 (by decide) rfl
    refine own_step st472 ?_
    show own_G p.tables e below _ (T472.setTop (mkF m 95 #[.val (.int p1), .val (.long q2), .second, .val (.long q3), .second, .val (.long q4), .second, .val (.int (3 : Int32)), .val (.ref b422), .val (.ref b424), .unset, .unset] [(.ref b472), (.ref b424), (.ref b422), (.ref b461), (.ref b461)]))
    refine own_step (fun t k => XS.iconst X472.here hx rfl (hb hby at_95) k) ?_
    show own_G p.tables e below _ (T472.setTop (mkF m 96 #[.val (.int p1), .val (.long q2), .second, .val (.long q3), .second, .val (.long q4), .second, .val (.int (3 : Int32)), .val (.ref b422), .val (.ref b424), .unset, .unset] [(.int (0 : Int32)), (.ref b472), (.ref b424), (.ref b422), (.ref b461), (.ref b461)]))
    obtain ⟨T486, h486, k486, X486, e486, E486, A486, st486⟩ := newP X472 hx hZ (hw _ (List.mem_of_getElem? (i := 0) rfl)) e472 (g := (mkF m 96 #[.val (.int p1), .val (.long q2), .second, .val (.long q3), .second, .val (.long q4), .second, .val (.int (3 : Int32)), .val (.ref b422), .val (.ref b424), .unset, .unset] [(.int (0 : Int32)), (.ref b472), (.ref b424), (.ref b422), (.ref b461), (.ref b461)])) rfl (hb hby at_96) rfl (by decide) (cap := 0) (by decide) (by decide) (by decide) (by decide)
    obtain ⟨b486, g486⟩ : ∃ z, z = h472.size := ⟨_, rfl⟩
    have ne487 : b422 ≠ b486 := Nat.ne_of_lt (Nat.lt_of_lt_of_le c476.lt (Nat.le_of_eq g486.symm))
    have ne488 : b424 ≠ b486 := Nat.ne_of_lt (Nat.lt_of_lt_of_le c477.lt (Nat.le_of_eq g486.symm))
    have ne489 : b461 ≠ b486 := Nat.ne_of_lt (Nat.lt_of_lt_of_le c478.lt (Nat.le_of_eq g486.symm))
    have ne490 : b472 ≠ b486 := Nat.ne_of_lt (Nat.lt_of_lt_of_le c485.lt (Nat.le_of_eq g486.symm))
    have sz486 : h0.size ≤ b486 := Nat.le_trans K472.1 (Nat.le_of_eq g486.symm)
    have ge486 : n0 ≤ b486 := Nat.le_trans Z0 sz486
    have c491 : own_Ari Z h486 b422 .int [(((q2.toUInt64 >>> ((32 : Int32) &&& 0x3f).toInt64.toUInt64).toInt64).toInt32), (((q3.toUInt64 >>> ((32 : Int32) &&& 0x3f).toInt64.toUInt64).toInt64).toInt32), (((q4.toUInt64 >>> ((32 : Int32) &&& 0x3f).toInt64.toUInt64).toInt64).toInt32)] := c476.ext E486
    have c492 : own_Ari Z h486 b424 .int [(q2.toInt32), (q3.toInt32), (q4.toInt32)] := c477.ext E486
    have c493 : Exa Z h486 b461 "com/example/stevedore/stevedore/MoveGraph" := c478.ext E486
    have c494 : Fld Z h486 b461 "com/example/stevedore/stevedore/MoveGraph" "from" "[I" .null := c479.ext E486
    have c495 : Fld Z h486 b461 "com/example/stevedore/stevedore/MoveGraph" "to" "[I" .null := c480.ext E486
    have c496 : Fld Z h486 b461 "com/example/stevedore/stevedore/MoveGraph" "limit" "[I" .null := c481.ext E486
    have c497 : Fld Z h486 b461 "com/example/stevedore/stevedore/MoveGraph" "send" "[I" .null := c482.ext E486
    have c498 : Fld Z h486 b461 "com/example/stevedore/stevedore/MoveGraph" "receive" "[I" .null := c483.ext E486
    have c499 : Fld Z h486 b461 "com/example/stevedore/stevedore/MoveGraph" "free" "[I" .null := c484.ext E486
    have c500 : own_Ari Z h486 b472 .int [] := c485.ext E486
    have K486 : Keep h0 h486 [] := K472.ext E486
    rw [← g486] at A486 st486
    have c501 : own_Ari Z h486 b486 .int [] := own_Ari_new (ty := .int) A486 (by decide) rfl
    refine own_step st486 ?_
    show own_G p.tables e below _ (T486.setTop (mkF m 98 #[.val (.int p1), .val (.long q2), .second, .val (.long q3), .second, .val (.long q4), .second, .val (.int (3 : Int32)), .val (.ref b422), .val (.ref b424), .unset, .unset] [(.ref b486), (.ref b472), (.ref b424), (.ref b422), (.ref b461), (.ref b461)]))
    refine own_step (fun t k => XS.iconst X486.here hx rfl (hb hby at_98) k) ?_
    show own_G p.tables e below _ (T486.setTop (mkF m 99 #[.val (.int p1), .val (.long q2), .second, .val (.long q3), .second, .val (.long q4), .second, .val (.int (3 : Int32)), .val (.ref b422), .val (.ref b424), .unset, .unset] [(.int (0 : Int32)), (.ref b486), (.ref b472), (.ref b424), (.ref b422), (.ref b461), (.ref b461)]))
    obtain ⟨T502, h502, k502, X502, e502, E502, A502, st502⟩ := newP X486 hx hZ (hw _ (List.mem_of_getElem? (i := 0) rfl)) e486 (g := (mkF m 99 #[.val (.int p1), .val (.long q2), .second, .val (.long q3), .second, .val (.long q4), .second, .val (.int (3 : Int32)), .val (.ref b422), .val (.ref b424), .unset, .unset] [(.int (0 : Int32)), (.ref b486), (.ref b472), (.ref b424), (.ref b422), (.ref b461), (.ref b461)])) rfl (hb hby at_99) rfl (by decide) (cap := 0) (by decide) (by decide) (by decide) (by decide)
    obtain ⟨b502, g502⟩ : ∃ z, z = h486.size := ⟨_, rfl⟩
    have ne503 : b422 ≠ b502 := Nat.ne_of_lt (Nat.lt_of_lt_of_le c491.lt (Nat.le_of_eq g502.symm))
    have ne504 : b424 ≠ b502 := Nat.ne_of_lt (Nat.lt_of_lt_of_le c492.lt (Nat.le_of_eq g502.symm))
    have ne505 : b461 ≠ b502 := Nat.ne_of_lt (Nat.lt_of_lt_of_le c493.lt (Nat.le_of_eq g502.symm))
    have ne506 : b472 ≠ b502 := Nat.ne_of_lt (Nat.lt_of_lt_of_le c500.lt (Nat.le_of_eq g502.symm))
    have ne507 : b486 ≠ b502 := Nat.ne_of_lt (Nat.lt_of_lt_of_le c501.lt (Nat.le_of_eq g502.symm))
    have sz502 : h0.size ≤ b502 := Nat.le_trans K486.1 (Nat.le_of_eq g502.symm)
    have ge502 : n0 ≤ b502 := Nat.le_trans Z0 sz502
    have c508 : own_Ari Z h502 b422 .int [(((q2.toUInt64 >>> ((32 : Int32) &&& 0x3f).toInt64.toUInt64).toInt64).toInt32), (((q3.toUInt64 >>> ((32 : Int32) &&& 0x3f).toInt64.toUInt64).toInt64).toInt32), (((q4.toUInt64 >>> ((32 : Int32) &&& 0x3f).toInt64.toUInt64).toInt64).toInt32)] := c491.ext E502
    have c509 : own_Ari Z h502 b424 .int [(q2.toInt32), (q3.toInt32), (q4.toInt32)] := c492.ext E502
    have c510 : Exa Z h502 b461 "com/example/stevedore/stevedore/MoveGraph" := c493.ext E502
    have c511 : Fld Z h502 b461 "com/example/stevedore/stevedore/MoveGraph" "from" "[I" .null := c494.ext E502
    have c512 : Fld Z h502 b461 "com/example/stevedore/stevedore/MoveGraph" "to" "[I" .null := c495.ext E502
    have c513 : Fld Z h502 b461 "com/example/stevedore/stevedore/MoveGraph" "limit" "[I" .null := c496.ext E502
    have c514 : Fld Z h502 b461 "com/example/stevedore/stevedore/MoveGraph" "send" "[I" .null := c497.ext E502
    have c515 : Fld Z h502 b461 "com/example/stevedore/stevedore/MoveGraph" "receive" "[I" .null := c498.ext E502
    have c516 : Fld Z h502 b461 "com/example/stevedore/stevedore/MoveGraph" "free" "[I" .null := c499.ext E502
    have c517 : own_Ari Z h502 b472 .int [] := c500.ext E502
    have c518 : own_Ari Z h502 b486 .int [] := c501.ext E502
    have K502 : Keep h0 h502 [] := K486.ext E502
    rw [← g502] at A502 st502
    have c519 : own_Ari Z h502 b502 .int [] := own_Ari_new (ty := .int) A502 (by decide) rfl
    refine own_step st502 ?_
    show own_G p.tables e below _ (T502.setTop (mkF m 101 #[.val (.int p1), .val (.long q2), .second, .val (.long q3), .second, .val (.long q4), .second, .val (.int (3 : Int32)), .val (.ref b422), .val (.ref b424), .unset, .unset] [(.ref b502), (.ref b486), (.ref b472), (.ref b424), (.ref b422), (.ref b461), (.ref b461)]))
    refine own_step (fun t k => XS.iconst X502.here hx rfl (hb hby at_101) k) ?_
    show own_G p.tables e below _ (T502.setTop (mkF m 102 #[.val (.int p1), .val (.long q2), .second, .val (.long q3), .second, .val (.long q4), .second, .val (.int (3 : Int32)), .val (.ref b422), .val (.ref b424), .unset, .unset] [(.int (0 : Int32)), (.ref b502), (.ref b486), (.ref b472), (.ref b424), (.ref b422), (.ref b461), (.ref b461)]))
    obtain ⟨T520, h520, k520, X520, e520, E520, A520, st520⟩ := newP X502 hx hZ (hw _ (List.mem_of_getElem? (i := 0) rfl)) e502 (g := (mkF m 102 #[.val (.int p1), .val (.long q2), .second, .val (.long q3), .second, .val (.long q4), .second, .val (.int (3 : Int32)), .val (.ref b422), .val (.ref b424), .unset, .unset] [(.int (0 : Int32)), (.ref b502), (.ref b486), (.ref b472), (.ref b424), (.ref b422), (.ref b461), (.ref b461)])) rfl (hb hby at_102) rfl (by decide) (cap := 0) (by decide) (by decide) (by decide) (by decide)
    obtain ⟨b520, g520⟩ : ∃ z, z = h502.size := ⟨_, rfl⟩
    have ne521 : b422 ≠ b520 := Nat.ne_of_lt (Nat.lt_of_lt_of_le c508.lt (Nat.le_of_eq g520.symm))
    have ne522 : b424 ≠ b520 := Nat.ne_of_lt (Nat.lt_of_lt_of_le c509.lt (Nat.le_of_eq g520.symm))
    have ne523 : b461 ≠ b520 := Nat.ne_of_lt (Nat.lt_of_lt_of_le c510.lt (Nat.le_of_eq g520.symm))
    have ne524 : b472 ≠ b520 := Nat.ne_of_lt (Nat.lt_of_lt_of_le c517.lt (Nat.le_of_eq g520.symm))
    have ne525 : b486 ≠ b520 := Nat.ne_of_lt (Nat.lt_of_lt_of_le c518.lt (Nat.le_of_eq g520.symm))
    have ne526 : b502 ≠ b520 := Nat.ne_of_lt (Nat.lt_of_lt_of_le c519.lt (Nat.le_of_eq g520.symm))
    have sz520 : h0.size ≤ b520 := Nat.le_trans K502.1 (Nat.le_of_eq g520.symm)
    have ge520 : n0 ≤ b520 := Nat.le_trans Z0 sz520
    have c527 : own_Ari Z h520 b422 .int [(((q2.toUInt64 >>> ((32 : Int32) &&& 0x3f).toInt64.toUInt64).toInt64).toInt32), (((q3.toUInt64 >>> ((32 : Int32) &&& 0x3f).toInt64.toUInt64).toInt64).toInt32), (((q4.toUInt64 >>> ((32 : Int32) &&& 0x3f).toInt64.toUInt64).toInt64).toInt32)] := c508.ext E520
    have c528 : own_Ari Z h520 b424 .int [(q2.toInt32), (q3.toInt32), (q4.toInt32)] := c509.ext E520
    have c529 : Exa Z h520 b461 "com/example/stevedore/stevedore/MoveGraph" := c510.ext E520
    have c530 : Fld Z h520 b461 "com/example/stevedore/stevedore/MoveGraph" "from" "[I" .null := c511.ext E520
    have c531 : Fld Z h520 b461 "com/example/stevedore/stevedore/MoveGraph" "to" "[I" .null := c512.ext E520
    have c532 : Fld Z h520 b461 "com/example/stevedore/stevedore/MoveGraph" "limit" "[I" .null := c513.ext E520
    have c533 : Fld Z h520 b461 "com/example/stevedore/stevedore/MoveGraph" "send" "[I" .null := c514.ext E520
    have c534 : Fld Z h520 b461 "com/example/stevedore/stevedore/MoveGraph" "receive" "[I" .null := c515.ext E520
    have c535 : Fld Z h520 b461 "com/example/stevedore/stevedore/MoveGraph" "free" "[I" .null := c516.ext E520
    have c536 : own_Ari Z h520 b472 .int [] := c517.ext E520
    have c537 : own_Ari Z h520 b486 .int [] := c518.ext E520
    have c538 : own_Ari Z h520 b502 .int [] := c519.ext E520
    have K520 : Keep h0 h520 [] := K502.ext E520
    rw [← g520] at A520 st520
    have c539 : own_Ari Z h520 b520 .int [] := own_Ari_new (ty := .int) A520 (by decide) rfl
    refine own_step st520 ?_
    show own_G p.tables e below _ (T520.setTop (mkF m 104 #[.val (.int p1), .val (.long q2), .second, .val (.long q3), .second, .val (.long q4), .second, .val (.int (3 : Int32)), .val (.ref b422), .val (.ref b424), .unset, .unset] [(.ref b520), (.ref b502), (.ref b486), (.ref b472), (.ref b424), (.ref b422), (.ref b461), (.ref b461)]))
    obtain ⟨_, _, ⟨T540, L540, k540, n540⟩, -, X540, ⟨Lc540, hQ540, l540, y540, z540⟩, st540⟩ := X520.specialBack hx (y := (⟨"com/example/stevedore/stevedore/MoveGraph", "<init>", "([I[I[I[I[I[I)V"⟩ : MethodName)) rfl hown (mvT hZ (hw _ (List.mem_of_getElem? (i := 4) rfl))) (mvT hZ (hw _ (List.mem_of_getElem? (i := 5) rfl))) (mvT hZ (hw _ (List.mem_of_getElem? (i := 6) rfl))) (by decide) (backOf (W := 1) (rm1 l Z a0 hw [] b461 b422 b424 b472 b486 b502 b520 .null .null .null .null .null .null h520 n0 (Nat.le_trans Z0 K520.1) c529 c530 c531 c532 c533 c534 c535 ge461) hZ (hw _ (List.mem_of_getElem? (i := 6) rfl)) (hw _ (List.mem_of_getElem? (i := 3) rfl)) (by decide) (by decide)) (g := (mkF m 104 #[.val (.int p1), .val (.long q2), .second, .val (.long q3), .second, .val (.long q4), .second, .val (.int (3 : Int32)), .val (.ref b422), .val (.ref b424), .unset, .unset] [(.ref b520), (.ref b502), (.ref b486), (.ref b472), (.ref b424), (.ref b422), (.ref b461), (.ref b461)])) rfl (by rw [hml]; rfl) (Steps.refl _) (a := b461) (argsL := [(.ref b422), (.ref b424), (.ref b472), (.ref b486), (.ref b502), (.ref b520)]) (rest := [(.ref b461)]) (lenOf pd_0_0 rfl) rfl (by show 2 * 0 + _ ≤ _; exact Nat.le_of_eq rfl) (hb hby at_104) (fun _ _ => ⟨rfl, e520, (by decide : 7 + 0 ≤ _), (by decide : 12 + 0 ≤ _)⟩)
    dsimp only [Pt.U, Pt.locs, Pt.cells, Pt.slots] at X540 l540 y540 z540 st540 hQ540
    subst l540 y540 z540
    obtain ⟨rfl, N540q, K540q, w540_0, w540_1, w540_2, w540_3, w540_4, w540_5⟩ := hQ540
    have c541 : own_Ari Z T540.heap b422 .int [(((q2.toUInt64 >>> ((32 : Int32) &&& 0x3f).toInt64.toUInt64).toInt64).toInt32), (((q3.toUInt64 >>> ((32 : Int32) &&& 0x3f).toInt64.toUInt64).toInt64).toInt32), (((q4.toUInt64 >>> ((32 : Int32) &&& 0x3f).toInt64.toUInt64).toInt64).toInt32)] := c527.keep K540q (ninS ne462 nin0)
    have c542 : own_Ari Z T540.heap b424 .int [(q2.toInt32), (q3.toInt32), (q4.toInt32)] := c528.keep K540q (ninS ne463 nin0)
    have c543 : Exa Z T540.heap b461 "com/example/stevedore/stevedore/MoveGraph" := c529.keep K540q
    have c550 : own_Ari Z T540.heap b472 .int [] := c536.keep K540q (ninS (Ne.symm ne475) nin0)
    have c551 : own_Ari Z T540.heap b486 .int [] := c537.keep K540q (ninS (Ne.symm ne489) nin0)
    have c552 : own_Ari Z T540.heap b502 .int [] := c538.keep K540q (ninS (Ne.symm ne505) nin0)
    have c553 : own_Ari Z T540.heap b520 .int [] := c539.keep K540q (ninS (Ne.symm ne523) nin0)
    have K540 : Keep h0 T540.heap [] := K520.trans K540q (allS (Or.inr sz461) all0)
    have N540 := Fr.app N457 N540q
    refine own_step (fun t k => st540.trans k) ?_
    show own_G p.tables e below _ (T540.setTop (mkF m 107 #[.val (.int p1), .val (.long q2), .second, .val (.long q3), .second, .val (.long q4), .second, .val (.int (3 : Int32)), .val (.ref b422), .val (.ref b424), .unset, .unset] [(.ref b461)]))
    refine own_step (fun t k => XS.astore X540.here hx rfl (hb hby at_107) rfl rfl (l' := #[.val (.int p1), .val (.long q2), .second, .val (.long q3), .second, .val (.long q4), .second, .val (.int (3 : Int32)), .val (.ref b422), .val (.ref b424), .val (.ref b461), .unset]) rfl k) ?_
    show own_G p.tables e below _ (T540.setTop (mkF m 109 #[.val (.int p1), .val (.long q2), .second, .val (.long q3), .second, .val (.long q4), .second, .val (.int (3 : Int32)), .val (.ref b422), .val (.ref b424), .val (.ref b461), .unset] []))
    refine own_step (fun t k => XS.aload X540.here hx rfl (hb hby at_109) rfl rfl k) ?_
    show own_G p.tables e below _ (T540.setTop (mkF m 111 #[.val (.int p1), .val (.long q2), .second, .val (.long q3), .second, .val (.long q4), .second, .val (.int (3 : Int32)), .val (.ref b422), .val (.ref b424), .val (.ref b461), .unset] [(.ref b461)]))
    obtain ⟨cq554, kq554, q554a, q554b, q554c⟩ := isOf hZ rfl c543
    obtain ⟨_, _, ⟨T554, L554, k554, n554⟩, -, X554, ⟨Lc554, hQ554, l554, y554, z554⟩, st554⟩ := X540.virtualBack hx (y := (⟨"com/example/stevedore/stevedore/MoveGraph", "ends", "()[I"⟩ : MethodName)) (z := (⟨"com/example/stevedore/stevedore/MoveGraph", "ends", "()[I"⟩ : MethodName)) hown (mvT hZ (hw _ (List.mem_of_getElem? (i := 27) rfl))) (mvT hZ (hw _ (List.mem_of_getElem? (i := 28) rfl))) (notFace_of_selects (args := #[]) (mvT hZ (hw _ (List.mem_of_getElem? (i := 30) rfl)))) (mvT hZ (hw _ (List.mem_of_getElem? (i := 30) rfl))) (mvT hZ (hw _ (List.mem_of_getElem? (i := 29) rfl))) (by decide) (backOf (W := 0) (rm4_k3 l Z a0 hw [] b461 b422 b424 (((q2.toUInt64 >>> ((32 : Int32) &&& 0x3f).toInt64.toUInt64).toInt64).toInt32) (((q3.toUInt64 >>> ((32 : Int32) &&& 0x3f).toInt64.toUInt64).toInt64).toInt32) (((q4.toUInt64 >>> ((32 : Int32) &&& 0x3f).toInt64.toUInt64).toInt64).toInt32) (q2.toInt32) (q3.toInt32) (q4.toInt32) T540.heap n0 (Nat.le_trans Z0 K540.1) w540_0 w540_1 c541 c542) hZ (hw _ (List.mem_of_getElem? (i := 31) rfl)) (hw _ (List.mem_of_getElem? (i := 3) rfl)) (by decide) (by decide)) q554a q554c (g := (mkF m 111 #[.val (.int p1), .val (.long q2), .second, .val (.long q3), .second, .val (.long q4), .second, .val (.int (3 : Int32)), .val (.ref b422), .val (.ref b424), .val (.ref b461), .unset] [(.ref b461)])) rfl (by rw [hml]; rfl) (Steps.refl _) (argsL := []) (rest := []) (lenOf pd_0_1 rfl) rfl (by show 2 * 0 + _ ≤ _; exact Nat.le_of_eq rfl) (hb hby at_111) (fun _ _ => ⟨rfl, rfl, (by decide : 7 + 1 ≤ _), (by decide : 12 + 6 ≤ _)⟩)
    dsimp only [Pt.U, Pt.locs, Pt.cells, Pt.slots] at X554 l554 y554 z554 st554 hQ554
    subst l554 y554 z554
    obtain ⟨bx554_rb, rfl, N554q, K554q, w554_0, sx554_0⟩ := hQ554
    have c555 : own_Ari Z T554.heap b422 .int [(((q2.toUInt64 >>> ((32 : Int32) &&& 0x3f).toInt64.toUInt64).toInt64).toInt32), (((q3.toUInt64 >>> ((32 : Int32) &&& 0x3f).toInt64.toUInt64).toInt64).toInt32), (((q4.toUInt64 >>> ((32 : Int32) &&& 0x3f).toInt64.toUInt64).toInt64).toInt32)] := c541.keep K554q nin0
    have c556 : own_Ari Z T554.heap b424 .int [(q2.toInt32), (q3.toInt32), (q4.toInt32)] := c542.keep K554q nin0
    have c557 : Exa Z T554.heap b461 "com/example/stevedore/stevedore/MoveGraph" := c543.keep K554q
    have c558 : own_Ari Z T554.heap b472 .int [] := c550.keep K554q nin0
    have c559 : own_Ari Z T554.heap b486 .int [] := c551.keep K554q nin0
    have c560 : own_Ari Z T554.heap b502 .int [] := c552.keep K554q nin0
    have c561 : own_Ari Z T554.heap b520 .int [] := c553.keep K554q nin0
    have c562 : Fld Z T554.heap b461 "com/example/stevedore/stevedore/MoveGraph" "from" "[I" (.ref b422) := w540_0.keep K554q nin0
    have c563 : Fld Z T554.heap b461 "com/example/stevedore/stevedore/MoveGraph" "to" "[I" (.ref b424) := w540_1.keep K554q nin0
    have c564 : Fld Z T554.heap b461 "com/example/stevedore/stevedore/MoveGraph" "limit" "[I" (.ref b472) := w540_2.keep K554q nin0
    have c565 : Fld Z T554.heap b461 "com/example/stevedore/stevedore/MoveGraph" "send" "[I" (.ref b486) := w540_3.keep K554q nin0
    have c566 : Fld Z T554.heap b461 "com/example/stevedore/stevedore/MoveGraph" "receive" "[I" (.ref b502) := w540_4.keep K554q nin0
    have c567 : Fld Z T554.heap b461 "com/example/stevedore/stevedore/MoveGraph" "free" "[I" (.ref b520) := w540_5.keep K554q nin0
    have sz554_0 : h0.size ≤ bx554_rb := Nat.le_trans K540.1 sx554_0
    have ge554_0 : n0 ≤ bx554_rb := Nat.le_trans Z0 sz554_0
    have ne568 : b422 ≠ bx554_rb := Nat.ne_of_lt (Nat.lt_of_lt_of_le c541.lt sx554_0)
    have ne569 : b424 ≠ bx554_rb := Nat.ne_of_lt (Nat.lt_of_lt_of_le c542.lt sx554_0)
    have ne570 : b461 ≠ bx554_rb := Nat.ne_of_lt (Nat.lt_of_lt_of_le c543.lt sx554_0)
    have ne571 : b472 ≠ bx554_rb := Nat.ne_of_lt (Nat.lt_of_lt_of_le c550.lt sx554_0)
    have ne572 : b486 ≠ bx554_rb := Nat.ne_of_lt (Nat.lt_of_lt_of_le c551.lt sx554_0)
    have ne573 : b502 ≠ bx554_rb := Nat.ne_of_lt (Nat.lt_of_lt_of_le c552.lt sx554_0)
    have ne574 : b520 ≠ bx554_rb := Nat.ne_of_lt (Nat.lt_of_lt_of_le c553.lt sx554_0)
    have K554 : Keep h0 T554.heap [] := K540.trans K554q all0
    have N554 := Fr.app N540 N554q
    refine own_step (fun t k => st554.trans k) ?_
    show own_G p.tables e below _ (T554.setTop (mkF m 114 #[.val (.int p1), .val (.long q2), .second, .val (.long q3), .second, .val (.long q4), .second, .val (.int (3 : Int32)), .val (.ref b422), .val (.ref b424), .val (.ref b461), .unset] [(.ref bx554_rb)]))
    refine own_step (fun t k => XS.astore X554.here hx rfl (hb hby at_114) rfl rfl (l' := #[.val (.int p1), .val (.long q2), .second, .val (.long q3), .second, .val (.long q4), .second, .val (.int (3 : Int32)), .val (.ref b422), .val (.ref b424), .val (.ref b461), .val (.ref bx554_rb)]) rfl k) ?_
    show own_G p.tables e below _ (T554.setTop (mkF m 116 #[.val (.int p1), .val (.long q2), .second, .val (.long q3), .second, .val (.long q4), .second, .val (.int (3 : Int32)), .val (.ref b422), .val (.ref b424), .val (.ref b461), .val (.ref bx554_rb)] []))
    refine own_step (fun t k => XS.aload X554.here hx rfl (hb hby at_116) rfl rfl k) ?_
    show own_G p.tables e below _ (T554.setTop (mkF m 118 #[.val (.int p1), .val (.long q2), .second, .val (.long q3), .second, .val (.long q4), .second, .val (.int (3 : Int32)), .val (.ref b422), .val (.ref b424), .val (.ref b461), .val (.ref bx554_rb)] [(.ref bx554_rb)]))
    refine own_step (own_lenI X554 hx hZ rfl w554_0 (g := (mkF m 118 #[.val (.int p1), .val (.long q2), .second, .val (.long q3), .second, .val (.long q4), .second, .val (.int (3 : Int32)), .val (.ref b422), .val (.ref b424), .val (.ref b461), .val (.ref bx554_rb)] [(.ref bx554_rb)])) rfl rfl (hb hby at_118)) ?_
    show own_G p.tables e below _ (T554.setTop (mkF m 119 #[.val (.int p1), .val (.long q2), .second, .val (.long q3), .second, .val (.long q4), .second, .val (.int (3 : Int32)), .val (.ref b422), .val (.ref b424), .val (.ref b461), .val (.ref bx554_rb)] [(.int (6 : Int32))]))
    refine own_step (fun t k => XS.iconst X554.here hx rfl (hb hby at_119) k) ?_
    show own_G p.tables e below _ (T554.setTop (mkF m 120 #[.val (.int p1), .val (.long q2), .second, .val (.long q3), .second, .val (.long q4), .second, .val (.int (3 : Int32)), .val (.ref b422), .val (.ref b424), .val (.ref b461), .val (.ref bx554_rb)] [(.int (2 : Int32)), (.int (6 : Int32))]))
    refine own_step (fun t k => XS.iload X554.here hx rfl (hb hby at_120) rfl k) ?_
    show own_G p.tables e below _ (T554.setTop (mkF m 122 #[.val (.int p1), .val (.long q2), .second, .val (.long q3), .second, .val (.long q4), .second, .val (.int (3 : Int32)), .val (.ref b422), .val (.ref b424), .val (.ref b461), .val (.ref bx554_rb)] [(.int (3 : Int32)), (.int (2 : Int32)), (.int (6 : Int32))]))
    refine own_step (fun t k => XS.imul X554.here hx rfl (hb hby at_122) rfl k) ?_
    show own_G p.tables e below _ (T554.setTop (mkF m 123 #[.val (.int p1), .val (.long q2), .second, .val (.long q3), .second, .val (.long q4), .second, .val (.int (3 : Int32)), .val (.ref b422), .val (.ref b424), .val (.ref b461), .val (.ref bx554_rb)] [(.int (6 : Int32)), (.int (6 : Int32))]))
    have hk575 : (6 : Int32) = (6 : Int32) := rfl
    refine own_step (fun t k => XS.icmpYes X554.here hx rfl (pc0 := 123) (pc' := 128) rfl (hb hby at_123) rfl ((teq hk575).1) (by decide) (by decide) k) ?_
    show own_G p.tables e below _ (T554.setTop (mkF m 128 #[.val (.int p1), .val (.long q2), .second, .val (.long q3), .second, .val (.long q4), .second, .val (.int (3 : Int32)), .val (.ref b422), .val (.ref b424), .val (.ref b461), .val (.ref bx554_rb)] []))
    refine own_step (fun t k => XS.aload X554.here hx rfl (hb hby at_128) rfl rfl k) ?_
    show own_G p.tables e below _ (T554.setTop (mkF m 130 #[.val (.int p1), .val (.long q2), .second, .val (.long q3), .second, .val (.long q4), .second, .val (.int (3 : Int32)), .val (.ref b422), .val (.ref b424), .val (.ref b461), .val (.ref bx554_rb)] [(.ref bx554_rb)]))
    refine own_step (fun t k => XS.aload X554.here hx rfl (hb hby at_130) rfl rfl k) ?_
    show own_G p.tables e below _ (T554.setTop (mkF m 132 #[.val (.int p1), .val (.long q2), .second, .val (.long q3), .second, .val (.long q4), .second, .val (.int (3 : Int32)), .val (.ref b422), .val (.ref b424), .val (.ref b461), .val (.ref bx554_rb)] [(.ref b422), (.ref bx554_rb)]))
    refine own_step (fun t k => XS.aload X554.here hx rfl (hb hby at_132) rfl rfl k) ?_
    show own_G p.tables e below _ (T554.setTop (mkF m 134 #[.val (.int p1), .val (.long q2), .second, .val (.long q3), .second, .val (.long q4), .second, .val (.int (3 : Int32)), .val (.ref b422), .val (.ref b424), .val (.ref b461), .val (.ref bx554_rb)] [(.ref b424), (.ref b422), (.ref bx554_rb)]))
    refine own_step (fun t k => XS.iconst X554.here hx rfl (hb hby at_134) k) ?_
    show own_G p.tables e below _ (T554.setTop (mkF m 135 #[.val (.int p1), .val (.long q2), .second, .val (.long q3), .second, .val (.long q4), .second, .val (.int (3 : Int32)), .val (.ref b422), .val (.ref b424), .val (.ref b461), .val (.ref bx554_rb)] [(.int (0 : Int32)), (.ref b424), (.ref b422), (.ref bx554_rb)]))
    refine own_step (fun t k => XS.iload X554.here hx rfl (hb hby at_135) rfl k) ?_
    show own_G p.tables e below _ (T554.setTop (mkF m 137 #[.val (.int p1), .val (.long q2), .second, .val (.long q3), .second, .val (.long q4), .second, .val (.int (3 : Int32)), .val (.ref b422), .val (.ref b424), .val (.ref b461), .val (.ref bx554_rb)] [(.int (3 : Int32)), (.int (0 : Int32)), (.ref b424), (.ref b422), (.ref bx554_rb)]))
    refine own_step (fun t k => XS.lloadN X554.here hx rfl (hb hby at_137) rfl k) ?_
    show own_G p.tables e below _ (T554.setTop (mkF m 138 #[.val (.int p1), .val (.long q2), .second, .val (.long q3), .second, .val (.long q4), .second, .val (.int (3 : Int32)), .val (.ref b422), .val (.ref b424), .val (.ref b461), .val (.ref bx554_rb)] [(.long q2), (.int (3 : Int32)), (.int (0 : Int32)), (.ref b424), (.ref b422), (.ref bx554_rb)]))
    obtain ⟨_, _, ⟨T576, L576, k576, n576⟩, -, X576, ⟨Lc576, hQ576, l576, y576, z576⟩, st576⟩ := Jvm.LawKit.callS X554 hx (y := (⟨"com/example/stevedore/stevedore/MoveGraphEndsPinLaw", "pair", "([I[I[IIIJ)Z"⟩ : MethodName)) hown (mvT hZ (hw _ (List.mem_of_getElem? (i := 32) rfl))) (mvT hZ (hw _ (List.mem_of_getElem? (i := 33) rfl))) (mvT hZ (hw _ (List.mem_of_getElem? (i := 34) rfl))) (mvT hZ (hw _ (List.mem_of_getElem? (i := 35) rfl))) (by decide) (backOf (W := 0) (rm5_e0_3 l Z a0 hw [] bx554_rb b422 b424 q2 (((q3.toUInt64 >>> ((32 : Int32) &&& 0x3f).toInt64.toUInt64).toInt64).toInt32) (q3.toInt32) (((q4.toUInt64 >>> ((32 : Int32) &&& 0x3f).toInt64.toUInt64).toInt64).toInt32) (q4.toInt32) (((q3.toUInt64 >>> ((32 : Int32) &&& 0x3f).toInt64.toUInt64).toInt64).toInt32) (((q4.toUInt64 >>> ((32 : Int32) &&& 0x3f).toInt64.toUInt64).toInt64).toInt32) (q3.toInt32) (q4.toInt32) T554.heap n0 (Nat.le_trans Z0 K554.1) w554_0 c555 c556) hZ (hw _ (List.mem_of_getElem? (i := 35) rfl)) (hw _ (List.mem_of_getElem? (i := 34) rfl)) (by decide) (by decide)) (g := (mkF m 138 #[.val (.int p1), .val (.long q2), .second, .val (.long q3), .second, .val (.long q4), .second, .val (.int (3 : Int32)), .val (.ref b422), .val (.ref b424), .val (.ref b461), .val (.ref bx554_rb)] [(.long q2), (.int (3 : Int32)), (.int (0 : Int32)), (.ref b424), (.ref b422), (.ref bx554_rb)])) rfl (by rw [hml]; rfl) (argsL := [(.ref bx554_rb), (.ref b422), (.ref b424), (.int (0 : Int32)), (.int (3 : Int32)), (.long q2)]) (rest := []) (lenOf pd_0_2 rfl) rfl (by show 2 * 0 + _ ≤ _; exact Nat.le_of_eq rfl) (hb hby at_138) (fun _ _ => ⟨rfl, rfl, (by decide : 8 + 0 ≤ _), (by decide : 18 + 0 ≤ _)⟩)
    dsimp only [Pt.U, Pt.locs, Pt.cells, Pt.slots] at X576 l576 y576 z576 st576 hQ576
    subst l576 y576 z576
    obtain ⟨rfl, N576q, e576⟩ := hQ576
    have N576 := Fr.app N554 N576q
    refine own_step st576 ?_
    show own_G p.tables e below _ (T576.setTop (mkF m 141 #[.val (.int p1), .val (.long q2), .second, .val (.long q3), .second, .val (.long q4), .second, .val (.int (3 : Int32)), .val (.ref b422), .val (.ref b424), .val (.ref b461), .val (.ref bx554_rb)] [(.int (1 : Int32))]))
    have hk577 : ¬ ((1 : Int32) = (0 : Int32)) := (by decide)
    refine own_step (fun t k => XS.ifNo X576.here hx rfl (hb hby at_141) rfl ((if0 _ _).trans (feq hk577).1) k) ?_
    show own_G p.tables e below _ (T576.setTop (mkF m 144 #[.val (.int p1), .val (.long q2), .second, .val (.long q3), .second, .val (.long q4), .second, .val (.int (3 : Int32)), .val (.ref b422), .val (.ref b424), .val (.ref b461), .val (.ref bx554_rb)] []))
    refine own_step (fun t k => XS.aload X576.here hx rfl (hb hby at_144) rfl rfl k) ?_
    show own_G p.tables e below _ (T576.setTop (mkF m 146 #[.val (.int p1), .val (.long q2), .second, .val (.long q3), .second, .val (.long q4), .second, .val (.int (3 : Int32)), .val (.ref b422), .val (.ref b424), .val (.ref b461), .val (.ref bx554_rb)] [(.ref bx554_rb)]))
    refine own_step (fun t k => XS.aload X576.here hx rfl (hb hby at_146) rfl rfl k) ?_
    show own_G p.tables e below _ (T576.setTop (mkF m 148 #[.val (.int p1), .val (.long q2), .second, .val (.long q3), .second, .val (.long q4), .second, .val (.int (3 : Int32)), .val (.ref b422), .val (.ref b424), .val (.ref b461), .val (.ref bx554_rb)] [(.ref b422), (.ref bx554_rb)]))
    refine own_step (fun t k => XS.aload X576.here hx rfl (hb hby at_148) rfl rfl k) ?_
    show own_G p.tables e below _ (T576.setTop (mkF m 150 #[.val (.int p1), .val (.long q2), .second, .val (.long q3), .second, .val (.long q4), .second, .val (.int (3 : Int32)), .val (.ref b422), .val (.ref b424), .val (.ref b461), .val (.ref bx554_rb)] [(.ref b424), (.ref b422), (.ref bx554_rb)]))
    refine own_step (fun t k => XS.iconst X576.here hx rfl (hb hby at_150) k) ?_
    show own_G p.tables e below _ (T576.setTop (mkF m 151 #[.val (.int p1), .val (.long q2), .second, .val (.long q3), .second, .val (.long q4), .second, .val (.int (3 : Int32)), .val (.ref b422), .val (.ref b424), .val (.ref b461), .val (.ref bx554_rb)] [(.int (1 : Int32)), (.ref b424), (.ref b422), (.ref bx554_rb)]))
    refine own_step (fun t k => XS.iload X576.here hx rfl (hb hby at_151) rfl k) ?_
    show own_G p.tables e below _ (T576.setTop (mkF m 153 #[.val (.int p1), .val (.long q2), .second, .val (.long q3), .second, .val (.long q4), .second, .val (.int (3 : Int32)), .val (.ref b422), .val (.ref b424), .val (.ref b461), .val (.ref bx554_rb)] [(.int (3 : Int32)), (.int (1 : Int32)), (.ref b424), (.ref b422), (.ref bx554_rb)]))
    refine own_step (fun t k => XS.lloadN X576.here hx rfl (hb hby at_153) rfl k) ?_
    show own_G p.tables e below _ (T576.setTop (mkF m 154 #[.val (.int p1), .val (.long q2), .second, .val (.long q3), .second, .val (.long q4), .second, .val (.int (3 : Int32)), .val (.ref b422), .val (.ref b424), .val (.ref b461), .val (.ref bx554_rb)] [(.long q3), (.int (3 : Int32)), (.int (1 : Int32)), (.ref b424), (.ref b422), (.ref bx554_rb)]))
    obtain ⟨_, _, ⟨T578, L578, k578, n578⟩, -, X578, ⟨Lc578, hQ578, l578, y578, z578⟩, st578⟩ := Jvm.LawKit.callS X576 hx (y := (⟨"com/example/stevedore/stevedore/MoveGraphEndsPinLaw", "pair", "([I[I[IIIJ)Z"⟩ : MethodName)) hown (mvT hZ (hw _ (List.mem_of_getElem? (i := 32) rfl))) (mvT hZ (hw _ (List.mem_of_getElem? (i := 33) rfl))) (mvT hZ (hw _ (List.mem_of_getElem? (i := 34) rfl))) (mvT hZ (hw _ (List.mem_of_getElem? (i := 35) rfl))) (by decide) (backOf (W := 0) (rm5_e1_3 l Z a0 hw [] bx554_rb b422 b424 q3 (((q2.toUInt64 >>> ((32 : Int32) &&& 0x3f).toInt64.toUInt64).toInt64).toInt32) (q2.toInt32) (((q4.toUInt64 >>> ((32 : Int32) &&& 0x3f).toInt64.toUInt64).toInt64).toInt32) (q4.toInt32) (((q2.toUInt64 >>> ((32 : Int32) &&& 0x3f).toInt64.toUInt64).toInt64).toInt32) (((q4.toUInt64 >>> ((32 : Int32) &&& 0x3f).toInt64.toUInt64).toInt64).toInt32) (q2.toInt32) (q4.toInt32) T554.heap n0 (Nat.le_trans Z0 K554.1) w554_0 c555 c556) hZ (hw _ (List.mem_of_getElem? (i := 35) rfl)) (hw _ (List.mem_of_getElem? (i := 34) rfl)) (by decide) (by decide)) (g := (mkF m 154 #[.val (.int p1), .val (.long q2), .second, .val (.long q3), .second, .val (.long q4), .second, .val (.int (3 : Int32)), .val (.ref b422), .val (.ref b424), .val (.ref b461), .val (.ref bx554_rb)] [(.long q3), (.int (3 : Int32)), (.int (1 : Int32)), (.ref b424), (.ref b422), (.ref bx554_rb)])) rfl (by rw [hml]; rfl) (argsL := [(.ref bx554_rb), (.ref b422), (.ref b424), (.int (1 : Int32)), (.int (3 : Int32)), (.long q3)]) (rest := []) (lenOf pd_0_2 rfl) rfl (by show 2 * 0 + _ ≤ _; exact Nat.le_of_eq rfl) (hb hby at_154) (fun _ _ => ⟨rfl, e576, (by decide : 8 + 0 ≤ _), (by decide : 18 + 0 ≤ _)⟩)
    dsimp only [Pt.U, Pt.locs, Pt.cells, Pt.slots] at X578 l578 y578 z578 st578 hQ578
    subst l578 y578 z578
    obtain ⟨rfl, N578q, e578⟩ := hQ578
    have N578 := Fr.app N576 N578q
    refine own_step st578 ?_
    show own_G p.tables e below _ (T578.setTop (mkF m 157 #[.val (.int p1), .val (.long q2), .second, .val (.long q3), .second, .val (.long q4), .second, .val (.int (3 : Int32)), .val (.ref b422), .val (.ref b424), .val (.ref b461), .val (.ref bx554_rb)] [(.int (1 : Int32))]))
    have hk579 : ¬ ((1 : Int32) = (0 : Int32)) := (by decide)
    refine own_step (fun t k => XS.ifNo X578.here hx rfl (hb hby at_157) rfl ((if0 _ _).trans (feq hk579).1) k) ?_
    show own_G p.tables e below _ (T578.setTop (mkF m 160 #[.val (.int p1), .val (.long q2), .second, .val (.long q3), .second, .val (.long q4), .second, .val (.int (3 : Int32)), .val (.ref b422), .val (.ref b424), .val (.ref b461), .val (.ref bx554_rb)] []))
    refine own_step (fun t k => XS.aload X578.here hx rfl (hb hby at_160) rfl rfl k) ?_
    show own_G p.tables e below _ (T578.setTop (mkF m 162 #[.val (.int p1), .val (.long q2), .second, .val (.long q3), .second, .val (.long q4), .second, .val (.int (3 : Int32)), .val (.ref b422), .val (.ref b424), .val (.ref b461), .val (.ref bx554_rb)] [(.ref bx554_rb)]))
    refine own_step (fun t k => XS.aload X578.here hx rfl (hb hby at_162) rfl rfl k) ?_
    show own_G p.tables e below _ (T578.setTop (mkF m 164 #[.val (.int p1), .val (.long q2), .second, .val (.long q3), .second, .val (.long q4), .second, .val (.int (3 : Int32)), .val (.ref b422), .val (.ref b424), .val (.ref b461), .val (.ref bx554_rb)] [(.ref b422), (.ref bx554_rb)]))
    refine own_step (fun t k => XS.aload X578.here hx rfl (hb hby at_164) rfl rfl k) ?_
    show own_G p.tables e below _ (T578.setTop (mkF m 166 #[.val (.int p1), .val (.long q2), .second, .val (.long q3), .second, .val (.long q4), .second, .val (.int (3 : Int32)), .val (.ref b422), .val (.ref b424), .val (.ref b461), .val (.ref bx554_rb)] [(.ref b424), (.ref b422), (.ref bx554_rb)]))
    refine own_step (fun t k => XS.iconst X578.here hx rfl (hb hby at_166) k) ?_
    show own_G p.tables e below _ (T578.setTop (mkF m 167 #[.val (.int p1), .val (.long q2), .second, .val (.long q3), .second, .val (.long q4), .second, .val (.int (3 : Int32)), .val (.ref b422), .val (.ref b424), .val (.ref b461), .val (.ref bx554_rb)] [(.int (2 : Int32)), (.ref b424), (.ref b422), (.ref bx554_rb)]))
    refine own_step (fun t k => XS.iload X578.here hx rfl (hb hby at_167) rfl k) ?_
    show own_G p.tables e below _ (T578.setTop (mkF m 169 #[.val (.int p1), .val (.long q2), .second, .val (.long q3), .second, .val (.long q4), .second, .val (.int (3 : Int32)), .val (.ref b422), .val (.ref b424), .val (.ref b461), .val (.ref bx554_rb)] [(.int (3 : Int32)), (.int (2 : Int32)), (.ref b424), (.ref b422), (.ref bx554_rb)]))
    refine own_step (fun t k => XS.lload X578.here hx rfl (hb hby at_169) rfl k) ?_
    show own_G p.tables e below _ (T578.setTop (mkF m 171 #[.val (.int p1), .val (.long q2), .second, .val (.long q3), .second, .val (.long q4), .second, .val (.int (3 : Int32)), .val (.ref b422), .val (.ref b424), .val (.ref b461), .val (.ref bx554_rb)] [(.long q4), (.int (3 : Int32)), (.int (2 : Int32)), (.ref b424), (.ref b422), (.ref bx554_rb)]))
    obtain ⟨_, _, ⟨T580, L580, k580, n580⟩, -, X580, ⟨Lc580, hQ580, l580, y580, z580⟩, st580⟩ := Jvm.LawKit.callS X578 hx (y := (⟨"com/example/stevedore/stevedore/MoveGraphEndsPinLaw", "pair", "([I[I[IIIJ)Z"⟩ : MethodName)) hown (mvT hZ (hw _ (List.mem_of_getElem? (i := 32) rfl))) (mvT hZ (hw _ (List.mem_of_getElem? (i := 33) rfl))) (mvT hZ (hw _ (List.mem_of_getElem? (i := 34) rfl))) (mvT hZ (hw _ (List.mem_of_getElem? (i := 35) rfl))) (by decide) (backOf (W := 0) (rm5_e2_3 l Z a0 hw [] bx554_rb b422 b424 q4 (((q2.toUInt64 >>> ((32 : Int32) &&& 0x3f).toInt64.toUInt64).toInt64).toInt32) (q2.toInt32) (((q3.toUInt64 >>> ((32 : Int32) &&& 0x3f).toInt64.toUInt64).toInt64).toInt32) (q3.toInt32) (((q2.toUInt64 >>> ((32 : Int32) &&& 0x3f).toInt64.toUInt64).toInt64).toInt32) (((q3.toUInt64 >>> ((32 : Int32) &&& 0x3f).toInt64.toUInt64).toInt64).toInt32) (q2.toInt32) (q3.toInt32) T554.heap n0 (Nat.le_trans Z0 K554.1) w554_0 c555 c556) hZ (hw _ (List.mem_of_getElem? (i := 35) rfl)) (hw _ (List.mem_of_getElem? (i := 34) rfl)) (by decide) (by decide)) (g := (mkF m 171 #[.val (.int p1), .val (.long q2), .second, .val (.long q3), .second, .val (.long q4), .second, .val (.int (3 : Int32)), .val (.ref b422), .val (.ref b424), .val (.ref b461), .val (.ref bx554_rb)] [(.long q4), (.int (3 : Int32)), (.int (2 : Int32)), (.ref b424), (.ref b422), (.ref bx554_rb)])) rfl (by rw [hml]; rfl) (argsL := [(.ref bx554_rb), (.ref b422), (.ref b424), (.int (2 : Int32)), (.int (3 : Int32)), (.long q4)]) (rest := []) (lenOf pd_0_2 rfl) rfl (by show 2 * 0 + _ ≤ _; exact Nat.le_of_eq rfl) (hb hby at_171) (fun _ _ => ⟨rfl, e578, (by decide : 8 + 0 ≤ _), (by decide : 18 + 0 ≤ _)⟩)
    dsimp only [Pt.U, Pt.locs, Pt.cells, Pt.slots] at X580 l580 y580 z580 st580 hQ580
    subst l580 y580 z580
    obtain ⟨rfl, N580q, e580⟩ := hQ580
    have N580 := Fr.app N578 N580q
    refine own_step st580 ?_
    show own_G p.tables e below _ (T580.setTop (mkF m 174 #[.val (.int p1), .val (.long q2), .second, .val (.long q3), .second, .val (.long q4), .second, .val (.int (3 : Int32)), .val (.ref b422), .val (.ref b424), .val (.ref b461), .val (.ref bx554_rb)] [(.int (1 : Int32))]))
    have hk581 : ¬ ((1 : Int32) = (0 : Int32)) := (by decide)
    refine own_step (fun t k => XS.ifNo X580.here hx rfl (hb hby at_174) rfl ((if0 _ _).trans (feq hk581).1) k) ?_
    show own_G p.tables e below _ (T580.setTop (mkF m 177 #[.val (.int p1), .val (.long q2), .second, .val (.long q3), .second, .val (.long q4), .second, .val (.int (3 : Int32)), .val (.ref b422), .val (.ref b424), .val (.ref b461), .val (.ref bx554_rb)] []))
    refine own_step (fun t k => XS.iconst X580.here hx rfl (hb hby at_177) k) ?_
    show own_G p.tables e below _ (T580.setTop (mkF m 178 #[.val (.int p1), .val (.long q2), .second, .val (.long q3), .second, .val (.long q4), .second, .val (.int (3 : Int32)), .val (.ref b422), .val (.ref b424), .val (.ref b461), .val (.ref bx554_rb)] [(.int (1 : Int32))]))
    refine own_step (fun t k => XS.goto X580.here hx rfl (pc0 := 178) (pc' := 182) rfl (hb hby at_178) (by decide) (by decide) k) ?_
    show own_G p.tables e below _ (T580.setTop (mkF m 182 #[.val (.int p1), .val (.long q2), .second, .val (.long q3), .second, .val (.long q4), .second, .val (.int (3 : Int32)), .val (.ref b422), .val (.ref b424), .val (.ref b461), .val (.ref bx554_rb)] [(.int (1 : Int32))]))
    obtain ⟨fs, hr, hrun, hended, hW, hsame⟩ := X580.leave (v := some (.int (1 : Int32))) (fun h => by rw [Bd.returns] at h; cases h)
    refine own_done (retN X580 hx (t := .boolean) Bd.returns (by simp) (hb hby at_182) hr) hrun hended ⟨_, _, rfl, ?_, ⟨_, rfl⟩, hW, hsame.mono (by decide) (by decide)⟩
    show Q0 Z p1 q2 q3 q4 h0 n0 _ T580.heap _
    rw [e580]
    exact ⟨rfl, N580⟩
set_option maxRecDepth 65536 in
set_option maxHeartbeats 40000000 in
theorem comes_1 {Post : Tables → Env → Array Value → State → Outcome → State → Prop} (hpost : ∀ tb e args s v u, (limb_1_1.after args s (.returned v) u = true ∧ limb_1_2.after args s (.returned v) u = true ∧ True) → FrameEnd s (.returned v) u (Jvm.fieldLocs frame_1_writes args s ++ Jvm.arrayLocs frame_1_arrays args s ++ Jvm.staticLocs frame_1_statics s) 24 128 → Post tb e args s (.returned v) u) :
    ArmFor flags0 classFile x code maxLocals ret World_1 tables_1 room_1 Calls_1 rest_1 Pre_1 Post := by
  intro l hfl _ _ p e ha hc hk s m args below hf hA hF happ hP
  obtain ⟨hcalls, hrest, hpre⟩ := hP
  obtain ⟨-, -, -, hnamed, -, -, -, hat⟩ := (Spec.applies_iff hf).mp happ
  obtain ⟨hg, hn⟩ := and_e (Cond.before_iff.mp (show (Jvm.Cond.and given_1 narrow_1).before args s = true from hpre))
  obtain ⟨g1, g2⟩ := and_e hg
  obtain ⟨g3, g4⟩ := and_e g2
  obtain ⟨g5, g6⟩ := and_e g4
  obtain ⟨g7, g8⟩ := and_e g6
  obtain ⟨w0, w1, w2, w3, rfl⟩ : ∃ w0 w1 w2 w3 : Value, args = #[w0, w1, w2, w3] := by
    have hs : args.size = 4 := by simpa [Cond.value, given_1] using g1
    obtain ⟨L⟩ := args
    match L, hs with
    | [w0, w1, w2, w3], _ => exact ⟨w0, w1, w2, w3, rfl⟩
  have hw := fun d (hd : d ∈ tables_1) => atoms_spec (ws := Jvm.Cond.code x code maxLocals ret :: tables_1) hat d (List.mem_cons_of_mem _ hd)
  obtain ⟨i0, ei0⟩ := is_v g3
  obtain rfl : w0 = (.int i0) := Option.some.inj ei0
  obtain ⟨i1, ei1⟩ := isL_v g5
  obtain rfl : w1 = (.long i1) := Option.some.inj ei1
  obtain ⟨i2, ei2⟩ := isL_v g7
  obtain rfl : w2 = (.long i2) := Option.some.inj ei2
  obtain ⟨i3, ei3⟩ := isL_v g8
  obtain rfl : w3 = (.long i3) := Option.some.inj ei3
  obtain ⟨n, o, h1, h2, h3, _, L, rfl, ⟨rfl, N⟩, hq⟩ := rm0 l s _ hw tables_1 i0 i1 i2 i3 s.heap s.heap.size (Nat.le_refl _)  p e ha hc hk s m _ below hf ((Spec.applies_iff_loose hf).mp happ).1 ⟨rfl, State.Warmed39.refl s, rfl⟩ trivial
  refine ⟨n, _, h1, h2, h3, hpost _ _ _ _ _ _ ⟨Cond.after_iff.mpr rfl, Cond.after_iff.mpr (eq_i res_at (Term.int_eval (1)) rfl), trivial⟩ ⟨hq.1, hq.2.1, (hq.2.2.sift fun y hy => Or.inr (N y hy)).mono (by decide) (by decide)⟩⟩
theorem main_1_1 : Claimed_1_1 := comes_1 fun _ _ _ _ _ _ h hF => ⟨h.1, hF⟩
theorem main_1_2 : Claimed_1_2 := comes_1 fun _ _ _ _ _ _ h hF => ⟨h.2.1, hF⟩
end Jvm.Pilot.@@N@@
namespace Jvm.Pilot.@@N@@
open Jvm Jvm.ClassFile Sem Op Lib Jvm.Free Jvm.Stand Jvm.Pilot.@@N@@.Jvm.D
/-! MADE BY PROGRAM (witnessworld.py) out of the Statement's table words and the real class files: 10 classes; the members and pool entries that the words name. The judged class is class 1, her method 1. -/
namespace start1
open Jvm.ClassFile
def u (s : String) : CpInfo := .utf8 (stringToUtf16 s)
/-- a pool by its gaps: so many unusable entries, then the entry; so many at the end -/
def gap : Nat → List CpInfo → List CpInfo
  | 0, r => r
  | n + 1, r => .unusable :: gap n r
def poolList (es : List (Nat × CpInfo)) (last : Nat) : List CpInfo := es.foldr (fun e r => gap e.1 (e.2 :: r)) (gap last [])
def pool (es : List (Nat × CpInfo)) (last : Nat) : Array CpInfo := ⟨poolList es last⟩
def fileOf (pool : Array CpInfo) (this : Nat) (attrs : Array Attribute := #[]) (ms : Array MethodInfo := #[]) (fl : Nat := 33) (sup : Nat := 0) (ifs : Array Nat := #[]) (fds : Array FieldInfo := #[]) : ClassFile where
  minorVersion := 0
  majorVersion := 65
  constantPool := pool
  accessFlags := fl
  thisClass := this
  superClass := sup
  interfaces := ifs
  fields := fds
  methods := ms
  attributes := attrs
def plain (name : String) (sup : Option ClassId) : Class where
  name := name
  kind := .ordinary
  loader := none
  accessFlags := 33
  super := sup
  interfaces := #[]
  cf := none
  fields := #[]
  methods := #[]
  instanceTypes := #[]
  staticTypes := #[]
  resolved := #[]
  callSites := []
  init := .initialized
  statics := none
  mirror := none

def pool0 : Array CpInfo := pool [(5, u "<init>"), (0, u "()V"), (1, .class_ 10), (1, u "java/lang/Object")] 113

def k0c0 : Code := { maxStack := 0, maxLocals := 1, code := object_method_1_code, exceptionTable := #[], attributes := #[] }
def k0m0 : Method := { name := "<init>", desc := "()V", sig := { parameters := [], returnType := none }, accessFlags := 1, code := some k0c0 }
/-- java/lang/Object -/
def k0 : Class := { plain "java/lang/Object" none with
  accessFlags := 33
  interfaces := #[]
  cf := some (fileOf pool0 8 #[] #[{ accessFlags := 1, nameIndex := 5, descriptorIndex := 6, attributes := #[] }] 33 0 #[] #[])
  fields := #[]
  methods := #[k0m0]
  instanceTypes := #[]
  staticTypes := #[]
  resolved := Array.replicate 124 none
  statics := none }

def pool1 : Array CpInfo := pool [(2, .class_ 4), (1, u "java/lang/Object"), (0, u "<init>"), (0, u "()V"), (0, .methodref 8 9), (0, .class_ 10), (0, .nameAndType 11 12), (0, u "com/example/stevedore/stevedore/MoveGraphEndsPinLaw"), (0, u "hi"), (0, u "(J)I"), (0, .methodref 8 14), (0, .nameAndType 15 12), (0, u "lo"), (0, .class_ 17), (0, u "com/example/stevedore/stevedore/MoveGraph"), (0, .methodref 16 19), (0, .nameAndType 5 20), (0, u "([I[I[I[I[I[I)V"), (0, .methodref 16 22), (0, .nameAndType 23 24), (0, u "ends"), (0, u "()[I"), (0, .methodref 8 26), (0, .nameAndType 27 28), (0, u "pair"), (0, u "([I[I[IIIJ)Z"), (2, u "law"), (0, u "(IJJJ)Z")] 5

def k1m0 : Method := { name := "<init>", desc := "()V", sig := { parameters := [], returnType := none }, accessFlags := 1, code := none }
def k1c1 : Code := { maxStack := 8, maxLocals := 12, code := code, exceptionTable := #[], attributes := #[] }
def k1m1 : Method := { name := "law", desc := "(IJJJ)Z", sig := { parameters := [.int, .long, .long, .long], returnType := some .boolean }, accessFlags := 9, code := some k1c1 }
def k1c2 : Code := { maxStack := 3, maxLocals := 2, code := method_3_code, exceptionTable := #[], attributes := #[] }
def k1m2 : Method := { name := "hi", desc := "(J)I", sig := { parameters := [.long], returnType := some .int }, accessFlags := 10, code := some k1c2 }
def k1c3 : Code := { maxStack := 2, maxLocals := 2, code := method_4_code, exceptionTable := #[], attributes := #[] }
def k1m3 : Method := { name := "lo", desc := "(J)I", sig := { parameters := [.long], returnType := some .int }, accessFlags := 10, code := some k1c3 }
def k1c4 : Code := { maxStack := 3, maxLocals := 7, code := method_5_code, exceptionTable := #[], attributes := #[] }
def k1m4 : Method := { name := "pair", desc := "([I[I[IIIJ)Z", sig := { parameters := [(.array .int), (.array .int), (.array .int), .int, .int, .long], returnType := some .boolean }, accessFlags := 10, code := some k1c4 }
/-- com/example/stevedore/stevedore/MoveGraphEndsPinLaw -/
def k1 : Class := { plain "com/example/stevedore/stevedore/MoveGraphEndsPinLaw" (some 0) with
  accessFlags := 49
  interfaces := #[]
  cf := some (fileOf pool1 8 #[] #[{ accessFlags := 1, nameIndex := 5, descriptorIndex := 6, attributes := #[] }, { accessFlags := 9, nameIndex := 31, descriptorIndex := 32, attributes := #[] }, { accessFlags := 10, nameIndex := 11, descriptorIndex := 12, attributes := #[] }, { accessFlags := 10, nameIndex := 15, descriptorIndex := 12, attributes := #[] }, { accessFlags := 10, nameIndex := 27, descriptorIndex := 28, attributes := #[] }] 49 2 #[] #[])
  fields := #[]
  methods := #[k1m0, k1m1, k1m2, k1m3, k1m4]
  instanceTypes := #[]
  staticTypes := #[]
  resolved := Array.replicate 38 none
  statics := none }

def pool2 : Array CpInfo := pool [(1, .methodref 2 3), (0, .class_ 4), (0, .nameAndType 5 6), (0, u "java/lang/Object"), (0, u "<init>"), (0, u "()V"), (0, .class_ 8), (0, u "java/lang/Record")] 13

def k2c0 : Code := { maxStack := 1, maxLocals := 1, code := jdk_30_method_1_code, exceptionTable := #[], attributes := #[] }
def k2m0 : Method := { name := "<init>", desc := "()V", sig := { parameters := [], returnType := none }, accessFlags := 4, code := some k2c0 }
/-- java/lang/Record -/
def k2 : Class := { plain "java/lang/Record" (some 0) with
  accessFlags := 1057
  interfaces := #[]
  cf := some (fileOf pool2 7 #[] #[{ accessFlags := 4, nameIndex := 5, descriptorIndex := 6, attributes := #[] }] 1057 2 #[] #[])
  fields := #[]
  methods := #[k2m0]
  instanceTypes := #[]
  staticTypes := #[]
  resolved := Array.replicate 22 none
  statics := none }

def pool3 : Array CpInfo := pool [(1, .methodref 2 3), (0, .class_ 4), (0, .nameAndType 5 6), (0, u "java/lang/Record"), (0, u "<init>"), (0, u "()V"), (0, .fieldref 8 9), (0, .class_ 10), (0, .nameAndType 11 12), (0, u "com/example/stevedore/stevedore/MoveGraph"), (0, u "from"), (0, u "[I"), (0, .fieldref 8 14), (0, .nameAndType 15 12), (0, u "to"), (0, .fieldref 8 17), (0, .nameAndType 18 12), (0, u "limit"), (0, .fieldref 8 20), (0, .nameAndType 21 12), (0, u "send"), (0, .fieldref 8 23), (0, .nameAndType 24 12), (0, u "receive"), (0, .fieldref 8 26), (0, .nameAndType 27 12), (0, u "free"), (62, u "([I[I[I[I[I[I)V"), (7, u "()[I"), (36, u "ends"), (30, u "PARTS"), (0, u "I"), (2, u "SENDING"), (1, u "RECEIVING"), (1, u "BOTH")] 40

def k3c0 : Code := { maxStack := 2, maxLocals := 7, code := prog_15_method_1_code, exceptionTable := #[], attributes := #[] }
def k3m0 : Method := { name := "<init>", desc := "([I[I[I[I[I[I)V", sig := { parameters := [(.array .int), (.array .int), (.array .int), (.array .int), (.array .int), (.array .int)], returnType := none }, accessFlags := 0, code := some k3c0 }
def k3c1 : Code := { maxStack := 4, maxLocals := 3, code := prog_15_method_5_code, exceptionTable := #[], attributes := #[] }
def k3m1 : Method := { name := "ends", desc := "()[I", sig := { parameters := [], returnType := some (.array .int) }, accessFlags := 0, code := some k3c1 }
/-- com/example/stevedore/stevedore/MoveGraph -/
def k3 : Class := { plain "com/example/stevedore/stevedore/MoveGraph" (some 2) with
  accessFlags := 48
  interfaces := #[]
  cf := some (fileOf pool3 8 #[] #[{ accessFlags := 0, nameIndex := 5, descriptorIndex := 90, attributes := #[] }, { accessFlags := 0, nameIndex := 135, descriptorIndex := 98, attributes := #[] }] 48 2 #[] #[{ accessFlags := 18, nameIndex := 11, descriptorIndex := 12, attributes := #[] }, { accessFlags := 18, nameIndex := 15, descriptorIndex := 12, attributes := #[] }, { accessFlags := 18, nameIndex := 18, descriptorIndex := 12, attributes := #[] }, { accessFlags := 18, nameIndex := 21, descriptorIndex := 12, attributes := #[] }, { accessFlags := 18, nameIndex := 24, descriptorIndex := 12, attributes := #[] }, { accessFlags := 18, nameIndex := 27, descriptorIndex := 12, attributes := #[] }, { accessFlags := 26, nameIndex := 166, descriptorIndex := 167, attributes := #[] }, { accessFlags := 26, nameIndex := 170, descriptorIndex := 167, attributes := #[] }, { accessFlags := 26, nameIndex := 172, descriptorIndex := 167, attributes := #[] }, { accessFlags := 26, nameIndex := 174, descriptorIndex := 167, attributes := #[] }])
  fields := #[{ name := "from", type := (.array .int), accessFlags := 18, slot := 0, constantValue := 0 }, { name := "to", type := (.array .int), accessFlags := 18, slot := 1, constantValue := 0 }, { name := "limit", type := (.array .int), accessFlags := 18, slot := 2, constantValue := 0 }, { name := "send", type := (.array .int), accessFlags := 18, slot := 3, constantValue := 0 }, { name := "receive", type := (.array .int), accessFlags := 18, slot := 4, constantValue := 0 }, { name := "free", type := (.array .int), accessFlags := 18, slot := 5, constantValue := 0 }, { name := "PARTS", type := .int, accessFlags := 26, slot := 0, constantValue := 0 }, { name := "SENDING", type := .int, accessFlags := 26, slot := 1, constantValue := 0 }, { name := "RECEIVING", type := .int, accessFlags := 26, slot := 2, constantValue := 0 }, { name := "BOTH", type := .int, accessFlags := 26, slot := 3, constantValue := 0 }]
  methods := #[k3m0, k3m1]
  instanceTypes := #[(.array .int), (.array .int), (.array .int), (.array .int), (.array .int), (.array .int)]
  staticTypes := #[.int, .int, .int, .int]
  resolved := Array.replicate 215 none
  statics := none }

def pool4 : Array CpInfo := pool [(1, u "java/lang/Cloneable"), (0, .class_ 1), (0, u "java/lang/Object"), (0, .class_ 3)] 3

/-- java/lang/Cloneable -/
def k4 : Class := { plain "java/lang/Cloneable" (some 0) with
  accessFlags := 1537
  interfaces := #[]
  cf := some (fileOf pool4 2 #[] #[] 1537 4 #[] #[])
  fields := #[]
  methods := #[]
  instanceTypes := #[]
  staticTypes := #[]
  resolved := Array.replicate 8 none
  statics := none }

def pool5 : Array CpInfo := pool [(1, u "java/io/Serializable"), (0, .class_ 1), (0, u "java/lang/Object"), (0, .class_ 3)] 3

/-- java/io/Serializable -/
def k5 : Class := { plain "java/io/Serializable" (some 0) with
  accessFlags := 1537
  interfaces := #[]
  cf := some (fileOf pool5 2 #[] #[] 1537 4 #[] #[])
  fields := #[]
  methods := #[]
  instanceTypes := #[]
  staticTypes := #[]
  resolved := Array.replicate 8 none
  statics := none }

/-- the primitive byte -/
def k6 : Class := { plain "byte" none with kind := .primitive 'B', accessFlags := 0x411 }
/-- [B -/
def k7 : Class := { plain "[B" (some 0) with kind := .array 6 .byte, interfaces := #[4, 5], accessFlags := 1041 }

/-- the primitive int -/
def k8 : Class := { plain "int" none with kind := .primitive 'I', accessFlags := 0x411 }
/-- [I -/
def k9 : Class := { plain "[I" (some 0) with kind := .array 8 .int, interfaces := #[4, 5], accessFlags := 1041 }

def heap : Heap := #[]
def classes : Array Class := #[k0, k1, k2, k3, k4, k5, k6, k7, k8, k9]
def interned : List (Array UInt16 × Addr) := []
def slotsUsed : Nat := 0
def theMethod : MethodId := ⟨1, 1⟩
def args0 : Array Value := #[.int 5, .long 7, .long 1, .long 2]
def aboutOver (below : List Frame) : State where
  vm := { classes := classes, interned := interned.toArray }
  heap := heap
  slotsUsed := slotsUsed
  threads := #[{ frames := .invoking theMethod args0 :: below }]
def below0 : List Frame := [.native { method := ⟨0, 0⟩, args := #[] }]
def about1 : State := aboutOver below0
def p0 : Program := .bare "" "" ""
def e0 : Env := launch0.env 0 0 0
theorem w_frames : about1.frames = Frame.invoking theMethod args0 :: below0 := rfl
set_option maxRecDepth 65536 in
theorem w_args : argsFit about1.vm theMethod args0 = true := by decide +kernel
set_option maxRecDepth 65536 in
theorem w_heap : heapFits about1 = true := by decide +kernel
set_option maxRecDepth 65536 in
theorem w_runnable : about1.curStatus? = some .runnable := by decide +kernel
set_option maxRecDepth 65536 in
theorem w_alone : about1.alone = true := by decide +kernel
set_option maxRecDepth 65536 in
theorem w_named : about1.methodNamed? x = some theMethod := by decide +kernel
set_option maxRecDepth 65536 in
theorem w_hears : about1.hears theMethod below0 = true := by decide +kernel
set_option maxRecDepth 65536 in
theorem w_ripe : about1.ripe theMethod args0 below0 = true := by decide +kernel
theorem w_running : about1.status = .running := rfl
set_option maxRecDepth 65536 in
theorem w_room : about1.hasRoom e0.platform room_1 = true :=
  launch0.hasRoom_least _ room_1 (by decide +kernel) (by decide +kernel) (by decide +kernel) (by decide +kernel) (by decide +kernel) (by decide +kernel)
theorem allAtoms_all (ts : List Jvm.Cond) (a : Array Jvm.Value) (st : Jvm.State) : (allAtoms ts).before a st = ts.all (fun c => c.before a st) := by
  induction ts with
  | nil => rfl
  | cons c t ih =>
    show (Jvm.Cond.and c (allAtoms t)).before a st = _
    rw [Jvm.Cond.before_and, ih, List.all_cons]
def words1 : List Jvm.Cond := Jvm.Cond.code x code maxLocals ret :: tables_1
/-- a 'code' word, met by the world's own term for the bytes: nothing is compared byte by byte -/
theorem code_word {y : MethodName} {bytes : ByteArray} {mx : Nat} {rt : Option FieldType} {a : Array Value} {s : State} {m : MethodId} {meth : Method} {c : Code} (h1 : s.methodNamed? y = some m) (h2 : s.vm.method? m = some meth) (h3 : meth.code = some c) (h4 : c.code = bytes)
    (h5 : (c.maxLocals == mx && c.exceptionTable.isEmpty && decide (c.maxStack ≤ mostOperands) && decide (meth.sig.returnType = rt) && !meth.locks && decide (parseMethodDescriptor y.desc = some meth.sig)) = true) : (Jvm.Cond.code y bytes mx rt).before a s = true := by
  simp only [Bool.and_eq_true, beq_iff_eq, Bool.not_eq_true', decide_eq_true_eq] at h5
  obtain ⟨⟨⟨⟨⟨g1, g2⟩, g3⟩, g4⟩, g5⟩, g6⟩ := h5
  simp [Cond.before, Cond.holds, Cond.value, h1, h2, h3, h4, g1, g2, g3, g4, g5, g6]
def isCode : Jvm.Cond → Bool
  | .code _ _ _ _ => true
  | _ => false
theorem all_split {L : List Jvm.Cond} {P : Jvm.Cond → Bool} (h1 : L.all (fun c => isCode c || P c) = true) (h2 : ∀ c ∈ L.filter isCode, P c = true) : L.all P = true := by
  refine List.all_eq_true.mpr fun c hc => ?_
  have h := List.all_eq_true.mp h1 c hc
  rcases Bool.eq_false_or_eq_true (isCode c) with hi | hi
  · exact h2 c (List.mem_filter.mpr ⟨hc, hi⟩)
  · simpa [hi] using h
set_option maxRecDepth 65536 in
theorem w_c0 : (Jvm.Cond.code x code maxLocals ret).before args0 about1 = true := code_word (m := ⟨1, 1⟩) (meth := k1m1) (c := k1c1) (by decide +kernel) rfl rfl rfl (by decide +kernel)
set_option maxRecDepth 65536 in
theorem w_c1 : (Jvm.Cond.code ({ cls := "com/example/stevedore/stevedore/MoveGraph", name := "<init>", desc := "([I[I[I[I[I[I)V" } : Jvm.MethodName) prog_15_method_1_code (7 : Nat) (Option.none : Option Jvm.ClassFile.FieldType)).before args0 about1 = true := code_word (m := ⟨3, 0⟩) (meth := k3m0) (c := k3c0) (by decide +kernel) rfl rfl rfl (by decide +kernel)
set_option maxRecDepth 65536 in
theorem w_c2 : (Jvm.Cond.code ({ cls := "java/lang/Record", name := "<init>", desc := "()V" } : Jvm.MethodName) jdk_30_method_1_code (1 : Nat) (Option.none : Option Jvm.ClassFile.FieldType)).before args0 about1 = true := code_word (m := ⟨2, 0⟩) (meth := k2m0) (c := k2c0) (by decide +kernel) rfl rfl rfl (by decide +kernel)
set_option maxRecDepth 65536 in
theorem w_c3 : (Jvm.Cond.code ({ cls := "java/lang/Object", name := "<init>", desc := "()V" } : Jvm.MethodName) object_method_1_code (1 : Nat) (Option.none : Option Jvm.ClassFile.FieldType)).before args0 about1 = true := code_word (m := ⟨0, 0⟩) (meth := k0m0) (c := k0c0) (by decide +kernel) rfl rfl rfl (by decide +kernel)
set_option maxRecDepth 65536 in
theorem w_c4 : (Jvm.Cond.code ({ cls := "com/example/stevedore/stevedore/MoveGraph", name := "ends", desc := "()[I" } : Jvm.MethodName) prog_15_method_5_code (3 : Nat) (Option.some (Jvm.ClassFile.FieldType.array Jvm.ClassFile.FieldType.int))).before args0 about1 = true := code_word (m := ⟨3, 1⟩) (meth := k3m1) (c := k3c1) (by decide +kernel) rfl rfl rfl (by decide +kernel)
set_option maxRecDepth 65536 in
theorem w_c5 : (Jvm.Cond.code ({ cls := "com/example/stevedore/stevedore/MoveGraphEndsPinLaw", name := "pair", desc := "([I[I[IIIJ)Z" } : Jvm.MethodName) method_5_code (7 : Nat) (Option.some Jvm.ClassFile.FieldType.boolean)).before args0 about1 = true := code_word (m := ⟨1, 4⟩) (meth := k1m4) (c := k1c4) (by decide +kernel) rfl rfl rfl (by decide +kernel)
set_option maxRecDepth 65536 in
theorem w_c6 : (Jvm.Cond.code ({ cls := "com/example/stevedore/stevedore/MoveGraphEndsPinLaw", name := "hi", desc := "(J)I" } : Jvm.MethodName) method_3_code (2 : Nat) (Option.some Jvm.ClassFile.FieldType.int)).before args0 about1 = true := code_word (m := ⟨1, 2⟩) (meth := k1m2) (c := k1c2) (by decide +kernel) rfl rfl rfl (by decide +kernel)
set_option maxRecDepth 65536 in
theorem w_c7 : (Jvm.Cond.code ({ cls := "com/example/stevedore/stevedore/MoveGraphEndsPinLaw", name := "lo", desc := "(J)I" } : Jvm.MethodName) method_4_code (2 : Nat) (Option.some Jvm.ClassFile.FieldType.int)).before args0 about1 = true := code_word (m := ⟨1, 3⟩) (meth := k1m3) (c := k1c3) (by decide +kernel) rfl rfl rfl (by decide +kernel)
def codes1 : List Jvm.Cond := [Jvm.Cond.code x code maxLocals ret, Jvm.Cond.code ({ cls := "com/example/stevedore/stevedore/MoveGraph", name := "<init>", desc := "([I[I[I[I[I[I)V" } : Jvm.MethodName) prog_15_method_1_code (7 : Nat) (Option.none : Option Jvm.ClassFile.FieldType), Jvm.Cond.code ({ cls := "java/lang/Record", name := "<init>", desc := "()V" } : Jvm.MethodName) jdk_30_method_1_code (1 : Nat) (Option.none : Option Jvm.ClassFile.FieldType), Jvm.Cond.code ({ cls := "java/lang/Object", name := "<init>", desc := "()V" } : Jvm.MethodName) object_method_1_code (1 : Nat) (Option.none : Option Jvm.ClassFile.FieldType), Jvm.Cond.code ({ cls := "com/example/stevedore/stevedore/MoveGraph", name := "ends", desc := "()[I" } : Jvm.MethodName) prog_15_method_5_code (3 : Nat) (Option.some (Jvm.ClassFile.FieldType.array Jvm.ClassFile.FieldType.int)), Jvm.Cond.code ({ cls := "com/example/stevedore/stevedore/MoveGraphEndsPinLaw", name := "pair", desc := "([I[I[IIIJ)Z" } : Jvm.MethodName) method_5_code (7 : Nat) (Option.some Jvm.ClassFile.FieldType.boolean), Jvm.Cond.code ({ cls := "com/example/stevedore/stevedore/MoveGraphEndsPinLaw", name := "hi", desc := "(J)I" } : Jvm.MethodName) method_3_code (2 : Nat) (Option.some Jvm.ClassFile.FieldType.int), Jvm.Cond.code ({ cls := "com/example/stevedore/stevedore/MoveGraphEndsPinLaw", name := "lo", desc := "(J)I" } : Jvm.MethodName) method_4_code (2 : Nat) (Option.some Jvm.ClassFile.FieldType.int)]
set_option maxRecDepth 65536 in
theorem codes_eq : words1.filter isCode = codes1 := rfl
theorem w_codes : ∀ c ∈ words1.filter isCode, c.before args0 about1 = true := by
  rw [codes_eq]
  intro c hc
  simp only [codes1, List.mem_cons, List.not_mem_nil, or_false] at hc
  rcases hc with rfl | rfl | rfl | rfl | rfl | rfl | rfl | rfl
  · exact w_c0
  · exact w_c1
  · exact w_c2
  · exact w_c3
  · exact w_c4
  · exact w_c5
  · exact w_c6
  · exact w_c7
set_option maxRecDepth 65536 in
theorem w_t1 : (words1.take 24).all (fun c => isCode c || c.before args0 about1) = true := by decide +kernel
set_option maxRecDepth 65536 in
theorem w_t2 : (words1.drop 24).all (fun c => isCode c || c.before args0 about1) = true := by decide +kernel
theorem w_tables : (allAtoms (Jvm.Cond.code x code maxLocals ret :: tables_1)).before args0 about1 = true := by
  rw [allAtoms_all]
  show words1.all (fun c => c.before args0 about1) = true
  refine all_split ?_ w_codes
  rw [← List.take_append_drop 24 words1, List.all_append, w_t1, w_t2]
  rfl
set_option maxRecDepth 65536 in
theorem w_case : (Jvm.Cond.and given_1 narrow_1).before args0 about1 = true := by decide +kernel
theorem w_applies : (headSpec (Jvm.Cond.code x code maxLocals ret :: tables_1) room_1).applies x e0.platform about1 = true :=
  (Spec.applies_iff w_frames).mpr ⟨w_running, w_runnable, w_alone, w_named, w_hears, w_ripe, w_room, w_tables⟩
theorem atStart : AtStart classFile x code maxLocals ret World_1 tables_1 room_1 Calls_1 rest_1 Pre_1 launch0 p0 e0 about1 theMethod args0 below0 :=
  ⟨lists_1, trivial, launch0.admits_env _ _ _, launch0.least_env, fairChoices_fair.cas, fairChoices_fair.clock, w_frames, w_args, w_heap, w_applies, trivial, trivial, w_case⟩
end start1
theorem witness_1 : WitnessClaimed_1 := ⟨start1.p0, start1.e0, start1.about1, start1.theMethod, start1.args0, start1.below0, start1.atStart⟩
end Jvm.Pilot.@@N@@
