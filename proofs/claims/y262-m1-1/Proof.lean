import JvmDerived
import JvmDerived.Pilot.@@N@@Statement
import JvmDerived.Pilot.@@N@@Code
set_option linter.unusedVariables false
set_option linter.unusedSimpArgs false
@@BLOCK:NumsL.lean.txt@@
namespace Jvm.RoadKit
open Sem ClassFile Op Lib Jvm.Stand Jvm.Free Jvm.LawKit
section New
variable {p : Program} {l : Launch} {e : Env} {R : Room} {s : State} {m : MethodId} {args : Array Value} {below : List Frame} {meth : Method} {c : Code} {T : State} {locs : List Loc} {cells slots : Nat}
theorem retI (X : Stand p l e R s m args below meth c T locs cells slots) (hx : p.tables.exec = Jvm.exec) {pc : Nat} {Ls : Array Slot} {z : Int32} {rest : List Value} (hret : meth.sig.returnType = some .int) (hd : decode c.code pc = .ok (.ireturn, 1)) {fs : List Frame}
    (hl : ∀ (f : JFrame) (acts : List Action), f.method = m → f.locked = none → f.entered = [] → (doReturn e (T.setTop f) acts (some (.int z))).1 = T.setFrames fs) : Steps p.tables e below (T.setTop (mkF m pc Ls (.int z :: rest))) (T.setFrames fs) := by
  have hm' : T.vm.method? m = some meth := X.method'
  have hn : narrow .int (.int z) = .int z := rfl
  show Steps p.tables e below (T.setTop { method := m, pc := pc, locals := Ls, stack := _ :: rest, locked := none }) _
  jvm_step X.here [X.here.top, hx, hd, hm', hret, hn]
  first | (intro acts; rw [hl _ acts rfl rfl rfl]) | rw [hl _ _ rfl rfl rfl]
  exact Steps.refl _
theorem own_retJ (X : Stand p l e R s m args below meth c T locs cells slots) (hx : p.tables.exec = Jvm.exec) {pc : Nat} {Ls : Array Slot} {z : Int64} {rest : List Value} (hret : meth.sig.returnType = some .long) (hd : decode c.code pc = .ok (.lreturn, 1)) {fs : List Frame}
    (hl : ∀ (f : JFrame) (acts : List Action), f.method = m → f.locked = none → f.entered = [] → (doReturn e (T.setTop f) acts (some (.long z))).1 = T.setFrames fs) : Steps p.tables e below (T.setTop (mkF m pc Ls (.long z :: rest))) (T.setFrames fs) := by
  have hm' : T.vm.method? m = some meth := X.method'
  show Steps p.tables e below (T.setTop { method := m, pc := pc, locals := Ls, stack := _ :: rest, locked := none }) _
  jvm_step X.here [X.here.top, hx, hd, hm', hret, narrow]
  first | (intro acts; rw [hl _ acts rfl rfl rfl]) | rw [hl _ _ rfl rfl rfl]
  exact Steps.refl _
theorem own_retA (X : Stand p l e R s m args below meth c T locs cells slots) (hx : p.tables.exec = Jvm.exec) {pc : Nat} {Ls : Array Slot} {b : Addr} {t : FieldType} {rest : List Value} (hret : meth.sig.returnType = some t) (ht : t.isReference = true) (hb0 : b = b) (hd : decode c.code pc = .ok (.areturn, 1)) {fs : List Frame}
    (hl : ∀ (f : JFrame) (acts : List Action), f.method = m → f.locked = none → f.entered = [] → (doReturn e (T.setTop f) acts (some (.ref b))).1 = T.setFrames fs) : Steps p.tables e below (T.setTop (mkF m pc Ls (.ref b :: rest))) (T.setFrames fs) := by
  have hm' : T.vm.method? m = some meth := X.method'
  show Steps p.tables e below (T.setTop { method := m, pc := pc, locals := Ls, stack := _ :: rest, locked := none }) _
  jvm_step X.here [X.here.top, hx, hd, hm', hret, Value.isRef, ht]
  first | (intro acts; rw [hl _ acts rfl rfl rfl]) | rw [hl _ _ rfl rfl rfl]
  exact Steps.refl _
end New
/-- a walk's goal at the state A -/
def own_G (tb : Tables) (e : Env) (below : List Frame) (P : Outcome → State → Prop) (A : State) : Prop := ∃ s₂ o, Steps tb e below A s₂ ∧ s₂.status = .running ∧ Ended s₂ below o ∧ P o s₂
section Go
variable {tb : Tables} {e : Env} {below : List Frame} {P : Outcome → State → Prop} {A B : State}
theorem own_step (h : ∀ t, Steps tb e below B t → Steps tb e below A t) (k : own_G tb e below P B) : own_G tb e below P A := by
  obtain ⟨s₂, o, h1, h2⟩ := k
  exact ⟨s₂, o, h _ h1, h2⟩
theorem own_start (h : ∀ t, Steps tb e below B t → Steps tb e below A t) (k : own_G tb e below P B) : ∃ s₂ o, Steps tb e below A s₂ ∧ s₂.status = .running ∧ Ended s₂ below o ∧ P o s₂ := own_step h k
theorem own_done {s₂ : State} {o : Outcome} (h1 : Steps tb e below A s₂) (h2 : s₂.status = .running) (h3 : Ended s₂ below o) (h4 : P o s₂) : own_G tb e below P A := ⟨s₂, o, h1, h2, h3, h4⟩
theorem own_nm {α : Type} (x : α) (F : α → State) (h : ∀ v, v = x → own_G tb e below P (F v)) : own_G tb e below P (F x) := h x rfl
theorem own_gen (h : ∀ P', P' = P → own_G tb e below P' A) : own_G tb e below P A := h P rfl
theorem own_imp (h : own_G tb e below P B → own_G tb e below P A) (k : own_G tb e below P B) : own_G tb e below P A := h k
end Go
/-- an array of ints (bytes, chars, shorts) by its members; a long[] by its members -/
def own_Ari (Z : State) (h : Heap) (a : Addr) (ty : FieldType) (vs : List Int32) : Prop := ∃ c : Cell, Arr Z h a c ty ∧ c.slots.toList = vs.map Value.int ∧ vs.length < 2 ^ 31
def own_Arj (Z : State) (h : Heap) (a : Addr) (vs : List Int64) : Prop := ∃ c : Cell, Arr Z h a c .long ∧ c.slots.toList = vs.map Value.long ∧ vs.length < 2 ^ 31
def own_Inb (j : Int32) (n : Nat) : Prop := ¬ j < 0 ∧ j.toNatClampNeg < n
theorem own_inb {j : Int32} {n : Nat} (h1 : ¬ j < 0) (h2 : j.toNatClampNeg < n) : own_Inb j n := ⟨h1, h2⟩
section ArrFacts
variable {Z : State} {h h' : Heap} {a b : Addr} {ty : FieldType} {vs : List Int32} {us : List Int64} {sl : Nat} {v : Value} {L : List Addr}
theorem own_Ari.lt (F : own_Ari Z h a ty vs) : a < h.size := by obtain ⟨c, A, -⟩ := F; exact A.lt
theorem own_Ari.ext (F : own_Ari Z h a ty vs) (E : Ext h h') : own_Ari Z h' a ty vs := by obtain ⟨c, A, r⟩ := F; exact ⟨c, A.ext E, r⟩
theorem own_Ari.other (F : own_Ari Z h b ty vs) (W : Wr h h' a sl v) (q : b ≠ a) : own_Ari Z h' b ty vs := by obtain ⟨c, A, r⟩ := F; exact ⟨c, A.other W q, r⟩
theorem own_Ari.keep (F : own_Ari Z h a ty vs) (K : Keep h h' L) (q : a ∉ L) : own_Ari Z h' a ty vs := by obtain ⟨c, A, r⟩ := F; exact ⟨c, ⟨K.2.1 a c A.1 q, A.2⟩, r⟩
theorem own_Arj.lt (F : own_Arj Z h a us) : a < h.size := by obtain ⟨c, A, -⟩ := F; exact A.lt
theorem own_Arj.ext (F : own_Arj Z h a us) (E : Ext h h') : own_Arj Z h' a us := by obtain ⟨c, A, r⟩ := F; exact ⟨c, A.ext E, r⟩
theorem own_Arj.other (F : own_Arj Z h b us) (W : Wr h h' a sl v) (q : b ≠ a) : own_Arj Z h' b us := by obtain ⟨c, A, r⟩ := F; exact ⟨c, A.other W q, r⟩
theorem own_Arj.keep (F : own_Arj Z h a us) (K : Keep h h' L) (q : a ∉ L) : own_Arj Z h' a us := by obtain ⟨c, A, r⟩ := F; exact ⟨c, ⟨K.2.1 a c A.1 q, A.2⟩, r⟩
theorem own_Ari_new {cA : ClassId} {n : Int32} (A : Arr Z h b (newA cA ty n) ty) (hn : ¬ n < 0) (hd : defaultValue ty = .int 0) : own_Ari Z h b ty (List.replicate n.toNatClampNeg 0) :=
  ⟨_, A, by simp [newA, hd], by rw [List.length_replicate]; exact (back32 hn).2⟩
theorem own_Arj_new {cA : ClassId} {n : Int32} (A : Arr Z h b (newA cA .long n) .long) (hn : ¬ n < 0) : own_Arj Z h b (List.replicate n.toNatClampNeg 0) :=
  ⟨_, A, by simp [newA, defaultValue], by rw [List.length_replicate]; exact (back32 hn).2⟩
theorem own_szI {c : Cell} (S : c.slots.toList = vs.map Value.int) : c.slots.size = vs.length := by have := congrArg List.length S; simpa using this
theorem own_szJ {c : Cell} (S : c.slots.toList = us.map Value.long) : c.slots.size = us.length := by have := congrArg List.length S; simpa using this
theorem own_atI {c : Cell} {k : Nat} (S : c.slots.toList = vs.map Value.int) (hk : k < vs.length) : c.slots[k]? = some (.int (vs.getD k 0)) := by
  rw [← Array.getElem?_toList, S, List.getElem?_map, List.getD_eq_getElem?_getD, List.getElem?_eq_getElem hk]; rfl
theorem own_atJ {c : Cell} {k : Nat} (S : c.slots.toList = us.map Value.long) (hk : k < us.length) : c.slots[k]? = some (.long (us.getD k 0)) := by
  rw [← Array.getElem?_toList, S, List.getElem?_map, List.getD_eq_getElem?_getD, List.getElem?_eq_getElem hk]; rfl
theorem own_setI {c : Cell} {k : Nat} {x : Int32} (A : Arr Z h a c ty) (S : c.slots.toList = vs.map Value.int) (hl : vs.length < 2 ^ 31) (W : Wr h h' a k (.int x)) : own_Ari Z h' a ty (vs.set k x) :=
  ⟨_, A.same W, by simp [Cell.setSlot, S, List.map_set], by rw [List.length_set]; exact hl⟩
theorem own_setJ {c : Cell} {k : Nat} {x : Int64} (A : Arr Z h a c .long) (S : c.slots.toList = us.map Value.long) (hl : us.length < 2 ^ 31) (W : Wr h h' a k (.long x)) : own_Arj Z h' a (us.set k x) :=
  ⟨_, A.same W, by simp [Cell.setSlot, S, List.map_set], by rw [List.length_set]; exact hl⟩
end ArrFacts
section ArrSteps
variable {p : Program} {l : Launch} {e : Env} {R : Room} {s : State} {m : MethodId} {args : Array Value} {below : List Frame} {meth : Method} {c : Code} {T : State} {locs : List Loc} {cells slots : Nat} {Z : State} {h : Heap} {a : Addr} {vs : List Int32} {us : List Int64} {j : Int32} {g : JFrame} {rest : List Value}
theorem own_iaload (X : Stand p l e R s m args below meth c T locs cells slots) (hx : p.tables.exec = Jvm.exec) (hZ : Z.Warmed39 s.vm) (eT : T.heap = h) (F : own_Ari Z h a .int vs) (q : own_Inb j vs.length) (hg : g.method = m) (hs : g.stack = .int j :: .ref a :: rest) (hd : decode c.code g.pc = .ok (.iaload, 1)) :
    ∀ target, Steps p.tables e below (T.setTop { g with pc := g.pc + 1, stack := .int (vs.getD j.toNatClampNeg 0) :: rest }) target → Steps p.tables e below (T.setTop g) target := by
  obtain ⟨cl, A, S, hl⟩ := F
  have z := own_szI S
  exact X.iaload hx (by rw [eT]; exact A.1) (State.isArrayOf_alike hZ.alike A.2.1) A.2.2 (fun y => y.elim q.1 fun w => by have := q.2; omega) (own_atI S q.2) hg hs hd
theorem own_baload (X : Stand p l e R s m args below meth c T locs cells slots) (hx : p.tables.exec = Jvm.exec) (hZ : Z.Warmed39 s.vm) (eT : T.heap = h) (F : own_Ari Z h a .byte vs) (q : own_Inb j vs.length) (hg : g.method = m) (hs : g.stack = .int j :: .ref a :: rest) (hd : decode c.code g.pc = .ok (.baload, 1)) :
    ∀ target, Steps p.tables e below (T.setTop { g with pc := g.pc + 1, stack := .int (vs.getD j.toNatClampNeg 0) :: rest }) target → Steps p.tables e below (T.setTop g) target := by
  obtain ⟨cl, A, S, hl⟩ := F
  have z := own_szI S
  exact X.baloadBytes hx (by rw [eT]; exact A.1) (State.isArrayOf_alike hZ.alike A.2.1) A.2.2 (fun y => y.elim q.1 fun w => by have := q.2; omega) (own_atI S q.2) hg hs hd
theorem own_laload (X : Stand p l e R s m args below meth c T locs cells slots) (hx : p.tables.exec = Jvm.exec) (hZ : Z.Warmed39 s.vm) (eT : T.heap = h) (F : own_Arj Z h a us) (q : own_Inb j us.length) (hg : g.method = m) (hs : g.stack = .int j :: .ref a :: rest) (hd : decode c.code g.pc = .ok (.laload, 1)) :
    ∀ target, Steps p.tables e below (T.setTop { g with pc := g.pc + 1, stack := .long (us.getD j.toNatClampNeg 0) :: rest }) target → Steps p.tables e below (T.setTop g) target := by
  obtain ⟨cl, A, S, hl⟩ := F
  have z := own_szJ S
  exact X.laload hx (by rw [eT]; exact A.1) (State.isArrayOf_alike hZ.alike A.2.1) A.2.2 (fun y => y.elim q.1 fun w => by have := q.2; omega) (own_atJ S q.2) hg hs hd
theorem own_lenI {ty : FieldType} (X : Stand p l e R s m args below meth c T locs cells slots) (hx : p.tables.exec = Jvm.exec) (hZ : Z.Warmed39 s.vm) (eT : T.heap = h) (F : own_Ari Z h a ty vs) (hg : g.method = m) (hs : g.stack = .ref a :: rest) (hd : decode c.code g.pc = .ok (.arraylength, 1)) :
    ∀ target, Steps p.tables e below (T.setTop { g with pc := g.pc + 1, stack := .int vs.length.toInt32 :: rest }) target → Steps p.tables e below (T.setTop g) target := by
  obtain ⟨cl, A, S, hl⟩ := F
  have z := own_szI S
  have k := X.arraylength hx (by rw [eT]; exact A.1) (State.isArrayOf_alike hZ.alike A.2.1) hg hs hd
  rw [z] at k
  exact k
theorem own_lenJ (X : Stand p l e R s m args below meth c T locs cells slots) (hx : p.tables.exec = Jvm.exec) (hZ : Z.Warmed39 s.vm) (eT : T.heap = h) (F : own_Arj Z h a us) (hg : g.method = m) (hs : g.stack = .ref a :: rest) (hd : decode c.code g.pc = .ok (.arraylength, 1)) :
    ∀ target, Steps p.tables e below (T.setTop { g with pc := g.pc + 1, stack := .int us.length.toInt32 :: rest }) target → Steps p.tables e below (T.setTop g) target := by
  obtain ⟨cl, A, S, hl⟩ := F
  have z := own_szJ S
  have k := X.arraylength hx (by rw [eT]; exact A.1) (State.isArrayOf_alike hZ.alike A.2.1) hg hs hd
  rw [z] at k
  exact k
theorem own_iastore {x : Int32} (X : Stand p l e R s m args below meth c T locs cells slots) (hx : p.tables.exec = Jvm.exec) (hZ : Z.Warmed39 s.vm) (eT : T.heap = h) (F : own_Ari Z h a .int vs) (q : own_Inb j vs.length) (hg : g.method = m) (hs : g.stack = .int x :: .int j :: .ref a :: rest) (hd : decode c.code g.pc = .ok (.iastore, 1)) :
    ∃ T' h', Stand p l e R s m args below meth c T' (locs ++ [⟨a, j.toNatClampNeg⟩]) cells slots ∧ T'.heap = h' ∧ Wr h h' a j.toNatClampNeg (.int x) ∧ own_Ari Z h' a .int (vs.set j.toNatClampNeg x) ∧
      ∀ target, Steps p.tables e below (T'.setTop { g with pc := g.pc + 1, stack := rest }) target → Steps p.tables e below (T.setTop g) target := by
  obtain ⟨cl, A, S, hl⟩ := F
  have z := own_szI S
  obtain ⟨T', h', X', e', W, st⟩ := stI X hx hZ eT A (j := j) (x := x) (fun y => y.elim q.1 fun w => by have := q.2; omega) hg hs hd
  exact ⟨T', h', X', e', W, own_setI A S hl W, st⟩
theorem own_bastore {x : Int32} (X : Stand p l e R s m args below meth c T locs cells slots) (hx : p.tables.exec = Jvm.exec) (hZ : Z.Warmed39 s.vm) (eT : T.heap = h) (F : own_Ari Z h a .byte vs) (q : own_Inb j vs.length) (hg : g.method = m) (hs : g.stack = .int x :: .int j :: .ref a :: rest) (hd : decode c.code g.pc = .ok (.bastore, 1)) :
    ∃ T' h', Stand p l e R s m args below meth c T' (locs ++ [⟨a, j.toNatClampNeg⟩]) cells slots ∧ T'.heap = h' ∧ Wr h h' a j.toNatClampNeg (.int (nar .byte x)) ∧ own_Ari Z h' a .byte (vs.set j.toNatClampNeg (nar .byte x)) ∧
      ∀ target, Steps p.tables e below (T'.setTop { g with pc := g.pc + 1, stack := rest }) target → Steps p.tables e below (T.setTop g) target := by
  obtain ⟨cl, A, S, hl⟩ := F
  have z := own_szI S
  obtain ⟨T', h', X', e', W, st⟩ := stB X hx hZ eT A (j := j) (x := x) (fun y => y.elim q.1 fun w => by have := q.2; omega) hg hs hd
  exact ⟨T', h', X', e', W, own_setI A S hl W, st⟩
theorem own_lastore {x : Int64} (X : Stand p l e R s m args below meth c T locs cells slots) (hx : p.tables.exec = Jvm.exec) (hZ : Z.Warmed39 s.vm) (eT : T.heap = h) (F : own_Arj Z h a us) (q : own_Inb j us.length) (hg : g.method = m) (hs : g.stack = .long x :: .int j :: .ref a :: rest) (hd : decode c.code g.pc = .ok (.lastore, 1)) :
    ∃ T' h', Stand p l e R s m args below meth c T' (locs ++ [⟨a, j.toNatClampNeg⟩]) cells slots ∧ T'.heap = h' ∧ Wr h h' a j.toNatClampNeg (.long x) ∧ own_Arj Z h' a (us.set j.toNatClampNeg x) ∧
      ∀ target, Steps p.tables e below (T'.setTop { g with pc := g.pc + 1, stack := rest }) target → Steps p.tables e below (T.setTop g) target := by
  obtain ⟨cl, A, S, hl⟩ := F
  have z := own_szJ S
  obtain ⟨T', h', X', e', W, st⟩ := stJ X hx hZ eT A (j := j) (x := x) (fun y => y.elim q.1 fun w => by have := q.2; omega) hg hs hd
  exact ⟨T', h', X', e', W, own_setJ A S hl W, st⟩
theorem own_cloneI {a0 : Array Value} {own : String} {index : Nat} (X : Stand p l e R s m args below meth c T locs cells slots) (hx : p.tables.exec = Jvm.exec) (hZ : Z.Warmed39 s.vm) (hown : s.vm.findClass own = some m.cls)
    (w1 : (Cond.methodLink own index ⟨"[I", "clone", "()Ljava/lang/Object;"⟩).before a0 Z = true) (w2 : (Cond.sameMethod "[I" "java/lang/Object" "clone" "()Ljava/lang/Object;").before a0 Z = true) (w3 : (Cond.native ⟨"java/lang/Object", "clone", "()Ljava/lang/Object;"⟩).before a0 Z = true)
    (w4 : (Cond.instanceMethod ⟨"java/lang/Object", "clone", "()Ljava/lang/Object;"⟩).before a0 Z = true) (w5 : (Cond.selects "[I" ⟨"[I", "clone", "()Ljava/lang/Object;"⟩ ⟨"java/lang/Object", "clone", "()Ljava/lang/Object;"⟩).before a0 Z = true) (w6 : (Cond.castable "[I" "java/lang/Cloneable").before a0 Z = true)
    (eT : T.heap = h) (F : own_Ari Z h a .int vs) (E : Exa Z h a "[I") (hg : g.method = m) (hsize : g.locals.size = c.maxLocals) (hs : g.stack = .ref a :: rest) (hd : decode c.code g.pc = .ok (.invokevirtual index, 3))
    (hf : 1 ≤ R.frames) {W cap : Nat} (hW : 2 * g.monitorRoom + (rest.map fun v => v.category).sum ≤ W) (hl : W + 14 ≤ R.locals) (hcap : vs.length ≤ cap) (hc : cells + 1 ≤ R.cells) (hsl : slots + cap ≤ R.slots) :
    ∃ T' h', Stand p l e R s m args below meth c T' locs (cells + 1) (slots + cap) ∧ T'.heap = h' ∧ Ext h h' ∧ own_Ari Z h' h.size .int vs ∧ Exa Z h' h.size "[I" ∧
      ∀ target, Steps p.tables e below (T'.setTop { g with pc := g.pc + 3, stack := .ref h.size :: rest }) target → Steps p.tables e below (T.setTop g) target := by
  obtain ⟨cl, A, S, hl'⟩ := F
  have z := own_szI S
  have FC : FitC Z cl := fitC_of A fun i hi v hv => by
    rw [own_atI S (by omega)] at hv
    cases hv; rfl
  obtain ⟨T', h', X', e', ex, A', E', st⟩ := cloneA X hx hZ hown w1 w2 w3 w4 w5 w6 eT A E FC hg hsize hs hd hf hW hl (by rw [z]; exact hcap) hc hsl
  exact ⟨T', h', X', e', ex, ⟨cloneOf cl, A', S, hl'⟩, E', st⟩
end ArrSteps

end Jvm.RoadKit
namespace Jvm.Pilot.@@N@@
open Jvm Jvm.ClassFile Sem Op Lib Jvm.Free Jvm.Stand Jvm.LawKit Jvm.RoadKit Bundle Jvm.Pilot.@@N@@.Jvm.D


theorem own_cap (x : Int32) : ((x &&& (7 : Int32)) + (1 : Int32)).toInt = x.toInt % 8 + 1 := by
  have h : (x &&& 7).toInt = x.toInt % 2 ^ 3 := Jvm.Kit.i32_mask x 7 (k := 3) (by decide) (by decide)
  have e1 : (1 : Int32).toInt = 1 := rfl
  have a := Jvm.Kit.i32_add (p := x &&& 7) (q := 1) (by rw [e1]; omega) (by rw [e1]; omega)
  rw [a, e1]; omega
theorem own_cap1 (x : Int32) : ¬ ((x &&& (7 : Int32)) + (1 : Int32)) < (0 : Int32) := by
  have e0 : (0 : Int32).toInt = 0 := rfl
  have := own_cap x
  rw [Int32.lt_iff_toInt_lt]; omega
theorem own_cap2 (x : Int32) : ((x &&& (7 : Int32)) + (1 : Int32)).toNatClampNeg ≤ 8 := by
  have := own_cap x
  show Int.toNat _ ≤ 8
  omega
theorem own_cap3 (x : Int32) : 0 < ((x &&& (7 : Int32)) + (1 : Int32)).toNatClampNeg := by
  have := own_cap x
  show 0 < Int.toNat _
  omega
theorem own_set0 (vs : List Int32) (h : 0 < vs.length) (x : Int32) : (vs.set 0 x).getD 0 0 = x := by
  cases vs with
  | nil => cases h
  | cons a t => rfl
theorem own_i8 (x : Int32) : nar .byte x.toInt8.toInt32 = x.toInt8.toInt32 := by
  show x.toInt8.toInt32.toInt8.toInt32 = x.toInt8.toInt32
  rw [Int8.toInt8_toInt32]

theorem d1_0 : decode prog_6_method_1_code 0 = .ok (.aload_n 0, 1) := by decide +kernel
theorem d1_1 : decode prog_6_method_1_code 1 = .ok (.invokespecial 3, 3) := by decide +kernel
theorem d1_4 : decode prog_6_method_1_code 4 = .ok (.aload_n 0, 1) := by decide +kernel
theorem d1_5 : decode prog_6_method_1_code 5 = .ok (.sipush 513, 3) := by decide +kernel
theorem d1_8 : decode prog_6_method_1_code 8 = .ok (.newarray .long, 2) := by decide +kernel
theorem d1_10 : decode prog_6_method_1_code 10 = .ok (.putfield 11, 3) := by decide +kernel
theorem d1_13 : decode prog_6_method_1_code 13 = .ok (.aload_n 0, 1) := by decide +kernel
theorem d1_14 : decode prog_6_method_1_code 14 = .ok (.sipush 513, 3) := by decide +kernel
theorem d1_17 : decode prog_6_method_1_code 17 = .ok (.newarray .long, 2) := by decide +kernel
theorem d1_19 : decode prog_6_method_1_code 19 = .ok (.putfield 17, 3) := by decide +kernel
theorem d1_22 : decode prog_6_method_1_code 22 = .ok (.aload_n 0, 1) := by decide +kernel
theorem d1_23 : decode prog_6_method_1_code 23 = .ok (.bipush 57, 2) := by decide +kernel
theorem d1_25 : decode prog_6_method_1_code 25 = .ok (.newarray .int, 2) := by decide +kernel
theorem d1_27 : decode prog_6_method_1_code 27 = .ok (.putfield 20, 3) := by decide +kernel
theorem d1_30 : decode prog_6_method_1_code 30 = .ok (.aload_n 0, 1) := by decide +kernel
theorem d1_31 : decode prog_6_method_1_code 31 = .ok (.iload_n 1, 1) := by decide +kernel
theorem d1_32 : decode prog_6_method_1_code 32 = .ok (.newarray .byte, 2) := by decide +kernel
theorem d1_34 : decode prog_6_method_1_code 34 = .ok (.putfield 24, 3) := by decide +kernel
theorem d1_37 : decode prog_6_method_1_code 37 = .ok (.return_, 1) := by decide +kernel
theorem pn_1 : plainName "com/example/leafcode/leafcode/ByteDecoder$Run" = true := by first | (simp [plainName, overriddenIn]; done) | decide +kernel
theorem ef_1 (m : MethodId) (a1 : Addr) (p2 : Int32) : entryFrame m #[(.ref a1), (.int p2)] 2 = mkF m 0 #[.val (.ref a1), .val (.int p2)] [] := by first | (simp [entryFrame, mkF, argsToLocals, Value.category]; done) | rfl
def Q1 (Z : State) (a1 : Addr) (p2 : Int32) (u_starts_a1 : Value) (u_passed_a1 : Value) (u_pending_a1 : Value) (u_out_a1 : Value) (u_start_a1 : Value) (u_bit_a1 : Value) (u_count_a1 : Value) (u_first_a1 : Value) (u_recorded_a1 : Value) (h0 : Heap) (n0 : Nat) (v : Option Value) (h : Heap) (L : List Loc) : Prop := ∃ (x1 : Addr) (x2 : Addr) (x3 : Addr) (x4 : Addr), v = none ∧ Fr n0 L ∧ Keep h0 h [a1] ∧ Fld Z h a1 "com/example/leafcode/leafcode/ByteDecoder$Run" "starts" "[J" (.ref x1) ∧ Fld Z h a1 "com/example/leafcode/leafcode/ByteDecoder$Run" "passed" "[J" (.ref x2) ∧ Fld Z h a1 "com/example/leafcode/leafcode/ByteDecoder$Run" "pending" "[I" (.ref x3) ∧ Fld Z h a1 "com/example/leafcode/leafcode/ByteDecoder$Run" "out" "[B" (.ref x4) ∧ Fld Z h a1 "com/example/leafcode/leafcode/ByteDecoder$Run" "start" "I" u_start_a1 ∧ Fld Z h a1 "com/example/leafcode/leafcode/ByteDecoder$Run" "bit" "I" u_bit_a1 ∧ Fld Z h a1 "com/example/leafcode/leafcode/ByteDecoder$Run" "count" "I" u_count_a1 ∧ Fld Z h a1 "com/example/leafcode/leafcode/ByteDecoder$Run" "first" "I" u_first_a1 ∧ Fld Z h a1 "com/example/leafcode/leafcode/ByteDecoder$Run" "recorded" "I" u_recorded_a1 ∧ own_Arj Z h x1 (List.replicate 513 (0 : Int64)) ∧ own_Arj Z h x2 (List.replicate 513 (0 : Int64)) ∧ own_Ari Z h x3 .int (List.replicate 57 (0 : Int32)) ∧ own_Ari Z h x4 .byte (List.replicate p2.toNatClampNeg (0 : Int32)) ∧ h0.size ≤ x1 ∧ h0.size ≤ x2 ∧ h0.size ≤ x3 ∧ h0.size ≤ x4 ∧ x1 ≠ x2 ∧ x1 ≠ x3 ∧ x1 ≠ x4 ∧ x2 ≠ x3 ∧ x2 ≠ x4 ∧ x3 ≠ x4
set_option maxRecDepth 65536 in
set_option maxHeartbeats 40000000 in
theorem rm1 (l : Launch) (Z : State) (a0 : Array Value) (hw : ∀ d ∈ tables_1, d.before a0 Z = true) (ws : List Jvm.Cond) (a1 : Addr) (p2 : Int32) (u_starts_a1 : Value) (u_passed_a1 : Value) (u_pending_a1 : Value) (u_out_a1 : Value) (u_start_a1 : Value) (u_bit_a1 : Value) (u_count_a1 : Value) (u_first_a1 : Value) (u_recorded_a1 : Value) (h0 : Heap) (n0 : Nat) (Z0 : n0 ≤ h0.size) (fp0 : Exa Z h0 a1 "com/example/leafcode/leafcode/ByteDecoder$Run") (fp1 : Fld Z h0 a1 "com/example/leafcode/leafcode/ByteDecoder$Run" "starts" "[J" u_starts_a1) (fp2 : Fld Z h0 a1 "com/example/leafcode/leafcode/ByteDecoder$Run" "passed" "[J" u_passed_a1) (fp3 : Fld Z h0 a1 "com/example/leafcode/leafcode/ByteDecoder$Run" "pending" "[I" u_pending_a1) (fp4 : Fld Z h0 a1 "com/example/leafcode/leafcode/ByteDecoder$Run" "out" "[B" u_out_a1) (fp5 : Fld Z h0 a1 "com/example/leafcode/leafcode/ByteDecoder$Run" "start" "I" u_start_a1) (fp6 : Fld Z h0 a1 "com/example/leafcode/leafcode/ByteDecoder$Run" "bit" "I" u_bit_a1) (fp7 : Fld Z h0 a1 "com/example/leafcode/leafcode/ByteDecoder$Run" "count" "I" u_count_a1) (fp8 : Fld Z h0 a1 "com/example/leafcode/leafcode/ByteDecoder$Run" "first" "I" u_first_a1) (fp9 : Fld Z h0 a1 "com/example/leafcode/leafcode/ByteDecoder$Run" "recorded" "I" u_recorded_a1) (hp1 : ¬ (p2 < (0 : Int32))) (hp2 : p2.toNatClampNeg ≤ 8) (g_a1 : n0 ≤ a1) :
    MetFree l (⟨"com/example/leafcode/leafcode/ByteDecoder$Run", "<init>", "(I)V"⟩ : MethodName) (head1 (Jvm.Cond.code (⟨"com/example/leafcode/leafcode/ByteDecoder$Run", "<init>", "(I)V"⟩ : MethodName) prog_6_method_1_code 2 none :: ws) ({ frames := 1, cells := 4, slots := 1091, locals := 12 } : Room)) (fun a U => a = #[(.ref a1), (.int p2)] ∧ Z.Warmed39 U.vm ∧ U.heap = h0) (fun _ _ _ _ _ => True) (fun _ U o U' => ∃ v L, o = .returned v ∧ Q1 Z a1 p2 u_starts_a1 u_passed_a1 u_pending_a1 u_out_a1 u_start_a1 u_bit_a1 u_count_a1 u_first_a1 u_recorded_a1 h0 n0 v U'.heap L ∧ FrameEnd U o U' L ({ frames := 1, cells := 4, slots := 1091, locals := 12 } : Room).cells ({ frames := 1, cells := 4, slots := 1091, locals := 12 } : Room).slots) := by
  refine MetFree.of_bodySF (plainFor_of_name pn_1) hisR ?_
  intro p e s m args below meth c s₁ Bd hml0 hP hK
  obtain ⟨rfl, hZ, hh⟩ := hP
  have hx := Bd.exec
  have hby := Bd.bytes
  have hml : c.maxLocals = 2 := hml0
  have hown : s.vm.findClass "com/example/leafcode/leafcode/ByteDecoder$Run" = some m.cls := findClass_of_methodNamed Bd.named
  have hnm := (name_of_methodNamed Bd.named Bd.method).1
  have X0 : Stand p l e ({ frames := 1, cells := 4, slots := 1091, locals := 12 } : Room) s m #[(.ref a1), (.int p2)] below meth c s₁ [] 0 0 := Stand.of_body Bd
  have e0 : s₁.heap = h0 := by rw [← hh, Bd.state]; rfl
  have N0 := Fr.nil n0
  refine own_start (fun t k => castTop (ef_1 m a1 p2) k) ?_
  show own_G p.tables e below _ (s₁.setTop (mkF m 0 #[.val (.ref a1), .val (.int p2)] []))
  refine own_step (fun t k => XS.aloadN X0.here hx rfl (hb hby d1_0) rfl rfl k) ?_
  show own_G p.tables e below _ (s₁.setTop (mkF m 1 #[.val (.ref a1), .val (.int p2)] [(.ref a1)]))
  obtain ⟨T1, X1, e1, st1⟩ := initO X0 hx hZ hown (hw _ (List.mem_of_getElem? (i := 6) rfl)) (hw _ (List.mem_of_getElem? (i := 7) rfl)) (hw _ (List.mem_of_getElem? (i := 8) rfl)) e0 (g := (mkF m 1 #[.val (.ref a1), .val (.int p2)] [(.ref a1)])) rfl (by rw [hml]; rfl) rfl (hb hby d1_1) (by decide) (W := 0) (by show 2 * 0 + _ ≤ _; exact Nat.le_of_eq rfl) (by decide)
  refine own_step st1 ?_
  show own_G p.tables e below _ (T1.setTop (mkF m 4 #[.val (.ref a1), .val (.int p2)] []))
  refine own_step (fun t k => XS.aloadN X1.here hx rfl (hb hby d1_4) rfl rfl k) ?_
  show own_G p.tables e below _ (T1.setTop (mkF m 5 #[.val (.ref a1), .val (.int p2)] [(.ref a1)]))
  refine own_step (fun t k => XS.sipush X1.here hx rfl (hb hby d1_5) k) ?_
  show own_G p.tables e below _ (T1.setTop (mkF m 8 #[.val (.ref a1), .val (.int p2)] [(.int (513 : Int32)), (.ref a1)]))
  obtain ⟨T2, h2, k2, X2, e2, E2, A2, st2⟩ := newP X1 hx hZ (hw _ (List.mem_of_getElem? (i := 9) rfl)) e1 (g := (mkF m 8 #[.val (.ref a1), .val (.int p2)] [(.int (513 : Int32)), (.ref a1)])) rfl (hb hby d1_8) rfl (by decide) (cap := 513) (by decide) (by decide) (by decide) (by decide)
  obtain ⟨b2, g2⟩ : ∃ z, z = h0.size := ⟨_, rfl⟩
  have ne3 : a1 ≠ b2 := Nat.ne_of_lt (Nat.lt_of_lt_of_le fp0.lt (Nat.le_of_eq g2.symm))
  have sz2 : h0.size ≤ b2 := Nat.le_trans (Keep.refl h0 [a1]).1 (Nat.le_of_eq g2.symm)
  have ge2 : n0 ≤ b2 := Nat.le_trans Z0 sz2
  have c4 : Exa Z h2 a1 "com/example/leafcode/leafcode/ByteDecoder$Run" := fp0.ext E2
  have c5 : Fld Z h2 a1 "com/example/leafcode/leafcode/ByteDecoder$Run" "starts" "[J" u_starts_a1 := fp1.ext E2
  have c6 : Fld Z h2 a1 "com/example/leafcode/leafcode/ByteDecoder$Run" "passed" "[J" u_passed_a1 := fp2.ext E2
  have c7 : Fld Z h2 a1 "com/example/leafcode/leafcode/ByteDecoder$Run" "pending" "[I" u_pending_a1 := fp3.ext E2
  have c8 : Fld Z h2 a1 "com/example/leafcode/leafcode/ByteDecoder$Run" "out" "[B" u_out_a1 := fp4.ext E2
  have c9 : Fld Z h2 a1 "com/example/leafcode/leafcode/ByteDecoder$Run" "start" "I" u_start_a1 := fp5.ext E2
  have c10 : Fld Z h2 a1 "com/example/leafcode/leafcode/ByteDecoder$Run" "bit" "I" u_bit_a1 := fp6.ext E2
  have c11 : Fld Z h2 a1 "com/example/leafcode/leafcode/ByteDecoder$Run" "count" "I" u_count_a1 := fp7.ext E2
  have c12 : Fld Z h2 a1 "com/example/leafcode/leafcode/ByteDecoder$Run" "first" "I" u_first_a1 := fp8.ext E2
  have c13 : Fld Z h2 a1 "com/example/leafcode/leafcode/ByteDecoder$Run" "recorded" "I" u_recorded_a1 := fp9.ext E2
  have K2 : Keep h0 h2 [a1] := (Keep.refl h0 [a1]).ext E2
  rw [← g2] at A2 st2
  have c14 : own_Arj Z h2 b2 (List.replicate 513 (0 : Int64)) := own_Arj_new A2 (by decide)
  refine own_step st2 ?_
  show own_G p.tables e below _ (T2.setTop (mkF m 10 #[.val (.ref a1), .val (.int p2)] [(.ref b2), (.ref a1)]))
  obtain ⟨T15, h15, X15, e15, W15, st15⟩ := putF X2 hx hZ hown (host := "") (Or.inl (hw _ (List.mem_of_getElem? (i := 10) rfl))) Via.refl e2 c5 c4 (Or.inr ⟨(hw _ (List.mem_of_getElem? (i := 11) rfl)), rfl, hnm⟩) (hw _ (List.mem_of_getElem? (i := 1) rfl)) (ty := (.array .long)) (by decide) rfl rfl (g := (mkF m 10 #[.val (.ref a1), .val (.int p2)] [(.ref b2), (.ref a1)])) rfl rfl (hb hby d1_10)
  have N15 := Fr.snoc X15 N0 g_a1
  have c16 : Fld Z h15 a1 "com/example/leafcode/leafcode/ByteDecoder$Run" "starts" "[J" (.ref b2) := c5.same W15
  have c17 : Exa Z h15 a1 "com/example/leafcode/leafcode/ByteDecoder$Run" := c4.wr W15
  have c19 : Fld Z h15 a1 "com/example/leafcode/leafcode/ByteDecoder$Run" "passed" "[J" u_passed_a1 := c6.other W15 (Or.inr (slot_ne (Or.inr (hw _ (List.mem_of_getElem? (i := 13) rfl))) (Or.inr (hw _ (List.mem_of_getElem? (i := 11) rfl))) (by decide) (t := (.array .long)) (t' := (.array .long)) (by decide) (by decide)))
  have c20 : Fld Z h15 a1 "com/example/leafcode/leafcode/ByteDecoder$Run" "pending" "[I" u_pending_a1 := c7.other W15 (Or.inr (slot_ne (Or.inr (hw _ (List.mem_of_getElem? (i := 16) rfl))) (Or.inr (hw _ (List.mem_of_getElem? (i := 11) rfl))) (by decide) (t := (.array .int)) (t' := (.array .long)) (by decide) (by decide)))
  have c21 : Fld Z h15 a1 "com/example/leafcode/leafcode/ByteDecoder$Run" "out" "[B" u_out_a1 := c8.other W15 (Or.inr (slot_ne (Or.inr (hw _ (List.mem_of_getElem? (i := 19) rfl))) (Or.inr (hw _ (List.mem_of_getElem? (i := 11) rfl))) (by decide) (t := (.array .byte)) (t' := (.array .long)) (by decide) (by decide)))
  have c22 : Fld Z h15 a1 "com/example/leafcode/leafcode/ByteDecoder$Run" "start" "I" u_start_a1 := c9.other W15 (Or.inr (slot_ne (Or.inl (hw _ (List.mem_of_getElem? (i := 21) rfl))) (Or.inr (hw _ (List.mem_of_getElem? (i := 11) rfl))) (by decide) (t := .int) (t' := (.array .long)) (by decide) (by decide)))
  have c23 : Fld Z h15 a1 "com/example/leafcode/leafcode/ByteDecoder$Run" "bit" "I" u_bit_a1 := c10.other W15 (Or.inr (slot_ne (Or.inl (hw _ (List.mem_of_getElem? (i := 23) rfl))) (Or.inr (hw _ (List.mem_of_getElem? (i := 11) rfl))) (by decide) (t := .int) (t' := (.array .long)) (by decide) (by decide)))
  have c24 : Fld Z h15 a1 "com/example/leafcode/leafcode/ByteDecoder$Run" "count" "I" u_count_a1 := c11.other W15 (Or.inr (slot_ne (Or.inl (hw _ (List.mem_of_getElem? (i := 25) rfl))) (Or.inr (hw _ (List.mem_of_getElem? (i := 11) rfl))) (by decide) (t := .int) (t' := (.array .long)) (by decide) (by decide)))
  have c25 : Fld Z h15 a1 "com/example/leafcode/leafcode/ByteDecoder$Run" "first" "I" u_first_a1 := c12.other W15 (Or.inr (slot_ne (Or.inl (hw _ (List.mem_of_getElem? (i := 27) rfl))) (Or.inr (hw _ (List.mem_of_getElem? (i := 11) rfl))) (by decide) (t := .int) (t' := (.array .long)) (by decide) (by decide)))
  have c26 : Fld Z h15 a1 "com/example/leafcode/leafcode/ByteDecoder$Run" "recorded" "I" u_recorded_a1 := c13.other W15 (Or.inr (slot_ne (Or.inl (hw _ (List.mem_of_getElem? (i := 29) rfl))) (Or.inr (hw _ (List.mem_of_getElem? (i := 11) rfl))) (by decide) (t := .int) (t' := (.array .long)) (by decide) (by decide)))
  have c27 : own_Arj Z h15 b2 (List.replicate 513 (0 : Int64)) := c14.other W15 (Ne.symm ne3)
  have K15 : Keep h0 h15 [a1] := K2.wr W15 (Or.inl (List.mem_of_getElem? (i := 0) rfl))
  refine own_step st15 ?_
  show own_G p.tables e below _ (T15.setTop (mkF m 13 #[.val (.ref a1), .val (.int p2)] []))
  refine own_step (fun t k => XS.aloadN X15.here hx rfl (hb hby d1_13) rfl rfl k) ?_
  show own_G p.tables e below _ (T15.setTop (mkF m 14 #[.val (.ref a1), .val (.int p2)] [(.ref a1)]))
  refine own_step (fun t k => XS.sipush X15.here hx rfl (hb hby d1_14) k) ?_
  show own_G p.tables e below _ (T15.setTop (mkF m 17 #[.val (.ref a1), .val (.int p2)] [(.int (513 : Int32)), (.ref a1)]))
  obtain ⟨T28, h28, k28, X28, e28, E28, A28, st28⟩ := newP X15 hx hZ (hw _ (List.mem_of_getElem? (i := 9) rfl)) e15 (g := (mkF m 17 #[.val (.ref a1), .val (.int p2)] [(.int (513 : Int32)), (.ref a1)])) rfl (hb hby d1_17) rfl (by decide) (cap := 513) (by decide) (by decide) (by decide) (by decide)
  obtain ⟨b28, g28⟩ : ∃ z, z = h15.size := ⟨_, rfl⟩
  have ne29 : a1 ≠ b28 := Nat.ne_of_lt (Nat.lt_of_lt_of_le c17.lt (Nat.le_of_eq g28.symm))
  have ne30 : b2 ≠ b28 := Nat.ne_of_lt (Nat.lt_of_lt_of_le c27.lt (Nat.le_of_eq g28.symm))
  have sz28 : h0.size ≤ b28 := Nat.le_trans K15.1 (Nat.le_of_eq g28.symm)
  have ge28 : n0 ≤ b28 := Nat.le_trans Z0 sz28
  have c31 : Exa Z h28 a1 "com/example/leafcode/leafcode/ByteDecoder$Run" := c17.ext E28
  have c32 : Fld Z h28 a1 "com/example/leafcode/leafcode/ByteDecoder$Run" "starts" "[J" (.ref b2) := c16.ext E28
  have c33 : Fld Z h28 a1 "com/example/leafcode/leafcode/ByteDecoder$Run" "passed" "[J" u_passed_a1 := c19.ext E28
  have c34 : Fld Z h28 a1 "com/example/leafcode/leafcode/ByteDecoder$Run" "pending" "[I" u_pending_a1 := c20.ext E28
  have c35 : Fld Z h28 a1 "com/example/leafcode/leafcode/ByteDecoder$Run" "out" "[B" u_out_a1 := c21.ext E28
  have c36 : Fld Z h28 a1 "com/example/leafcode/leafcode/ByteDecoder$Run" "start" "I" u_start_a1 := c22.ext E28
  have c37 : Fld Z h28 a1 "com/example/leafcode/leafcode/ByteDecoder$Run" "bit" "I" u_bit_a1 := c23.ext E28
  have c38 : Fld Z h28 a1 "com/example/leafcode/leafcode/ByteDecoder$Run" "count" "I" u_count_a1 := c24.ext E28
  have c39 : Fld Z h28 a1 "com/example/leafcode/leafcode/ByteDecoder$Run" "first" "I" u_first_a1 := c25.ext E28
  have c40 : Fld Z h28 a1 "com/example/leafcode/leafcode/ByteDecoder$Run" "recorded" "I" u_recorded_a1 := c26.ext E28
  have c41 : own_Arj Z h28 b2 (List.replicate 513 (0 : Int64)) := c27.ext E28
  have K28 : Keep h0 h28 [a1] := K15.ext E28
  rw [← g28] at A28 st28
  have c42 : own_Arj Z h28 b28 (List.replicate 513 (0 : Int64)) := own_Arj_new A28 (by decide)
  refine own_step st28 ?_
  show own_G p.tables e below _ (T28.setTop (mkF m 19 #[.val (.ref a1), .val (.int p2)] [(.ref b28), (.ref a1)]))
  obtain ⟨T43, h43, X43, e43, W43, st43⟩ := putF X28 hx hZ hown (host := "") (Or.inl (hw _ (List.mem_of_getElem? (i := 12) rfl))) Via.refl e28 c33 c31 (Or.inr ⟨(hw _ (List.mem_of_getElem? (i := 13) rfl)), rfl, hnm⟩) (hw _ (List.mem_of_getElem? (i := 1) rfl)) (ty := (.array .long)) (by decide) rfl rfl (g := (mkF m 19 #[.val (.ref a1), .val (.int p2)] [(.ref b28), (.ref a1)])) rfl rfl (hb hby d1_19)
  have N43 := Fr.snoc X43 N15 g_a1
  have c44 : Fld Z h43 a1 "com/example/leafcode/leafcode/ByteDecoder$Run" "passed" "[J" (.ref b28) := c33.same W43
  have c45 : Exa Z h43 a1 "com/example/leafcode/leafcode/ByteDecoder$Run" := c31.wr W43
  have c46 : Fld Z h43 a1 "com/example/leafcode/leafcode/ByteDecoder$Run" "starts" "[J" (.ref b2) := c32.other W43 (Or.inr (slot_ne (Or.inr (hw _ (List.mem_of_getElem? (i := 11) rfl))) (Or.inr (hw _ (List.mem_of_getElem? (i := 13) rfl))) (by decide) (t := (.array .long)) (t' := (.array .long)) (by decide) (by decide)))
  have c48 : Fld Z h43 a1 "com/example/leafcode/leafcode/ByteDecoder$Run" "pending" "[I" u_pending_a1 := c34.other W43 (Or.inr (slot_ne (Or.inr (hw _ (List.mem_of_getElem? (i := 16) rfl))) (Or.inr (hw _ (List.mem_of_getElem? (i := 13) rfl))) (by decide) (t := (.array .int)) (t' := (.array .long)) (by decide) (by decide)))
  have c49 : Fld Z h43 a1 "com/example/leafcode/leafcode/ByteDecoder$Run" "out" "[B" u_out_a1 := c35.other W43 (Or.inr (slot_ne (Or.inr (hw _ (List.mem_of_getElem? (i := 19) rfl))) (Or.inr (hw _ (List.mem_of_getElem? (i := 13) rfl))) (by decide) (t := (.array .byte)) (t' := (.array .long)) (by decide) (by decide)))
  have c50 : Fld Z h43 a1 "com/example/leafcode/leafcode/ByteDecoder$Run" "start" "I" u_start_a1 := c36.other W43 (Or.inr (slot_ne (Or.inl (hw _ (List.mem_of_getElem? (i := 21) rfl))) (Or.inr (hw _ (List.mem_of_getElem? (i := 13) rfl))) (by decide) (t := .int) (t' := (.array .long)) (by decide) (by decide)))
  have c51 : Fld Z h43 a1 "com/example/leafcode/leafcode/ByteDecoder$Run" "bit" "I" u_bit_a1 := c37.other W43 (Or.inr (slot_ne (Or.inl (hw _ (List.mem_of_getElem? (i := 23) rfl))) (Or.inr (hw _ (List.mem_of_getElem? (i := 13) rfl))) (by decide) (t := .int) (t' := (.array .long)) (by decide) (by decide)))
  have c52 : Fld Z h43 a1 "com/example/leafcode/leafcode/ByteDecoder$Run" "count" "I" u_count_a1 := c38.other W43 (Or.inr (slot_ne (Or.inl (hw _ (List.mem_of_getElem? (i := 25) rfl))) (Or.inr (hw _ (List.mem_of_getElem? (i := 13) rfl))) (by decide) (t := .int) (t' := (.array .long)) (by decide) (by decide)))
  have c53 : Fld Z h43 a1 "com/example/leafcode/leafcode/ByteDecoder$Run" "first" "I" u_first_a1 := c39.other W43 (Or.inr (slot_ne (Or.inl (hw _ (List.mem_of_getElem? (i := 27) rfl))) (Or.inr (hw _ (List.mem_of_getElem? (i := 13) rfl))) (by decide) (t := .int) (t' := (.array .long)) (by decide) (by decide)))
  have c54 : Fld Z h43 a1 "com/example/leafcode/leafcode/ByteDecoder$Run" "recorded" "I" u_recorded_a1 := c40.other W43 (Or.inr (slot_ne (Or.inl (hw _ (List.mem_of_getElem? (i := 29) rfl))) (Or.inr (hw _ (List.mem_of_getElem? (i := 13) rfl))) (by decide) (t := .int) (t' := (.array .long)) (by decide) (by decide)))
  have c55 : own_Arj Z h43 b2 (List.replicate 513 (0 : Int64)) := c41.other W43 (Ne.symm ne3)
  have c56 : own_Arj Z h43 b28 (List.replicate 513 (0 : Int64)) := c42.other W43 (Ne.symm ne29)
  have K43 : Keep h0 h43 [a1] := K28.wr W43 (Or.inl (List.mem_of_getElem? (i := 0) rfl))
  refine own_step st43 ?_
  show own_G p.tables e below _ (T43.setTop (mkF m 22 #[.val (.ref a1), .val (.int p2)] []))
  refine own_step (fun t k => XS.aloadN X43.here hx rfl (hb hby d1_22) rfl rfl k) ?_
  show own_G p.tables e below _ (T43.setTop (mkF m 23 #[.val (.ref a1), .val (.int p2)] [(.ref a1)]))
  refine own_step (fun t k => XS.bipush X43.here hx rfl (hb hby d1_23) k) ?_
  show own_G p.tables e below _ (T43.setTop (mkF m 25 #[.val (.ref a1), .val (.int p2)] [(.int (57 : Int32)), (.ref a1)]))
  obtain ⟨T57, h57, k57, X57, e57, E57, A57, st57⟩ := newP X43 hx hZ (hw _ (List.mem_of_getElem? (i := 14) rfl)) e43 (g := (mkF m 25 #[.val (.ref a1), .val (.int p2)] [(.int (57 : Int32)), (.ref a1)])) rfl (hb hby d1_25) rfl (by decide) (cap := 57) (by decide) (by decide) (by decide) (by decide)
  obtain ⟨b57, g57⟩ : ∃ z, z = h43.size := ⟨_, rfl⟩
  have ne58 : a1 ≠ b57 := Nat.ne_of_lt (Nat.lt_of_lt_of_le c45.lt (Nat.le_of_eq g57.symm))
  have ne59 : b2 ≠ b57 := Nat.ne_of_lt (Nat.lt_of_lt_of_le c55.lt (Nat.le_of_eq g57.symm))
  have ne60 : b28 ≠ b57 := Nat.ne_of_lt (Nat.lt_of_lt_of_le c56.lt (Nat.le_of_eq g57.symm))
  have sz57 : h0.size ≤ b57 := Nat.le_trans K43.1 (Nat.le_of_eq g57.symm)
  have ge57 : n0 ≤ b57 := Nat.le_trans Z0 sz57
  have c61 : Exa Z h57 a1 "com/example/leafcode/leafcode/ByteDecoder$Run" := c45.ext E57
  have c62 : Fld Z h57 a1 "com/example/leafcode/leafcode/ByteDecoder$Run" "starts" "[J" (.ref b2) := c46.ext E57
  have c63 : Fld Z h57 a1 "com/example/leafcode/leafcode/ByteDecoder$Run" "passed" "[J" (.ref b28) := c44.ext E57
  have c64 : Fld Z h57 a1 "com/example/leafcode/leafcode/ByteDecoder$Run" "pending" "[I" u_pending_a1 := c48.ext E57
  have c65 : Fld Z h57 a1 "com/example/leafcode/leafcode/ByteDecoder$Run" "out" "[B" u_out_a1 := c49.ext E57
  have c66 : Fld Z h57 a1 "com/example/leafcode/leafcode/ByteDecoder$Run" "start" "I" u_start_a1 := c50.ext E57
  have c67 : Fld Z h57 a1 "com/example/leafcode/leafcode/ByteDecoder$Run" "bit" "I" u_bit_a1 := c51.ext E57
  have c68 : Fld Z h57 a1 "com/example/leafcode/leafcode/ByteDecoder$Run" "count" "I" u_count_a1 := c52.ext E57
  have c69 : Fld Z h57 a1 "com/example/leafcode/leafcode/ByteDecoder$Run" "first" "I" u_first_a1 := c53.ext E57
  have c70 : Fld Z h57 a1 "com/example/leafcode/leafcode/ByteDecoder$Run" "recorded" "I" u_recorded_a1 := c54.ext E57
  have c71 : own_Arj Z h57 b2 (List.replicate 513 (0 : Int64)) := c55.ext E57
  have c72 : own_Arj Z h57 b28 (List.replicate 513 (0 : Int64)) := c56.ext E57
  have K57 : Keep h0 h57 [a1] := K43.ext E57
  rw [← g57] at A57 st57
  have c73 : own_Ari Z h57 b57 .int (List.replicate 57 (0 : Int32)) := own_Ari_new (ty := .int) A57 (by decide) rfl
  refine own_step st57 ?_
  show own_G p.tables e below _ (T57.setTop (mkF m 27 #[.val (.ref a1), .val (.int p2)] [(.ref b57), (.ref a1)]))
  obtain ⟨T74, h74, X74, e74, W74, st74⟩ := putF X57 hx hZ hown (host := "") (Or.inl (hw _ (List.mem_of_getElem? (i := 15) rfl))) Via.refl e57 c64 c61 (Or.inr ⟨(hw _ (List.mem_of_getElem? (i := 16) rfl)), rfl, hnm⟩) (hw _ (List.mem_of_getElem? (i := 1) rfl)) (ty := (.array .int)) (by decide) rfl rfl (g := (mkF m 27 #[.val (.ref a1), .val (.int p2)] [(.ref b57), (.ref a1)])) rfl rfl (hb hby d1_27)
  have N74 := Fr.snoc X74 N43 g_a1
  have c75 : Fld Z h74 a1 "com/example/leafcode/leafcode/ByteDecoder$Run" "pending" "[I" (.ref b57) := c64.same W74
  have c76 : Exa Z h74 a1 "com/example/leafcode/leafcode/ByteDecoder$Run" := c61.wr W74
  have c77 : Fld Z h74 a1 "com/example/leafcode/leafcode/ByteDecoder$Run" "starts" "[J" (.ref b2) := c62.other W74 (Or.inr (slot_ne (Or.inr (hw _ (List.mem_of_getElem? (i := 11) rfl))) (Or.inr (hw _ (List.mem_of_getElem? (i := 16) rfl))) (by decide) (t := (.array .long)) (t' := (.array .int)) (by decide) (by decide)))
  have c78 : Fld Z h74 a1 "com/example/leafcode/leafcode/ByteDecoder$Run" "passed" "[J" (.ref b28) := c63.other W74 (Or.inr (slot_ne (Or.inr (hw _ (List.mem_of_getElem? (i := 13) rfl))) (Or.inr (hw _ (List.mem_of_getElem? (i := 16) rfl))) (by decide) (t := (.array .long)) (t' := (.array .int)) (by decide) (by decide)))
  have c80 : Fld Z h74 a1 "com/example/leafcode/leafcode/ByteDecoder$Run" "out" "[B" u_out_a1 := c65.other W74 (Or.inr (slot_ne (Or.inr (hw _ (List.mem_of_getElem? (i := 19) rfl))) (Or.inr (hw _ (List.mem_of_getElem? (i := 16) rfl))) (by decide) (t := (.array .byte)) (t' := (.array .int)) (by decide) (by decide)))
  have c81 : Fld Z h74 a1 "com/example/leafcode/leafcode/ByteDecoder$Run" "start" "I" u_start_a1 := c66.other W74 (Or.inr (slot_ne (Or.inl (hw _ (List.mem_of_getElem? (i := 21) rfl))) (Or.inr (hw _ (List.mem_of_getElem? (i := 16) rfl))) (by decide) (t := .int) (t' := (.array .int)) (by decide) (by decide)))
  have c82 : Fld Z h74 a1 "com/example/leafcode/leafcode/ByteDecoder$Run" "bit" "I" u_bit_a1 := c67.other W74 (Or.inr (slot_ne (Or.inl (hw _ (List.mem_of_getElem? (i := 23) rfl))) (Or.inr (hw _ (List.mem_of_getElem? (i := 16) rfl))) (by decide) (t := .int) (t' := (.array .int)) (by decide) (by decide)))
  have c83 : Fld Z h74 a1 "com/example/leafcode/leafcode/ByteDecoder$Run" "count" "I" u_count_a1 := c68.other W74 (Or.inr (slot_ne (Or.inl (hw _ (List.mem_of_getElem? (i := 25) rfl))) (Or.inr (hw _ (List.mem_of_getElem? (i := 16) rfl))) (by decide) (t := .int) (t' := (.array .int)) (by decide) (by decide)))
  have c84 : Fld Z h74 a1 "com/example/leafcode/leafcode/ByteDecoder$Run" "first" "I" u_first_a1 := c69.other W74 (Or.inr (slot_ne (Or.inl (hw _ (List.mem_of_getElem? (i := 27) rfl))) (Or.inr (hw _ (List.mem_of_getElem? (i := 16) rfl))) (by decide) (t := .int) (t' := (.array .int)) (by decide) (by decide)))
  have c85 : Fld Z h74 a1 "com/example/leafcode/leafcode/ByteDecoder$Run" "recorded" "I" u_recorded_a1 := c70.other W74 (Or.inr (slot_ne (Or.inl (hw _ (List.mem_of_getElem? (i := 29) rfl))) (Or.inr (hw _ (List.mem_of_getElem? (i := 16) rfl))) (by decide) (t := .int) (t' := (.array .int)) (by decide) (by decide)))
  have c86 : own_Arj Z h74 b2 (List.replicate 513 (0 : Int64)) := c71.other W74 (Ne.symm ne3)
  have c87 : own_Arj Z h74 b28 (List.replicate 513 (0 : Int64)) := c72.other W74 (Ne.symm ne29)
  have c88 : own_Ari Z h74 b57 .int (List.replicate 57 (0 : Int32)) := c73.other W74 (Ne.symm ne58)
  have K74 : Keep h0 h74 [a1] := K57.wr W74 (Or.inl (List.mem_of_getElem? (i := 0) rfl))
  refine own_step st74 ?_
  show own_G p.tables e below _ (T74.setTop (mkF m 30 #[.val (.ref a1), .val (.int p2)] []))
  refine own_step (fun t k => XS.aloadN X74.here hx rfl (hb hby d1_30) rfl rfl k) ?_
  show own_G p.tables e below _ (T74.setTop (mkF m 31 #[.val (.ref a1), .val (.int p2)] [(.ref a1)]))
  refine own_step (fun t k => XS.iloadN X74.here hx rfl (hb hby d1_31) rfl k) ?_
  show own_G p.tables e below _ (T74.setTop (mkF m 32 #[.val (.ref a1), .val (.int p2)] [(.int p2), (.ref a1)]))
  obtain ⟨T89, h89, k89, X89, e89, E89, A89, st89⟩ := newP X74 hx hZ (hw _ (List.mem_of_getElem? (i := 17) rfl)) e74 (g := (mkF m 32 #[.val (.ref a1), .val (.int p2)] [(.int p2), (.ref a1)])) rfl (hb hby d1_32) rfl hp1 (cap := 8) hp2 (by decide) (by decide) (by decide)
  obtain ⟨b89, g89⟩ : ∃ z, z = h74.size := ⟨_, rfl⟩
  have ne90 : a1 ≠ b89 := Nat.ne_of_lt (Nat.lt_of_lt_of_le c76.lt (Nat.le_of_eq g89.symm))
  have ne91 : b2 ≠ b89 := Nat.ne_of_lt (Nat.lt_of_lt_of_le c86.lt (Nat.le_of_eq g89.symm))
  have ne92 : b28 ≠ b89 := Nat.ne_of_lt (Nat.lt_of_lt_of_le c87.lt (Nat.le_of_eq g89.symm))
  have ne93 : b57 ≠ b89 := Nat.ne_of_lt (Nat.lt_of_lt_of_le c88.lt (Nat.le_of_eq g89.symm))
  have sz89 : h0.size ≤ b89 := Nat.le_trans K74.1 (Nat.le_of_eq g89.symm)
  have ge89 : n0 ≤ b89 := Nat.le_trans Z0 sz89
  have c94 : Exa Z h89 a1 "com/example/leafcode/leafcode/ByteDecoder$Run" := c76.ext E89
  have c95 : Fld Z h89 a1 "com/example/leafcode/leafcode/ByteDecoder$Run" "starts" "[J" (.ref b2) := c77.ext E89
  have c96 : Fld Z h89 a1 "com/example/leafcode/leafcode/ByteDecoder$Run" "passed" "[J" (.ref b28) := c78.ext E89
  have c97 : Fld Z h89 a1 "com/example/leafcode/leafcode/ByteDecoder$Run" "pending" "[I" (.ref b57) := c75.ext E89
  have c98 : Fld Z h89 a1 "com/example/leafcode/leafcode/ByteDecoder$Run" "out" "[B" u_out_a1 := c80.ext E89
  have c99 : Fld Z h89 a1 "com/example/leafcode/leafcode/ByteDecoder$Run" "start" "I" u_start_a1 := c81.ext E89
  have c100 : Fld Z h89 a1 "com/example/leafcode/leafcode/ByteDecoder$Run" "bit" "I" u_bit_a1 := c82.ext E89
  have c101 : Fld Z h89 a1 "com/example/leafcode/leafcode/ByteDecoder$Run" "count" "I" u_count_a1 := c83.ext E89
  have c102 : Fld Z h89 a1 "com/example/leafcode/leafcode/ByteDecoder$Run" "first" "I" u_first_a1 := c84.ext E89
  have c103 : Fld Z h89 a1 "com/example/leafcode/leafcode/ByteDecoder$Run" "recorded" "I" u_recorded_a1 := c85.ext E89
  have c104 : own_Arj Z h89 b2 (List.replicate 513 (0 : Int64)) := c86.ext E89
  have c105 : own_Arj Z h89 b28 (List.replicate 513 (0 : Int64)) := c87.ext E89
  have c106 : own_Ari Z h89 b57 .int (List.replicate 57 (0 : Int32)) := c88.ext E89
  have K89 : Keep h0 h89 [a1] := K74.ext E89
  rw [← g89] at A89 st89
  have c107 : own_Ari Z h89 b89 .byte (List.replicate p2.toNatClampNeg (0 : Int32)) := own_Ari_new (ty := .byte) A89 hp1 rfl
  refine own_step st89 ?_
  show own_G p.tables e below _ (T89.setTop (mkF m 34 #[.val (.ref a1), .val (.int p2)] [(.ref b89), (.ref a1)]))
  obtain ⟨T108, h108, X108, e108, W108, st108⟩ := putF X89 hx hZ hown (host := "") (Or.inl (hw _ (List.mem_of_getElem? (i := 18) rfl))) Via.refl e89 c98 c94 (Or.inr ⟨(hw _ (List.mem_of_getElem? (i := 19) rfl)), rfl, hnm⟩) (hw _ (List.mem_of_getElem? (i := 1) rfl)) (ty := (.array .byte)) (by decide) rfl rfl (g := (mkF m 34 #[.val (.ref a1), .val (.int p2)] [(.ref b89), (.ref a1)])) rfl rfl (hb hby d1_34)
  have N108 := Fr.snoc X108 N74 g_a1
  have c109 : Fld Z h108 a1 "com/example/leafcode/leafcode/ByteDecoder$Run" "out" "[B" (.ref b89) := c98.same W108
  have c110 : Exa Z h108 a1 "com/example/leafcode/leafcode/ByteDecoder$Run" := c94.wr W108
  have c111 : Fld Z h108 a1 "com/example/leafcode/leafcode/ByteDecoder$Run" "starts" "[J" (.ref b2) := c95.other W108 (Or.inr (slot_ne (Or.inr (hw _ (List.mem_of_getElem? (i := 11) rfl))) (Or.inr (hw _ (List.mem_of_getElem? (i := 19) rfl))) (by decide) (t := (.array .long)) (t' := (.array .byte)) (by decide) (by decide)))
  have c112 : Fld Z h108 a1 "com/example/leafcode/leafcode/ByteDecoder$Run" "passed" "[J" (.ref b28) := c96.other W108 (Or.inr (slot_ne (Or.inr (hw _ (List.mem_of_getElem? (i := 13) rfl))) (Or.inr (hw _ (List.mem_of_getElem? (i := 19) rfl))) (by decide) (t := (.array .long)) (t' := (.array .byte)) (by decide) (by decide)))
  have c113 : Fld Z h108 a1 "com/example/leafcode/leafcode/ByteDecoder$Run" "pending" "[I" (.ref b57) := c97.other W108 (Or.inr (slot_ne (Or.inr (hw _ (List.mem_of_getElem? (i := 16) rfl))) (Or.inr (hw _ (List.mem_of_getElem? (i := 19) rfl))) (by decide) (t := (.array .int)) (t' := (.array .byte)) (by decide) (by decide)))
  have c115 : Fld Z h108 a1 "com/example/leafcode/leafcode/ByteDecoder$Run" "start" "I" u_start_a1 := c99.other W108 (Or.inr (slot_ne (Or.inl (hw _ (List.mem_of_getElem? (i := 21) rfl))) (Or.inr (hw _ (List.mem_of_getElem? (i := 19) rfl))) (by decide) (t := .int) (t' := (.array .byte)) (by decide) (by decide)))
  have c116 : Fld Z h108 a1 "com/example/leafcode/leafcode/ByteDecoder$Run" "bit" "I" u_bit_a1 := c100.other W108 (Or.inr (slot_ne (Or.inl (hw _ (List.mem_of_getElem? (i := 23) rfl))) (Or.inr (hw _ (List.mem_of_getElem? (i := 19) rfl))) (by decide) (t := .int) (t' := (.array .byte)) (by decide) (by decide)))
  have c117 : Fld Z h108 a1 "com/example/leafcode/leafcode/ByteDecoder$Run" "count" "I" u_count_a1 := c101.other W108 (Or.inr (slot_ne (Or.inl (hw _ (List.mem_of_getElem? (i := 25) rfl))) (Or.inr (hw _ (List.mem_of_getElem? (i := 19) rfl))) (by decide) (t := .int) (t' := (.array .byte)) (by decide) (by decide)))
  have c118 : Fld Z h108 a1 "com/example/leafcode/leafcode/ByteDecoder$Run" "first" "I" u_first_a1 := c102.other W108 (Or.inr (slot_ne (Or.inl (hw _ (List.mem_of_getElem? (i := 27) rfl))) (Or.inr (hw _ (List.mem_of_getElem? (i := 19) rfl))) (by decide) (t := .int) (t' := (.array .byte)) (by decide) (by decide)))
  have c119 : Fld Z h108 a1 "com/example/leafcode/leafcode/ByteDecoder$Run" "recorded" "I" u_recorded_a1 := c103.other W108 (Or.inr (slot_ne (Or.inl (hw _ (List.mem_of_getElem? (i := 29) rfl))) (Or.inr (hw _ (List.mem_of_getElem? (i := 19) rfl))) (by decide) (t := .int) (t' := (.array .byte)) (by decide) (by decide)))
  have c120 : own_Arj Z h108 b2 (List.replicate 513 (0 : Int64)) := c104.other W108 (Ne.symm ne3)
  have c121 : own_Arj Z h108 b28 (List.replicate 513 (0 : Int64)) := c105.other W108 (Ne.symm ne29)
  have c122 : own_Ari Z h108 b57 .int (List.replicate 57 (0 : Int32)) := c106.other W108 (Ne.symm ne58)
  have c123 : own_Ari Z h108 b89 .byte (List.replicate p2.toNatClampNeg (0 : Int32)) := c107.other W108 (Ne.symm ne90)
  have K108 : Keep h0 h108 [a1] := K89.wr W108 (Or.inl (List.mem_of_getElem? (i := 0) rfl))
  refine own_step st108 ?_
  show own_G p.tables e below _ (T108.setTop (mkF m 37 #[.val (.ref a1), .val (.int p2)] []))
  obtain ⟨fs, hr, hrun, hended, hW, hsame⟩ := X108.leave (v := none) (fun _ => rfl)
  refine own_done (X108.returnOut hx Bd.returns (hb hby d1_37) hr) hrun hended ⟨_, _, rfl, ?_, ⟨_, rfl⟩, hW, hsame.mono (by decide) (by decide)⟩
  show Q1 Z a1 p2 u_starts_a1 u_passed_a1 u_pending_a1 u_out_a1 u_start_a1 u_bit_a1 u_count_a1 u_first_a1 u_recorded_a1 h0 n0 _ T108.heap _
  rw [e108]
  exact ⟨b2, b28, b57, b89, rfl, N108, K108, c111, c112, c113, c109, c115, c116, c117, c118, c119, c120, c121, c122, c123, sz2, sz28, sz57, sz89, ne30, ne59, ne91, ne60, ne92, ne93⟩
theorem d3_0 : decode prog_6_method_2_code 0 = .ok (.aload_n 0, 1) := by decide +kernel
theorem d3_1 : decode prog_6_method_2_code 1 = .ok (.iload_n 1, 1) := by decide +kernel
theorem d3_2 : decode prog_6_method_2_code 2 = .ok (.putfield 28, 3) := by decide +kernel
theorem d3_5 : decode prog_6_method_2_code 5 = .ok (.aload_n 0, 1) := by decide +kernel
theorem d3_6 : decode prog_6_method_2_code 6 = .ok (.iload_n 1, 1) := by decide +kernel
theorem d3_7 : decode prog_6_method_2_code 7 = .ok (.putfield 32, 3) := by decide +kernel
theorem d3_10 : decode prog_6_method_2_code 10 = .ok (.aload_n 0, 1) := by decide +kernel
theorem d3_11 : decode prog_6_method_2_code 11 = .ok (.iconst 0, 1) := by decide +kernel
theorem d3_12 : decode prog_6_method_2_code 12 = .ok (.putfield 35, 3) := by decide +kernel
theorem d3_15 : decode prog_6_method_2_code 15 = .ok (.aload_n 0, 1) := by decide +kernel
theorem d3_16 : decode prog_6_method_2_code 16 = .ok (.iconst 0, 1) := by decide +kernel
theorem d3_17 : decode prog_6_method_2_code 17 = .ok (.putfield 38, 3) := by decide +kernel
theorem d3_20 : decode prog_6_method_2_code 20 = .ok (.aload_n 0, 1) := by decide +kernel
theorem d3_21 : decode prog_6_method_2_code 21 = .ok (.iconst 0, 1) := by decide +kernel
theorem d3_22 : decode prog_6_method_2_code 22 = .ok (.putfield 41, 3) := by decide +kernel
theorem d3_25 : decode prog_6_method_2_code 25 = .ok (.return_, 1) := by decide +kernel
theorem pn_3 : plainName "com/example/leafcode/leafcode/ByteDecoder$Run" = true := by first | (simp [plainName, overriddenIn]; done) | decide +kernel
theorem ef_3 (m : MethodId) (a1 : Addr) (p2 : Int32) : entryFrame m #[(.ref a1), (.int p2)] 2 = mkF m 0 #[.val (.ref a1), .val (.int p2)] [] := by first | (simp [entryFrame, mkF, argsToLocals, Value.category]; done) | rfl
def Q3 (Z : State) (a1 : Addr) (p2 : Int32) (u_starts_a1 : Value) (u_passed_a1 : Value) (u_pending_a1 : Value) (u_out_a1 : Value) (u_start_a1 : Value) (u_bit_a1 : Value) (u_count_a1 : Value) (u_first_a1 : Value) (u_recorded_a1 : Value) (h0 : Heap) (n0 : Nat) (v : Option Value) (h : Heap) (L : List Loc) : Prop := v = none ∧ Fr n0 L ∧ Keep h0 h [a1] ∧ Fld Z h a1 "com/example/leafcode/leafcode/ByteDecoder$Run" "starts" "[J" u_starts_a1 ∧ Fld Z h a1 "com/example/leafcode/leafcode/ByteDecoder$Run" "passed" "[J" u_passed_a1 ∧ Fld Z h a1 "com/example/leafcode/leafcode/ByteDecoder$Run" "pending" "[I" u_pending_a1 ∧ Fld Z h a1 "com/example/leafcode/leafcode/ByteDecoder$Run" "out" "[B" u_out_a1 ∧ Fld Z h a1 "com/example/leafcode/leafcode/ByteDecoder$Run" "start" "I" (.int p2) ∧ Fld Z h a1 "com/example/leafcode/leafcode/ByteDecoder$Run" "bit" "I" (.int p2) ∧ Fld Z h a1 "com/example/leafcode/leafcode/ByteDecoder$Run" "count" "I" (.int (0 : Int32)) ∧ Fld Z h a1 "com/example/leafcode/leafcode/ByteDecoder$Run" "first" "I" (.int (0 : Int32)) ∧ Fld Z h a1 "com/example/leafcode/leafcode/ByteDecoder$Run" "recorded" "I" (.int (0 : Int32))
set_option maxRecDepth 65536 in
set_option maxHeartbeats 40000000 in
theorem rm3 (l : Launch) (Z : State) (a0 : Array Value) (hw : ∀ d ∈ tables_1, d.before a0 Z = true) (ws : List Jvm.Cond) (a1 : Addr) (p2 : Int32) (u_starts_a1 : Value) (u_passed_a1 : Value) (u_pending_a1 : Value) (u_out_a1 : Value) (u_start_a1 : Value) (u_bit_a1 : Value) (u_count_a1 : Value) (u_first_a1 : Value) (u_recorded_a1 : Value) (h0 : Heap) (n0 : Nat) (Z0 : n0 ≤ h0.size) (fp0 : Exa Z h0 a1 "com/example/leafcode/leafcode/ByteDecoder$Run") (fp1 : Fld Z h0 a1 "com/example/leafcode/leafcode/ByteDecoder$Run" "starts" "[J" u_starts_a1) (fp2 : Fld Z h0 a1 "com/example/leafcode/leafcode/ByteDecoder$Run" "passed" "[J" u_passed_a1) (fp3 : Fld Z h0 a1 "com/example/leafcode/leafcode/ByteDecoder$Run" "pending" "[I" u_pending_a1) (fp4 : Fld Z h0 a1 "com/example/leafcode/leafcode/ByteDecoder$Run" "out" "[B" u_out_a1) (fp5 : Fld Z h0 a1 "com/example/leafcode/leafcode/ByteDecoder$Run" "start" "I" u_start_a1) (fp6 : Fld Z h0 a1 "com/example/leafcode/leafcode/ByteDecoder$Run" "bit" "I" u_bit_a1) (fp7 : Fld Z h0 a1 "com/example/leafcode/leafcode/ByteDecoder$Run" "count" "I" u_count_a1) (fp8 : Fld Z h0 a1 "com/example/leafcode/leafcode/ByteDecoder$Run" "first" "I" u_first_a1) (fp9 : Fld Z h0 a1 "com/example/leafcode/leafcode/ByteDecoder$Run" "recorded" "I" u_recorded_a1) (g_a1 : n0 ≤ a1) :
    MetFree l (⟨"com/example/leafcode/leafcode/ByteDecoder$Run", "begin", "(I)V"⟩ : MethodName) (head1 (Jvm.Cond.code (⟨"com/example/leafcode/leafcode/ByteDecoder$Run", "begin", "(I)V"⟩ : MethodName) prog_6_method_2_code 2 none :: ws) ({ frames := 0, cells := 0, slots := 0, locals := 0 } : Room)) (fun a U => a = #[(.ref a1), (.int p2)] ∧ Z.Warmed39 U.vm ∧ U.heap = h0) (fun _ _ _ _ _ => True) (fun _ U o U' => ∃ v L, o = .returned v ∧ Q3 Z a1 p2 u_starts_a1 u_passed_a1 u_pending_a1 u_out_a1 u_start_a1 u_bit_a1 u_count_a1 u_first_a1 u_recorded_a1 h0 n0 v U'.heap L ∧ FrameEnd U o U' L ({ frames := 0, cells := 0, slots := 0, locals := 0 } : Room).cells ({ frames := 0, cells := 0, slots := 0, locals := 0 } : Room).slots) := by
  refine MetFree.of_bodySF (plainFor_of_name pn_3) hisR ?_
  intro p e s m args below meth c s₁ Bd hml0 hP hK
  obtain ⟨rfl, hZ, hh⟩ := hP
  have hx := Bd.exec
  have hby := Bd.bytes
  have hml : c.maxLocals = 2 := hml0
  have hown : s.vm.findClass "com/example/leafcode/leafcode/ByteDecoder$Run" = some m.cls := findClass_of_methodNamed Bd.named
  have hnm := (name_of_methodNamed Bd.named Bd.method).1
  have X0 : Stand p l e ({ frames := 0, cells := 0, slots := 0, locals := 0 } : Room) s m #[(.ref a1), (.int p2)] below meth c s₁ [] 0 0 := Stand.of_body Bd
  have e0 : s₁.heap = h0 := by rw [← hh, Bd.state]; rfl
  have N0 := Fr.nil n0
  refine own_start (fun t k => castTop (ef_3 m a1 p2) k) ?_
  show own_G p.tables e below _ (s₁.setTop (mkF m 0 #[.val (.ref a1), .val (.int p2)] []))
  refine own_step (fun t k => XS.aloadN X0.here hx rfl (hb hby d3_0) rfl rfl k) ?_
  show own_G p.tables e below _ (s₁.setTop (mkF m 1 #[.val (.ref a1), .val (.int p2)] [(.ref a1)]))
  refine own_step (fun t k => XS.iloadN X0.here hx rfl (hb hby d3_1) rfl k) ?_
  show own_G p.tables e below _ (s₁.setTop (mkF m 2 #[.val (.ref a1), .val (.int p2)] [(.int p2), (.ref a1)]))
  obtain ⟨T1, h1, X1, e1, W1, st1⟩ := putF X0 hx hZ hown (host := "") (Or.inl (hw _ (List.mem_of_getElem? (i := 41) rfl))) Via.refl e0 fp5 fp0 (Or.inl (hw _ (List.mem_of_getElem? (i := 21) rfl))) (hw _ (List.mem_of_getElem? (i := 1) rfl)) (ty := .int) (by decide) rfl rfl (g := (mkF m 2 #[.val (.ref a1), .val (.int p2)] [(.int p2), (.ref a1)])) rfl rfl (hb hby d3_2)
  have N1 := Fr.snoc X1 N0 g_a1
  have c2 : Fld Z h1 a1 "com/example/leafcode/leafcode/ByteDecoder$Run" "start" "I" (.int p2) := fp5.same W1
  have c3 : Exa Z h1 a1 "com/example/leafcode/leafcode/ByteDecoder$Run" := fp0.wr W1
  have c4 : Fld Z h1 a1 "com/example/leafcode/leafcode/ByteDecoder$Run" "starts" "[J" u_starts_a1 := fp1.other W1 (Or.inr (slot_ne (Or.inr (hw _ (List.mem_of_getElem? (i := 11) rfl))) (Or.inl (hw _ (List.mem_of_getElem? (i := 21) rfl))) (by decide) (t := (.array .long)) (t' := .int) (by decide) (by decide)))
  have c5 : Fld Z h1 a1 "com/example/leafcode/leafcode/ByteDecoder$Run" "passed" "[J" u_passed_a1 := fp2.other W1 (Or.inr (slot_ne (Or.inr (hw _ (List.mem_of_getElem? (i := 13) rfl))) (Or.inl (hw _ (List.mem_of_getElem? (i := 21) rfl))) (by decide) (t := (.array .long)) (t' := .int) (by decide) (by decide)))
  have c6 : Fld Z h1 a1 "com/example/leafcode/leafcode/ByteDecoder$Run" "pending" "[I" u_pending_a1 := fp3.other W1 (Or.inr (slot_ne (Or.inr (hw _ (List.mem_of_getElem? (i := 16) rfl))) (Or.inl (hw _ (List.mem_of_getElem? (i := 21) rfl))) (by decide) (t := (.array .int)) (t' := .int) (by decide) (by decide)))
  have c7 : Fld Z h1 a1 "com/example/leafcode/leafcode/ByteDecoder$Run" "out" "[B" u_out_a1 := fp4.other W1 (Or.inr (slot_ne (Or.inr (hw _ (List.mem_of_getElem? (i := 19) rfl))) (Or.inl (hw _ (List.mem_of_getElem? (i := 21) rfl))) (by decide) (t := (.array .byte)) (t' := .int) (by decide) (by decide)))
  have c9 : Fld Z h1 a1 "com/example/leafcode/leafcode/ByteDecoder$Run" "bit" "I" u_bit_a1 := fp6.other W1 (Or.inr (slot_ne (Or.inl (hw _ (List.mem_of_getElem? (i := 23) rfl))) (Or.inl (hw _ (List.mem_of_getElem? (i := 21) rfl))) (by decide) (t := .int) (t' := .int) (by decide) (by decide)))
  have c10 : Fld Z h1 a1 "com/example/leafcode/leafcode/ByteDecoder$Run" "count" "I" u_count_a1 := fp7.other W1 (Or.inr (slot_ne (Or.inl (hw _ (List.mem_of_getElem? (i := 25) rfl))) (Or.inl (hw _ (List.mem_of_getElem? (i := 21) rfl))) (by decide) (t := .int) (t' := .int) (by decide) (by decide)))
  have c11 : Fld Z h1 a1 "com/example/leafcode/leafcode/ByteDecoder$Run" "first" "I" u_first_a1 := fp8.other W1 (Or.inr (slot_ne (Or.inl (hw _ (List.mem_of_getElem? (i := 27) rfl))) (Or.inl (hw _ (List.mem_of_getElem? (i := 21) rfl))) (by decide) (t := .int) (t' := .int) (by decide) (by decide)))
  have c12 : Fld Z h1 a1 "com/example/leafcode/leafcode/ByteDecoder$Run" "recorded" "I" u_recorded_a1 := fp9.other W1 (Or.inr (slot_ne (Or.inl (hw _ (List.mem_of_getElem? (i := 29) rfl))) (Or.inl (hw _ (List.mem_of_getElem? (i := 21) rfl))) (by decide) (t := .int) (t' := .int) (by decide) (by decide)))
  have K1 : Keep h0 h1 [a1] := (Keep.refl h0 [a1]).wr W1 (Or.inl (List.mem_of_getElem? (i := 0) rfl))
  refine own_step st1 ?_
  show own_G p.tables e below _ (T1.setTop (mkF m 5 #[.val (.ref a1), .val (.int p2)] []))
  refine own_step (fun t k => XS.aloadN X1.here hx rfl (hb hby d3_5) rfl rfl k) ?_
  show own_G p.tables e below _ (T1.setTop (mkF m 6 #[.val (.ref a1), .val (.int p2)] [(.ref a1)]))
  refine own_step (fun t k => XS.iloadN X1.here hx rfl (hb hby d3_6) rfl k) ?_
  show own_G p.tables e below _ (T1.setTop (mkF m 7 #[.val (.ref a1), .val (.int p2)] [(.int p2), (.ref a1)]))
  obtain ⟨T13, h13, X13, e13, W13, st13⟩ := putF X1 hx hZ hown (host := "") (Or.inl (hw _ (List.mem_of_getElem? (i := 42) rfl))) Via.refl e1 c9 c3 (Or.inl (hw _ (List.mem_of_getElem? (i := 23) rfl))) (hw _ (List.mem_of_getElem? (i := 1) rfl)) (ty := .int) (by decide) rfl rfl (g := (mkF m 7 #[.val (.ref a1), .val (.int p2)] [(.int p2), (.ref a1)])) rfl rfl (hb hby d3_7)
  have N13 := Fr.snoc X13 N1 g_a1
  have c14 : Fld Z h13 a1 "com/example/leafcode/leafcode/ByteDecoder$Run" "bit" "I" (.int p2) := c9.same W13
  have c15 : Exa Z h13 a1 "com/example/leafcode/leafcode/ByteDecoder$Run" := c3.wr W13
  have c16 : Fld Z h13 a1 "com/example/leafcode/leafcode/ByteDecoder$Run" "starts" "[J" u_starts_a1 := c4.other W13 (Or.inr (slot_ne (Or.inr (hw _ (List.mem_of_getElem? (i := 11) rfl))) (Or.inl (hw _ (List.mem_of_getElem? (i := 23) rfl))) (by decide) (t := (.array .long)) (t' := .int) (by decide) (by decide)))
  have c17 : Fld Z h13 a1 "com/example/leafcode/leafcode/ByteDecoder$Run" "passed" "[J" u_passed_a1 := c5.other W13 (Or.inr (slot_ne (Or.inr (hw _ (List.mem_of_getElem? (i := 13) rfl))) (Or.inl (hw _ (List.mem_of_getElem? (i := 23) rfl))) (by decide) (t := (.array .long)) (t' := .int) (by decide) (by decide)))
  have c18 : Fld Z h13 a1 "com/example/leafcode/leafcode/ByteDecoder$Run" "pending" "[I" u_pending_a1 := c6.other W13 (Or.inr (slot_ne (Or.inr (hw _ (List.mem_of_getElem? (i := 16) rfl))) (Or.inl (hw _ (List.mem_of_getElem? (i := 23) rfl))) (by decide) (t := (.array .int)) (t' := .int) (by decide) (by decide)))
  have c19 : Fld Z h13 a1 "com/example/leafcode/leafcode/ByteDecoder$Run" "out" "[B" u_out_a1 := c7.other W13 (Or.inr (slot_ne (Or.inr (hw _ (List.mem_of_getElem? (i := 19) rfl))) (Or.inl (hw _ (List.mem_of_getElem? (i := 23) rfl))) (by decide) (t := (.array .byte)) (t' := .int) (by decide) (by decide)))
  have c20 : Fld Z h13 a1 "com/example/leafcode/leafcode/ByteDecoder$Run" "start" "I" (.int p2) := c2.other W13 (Or.inr (slot_ne (Or.inl (hw _ (List.mem_of_getElem? (i := 21) rfl))) (Or.inl (hw _ (List.mem_of_getElem? (i := 23) rfl))) (by decide) (t := .int) (t' := .int) (by decide) (by decide)))
  have c22 : Fld Z h13 a1 "com/example/leafcode/leafcode/ByteDecoder$Run" "count" "I" u_count_a1 := c10.other W13 (Or.inr (slot_ne (Or.inl (hw _ (List.mem_of_getElem? (i := 25) rfl))) (Or.inl (hw _ (List.mem_of_getElem? (i := 23) rfl))) (by decide) (t := .int) (t' := .int) (by decide) (by decide)))
  have c23 : Fld Z h13 a1 "com/example/leafcode/leafcode/ByteDecoder$Run" "first" "I" u_first_a1 := c11.other W13 (Or.inr (slot_ne (Or.inl (hw _ (List.mem_of_getElem? (i := 27) rfl))) (Or.inl (hw _ (List.mem_of_getElem? (i := 23) rfl))) (by decide) (t := .int) (t' := .int) (by decide) (by decide)))
  have c24 : Fld Z h13 a1 "com/example/leafcode/leafcode/ByteDecoder$Run" "recorded" "I" u_recorded_a1 := c12.other W13 (Or.inr (slot_ne (Or.inl (hw _ (List.mem_of_getElem? (i := 29) rfl))) (Or.inl (hw _ (List.mem_of_getElem? (i := 23) rfl))) (by decide) (t := .int) (t' := .int) (by decide) (by decide)))
  have K13 : Keep h0 h13 [a1] := K1.wr W13 (Or.inl (List.mem_of_getElem? (i := 0) rfl))
  refine own_step st13 ?_
  show own_G p.tables e below _ (T13.setTop (mkF m 10 #[.val (.ref a1), .val (.int p2)] []))
  refine own_step (fun t k => XS.aloadN X13.here hx rfl (hb hby d3_10) rfl rfl k) ?_
  show own_G p.tables e below _ (T13.setTop (mkF m 11 #[.val (.ref a1), .val (.int p2)] [(.ref a1)]))
  refine own_step (fun t k => XS.iconst X13.here hx rfl (hb hby d3_11) k) ?_
  show own_G p.tables e below _ (T13.setTop (mkF m 12 #[.val (.ref a1), .val (.int p2)] [(.int (0 : Int32)), (.ref a1)]))
  obtain ⟨T25, h25, X25, e25, W25, st25⟩ := putF X13 hx hZ hown (host := "") (Or.inl (hw _ (List.mem_of_getElem? (i := 43) rfl))) Via.refl e13 c22 c15 (Or.inl (hw _ (List.mem_of_getElem? (i := 25) rfl))) (hw _ (List.mem_of_getElem? (i := 1) rfl)) (ty := .int) (by decide) rfl rfl (g := (mkF m 12 #[.val (.ref a1), .val (.int p2)] [(.int (0 : Int32)), (.ref a1)])) rfl rfl (hb hby d3_12)
  have N25 := Fr.snoc X25 N13 g_a1
  have c26 : Fld Z h25 a1 "com/example/leafcode/leafcode/ByteDecoder$Run" "count" "I" (.int (0 : Int32)) := c22.same W25
  have c27 : Exa Z h25 a1 "com/example/leafcode/leafcode/ByteDecoder$Run" := c15.wr W25
  have c28 : Fld Z h25 a1 "com/example/leafcode/leafcode/ByteDecoder$Run" "starts" "[J" u_starts_a1 := c16.other W25 (Or.inr (slot_ne (Or.inr (hw _ (List.mem_of_getElem? (i := 11) rfl))) (Or.inl (hw _ (List.mem_of_getElem? (i := 25) rfl))) (by decide) (t := (.array .long)) (t' := .int) (by decide) (by decide)))
  have c29 : Fld Z h25 a1 "com/example/leafcode/leafcode/ByteDecoder$Run" "passed" "[J" u_passed_a1 := c17.other W25 (Or.inr (slot_ne (Or.inr (hw _ (List.mem_of_getElem? (i := 13) rfl))) (Or.inl (hw _ (List.mem_of_getElem? (i := 25) rfl))) (by decide) (t := (.array .long)) (t' := .int) (by decide) (by decide)))
  have c30 : Fld Z h25 a1 "com/example/leafcode/leafcode/ByteDecoder$Run" "pending" "[I" u_pending_a1 := c18.other W25 (Or.inr (slot_ne (Or.inr (hw _ (List.mem_of_getElem? (i := 16) rfl))) (Or.inl (hw _ (List.mem_of_getElem? (i := 25) rfl))) (by decide) (t := (.array .int)) (t' := .int) (by decide) (by decide)))
  have c31 : Fld Z h25 a1 "com/example/leafcode/leafcode/ByteDecoder$Run" "out" "[B" u_out_a1 := c19.other W25 (Or.inr (slot_ne (Or.inr (hw _ (List.mem_of_getElem? (i := 19) rfl))) (Or.inl (hw _ (List.mem_of_getElem? (i := 25) rfl))) (by decide) (t := (.array .byte)) (t' := .int) (by decide) (by decide)))
  have c32 : Fld Z h25 a1 "com/example/leafcode/leafcode/ByteDecoder$Run" "start" "I" (.int p2) := c20.other W25 (Or.inr (slot_ne (Or.inl (hw _ (List.mem_of_getElem? (i := 21) rfl))) (Or.inl (hw _ (List.mem_of_getElem? (i := 25) rfl))) (by decide) (t := .int) (t' := .int) (by decide) (by decide)))
  have c33 : Fld Z h25 a1 "com/example/leafcode/leafcode/ByteDecoder$Run" "bit" "I" (.int p2) := c14.other W25 (Or.inr (slot_ne (Or.inl (hw _ (List.mem_of_getElem? (i := 23) rfl))) (Or.inl (hw _ (List.mem_of_getElem? (i := 25) rfl))) (by decide) (t := .int) (t' := .int) (by decide) (by decide)))
  have c35 : Fld Z h25 a1 "com/example/leafcode/leafcode/ByteDecoder$Run" "first" "I" u_first_a1 := c23.other W25 (Or.inr (slot_ne (Or.inl (hw _ (List.mem_of_getElem? (i := 27) rfl))) (Or.inl (hw _ (List.mem_of_getElem? (i := 25) rfl))) (by decide) (t := .int) (t' := .int) (by decide) (by decide)))
  have c36 : Fld Z h25 a1 "com/example/leafcode/leafcode/ByteDecoder$Run" "recorded" "I" u_recorded_a1 := c24.other W25 (Or.inr (slot_ne (Or.inl (hw _ (List.mem_of_getElem? (i := 29) rfl))) (Or.inl (hw _ (List.mem_of_getElem? (i := 25) rfl))) (by decide) (t := .int) (t' := .int) (by decide) (by decide)))
  have K25 : Keep h0 h25 [a1] := K13.wr W25 (Or.inl (List.mem_of_getElem? (i := 0) rfl))
  refine own_step st25 ?_
  show own_G p.tables e below _ (T25.setTop (mkF m 15 #[.val (.ref a1), .val (.int p2)] []))
  refine own_step (fun t k => XS.aloadN X25.here hx rfl (hb hby d3_15) rfl rfl k) ?_
  show own_G p.tables e below _ (T25.setTop (mkF m 16 #[.val (.ref a1), .val (.int p2)] [(.ref a1)]))
  refine own_step (fun t k => XS.iconst X25.here hx rfl (hb hby d3_16) k) ?_
  show own_G p.tables e below _ (T25.setTop (mkF m 17 #[.val (.ref a1), .val (.int p2)] [(.int (0 : Int32)), (.ref a1)]))
  obtain ⟨T37, h37, X37, e37, W37, st37⟩ := putF X25 hx hZ hown (host := "") (Or.inl (hw _ (List.mem_of_getElem? (i := 44) rfl))) Via.refl e25 c35 c27 (Or.inl (hw _ (List.mem_of_getElem? (i := 27) rfl))) (hw _ (List.mem_of_getElem? (i := 1) rfl)) (ty := .int) (by decide) rfl rfl (g := (mkF m 17 #[.val (.ref a1), .val (.int p2)] [(.int (0 : Int32)), (.ref a1)])) rfl rfl (hb hby d3_17)
  have N37 := Fr.snoc X37 N25 g_a1
  have c38 : Fld Z h37 a1 "com/example/leafcode/leafcode/ByteDecoder$Run" "first" "I" (.int (0 : Int32)) := c35.same W37
  have c39 : Exa Z h37 a1 "com/example/leafcode/leafcode/ByteDecoder$Run" := c27.wr W37
  have c40 : Fld Z h37 a1 "com/example/leafcode/leafcode/ByteDecoder$Run" "starts" "[J" u_starts_a1 := c28.other W37 (Or.inr (slot_ne (Or.inr (hw _ (List.mem_of_getElem? (i := 11) rfl))) (Or.inl (hw _ (List.mem_of_getElem? (i := 27) rfl))) (by decide) (t := (.array .long)) (t' := .int) (by decide) (by decide)))
  have c41 : Fld Z h37 a1 "com/example/leafcode/leafcode/ByteDecoder$Run" "passed" "[J" u_passed_a1 := c29.other W37 (Or.inr (slot_ne (Or.inr (hw _ (List.mem_of_getElem? (i := 13) rfl))) (Or.inl (hw _ (List.mem_of_getElem? (i := 27) rfl))) (by decide) (t := (.array .long)) (t' := .int) (by decide) (by decide)))
  have c42 : Fld Z h37 a1 "com/example/leafcode/leafcode/ByteDecoder$Run" "pending" "[I" u_pending_a1 := c30.other W37 (Or.inr (slot_ne (Or.inr (hw _ (List.mem_of_getElem? (i := 16) rfl))) (Or.inl (hw _ (List.mem_of_getElem? (i := 27) rfl))) (by decide) (t := (.array .int)) (t' := .int) (by decide) (by decide)))
  have c43 : Fld Z h37 a1 "com/example/leafcode/leafcode/ByteDecoder$Run" "out" "[B" u_out_a1 := c31.other W37 (Or.inr (slot_ne (Or.inr (hw _ (List.mem_of_getElem? (i := 19) rfl))) (Or.inl (hw _ (List.mem_of_getElem? (i := 27) rfl))) (by decide) (t := (.array .byte)) (t' := .int) (by decide) (by decide)))
  have c44 : Fld Z h37 a1 "com/example/leafcode/leafcode/ByteDecoder$Run" "start" "I" (.int p2) := c32.other W37 (Or.inr (slot_ne (Or.inl (hw _ (List.mem_of_getElem? (i := 21) rfl))) (Or.inl (hw _ (List.mem_of_getElem? (i := 27) rfl))) (by decide) (t := .int) (t' := .int) (by decide) (by decide)))
  have c45 : Fld Z h37 a1 "com/example/leafcode/leafcode/ByteDecoder$Run" "bit" "I" (.int p2) := c33.other W37 (Or.inr (slot_ne (Or.inl (hw _ (List.mem_of_getElem? (i := 23) rfl))) (Or.inl (hw _ (List.mem_of_getElem? (i := 27) rfl))) (by decide) (t := .int) (t' := .int) (by decide) (by decide)))
  have c46 : Fld Z h37 a1 "com/example/leafcode/leafcode/ByteDecoder$Run" "count" "I" (.int (0 : Int32)) := c26.other W37 (Or.inr (slot_ne (Or.inl (hw _ (List.mem_of_getElem? (i := 25) rfl))) (Or.inl (hw _ (List.mem_of_getElem? (i := 27) rfl))) (by decide) (t := .int) (t' := .int) (by decide) (by decide)))
  have c48 : Fld Z h37 a1 "com/example/leafcode/leafcode/ByteDecoder$Run" "recorded" "I" u_recorded_a1 := c36.other W37 (Or.inr (slot_ne (Or.inl (hw _ (List.mem_of_getElem? (i := 29) rfl))) (Or.inl (hw _ (List.mem_of_getElem? (i := 27) rfl))) (by decide) (t := .int) (t' := .int) (by decide) (by decide)))
  have K37 : Keep h0 h37 [a1] := K25.wr W37 (Or.inl (List.mem_of_getElem? (i := 0) rfl))
  refine own_step st37 ?_
  show own_G p.tables e below _ (T37.setTop (mkF m 20 #[.val (.ref a1), .val (.int p2)] []))
  refine own_step (fun t k => XS.aloadN X37.here hx rfl (hb hby d3_20) rfl rfl k) ?_
  show own_G p.tables e below _ (T37.setTop (mkF m 21 #[.val (.ref a1), .val (.int p2)] [(.ref a1)]))
  refine own_step (fun t k => XS.iconst X37.here hx rfl (hb hby d3_21) k) ?_
  show own_G p.tables e below _ (T37.setTop (mkF m 22 #[.val (.ref a1), .val (.int p2)] [(.int (0 : Int32)), (.ref a1)]))
  obtain ⟨T49, h49, X49, e49, W49, st49⟩ := putF X37 hx hZ hown (host := "") (Or.inl (hw _ (List.mem_of_getElem? (i := 45) rfl))) Via.refl e37 c48 c39 (Or.inl (hw _ (List.mem_of_getElem? (i := 29) rfl))) (hw _ (List.mem_of_getElem? (i := 1) rfl)) (ty := .int) (by decide) rfl rfl (g := (mkF m 22 #[.val (.ref a1), .val (.int p2)] [(.int (0 : Int32)), (.ref a1)])) rfl rfl (hb hby d3_22)
  have N49 := Fr.snoc X49 N37 g_a1
  have c50 : Fld Z h49 a1 "com/example/leafcode/leafcode/ByteDecoder$Run" "recorded" "I" (.int (0 : Int32)) := c48.same W49
  have c51 : Exa Z h49 a1 "com/example/leafcode/leafcode/ByteDecoder$Run" := c39.wr W49
  have c52 : Fld Z h49 a1 "com/example/leafcode/leafcode/ByteDecoder$Run" "starts" "[J" u_starts_a1 := c40.other W49 (Or.inr (slot_ne (Or.inr (hw _ (List.mem_of_getElem? (i := 11) rfl))) (Or.inl (hw _ (List.mem_of_getElem? (i := 29) rfl))) (by decide) (t := (.array .long)) (t' := .int) (by decide) (by decide)))
  have c53 : Fld Z h49 a1 "com/example/leafcode/leafcode/ByteDecoder$Run" "passed" "[J" u_passed_a1 := c41.other W49 (Or.inr (slot_ne (Or.inr (hw _ (List.mem_of_getElem? (i := 13) rfl))) (Or.inl (hw _ (List.mem_of_getElem? (i := 29) rfl))) (by decide) (t := (.array .long)) (t' := .int) (by decide) (by decide)))
  have c54 : Fld Z h49 a1 "com/example/leafcode/leafcode/ByteDecoder$Run" "pending" "[I" u_pending_a1 := c42.other W49 (Or.inr (slot_ne (Or.inr (hw _ (List.mem_of_getElem? (i := 16) rfl))) (Or.inl (hw _ (List.mem_of_getElem? (i := 29) rfl))) (by decide) (t := (.array .int)) (t' := .int) (by decide) (by decide)))
  have c55 : Fld Z h49 a1 "com/example/leafcode/leafcode/ByteDecoder$Run" "out" "[B" u_out_a1 := c43.other W49 (Or.inr (slot_ne (Or.inr (hw _ (List.mem_of_getElem? (i := 19) rfl))) (Or.inl (hw _ (List.mem_of_getElem? (i := 29) rfl))) (by decide) (t := (.array .byte)) (t' := .int) (by decide) (by decide)))
  have c56 : Fld Z h49 a1 "com/example/leafcode/leafcode/ByteDecoder$Run" "start" "I" (.int p2) := c44.other W49 (Or.inr (slot_ne (Or.inl (hw _ (List.mem_of_getElem? (i := 21) rfl))) (Or.inl (hw _ (List.mem_of_getElem? (i := 29) rfl))) (by decide) (t := .int) (t' := .int) (by decide) (by decide)))
  have c57 : Fld Z h49 a1 "com/example/leafcode/leafcode/ByteDecoder$Run" "bit" "I" (.int p2) := c45.other W49 (Or.inr (slot_ne (Or.inl (hw _ (List.mem_of_getElem? (i := 23) rfl))) (Or.inl (hw _ (List.mem_of_getElem? (i := 29) rfl))) (by decide) (t := .int) (t' := .int) (by decide) (by decide)))
  have c58 : Fld Z h49 a1 "com/example/leafcode/leafcode/ByteDecoder$Run" "count" "I" (.int (0 : Int32)) := c46.other W49 (Or.inr (slot_ne (Or.inl (hw _ (List.mem_of_getElem? (i := 25) rfl))) (Or.inl (hw _ (List.mem_of_getElem? (i := 29) rfl))) (by decide) (t := .int) (t' := .int) (by decide) (by decide)))
  have c59 : Fld Z h49 a1 "com/example/leafcode/leafcode/ByteDecoder$Run" "first" "I" (.int (0 : Int32)) := c38.other W49 (Or.inr (slot_ne (Or.inl (hw _ (List.mem_of_getElem? (i := 27) rfl))) (Or.inl (hw _ (List.mem_of_getElem? (i := 29) rfl))) (by decide) (t := .int) (t' := .int) (by decide) (by decide)))
  have K49 : Keep h0 h49 [a1] := K37.wr W49 (Or.inl (List.mem_of_getElem? (i := 0) rfl))
  refine own_step st49 ?_
  show own_G p.tables e below _ (T49.setTop (mkF m 25 #[.val (.ref a1), .val (.int p2)] []))
  obtain ⟨fs, hr, hrun, hended, hW, hsame⟩ := X49.leave (v := none) (fun _ => rfl)
  refine own_done (X49.returnOut hx Bd.returns (hb hby d3_25) hr) hrun hended ⟨_, _, rfl, ?_, ⟨_, rfl⟩, hW, hsame.mono (by decide) (by decide)⟩
  show Q3 Z a1 p2 u_starts_a1 u_passed_a1 u_pending_a1 u_out_a1 u_start_a1 u_bit_a1 u_count_a1 u_first_a1 u_recorded_a1 h0 n0 _ T49.heap _
  rw [e49]
  exact ⟨rfl, N49, K49, c52, c53, c54, c55, c56, c57, c58, c59, c50⟩
theorem pn_0 : plainName "com/example/leafcode/leafcode/RunBeginPinLaw" = true := by first | (simp [plainName, overriddenIn]; done) | decide +kernel
theorem pd_0_0 : parseMethodDescriptor "(I)V" = some ⟨[.int], none⟩ := by decide +kernel
theorem ef_0 (m : MethodId) (p1 : Int32) (p2 : Int32) (p3 : Int32) (p4 : Int32) (p5 : Int32) (p6 : Int32) : entryFrame m #[(.int p1), (.int p2), (.int p3), (.int p4), (.int p5), (.int p6)] maxLocals = mkF m 0 #[.val (.int p1), .val (.int p2), .val (.int p3), .val (.int p4), .val (.int p5), .val (.int p6), .unset, .unset, .unset, .unset, .unset] [] := by first | (simp [entryFrame, mkF, argsToLocals, Value.category, maxLocals]; done) | rfl
def Q0 (Z : State) (p1 : Int32) (p2 : Int32) (p3 : Int32) (p4 : Int32) (p5 : Int32) (p6 : Int32) (h0 : Heap) (n0 : Nat) (v : Option Value) (h : Heap) (L : List Loc) : Prop := v = some (.int (1 : Int32)) ∧ Fr n0 L
set_option maxRecDepth 65536 in
set_option maxHeartbeats 40000000 in
theorem rm0 (l : Launch) (Z : State) (a0 : Array Value) (hw : ∀ d ∈ tables_1, d.before a0 Z = true) (ws : List Jvm.Cond) (p1 : Int32) (p2 : Int32) (p3 : Int32) (p4 : Int32) (p5 : Int32) (p6 : Int32) (h0 : Heap) (n0 : Nat) (Z0 : n0 ≤ h0.size) :
    MetFree l x (head1 (Jvm.Cond.code x code maxLocals ret :: ws) room_1) (fun a U => a = #[(.int p1), (.int p2), (.int p3), (.int p4), (.int p5), (.int p6)] ∧ Z.Warmed39 U.vm ∧ U.heap = h0) (fun _ _ _ _ _ => True) (fun _ U o U' => ∃ v L, o = .returned v ∧ Q0 Z p1 p2 p3 p4 p5 p6 h0 n0 v U'.heap L ∧ FrameEnd U o U' L room_1.cells room_1.slots) := by
  refine MetFree.of_bodySF (plainFor_of_name pn_0) hisR ?_
  intro p e s m args below meth c s₁ Bd hml0 hP hK
  obtain ⟨rfl, hZ, hh⟩ := hP
  have hx := Bd.exec
  have hby := Bd.bytes
  have hml : c.maxLocals = 11 := hml0
  have hown : s.vm.findClass "com/example/leafcode/leafcode/RunBeginPinLaw" = some m.cls := findClass_of_methodNamed Bd.named
  have hnm := (name_of_methodNamed Bd.named Bd.method).1
  have X0 : Stand p l e room_1 s m #[(.int p1), (.int p2), (.int p3), (.int p4), (.int p5), (.int p6)] below meth c s₁ [] 0 0 := Stand.of_body Bd
  have e0 : s₁.heap = h0 := by rw [← hh, Bd.state]; rfl
  have N0 := Fr.nil n0
  refine own_start (fun t k => castTop (ef_0 m p1 p2 p3 p4 p5 p6) k) ?_
  show own_G p.tables e below _ (s₁.setTop (mkF m 0 #[.val (.int p1), .val (.int p2), .val (.int p3), .val (.int p4), .val (.int p5), .val (.int p6), .unset, .unset, .unset, .unset, .unset] []))
  refine own_step (fun t k => XS.iload X0.here hx rfl (hb hby at_0) rfl k) ?_
  show own_G p.tables e below _ (s₁.setTop (mkF m 2 #[.val (.int p1), .val (.int p2), .val (.int p3), .val (.int p4), .val (.int p5), .val (.int p6), .unset, .unset, .unset, .unset, .unset] [(.int p5)]))
  refine own_step (fun t k => XS.bipush X0.here hx rfl (hb hby at_2) k) ?_
  show own_G p.tables e below _ (s₁.setTop (mkF m 4 #[.val (.int p1), .val (.int p2), .val (.int p3), .val (.int p4), .val (.int p5), .val (.int p6), .unset, .unset, .unset, .unset, .unset] [(.int (7 : Int32)), (.int p5)]))
  refine own_step (fun t k => XS.iand X0.here hx rfl (hb hby at_4) rfl k) ?_
  show own_G p.tables e below _ (s₁.setTop (mkF m 5 #[.val (.int p1), .val (.int p2), .val (.int p3), .val (.int p4), .val (.int p5), .val (.int p6), .unset, .unset, .unset, .unset, .unset] [(.int (p5 &&& (7 : Int32)))]))
  refine own_step (fun t k => XS.iconst X0.here hx rfl (hb hby at_5) k) ?_
  show own_G p.tables e below _ (s₁.setTop (mkF m 6 #[.val (.int p1), .val (.int p2), .val (.int p3), .val (.int p4), .val (.int p5), .val (.int p6), .unset, .unset, .unset, .unset, .unset] [(.int (1 : Int32)), (.int (p5 &&& (7 : Int32)))]))
  refine own_step (fun t k => XS.iadd X0.here hx rfl (hb hby at_6) rfl k) ?_
  show own_G p.tables e below _ (s₁.setTop (mkF m 7 #[.val (.int p1), .val (.int p2), .val (.int p3), .val (.int p4), .val (.int p5), .val (.int p6), .unset, .unset, .unset, .unset, .unset] [(.int ((p5 &&& (7 : Int32)) + (1 : Int32)))]))
  refine own_nm (((p5 &&& (7 : Int32)) + (1 : Int32)) : Int32) (fun cp => s₁.setTop (mkF m 7 #[.val (.int p1), .val (.int p2), .val (.int p3), .val (.int p4), .val (.int p5), .val (.int p6), .unset, .unset, .unset, .unset, .unset] [(.int cp)])) ?_
  intro cp hd_cp
  show own_G p.tables e below _ (s₁.setTop (mkF m 7 #[.val (.int p1), .val (.int p2), .val (.int p3), .val (.int p4), .val (.int p5), .val (.int p6), .unset, .unset, .unset, .unset, .unset] [(.int cp)]))
  refine own_step (fun t k => XS.istore X0.here hx rfl (hb hby at_7) rfl (l' := #[.val (.int p1), .val (.int p2), .val (.int p3), .val (.int p4), .val (.int p5), .val (.int p6), .val (.int cp), .unset, .unset, .unset, .unset]) rfl k) ?_
  show own_G p.tables e below _ (s₁.setTop (mkF m 9 #[.val (.int p1), .val (.int p2), .val (.int p3), .val (.int p4), .val (.int p5), .val (.int p6), .val (.int cp), .unset, .unset, .unset, .unset] []))
  obtain ⟨T2, h2, X2, e2, E2, A2, D2, -, st2⟩ := newO X0 hx hZ hown (hw _ (List.mem_of_getElem? (i := 0) rfl)) (hw _ (List.mem_of_getElem? (i := 1) rfl)) (hw _ (List.mem_of_getElem? (i := 2) rfl)) e0 (g := (mkF m 9 #[.val (.int p1), .val (.int p2), .val (.int p3), .val (.int p4), .val (.int p5), .val (.int p6), .val (.int cp), .unset, .unset, .unset, .unset] [])) rfl (hb hby at_9) (by decide) (by decide)
  obtain ⟨b2, g2⟩ : ∃ z, z = h0.size := ⟨_, rfl⟩
  have sz2 : h0.size ≤ b2 := Nat.le_trans (Keep.refl h0 []).1 (Nat.le_of_eq g2.symm)
  have ge2 : n0 ≤ b2 := Nat.le_trans Z0 sz2
  have K2 : Keep h0 h2 [] := (Keep.refl h0 []).ext E2
  rw [← g2] at A2 D2 st2
  have c3 : Fld Z h2 b2 "com/example/leafcode/leafcode/ByteDecoder$Run" "starts" "[J" .null := D2 (Or.inr (hw _ (List.mem_of_getElem? (i := 11) rfl))) (ty := (.array .long)) (by decide)
  have c4 : Fld Z h2 b2 "com/example/leafcode/leafcode/ByteDecoder$Run" "passed" "[J" .null := D2 (Or.inr (hw _ (List.mem_of_getElem? (i := 13) rfl))) (ty := (.array .long)) (by decide)
  have c5 : Fld Z h2 b2 "com/example/leafcode/leafcode/ByteDecoder$Run" "pending" "[I" .null := D2 (Or.inr (hw _ (List.mem_of_getElem? (i := 16) rfl))) (ty := (.array .int)) (by decide)
  have c6 : Fld Z h2 b2 "com/example/leafcode/leafcode/ByteDecoder$Run" "out" "[B" .null := D2 (Or.inr (hw _ (List.mem_of_getElem? (i := 19) rfl))) (ty := (.array .byte)) (by decide)
  have c7 : Fld Z h2 b2 "com/example/leafcode/leafcode/ByteDecoder$Run" "start" "I" (.int (0 : Int32)) := D2 (Or.inl (hw _ (List.mem_of_getElem? (i := 21) rfl))) (ty := .int) (by decide)
  have c8 : Fld Z h2 b2 "com/example/leafcode/leafcode/ByteDecoder$Run" "bit" "I" (.int (0 : Int32)) := D2 (Or.inl (hw _ (List.mem_of_getElem? (i := 23) rfl))) (ty := .int) (by decide)
  have c9 : Fld Z h2 b2 "com/example/leafcode/leafcode/ByteDecoder$Run" "count" "I" (.int (0 : Int32)) := D2 (Or.inl (hw _ (List.mem_of_getElem? (i := 25) rfl))) (ty := .int) (by decide)
  have c10 : Fld Z h2 b2 "com/example/leafcode/leafcode/ByteDecoder$Run" "first" "I" (.int (0 : Int32)) := D2 (Or.inl (hw _ (List.mem_of_getElem? (i := 27) rfl))) (ty := .int) (by decide)
  have c11 : Fld Z h2 b2 "com/example/leafcode/leafcode/ByteDecoder$Run" "recorded" "I" (.int (0 : Int32)) := D2 (Or.inl (hw _ (List.mem_of_getElem? (i := 29) rfl))) (ty := .int) (by decide)
  refine own_step st2 ?_
  show own_G p.tables e below _ (T2.setTop (mkF m 12 #[.val (.int p1), .val (.int p2), .val (.int p3), .val (.int p4), .val (.int p5), .val (.int p6), .val (.int cp), .unset, .unset, .unset, .unset] [(.ref b2)]))
  refine own_step (fun t k => XS.dup X2.here hx rfl (hb hby at_12) rfl rfl k) ?_
  show own_G p.tables e below _ (T2.setTop (mkF m 13 #[.val (.int p1), .val (.int p2), .val (.int p3), .val (.int p4), .val (.int p5), .val (.int p6), .val (.int cp), .unset, .unset, .unset, .unset] [(.ref b2), (.ref b2)]))
  refine own_step (fun t k => XS.iload X2.here hx rfl (hb hby at_13) rfl k) ?_
  show own_G p.tables e below _ (T2.setTop (mkF m 15 #[.val (.int p1), .val (.int p2), .val (.int p3), .val (.int p4), .val (.int p5), .val (.int p6), .val (.int cp), .unset, .unset, .unset, .unset] [(.int cp), (.ref b2), (.ref b2)]))
  obtain ⟨_, _, ⟨T12, L12, k12, n12⟩, -, X12, ⟨Lc12, hQ12, l12, y12, z12⟩, st12⟩ := X2.specialBack hx (y := (⟨"com/example/leafcode/leafcode/ByteDecoder$Run", "<init>", "(I)V"⟩ : MethodName)) rfl hown (mvT hZ (hw _ (List.mem_of_getElem? (i := 3) rfl))) (mvT hZ (hw _ (List.mem_of_getElem? (i := 4) rfl))) (mvT hZ (hw _ (List.mem_of_getElem? (i := 5) rfl))) (by decide) (backOf (W := 1) (rm1 l Z a0 hw [] b2 cp .null .null .null .null (.int (0 : Int32)) (.int (0 : Int32)) (.int (0 : Int32)) (.int (0 : Int32)) (.int (0 : Int32)) h2 n0 (Nat.le_trans Z0 K2.1) A2 c3 c4 c5 c6 c7 c8 c9 c10 c11 ((by rw [hd_cp]; exact own_cap1 _) : ¬ (cp < (0 : Int32))) ((by rw [hd_cp]; exact own_cap2 _) : cp.toNatClampNeg ≤ 8) ge2) hZ (hw _ (List.mem_of_getElem? (i := 5) rfl)) (hw _ (List.mem_of_getElem? (i := 2) rfl)) (by decide) (by decide)) (g := (mkF m 15 #[.val (.int p1), .val (.int p2), .val (.int p3), .val (.int p4), .val (.int p5), .val (.int p6), .val (.int cp), .unset, .unset, .unset, .unset] [(.int cp), (.ref b2), (.ref b2)])) rfl (by rw [hml]; rfl) (Steps.refl _) (a := b2) (argsL := [(.int cp)]) (rest := [(.ref b2)]) (lenOf pd_0_0 rfl) rfl (by show 2 * 0 + _ ≤ _; exact Nat.le_of_eq rfl) (hb hby at_15) (fun _ _ => ⟨rfl, e2, (by decide : 1 + 4 ≤ _), (by decide : 9 + 1091 ≤ _)⟩)
  dsimp only [Pt.U, Pt.locs, Pt.cells, Pt.slots] at X12 l12 y12 z12 st12 hQ12
  subst l12 y12 z12
  obtain ⟨bx12_x1, bx12_x2, bx12_x3, bx12_x4, rfl, N12q, K12q, w12_0, w12_1, w12_2, w12_3, w12_4, w12_5, w12_6, w12_7, w12_8, w12_9, w12_10, w12_11, w12_12, sx12_0, sx12_1, sx12_2, sx12_3, xn12_0, xn12_1, xn12_2, xn12_3, xn12_4, xn12_5⟩ := hQ12
  have c13 : Exa Z T12.heap b2 "com/example/leafcode/leafcode/ByteDecoder$Run" := A2.keep K12q
  have sz12_0 : h0.size ≤ bx12_x1 := Nat.le_trans K2.1 sx12_0
  have ge12_0 : n0 ≤ bx12_x1 := Nat.le_trans Z0 sz12_0
  have ne23 : b2 ≠ bx12_x1 := Nat.ne_of_lt (Nat.lt_of_lt_of_le A2.lt sx12_0)
  have sz12_1 : h0.size ≤ bx12_x2 := Nat.le_trans K2.1 sx12_1
  have ge12_1 : n0 ≤ bx12_x2 := Nat.le_trans Z0 sz12_1
  have ne24 : b2 ≠ bx12_x2 := Nat.ne_of_lt (Nat.lt_of_lt_of_le A2.lt sx12_1)
  have sz12_2 : h0.size ≤ bx12_x3 := Nat.le_trans K2.1 sx12_2
  have ge12_2 : n0 ≤ bx12_x3 := Nat.le_trans Z0 sz12_2
  have ne25 : b2 ≠ bx12_x3 := Nat.ne_of_lt (Nat.lt_of_lt_of_le A2.lt sx12_2)
  have sz12_3 : h0.size ≤ bx12_x4 := Nat.le_trans K2.1 sx12_3
  have ge12_3 : n0 ≤ bx12_x4 := Nat.le_trans Z0 sz12_3
  have ne26 : b2 ≠ bx12_x4 := Nat.ne_of_lt (Nat.lt_of_lt_of_le A2.lt sx12_3)
  have K12 : Keep h0 T12.heap [] := K2.trans K12q (allS (Or.inr sz2) all0)
  have N12 := Fr.app N0 N12q
  refine own_step (fun t k => st12.trans k) ?_
  show own_G p.tables e below _ (T12.setTop (mkF m 18 #[.val (.int p1), .val (.int p2), .val (.int p3), .val (.int p4), .val (.int p5), .val (.int p6), .val (.int cp), .unset, .unset, .unset, .unset] [(.ref b2)]))
  refine own_step (fun t k => XS.astore X12.here hx rfl (hb hby at_18) rfl rfl (l' := #[.val (.int p1), .val (.int p2), .val (.int p3), .val (.int p4), .val (.int p5), .val (.int p6), .val (.int cp), .val (.ref b2), .unset, .unset, .unset]) rfl k) ?_
  show own_G p.tables e below _ (T12.setTop (mkF m 20 #[.val (.int p1), .val (.int p2), .val (.int p3), .val (.int p4), .val (.int p5), .val (.int p6), .val (.int cp), .val (.ref b2), .unset, .unset, .unset] []))
  refine own_step (fun t k => XS.aload X12.here hx rfl (hb hby at_20) rfl rfl k) ?_
  show own_G p.tables e below _ (T12.setTop (mkF m 22 #[.val (.int p1), .val (.int p2), .val (.int p3), .val (.int p4), .val (.int p5), .val (.int p6), .val (.int cp), .val (.ref b2), .unset, .unset, .unset] [(.ref b2)]))
  refine own_step (fun t k => XS.iloadN X12.here hx rfl (hb hby at_22) rfl k) ?_
  show own_G p.tables e below _ (T12.setTop (mkF m 23 #[.val (.int p1), .val (.int p2), .val (.int p3), .val (.int p4), .val (.int p5), .val (.int p6), .val (.int cp), .val (.ref b2), .unset, .unset, .unset] [(.int p2), (.ref b2)]))
  obtain ⟨T27, h27, X27, e27, W27, st27⟩ := putF X12 hx hZ hown (host := "") (Or.inl (hw _ (List.mem_of_getElem? (i := 20) rfl))) Via.refl rfl w12_4 c13 (Or.inl (hw _ (List.mem_of_getElem? (i := 21) rfl))) (hw _ (List.mem_of_getElem? (i := 1) rfl)) (ty := .int) (by decide) rfl rfl (g := (mkF m 23 #[.val (.int p1), .val (.int p2), .val (.int p3), .val (.int p4), .val (.int p5), .val (.int p6), .val (.int cp), .val (.ref b2), .unset, .unset, .unset] [(.int p2), (.ref b2)])) rfl rfl (hb hby at_23)
  have N27 := Fr.snoc X27 N12 ge2
  have c28 : Fld Z h27 b2 "com/example/leafcode/leafcode/ByteDecoder$Run" "start" "I" (.int p2) := w12_4.same W27
  have c29 : Exa Z h27 b2 "com/example/leafcode/leafcode/ByteDecoder$Run" := c13.wr W27
  have c30 : Fld Z h27 b2 "com/example/leafcode/leafcode/ByteDecoder$Run" "starts" "[J" (.ref bx12_x1) := w12_0.other W27 (Or.inr (slot_ne (Or.inr (hw _ (List.mem_of_getElem? (i := 11) rfl))) (Or.inl (hw _ (List.mem_of_getElem? (i := 21) rfl))) (by decide) (t := (.array .long)) (t' := .int) (by decide) (by decide)))
  have c31 : Fld Z h27 b2 "com/example/leafcode/leafcode/ByteDecoder$Run" "passed" "[J" (.ref bx12_x2) := w12_1.other W27 (Or.inr (slot_ne (Or.inr (hw _ (List.mem_of_getElem? (i := 13) rfl))) (Or.inl (hw _ (List.mem_of_getElem? (i := 21) rfl))) (by decide) (t := (.array .long)) (t' := .int) (by decide) (by decide)))
  have c32 : Fld Z h27 b2 "com/example/leafcode/leafcode/ByteDecoder$Run" "pending" "[I" (.ref bx12_x3) := w12_2.other W27 (Or.inr (slot_ne (Or.inr (hw _ (List.mem_of_getElem? (i := 16) rfl))) (Or.inl (hw _ (List.mem_of_getElem? (i := 21) rfl))) (by decide) (t := (.array .int)) (t' := .int) (by decide) (by decide)))
  have c33 : Fld Z h27 b2 "com/example/leafcode/leafcode/ByteDecoder$Run" "out" "[B" (.ref bx12_x4) := w12_3.other W27 (Or.inr (slot_ne (Or.inr (hw _ (List.mem_of_getElem? (i := 19) rfl))) (Or.inl (hw _ (List.mem_of_getElem? (i := 21) rfl))) (by decide) (t := (.array .byte)) (t' := .int) (by decide) (by decide)))
  have c35 : Fld Z h27 b2 "com/example/leafcode/leafcode/ByteDecoder$Run" "bit" "I" (.int (0 : Int32)) := w12_5.other W27 (Or.inr (slot_ne (Or.inl (hw _ (List.mem_of_getElem? (i := 23) rfl))) (Or.inl (hw _ (List.mem_of_getElem? (i := 21) rfl))) (by decide) (t := .int) (t' := .int) (by decide) (by decide)))
  have c36 : Fld Z h27 b2 "com/example/leafcode/leafcode/ByteDecoder$Run" "count" "I" (.int (0 : Int32)) := w12_6.other W27 (Or.inr (slot_ne (Or.inl (hw _ (List.mem_of_getElem? (i := 25) rfl))) (Or.inl (hw _ (List.mem_of_getElem? (i := 21) rfl))) (by decide) (t := .int) (t' := .int) (by decide) (by decide)))
  have c37 : Fld Z h27 b2 "com/example/leafcode/leafcode/ByteDecoder$Run" "first" "I" (.int (0 : Int32)) := w12_7.other W27 (Or.inr (slot_ne (Or.inl (hw _ (List.mem_of_getElem? (i := 27) rfl))) (Or.inl (hw _ (List.mem_of_getElem? (i := 21) rfl))) (by decide) (t := .int) (t' := .int) (by decide) (by decide)))
  have c38 : Fld Z h27 b2 "com/example/leafcode/leafcode/ByteDecoder$Run" "recorded" "I" (.int (0 : Int32)) := w12_8.other W27 (Or.inr (slot_ne (Or.inl (hw _ (List.mem_of_getElem? (i := 29) rfl))) (Or.inl (hw _ (List.mem_of_getElem? (i := 21) rfl))) (by decide) (t := .int) (t' := .int) (by decide) (by decide)))
  have c39 : own_Arj Z h27 bx12_x1 (List.replicate 513 (0 : Int64)) := w12_9.other W27 (Ne.symm ne23)
  have c40 : own_Arj Z h27 bx12_x2 (List.replicate 513 (0 : Int64)) := w12_10.other W27 (Ne.symm ne24)
  have c41 : own_Ari Z h27 bx12_x3 .int (List.replicate 57 (0 : Int32)) := w12_11.other W27 (Ne.symm ne25)
  have c42 : own_Ari Z h27 bx12_x4 .byte (List.replicate cp.toNatClampNeg (0 : Int32)) := w12_12.other W27 (Ne.symm ne26)
  have K27 : Keep h0 h27 [] := K12.wr W27 (Or.inr sz2)
  refine own_step st27 ?_
  show own_G p.tables e below _ (T27.setTop (mkF m 26 #[.val (.int p1), .val (.int p2), .val (.int p3), .val (.int p4), .val (.int p5), .val (.int p6), .val (.int cp), .val (.ref b2), .unset, .unset, .unset] []))
  refine own_step (fun t k => XS.aload X27.here hx rfl (hb hby at_26) rfl rfl k) ?_
  show own_G p.tables e below _ (T27.setTop (mkF m 28 #[.val (.int p1), .val (.int p2), .val (.int p3), .val (.int p4), .val (.int p5), .val (.int p6), .val (.int cp), .val (.ref b2), .unset, .unset, .unset] [(.ref b2)]))
  refine own_step (fun t k => XS.iloadN X27.here hx rfl (hb hby at_28) rfl k) ?_
  show own_G p.tables e below _ (T27.setTop (mkF m 29 #[.val (.int p1), .val (.int p2), .val (.int p3), .val (.int p4), .val (.int p5), .val (.int p6), .val (.int cp), .val (.ref b2), .unset, .unset, .unset] [(.int p3), (.ref b2)]))
  obtain ⟨T43, h43, X43, e43, W43, st43⟩ := putF X27 hx hZ hown (host := "") (Or.inl (hw _ (List.mem_of_getElem? (i := 22) rfl))) Via.refl e27 c35 c29 (Or.inl (hw _ (List.mem_of_getElem? (i := 23) rfl))) (hw _ (List.mem_of_getElem? (i := 1) rfl)) (ty := .int) (by decide) rfl rfl (g := (mkF m 29 #[.val (.int p1), .val (.int p2), .val (.int p3), .val (.int p4), .val (.int p5), .val (.int p6), .val (.int cp), .val (.ref b2), .unset, .unset, .unset] [(.int p3), (.ref b2)])) rfl rfl (hb hby at_29)
  have N43 := Fr.snoc X43 N27 ge2
  have c44 : Fld Z h43 b2 "com/example/leafcode/leafcode/ByteDecoder$Run" "bit" "I" (.int p3) := c35.same W43
  have c45 : Exa Z h43 b2 "com/example/leafcode/leafcode/ByteDecoder$Run" := c29.wr W43
  have c46 : Fld Z h43 b2 "com/example/leafcode/leafcode/ByteDecoder$Run" "starts" "[J" (.ref bx12_x1) := c30.other W43 (Or.inr (slot_ne (Or.inr (hw _ (List.mem_of_getElem? (i := 11) rfl))) (Or.inl (hw _ (List.mem_of_getElem? (i := 23) rfl))) (by decide) (t := (.array .long)) (t' := .int) (by decide) (by decide)))
  have c47 : Fld Z h43 b2 "com/example/leafcode/leafcode/ByteDecoder$Run" "passed" "[J" (.ref bx12_x2) := c31.other W43 (Or.inr (slot_ne (Or.inr (hw _ (List.mem_of_getElem? (i := 13) rfl))) (Or.inl (hw _ (List.mem_of_getElem? (i := 23) rfl))) (by decide) (t := (.array .long)) (t' := .int) (by decide) (by decide)))
  have c48 : Fld Z h43 b2 "com/example/leafcode/leafcode/ByteDecoder$Run" "pending" "[I" (.ref bx12_x3) := c32.other W43 (Or.inr (slot_ne (Or.inr (hw _ (List.mem_of_getElem? (i := 16) rfl))) (Or.inl (hw _ (List.mem_of_getElem? (i := 23) rfl))) (by decide) (t := (.array .int)) (t' := .int) (by decide) (by decide)))
  have c49 : Fld Z h43 b2 "com/example/leafcode/leafcode/ByteDecoder$Run" "out" "[B" (.ref bx12_x4) := c33.other W43 (Or.inr (slot_ne (Or.inr (hw _ (List.mem_of_getElem? (i := 19) rfl))) (Or.inl (hw _ (List.mem_of_getElem? (i := 23) rfl))) (by decide) (t := (.array .byte)) (t' := .int) (by decide) (by decide)))
  have c50 : Fld Z h43 b2 "com/example/leafcode/leafcode/ByteDecoder$Run" "start" "I" (.int p2) := c28.other W43 (Or.inr (slot_ne (Or.inl (hw _ (List.mem_of_getElem? (i := 21) rfl))) (Or.inl (hw _ (List.mem_of_getElem? (i := 23) rfl))) (by decide) (t := .int) (t' := .int) (by decide) (by decide)))
  have c52 : Fld Z h43 b2 "com/example/leafcode/leafcode/ByteDecoder$Run" "count" "I" (.int (0 : Int32)) := c36.other W43 (Or.inr (slot_ne (Or.inl (hw _ (List.mem_of_getElem? (i := 25) rfl))) (Or.inl (hw _ (List.mem_of_getElem? (i := 23) rfl))) (by decide) (t := .int) (t' := .int) (by decide) (by decide)))
  have c53 : Fld Z h43 b2 "com/example/leafcode/leafcode/ByteDecoder$Run" "first" "I" (.int (0 : Int32)) := c37.other W43 (Or.inr (slot_ne (Or.inl (hw _ (List.mem_of_getElem? (i := 27) rfl))) (Or.inl (hw _ (List.mem_of_getElem? (i := 23) rfl))) (by decide) (t := .int) (t' := .int) (by decide) (by decide)))
  have c54 : Fld Z h43 b2 "com/example/leafcode/leafcode/ByteDecoder$Run" "recorded" "I" (.int (0 : Int32)) := c38.other W43 (Or.inr (slot_ne (Or.inl (hw _ (List.mem_of_getElem? (i := 29) rfl))) (Or.inl (hw _ (List.mem_of_getElem? (i := 23) rfl))) (by decide) (t := .int) (t' := .int) (by decide) (by decide)))
  have c55 : own_Arj Z h43 bx12_x1 (List.replicate 513 (0 : Int64)) := c39.other W43 (Ne.symm ne23)
  have c56 : own_Arj Z h43 bx12_x2 (List.replicate 513 (0 : Int64)) := c40.other W43 (Ne.symm ne24)
  have c57 : own_Ari Z h43 bx12_x3 .int (List.replicate 57 (0 : Int32)) := c41.other W43 (Ne.symm ne25)
  have c58 : own_Ari Z h43 bx12_x4 .byte (List.replicate cp.toNatClampNeg (0 : Int32)) := c42.other W43 (Ne.symm ne26)
  have K43 : Keep h0 h43 [] := K27.wr W43 (Or.inr sz2)
  refine own_step st43 ?_
  show own_G p.tables e below _ (T43.setTop (mkF m 32 #[.val (.int p1), .val (.int p2), .val (.int p3), .val (.int p4), .val (.int p5), .val (.int p6), .val (.int cp), .val (.ref b2), .unset, .unset, .unset] []))
  refine own_step (fun t k => XS.aload X43.here hx rfl (hb hby at_32) rfl rfl k) ?_
  show own_G p.tables e below _ (T43.setTop (mkF m 34 #[.val (.int p1), .val (.int p2), .val (.int p3), .val (.int p4), .val (.int p5), .val (.int p6), .val (.int cp), .val (.ref b2), .unset, .unset, .unset] [(.ref b2)]))
  refine own_step (fun t k => XS.iloadN X43.here hx rfl (hb hby at_34) rfl k) ?_
  show own_G p.tables e below _ (T43.setTop (mkF m 35 #[.val (.int p1), .val (.int p2), .val (.int p3), .val (.int p4), .val (.int p5), .val (.int p6), .val (.int cp), .val (.ref b2), .unset, .unset, .unset] [(.int p4), (.ref b2)]))
  obtain ⟨T59, h59, X59, e59, W59, st59⟩ := putF X43 hx hZ hown (host := "") (Or.inl (hw _ (List.mem_of_getElem? (i := 24) rfl))) Via.refl e43 c52 c45 (Or.inl (hw _ (List.mem_of_getElem? (i := 25) rfl))) (hw _ (List.mem_of_getElem? (i := 1) rfl)) (ty := .int) (by decide) rfl rfl (g := (mkF m 35 #[.val (.int p1), .val (.int p2), .val (.int p3), .val (.int p4), .val (.int p5), .val (.int p6), .val (.int cp), .val (.ref b2), .unset, .unset, .unset] [(.int p4), (.ref b2)])) rfl rfl (hb hby at_35)
  have N59 := Fr.snoc X59 N43 ge2
  have c60 : Fld Z h59 b2 "com/example/leafcode/leafcode/ByteDecoder$Run" "count" "I" (.int p4) := c52.same W59
  have c61 : Exa Z h59 b2 "com/example/leafcode/leafcode/ByteDecoder$Run" := c45.wr W59
  have c62 : Fld Z h59 b2 "com/example/leafcode/leafcode/ByteDecoder$Run" "starts" "[J" (.ref bx12_x1) := c46.other W59 (Or.inr (slot_ne (Or.inr (hw _ (List.mem_of_getElem? (i := 11) rfl))) (Or.inl (hw _ (List.mem_of_getElem? (i := 25) rfl))) (by decide) (t := (.array .long)) (t' := .int) (by decide) (by decide)))
  have c63 : Fld Z h59 b2 "com/example/leafcode/leafcode/ByteDecoder$Run" "passed" "[J" (.ref bx12_x2) := c47.other W59 (Or.inr (slot_ne (Or.inr (hw _ (List.mem_of_getElem? (i := 13) rfl))) (Or.inl (hw _ (List.mem_of_getElem? (i := 25) rfl))) (by decide) (t := (.array .long)) (t' := .int) (by decide) (by decide)))
  have c64 : Fld Z h59 b2 "com/example/leafcode/leafcode/ByteDecoder$Run" "pending" "[I" (.ref bx12_x3) := c48.other W59 (Or.inr (slot_ne (Or.inr (hw _ (List.mem_of_getElem? (i := 16) rfl))) (Or.inl (hw _ (List.mem_of_getElem? (i := 25) rfl))) (by decide) (t := (.array .int)) (t' := .int) (by decide) (by decide)))
  have c65 : Fld Z h59 b2 "com/example/leafcode/leafcode/ByteDecoder$Run" "out" "[B" (.ref bx12_x4) := c49.other W59 (Or.inr (slot_ne (Or.inr (hw _ (List.mem_of_getElem? (i := 19) rfl))) (Or.inl (hw _ (List.mem_of_getElem? (i := 25) rfl))) (by decide) (t := (.array .byte)) (t' := .int) (by decide) (by decide)))
  have c66 : Fld Z h59 b2 "com/example/leafcode/leafcode/ByteDecoder$Run" "start" "I" (.int p2) := c50.other W59 (Or.inr (slot_ne (Or.inl (hw _ (List.mem_of_getElem? (i := 21) rfl))) (Or.inl (hw _ (List.mem_of_getElem? (i := 25) rfl))) (by decide) (t := .int) (t' := .int) (by decide) (by decide)))
  have c67 : Fld Z h59 b2 "com/example/leafcode/leafcode/ByteDecoder$Run" "bit" "I" (.int p3) := c44.other W59 (Or.inr (slot_ne (Or.inl (hw _ (List.mem_of_getElem? (i := 23) rfl))) (Or.inl (hw _ (List.mem_of_getElem? (i := 25) rfl))) (by decide) (t := .int) (t' := .int) (by decide) (by decide)))
  have c69 : Fld Z h59 b2 "com/example/leafcode/leafcode/ByteDecoder$Run" "first" "I" (.int (0 : Int32)) := c53.other W59 (Or.inr (slot_ne (Or.inl (hw _ (List.mem_of_getElem? (i := 27) rfl))) (Or.inl (hw _ (List.mem_of_getElem? (i := 25) rfl))) (by decide) (t := .int) (t' := .int) (by decide) (by decide)))
  have c70 : Fld Z h59 b2 "com/example/leafcode/leafcode/ByteDecoder$Run" "recorded" "I" (.int (0 : Int32)) := c54.other W59 (Or.inr (slot_ne (Or.inl (hw _ (List.mem_of_getElem? (i := 29) rfl))) (Or.inl (hw _ (List.mem_of_getElem? (i := 25) rfl))) (by decide) (t := .int) (t' := .int) (by decide) (by decide)))
  have c71 : own_Arj Z h59 bx12_x1 (List.replicate 513 (0 : Int64)) := c55.other W59 (Ne.symm ne23)
  have c72 : own_Arj Z h59 bx12_x2 (List.replicate 513 (0 : Int64)) := c56.other W59 (Ne.symm ne24)
  have c73 : own_Ari Z h59 bx12_x3 .int (List.replicate 57 (0 : Int32)) := c57.other W59 (Ne.symm ne25)
  have c74 : own_Ari Z h59 bx12_x4 .byte (List.replicate cp.toNatClampNeg (0 : Int32)) := c58.other W59 (Ne.symm ne26)
  have K59 : Keep h0 h59 [] := K43.wr W59 (Or.inr sz2)
  refine own_step st59 ?_
  show own_G p.tables e below _ (T59.setTop (mkF m 38 #[.val (.int p1), .val (.int p2), .val (.int p3), .val (.int p4), .val (.int p5), .val (.int p6), .val (.int cp), .val (.ref b2), .unset, .unset, .unset] []))
  refine own_step (fun t k => XS.aload X59.here hx rfl (hb hby at_38) rfl rfl k) ?_
  show own_G p.tables e below _ (T59.setTop (mkF m 40 #[.val (.int p1), .val (.int p2), .val (.int p3), .val (.int p4), .val (.int p5), .val (.int p6), .val (.int cp), .val (.ref b2), .unset, .unset, .unset] [(.ref b2)]))
  refine own_step (fun t k => XS.iload X59.here hx rfl (hb hby at_40) rfl k) ?_
  show own_G p.tables e below _ (T59.setTop (mkF m 42 #[.val (.int p1), .val (.int p2), .val (.int p3), .val (.int p4), .val (.int p5), .val (.int p6), .val (.int cp), .val (.ref b2), .unset, .unset, .unset] [(.int p5), (.ref b2)]))
  obtain ⟨T75, h75, X75, e75, W75, st75⟩ := putF X59 hx hZ hown (host := "") (Or.inl (hw _ (List.mem_of_getElem? (i := 26) rfl))) Via.refl e59 c69 c61 (Or.inl (hw _ (List.mem_of_getElem? (i := 27) rfl))) (hw _ (List.mem_of_getElem? (i := 1) rfl)) (ty := .int) (by decide) rfl rfl (g := (mkF m 42 #[.val (.int p1), .val (.int p2), .val (.int p3), .val (.int p4), .val (.int p5), .val (.int p6), .val (.int cp), .val (.ref b2), .unset, .unset, .unset] [(.int p5), (.ref b2)])) rfl rfl (hb hby at_42)
  have N75 := Fr.snoc X75 N59 ge2
  have c76 : Fld Z h75 b2 "com/example/leafcode/leafcode/ByteDecoder$Run" "first" "I" (.int p5) := c69.same W75
  have c77 : Exa Z h75 b2 "com/example/leafcode/leafcode/ByteDecoder$Run" := c61.wr W75
  have c78 : Fld Z h75 b2 "com/example/leafcode/leafcode/ByteDecoder$Run" "starts" "[J" (.ref bx12_x1) := c62.other W75 (Or.inr (slot_ne (Or.inr (hw _ (List.mem_of_getElem? (i := 11) rfl))) (Or.inl (hw _ (List.mem_of_getElem? (i := 27) rfl))) (by decide) (t := (.array .long)) (t' := .int) (by decide) (by decide)))
  have c79 : Fld Z h75 b2 "com/example/leafcode/leafcode/ByteDecoder$Run" "passed" "[J" (.ref bx12_x2) := c63.other W75 (Or.inr (slot_ne (Or.inr (hw _ (List.mem_of_getElem? (i := 13) rfl))) (Or.inl (hw _ (List.mem_of_getElem? (i := 27) rfl))) (by decide) (t := (.array .long)) (t' := .int) (by decide) (by decide)))
  have c80 : Fld Z h75 b2 "com/example/leafcode/leafcode/ByteDecoder$Run" "pending" "[I" (.ref bx12_x3) := c64.other W75 (Or.inr (slot_ne (Or.inr (hw _ (List.mem_of_getElem? (i := 16) rfl))) (Or.inl (hw _ (List.mem_of_getElem? (i := 27) rfl))) (by decide) (t := (.array .int)) (t' := .int) (by decide) (by decide)))
  have c81 : Fld Z h75 b2 "com/example/leafcode/leafcode/ByteDecoder$Run" "out" "[B" (.ref bx12_x4) := c65.other W75 (Or.inr (slot_ne (Or.inr (hw _ (List.mem_of_getElem? (i := 19) rfl))) (Or.inl (hw _ (List.mem_of_getElem? (i := 27) rfl))) (by decide) (t := (.array .byte)) (t' := .int) (by decide) (by decide)))
  have c82 : Fld Z h75 b2 "com/example/leafcode/leafcode/ByteDecoder$Run" "start" "I" (.int p2) := c66.other W75 (Or.inr (slot_ne (Or.inl (hw _ (List.mem_of_getElem? (i := 21) rfl))) (Or.inl (hw _ (List.mem_of_getElem? (i := 27) rfl))) (by decide) (t := .int) (t' := .int) (by decide) (by decide)))
  have c83 : Fld Z h75 b2 "com/example/leafcode/leafcode/ByteDecoder$Run" "bit" "I" (.int p3) := c67.other W75 (Or.inr (slot_ne (Or.inl (hw _ (List.mem_of_getElem? (i := 23) rfl))) (Or.inl (hw _ (List.mem_of_getElem? (i := 27) rfl))) (by decide) (t := .int) (t' := .int) (by decide) (by decide)))
  have c84 : Fld Z h75 b2 "com/example/leafcode/leafcode/ByteDecoder$Run" "count" "I" (.int p4) := c60.other W75 (Or.inr (slot_ne (Or.inl (hw _ (List.mem_of_getElem? (i := 25) rfl))) (Or.inl (hw _ (List.mem_of_getElem? (i := 27) rfl))) (by decide) (t := .int) (t' := .int) (by decide) (by decide)))
  have c86 : Fld Z h75 b2 "com/example/leafcode/leafcode/ByteDecoder$Run" "recorded" "I" (.int (0 : Int32)) := c70.other W75 (Or.inr (slot_ne (Or.inl (hw _ (List.mem_of_getElem? (i := 29) rfl))) (Or.inl (hw _ (List.mem_of_getElem? (i := 27) rfl))) (by decide) (t := .int) (t' := .int) (by decide) (by decide)))
  have c87 : own_Arj Z h75 bx12_x1 (List.replicate 513 (0 : Int64)) := c71.other W75 (Ne.symm ne23)
  have c88 : own_Arj Z h75 bx12_x2 (List.replicate 513 (0 : Int64)) := c72.other W75 (Ne.symm ne24)
  have c89 : own_Ari Z h75 bx12_x3 .int (List.replicate 57 (0 : Int32)) := c73.other W75 (Ne.symm ne25)
  have c90 : own_Ari Z h75 bx12_x4 .byte (List.replicate cp.toNatClampNeg (0 : Int32)) := c74.other W75 (Ne.symm ne26)
  have K75 : Keep h0 h75 [] := K59.wr W75 (Or.inr sz2)
  refine own_step st75 ?_
  show own_G p.tables e below _ (T75.setTop (mkF m 45 #[.val (.int p1), .val (.int p2), .val (.int p3), .val (.int p4), .val (.int p5), .val (.int p6), .val (.int cp), .val (.ref b2), .unset, .unset, .unset] []))
  refine own_step (fun t k => XS.aload X75.here hx rfl (hb hby at_45) rfl rfl k) ?_
  show own_G p.tables e below _ (T75.setTop (mkF m 47 #[.val (.int p1), .val (.int p2), .val (.int p3), .val (.int p4), .val (.int p5), .val (.int p6), .val (.int cp), .val (.ref b2), .unset, .unset, .unset] [(.ref b2)]))
  refine own_step (fun t k => XS.iload X75.here hx rfl (hb hby at_47) rfl k) ?_
  show own_G p.tables e below _ (T75.setTop (mkF m 49 #[.val (.int p1), .val (.int p2), .val (.int p3), .val (.int p4), .val (.int p5), .val (.int p6), .val (.int cp), .val (.ref b2), .unset, .unset, .unset] [(.int p6), (.ref b2)]))
  obtain ⟨T91, h91, X91, e91, W91, st91⟩ := putF X75 hx hZ hown (host := "") (Or.inl (hw _ (List.mem_of_getElem? (i := 28) rfl))) Via.refl e75 c86 c77 (Or.inl (hw _ (List.mem_of_getElem? (i := 29) rfl))) (hw _ (List.mem_of_getElem? (i := 1) rfl)) (ty := .int) (by decide) rfl rfl (g := (mkF m 49 #[.val (.int p1), .val (.int p2), .val (.int p3), .val (.int p4), .val (.int p5), .val (.int p6), .val (.int cp), .val (.ref b2), .unset, .unset, .unset] [(.int p6), (.ref b2)])) rfl rfl (hb hby at_49)
  have N91 := Fr.snoc X91 N75 ge2
  have c92 : Fld Z h91 b2 "com/example/leafcode/leafcode/ByteDecoder$Run" "recorded" "I" (.int p6) := c86.same W91
  have c93 : Exa Z h91 b2 "com/example/leafcode/leafcode/ByteDecoder$Run" := c77.wr W91
  have c94 : Fld Z h91 b2 "com/example/leafcode/leafcode/ByteDecoder$Run" "starts" "[J" (.ref bx12_x1) := c78.other W91 (Or.inr (slot_ne (Or.inr (hw _ (List.mem_of_getElem? (i := 11) rfl))) (Or.inl (hw _ (List.mem_of_getElem? (i := 29) rfl))) (by decide) (t := (.array .long)) (t' := .int) (by decide) (by decide)))
  have c95 : Fld Z h91 b2 "com/example/leafcode/leafcode/ByteDecoder$Run" "passed" "[J" (.ref bx12_x2) := c79.other W91 (Or.inr (slot_ne (Or.inr (hw _ (List.mem_of_getElem? (i := 13) rfl))) (Or.inl (hw _ (List.mem_of_getElem? (i := 29) rfl))) (by decide) (t := (.array .long)) (t' := .int) (by decide) (by decide)))
  have c96 : Fld Z h91 b2 "com/example/leafcode/leafcode/ByteDecoder$Run" "pending" "[I" (.ref bx12_x3) := c80.other W91 (Or.inr (slot_ne (Or.inr (hw _ (List.mem_of_getElem? (i := 16) rfl))) (Or.inl (hw _ (List.mem_of_getElem? (i := 29) rfl))) (by decide) (t := (.array .int)) (t' := .int) (by decide) (by decide)))
  have c97 : Fld Z h91 b2 "com/example/leafcode/leafcode/ByteDecoder$Run" "out" "[B" (.ref bx12_x4) := c81.other W91 (Or.inr (slot_ne (Or.inr (hw _ (List.mem_of_getElem? (i := 19) rfl))) (Or.inl (hw _ (List.mem_of_getElem? (i := 29) rfl))) (by decide) (t := (.array .byte)) (t' := .int) (by decide) (by decide)))
  have c98 : Fld Z h91 b2 "com/example/leafcode/leafcode/ByteDecoder$Run" "start" "I" (.int p2) := c82.other W91 (Or.inr (slot_ne (Or.inl (hw _ (List.mem_of_getElem? (i := 21) rfl))) (Or.inl (hw _ (List.mem_of_getElem? (i := 29) rfl))) (by decide) (t := .int) (t' := .int) (by decide) (by decide)))
  have c99 : Fld Z h91 b2 "com/example/leafcode/leafcode/ByteDecoder$Run" "bit" "I" (.int p3) := c83.other W91 (Or.inr (slot_ne (Or.inl (hw _ (List.mem_of_getElem? (i := 23) rfl))) (Or.inl (hw _ (List.mem_of_getElem? (i := 29) rfl))) (by decide) (t := .int) (t' := .int) (by decide) (by decide)))
  have c100 : Fld Z h91 b2 "com/example/leafcode/leafcode/ByteDecoder$Run" "count" "I" (.int p4) := c84.other W91 (Or.inr (slot_ne (Or.inl (hw _ (List.mem_of_getElem? (i := 25) rfl))) (Or.inl (hw _ (List.mem_of_getElem? (i := 29) rfl))) (by decide) (t := .int) (t' := .int) (by decide) (by decide)))
  have c101 : Fld Z h91 b2 "com/example/leafcode/leafcode/ByteDecoder$Run" "first" "I" (.int p5) := c76.other W91 (Or.inr (slot_ne (Or.inl (hw _ (List.mem_of_getElem? (i := 27) rfl))) (Or.inl (hw _ (List.mem_of_getElem? (i := 29) rfl))) (by decide) (t := .int) (t' := .int) (by decide) (by decide)))
  have c103 : own_Arj Z h91 bx12_x1 (List.replicate 513 (0 : Int64)) := c87.other W91 (Ne.symm ne23)
  have c104 : own_Arj Z h91 bx12_x2 (List.replicate 513 (0 : Int64)) := c88.other W91 (Ne.symm ne24)
  have c105 : own_Ari Z h91 bx12_x3 .int (List.replicate 57 (0 : Int32)) := c89.other W91 (Ne.symm ne25)
  have c106 : own_Ari Z h91 bx12_x4 .byte (List.replicate cp.toNatClampNeg (0 : Int32)) := c90.other W91 (Ne.symm ne26)
  have K91 : Keep h0 h91 [] := K75.wr W91 (Or.inr sz2)
  refine own_step st91 ?_
  show own_G p.tables e below _ (T91.setTop (mkF m 52 #[.val (.int p1), .val (.int p2), .val (.int p3), .val (.int p4), .val (.int p5), .val (.int p6), .val (.int cp), .val (.ref b2), .unset, .unset, .unset] []))
  refine own_step (fun t k => XS.iloadN X91.here hx rfl (hb hby at_52) rfl k) ?_
  show own_G p.tables e below _ (T91.setTop (mkF m 53 #[.val (.int p1), .val (.int p2), .val (.int p3), .val (.int p4), .val (.int p5), .val (.int p6), .val (.int cp), .val (.ref b2), .unset, .unset, .unset] [(.int p4)]))
  refine own_step (fun t k => XS.i2b X91.here hx rfl (hb hby at_53) rfl k) ?_
  show own_G p.tables e below _ (T91.setTop (mkF m 54 #[.val (.int p1), .val (.int p2), .val (.int p3), .val (.int p4), .val (.int p5), .val (.int p6), .val (.int cp), .val (.ref b2), .unset, .unset, .unset] [(.int (p4.toInt8.toInt32))]))
  refine own_nm ((p4.toInt8.toInt32) : Int32) (fun mk => T91.setTop (mkF m 54 #[.val (.int p1), .val (.int p2), .val (.int p3), .val (.int p4), .val (.int p5), .val (.int p6), .val (.int cp), .val (.ref b2), .unset, .unset, .unset] [(.int mk)])) ?_
  intro mk hd_mk
  show own_G p.tables e below _ (T91.setTop (mkF m 54 #[.val (.int p1), .val (.int p2), .val (.int p3), .val (.int p4), .val (.int p5), .val (.int p6), .val (.int cp), .val (.ref b2), .unset, .unset, .unset] [(.int mk)]))
  refine own_step (fun t k => XS.istore X91.here hx rfl (hb hby at_54) rfl (l' := #[.val (.int p1), .val (.int p2), .val (.int p3), .val (.int p4), .val (.int p5), .val (.int p6), .val (.int cp), .val (.ref b2), .val (.int mk), .unset, .unset]) rfl k) ?_
  show own_G p.tables e below _ (T91.setTop (mkF m 56 #[.val (.int p1), .val (.int p2), .val (.int p3), .val (.int p4), .val (.int p5), .val (.int p6), .val (.int cp), .val (.ref b2), .val (.int mk), .unset, .unset] []))
  refine own_step (fun t k => XS.aload X91.here hx rfl (hb hby at_56) rfl rfl k) ?_
  show own_G p.tables e below _ (T91.setTop (mkF m 58 #[.val (.int p1), .val (.int p2), .val (.int p3), .val (.int p4), .val (.int p5), .val (.int p6), .val (.int cp), .val (.ref b2), .val (.int mk), .unset, .unset] [(.ref b2)]))
  obtain ⟨T108, X108, e108, st108⟩ := getF X91 hx hZ hown (host := "") (Or.inl (hw _ (List.mem_of_getElem? (i := 30) rfl))) Via.refl e91 c97 (g := (mkF m 58 #[.val (.int p1), .val (.int p2), .val (.int p3), .val (.int p4), .val (.int p5), .val (.int p6), .val (.int cp), .val (.ref b2), .val (.int mk), .unset, .unset] [(.ref b2)])) rfl rfl (hb hby at_58)
  refine own_step st108 ?_
  show own_G p.tables e below _ (T108.setTop (mkF m 61 #[.val (.int p1), .val (.int p2), .val (.int p3), .val (.int p4), .val (.int p5), .val (.int p6), .val (.int cp), .val (.ref b2), .val (.int mk), .unset, .unset] [(.ref bx12_x4)]))
  refine own_step (fun t k => XS.iconst X108.here hx rfl (hb hby at_61) k) ?_
  show own_G p.tables e below _ (T108.setTop (mkF m 62 #[.val (.int p1), .val (.int p2), .val (.int p3), .val (.int p4), .val (.int p5), .val (.int p6), .val (.int cp), .val (.ref b2), .val (.int mk), .unset, .unset] [(.int (0 : Int32)), (.ref bx12_x4)]))
  refine own_step (fun t k => XS.iload X108.here hx rfl (hb hby at_62) rfl k) ?_
  show own_G p.tables e below _ (T108.setTop (mkF m 64 #[.val (.int p1), .val (.int p2), .val (.int p3), .val (.int p4), .val (.int p5), .val (.int p6), .val (.int cp), .val (.ref b2), .val (.int mk), .unset, .unset] [(.int mk), (.int (0 : Int32)), (.ref bx12_x4)]))
  obtain ⟨T109, h109, X109, e109, W109, c109, st109⟩ := own_bastore X108 hx hZ e108 c106 (own_inb (by decide) (by rw [List.length_replicate, hd_cp]; exact own_cap3 _)) (g := (mkF m 64 #[.val (.int p1), .val (.int p2), .val (.int p3), .val (.int p4), .val (.int p5), .val (.int p6), .val (.int cp), .val (.ref b2), .val (.int mk), .unset, .unset] [(.int mk), (.int (0 : Int32)), (.ref bx12_x4)])) rfl rfl (hb hby at_64)
  have N109 := Fr.snoc X109 N91 ge12_3
  have c110 : own_Ari Z h109 bx12_x4 .byte ((List.replicate cp.toNatClampNeg (0 : Int32)).set 0 (nar .byte mk)) := c109
  have c111 : Exa Z h109 b2 "com/example/leafcode/leafcode/ByteDecoder$Run" := c93.wr W109
  have c112 : Fld Z h109 b2 "com/example/leafcode/leafcode/ByteDecoder$Run" "starts" "[J" (.ref bx12_x1) := c94.other W109 (Or.inl ne26)
  have c113 : Fld Z h109 b2 "com/example/leafcode/leafcode/ByteDecoder$Run" "passed" "[J" (.ref bx12_x2) := c95.other W109 (Or.inl ne26)
  have c114 : Fld Z h109 b2 "com/example/leafcode/leafcode/ByteDecoder$Run" "pending" "[I" (.ref bx12_x3) := c96.other W109 (Or.inl ne26)
  have c115 : Fld Z h109 b2 "com/example/leafcode/leafcode/ByteDecoder$Run" "out" "[B" (.ref bx12_x4) := c97.other W109 (Or.inl ne26)
  have c116 : Fld Z h109 b2 "com/example/leafcode/leafcode/ByteDecoder$Run" "start" "I" (.int p2) := c98.other W109 (Or.inl ne26)
  have c117 : Fld Z h109 b2 "com/example/leafcode/leafcode/ByteDecoder$Run" "bit" "I" (.int p3) := c99.other W109 (Or.inl ne26)
  have c118 : Fld Z h109 b2 "com/example/leafcode/leafcode/ByteDecoder$Run" "count" "I" (.int p4) := c100.other W109 (Or.inl ne26)
  have c119 : Fld Z h109 b2 "com/example/leafcode/leafcode/ByteDecoder$Run" "first" "I" (.int p5) := c101.other W109 (Or.inl ne26)
  have c120 : Fld Z h109 b2 "com/example/leafcode/leafcode/ByteDecoder$Run" "recorded" "I" (.int p6) := c92.other W109 (Or.inl ne26)
  have c121 : own_Arj Z h109 bx12_x1 (List.replicate 513 (0 : Int64)) := c103.other W109 xn12_2
  have c122 : own_Arj Z h109 bx12_x2 (List.replicate 513 (0 : Int64)) := c104.other W109 xn12_4
  have c123 : own_Ari Z h109 bx12_x3 .int (List.replicate 57 (0 : Int32)) := c105.other W109 xn12_5
  have K109 : Keep h0 h109 [] := K91.wr W109 (Or.inr sz12_3)
  refine own_step st109 ?_
  show own_G p.tables e below _ (T109.setTop (mkF m 65 #[.val (.int p1), .val (.int p2), .val (.int p3), .val (.int p4), .val (.int p5), .val (.int p6), .val (.int cp), .val (.ref b2), .val (.int mk), .unset, .unset] []))
  refine own_step (fun t k => XS.iloadN X109.here hx rfl (hb hby at_65) rfl k) ?_
  show own_G p.tables e below _ (T109.setTop (mkF m 66 #[.val (.int p1), .val (.int p2), .val (.int p3), .val (.int p4), .val (.int p5), .val (.int p6), .val (.int cp), .val (.ref b2), .val (.int mk), .unset, .unset] [(.int p2)]))
  refine own_step (fun t k => XS.i2l X109.here hx rfl (hb hby at_66) rfl k) ?_
  show own_G p.tables e below _ (T109.setTop (mkF m 67 #[.val (.int p1), .val (.int p2), .val (.int p3), .val (.int p4), .val (.int p5), .val (.int p6), .val (.int cp), .val (.ref b2), .val (.int mk), .unset, .unset] [(.long (p2.toInt64))]))
  refine own_step (fun t k => XS.bipush X109.here hx rfl (hb hby at_67) k) ?_
  show own_G p.tables e below _ (T109.setTop (mkF m 69 #[.val (.int p1), .val (.int p2), .val (.int p3), .val (.int p4), .val (.int p5), .val (.int p6), .val (.int cp), .val (.ref b2), .val (.int mk), .unset, .unset] [(.int (32 : Int32)), (.long (p2.toInt64))]))
  refine own_step (fun t k => XS.lshl X109.here hx rfl (hb hby at_69) rfl k) ?_
  show own_G p.tables e below _ (T109.setTop (mkF m 70 #[.val (.int p1), .val (.int p2), .val (.int p3), .val (.int p4), .val (.int p5), .val (.int p6), .val (.int cp), .val (.ref b2), .val (.int mk), .unset, .unset] [(.long ((p2.toInt64) <<< ((32 : Int32) &&& 0x3f).toInt64))]))
  refine own_step (fun t k => XS.iload X109.here hx rfl (hb hby at_70) rfl k) ?_
  show own_G p.tables e below _ (T109.setTop (mkF m 72 #[.val (.int p1), .val (.int p2), .val (.int p3), .val (.int p4), .val (.int p5), .val (.int p6), .val (.int cp), .val (.ref b2), .val (.int mk), .unset, .unset] [(.int p6), (.long ((p2.toInt64) <<< ((32 : Int32) &&& 0x3f).toInt64))]))
  refine own_step (fun t k => XS.i2l X109.here hx rfl (hb hby at_72) rfl k) ?_
  show own_G p.tables e below _ (T109.setTop (mkF m 73 #[.val (.int p1), .val (.int p2), .val (.int p3), .val (.int p4), .val (.int p5), .val (.int p6), .val (.int cp), .val (.ref b2), .val (.int mk), .unset, .unset] [(.long (p6.toInt64)), (.long ((p2.toInt64) <<< ((32 : Int32) &&& 0x3f).toInt64))]))
  refine own_step (X109.ldc2Long hx hown (mvT hZ (hw _ (List.mem_of_getElem? (i := 31) rfl))) (g := (mkF m 73 #[.val (.int p1), .val (.int p2), .val (.int p3), .val (.int p4), .val (.int p5), .val (.int p6), .val (.int cp), .val (.ref b2), .val (.int mk), .unset, .unset] [(.long (p6.toInt64)), (.long ((p2.toInt64) <<< ((32 : Int32) &&& 0x3f).toInt64))])) rfl (hb hby at_73)) ?_
  show own_G p.tables e below _ (T109.setTop (mkF m 76 #[.val (.int p1), .val (.int p2), .val (.int p3), .val (.int p4), .val (.int p5), .val (.int p6), .val (.int cp), .val (.ref b2), .val (.int mk), .unset, .unset] [(.long (4294967295 : Int64)), (.long (p6.toInt64)), (.long ((p2.toInt64) <<< ((32 : Int32) &&& 0x3f).toInt64))]))
  refine own_step (fun t k => XS.land X109.here hx rfl (hb hby at_76) rfl k) ?_
  show own_G p.tables e below _ (T109.setTop (mkF m 77 #[.val (.int p1), .val (.int p2), .val (.int p3), .val (.int p4), .val (.int p5), .val (.int p6), .val (.int cp), .val (.ref b2), .val (.int mk), .unset, .unset] [(.long ((p6.toInt64) &&& (4294967295 : Int64))), (.long ((p2.toInt64) <<< ((32 : Int32) &&& 0x3f).toInt64))]))
  refine own_step (fun t k => XS.lor X109.here hx rfl (hb hby at_77) rfl k) ?_
  show own_G p.tables e below _ (T109.setTop (mkF m 78 #[.val (.int p1), .val (.int p2), .val (.int p3), .val (.int p4), .val (.int p5), .val (.int p6), .val (.int cp), .val (.ref b2), .val (.int mk), .unset, .unset] [(.long (((p2.toInt64) <<< ((32 : Int32) &&& 0x3f).toInt64) ||| ((p6.toInt64) &&& (4294967295 : Int64))))]))
  refine own_nm ((((p2.toInt64) <<< ((32 : Int32) &&& 0x3f).toInt64) ||| ((p6.toInt64) &&& (4294967295 : Int64))) : Int64) (fun sm => T109.setTop (mkF m 78 #[.val (.int p1), .val (.int p2), .val (.int p3), .val (.int p4), .val (.int p5), .val (.int p6), .val (.int cp), .val (.ref b2), .val (.int mk), .unset, .unset] [(.long sm)])) ?_
  intro sm hd_sm
  show own_G p.tables e below _ (T109.setTop (mkF m 78 #[.val (.int p1), .val (.int p2), .val (.int p3), .val (.int p4), .val (.int p5), .val (.int p6), .val (.int cp), .val (.ref b2), .val (.int mk), .unset, .unset] [(.long sm)]))
  refine own_step (fun t k => XS.lstore X109.here hx rfl (hb hby at_78) rfl (l' := #[.val (.int p1), .val (.int p2), .val (.int p3), .val (.int p4), .val (.int p5), .val (.int p6), .val (.int cp), .val (.ref b2), .val (.int mk), .val (.long sm), .second]) rfl k) ?_
  show own_G p.tables e below _ (T109.setTop (mkF m 80 #[.val (.int p1), .val (.int p2), .val (.int p3), .val (.int p4), .val (.int p5), .val (.int p6), .val (.int cp), .val (.ref b2), .val (.int mk), .val (.long sm), .second] []))
  refine own_step (fun t k => XS.aload X109.here hx rfl (hb hby at_80) rfl rfl k) ?_
  show own_G p.tables e below _ (T109.setTop (mkF m 82 #[.val (.int p1), .val (.int p2), .val (.int p3), .val (.int p4), .val (.int p5), .val (.int p6), .val (.int cp), .val (.ref b2), .val (.int mk), .val (.long sm), .second] [(.ref b2)]))
  obtain ⟨T126, X126, e126, st126⟩ := getF X109 hx hZ hown (host := "") (Or.inl (hw _ (List.mem_of_getElem? (i := 32) rfl))) Via.refl e109 c112 (g := (mkF m 82 #[.val (.int p1), .val (.int p2), .val (.int p3), .val (.int p4), .val (.int p5), .val (.int p6), .val (.int cp), .val (.ref b2), .val (.int mk), .val (.long sm), .second] [(.ref b2)])) rfl rfl (hb hby at_82)
  refine own_step st126 ?_
  show own_G p.tables e below _ (T126.setTop (mkF m 85 #[.val (.int p1), .val (.int p2), .val (.int p3), .val (.int p4), .val (.int p5), .val (.int p6), .val (.int cp), .val (.ref b2), .val (.int mk), .val (.long sm), .second] [(.ref bx12_x1)]))
  refine own_step (fun t k => XS.iconst X126.here hx rfl (hb hby at_85) k) ?_
  show own_G p.tables e below _ (T126.setTop (mkF m 86 #[.val (.int p1), .val (.int p2), .val (.int p3), .val (.int p4), .val (.int p5), .val (.int p6), .val (.int cp), .val (.ref b2), .val (.int mk), .val (.long sm), .second] [(.int (0 : Int32)), (.ref bx12_x1)]))
  refine own_step (fun t k => XS.lload X126.here hx rfl (hb hby at_86) rfl k) ?_
  show own_G p.tables e below _ (T126.setTop (mkF m 88 #[.val (.int p1), .val (.int p2), .val (.int p3), .val (.int p4), .val (.int p5), .val (.int p6), .val (.int cp), .val (.ref b2), .val (.int mk), .val (.long sm), .second] [(.long sm), (.int (0 : Int32)), (.ref bx12_x1)]))
  obtain ⟨T127, h127, X127, e127, W127, c127, st127⟩ := own_lastore X126 hx hZ e126 c121 (own_inb (by decide) (by show 0 < _; simp)) (g := (mkF m 88 #[.val (.int p1), .val (.int p2), .val (.int p3), .val (.int p4), .val (.int p5), .val (.int p6), .val (.int cp), .val (.ref b2), .val (.int mk), .val (.long sm), .second] [(.long sm), (.int (0 : Int32)), (.ref bx12_x1)])) rfl rfl (hb hby at_88)
  have N127 := Fr.snoc X127 N109 ge12_0
  have c128 : own_Arj Z h127 bx12_x1 ((List.replicate 513 (0 : Int64)).set 0 sm) := c127
  have c129 : Exa Z h127 b2 "com/example/leafcode/leafcode/ByteDecoder$Run" := c111.wr W127
  have c130 : Fld Z h127 b2 "com/example/leafcode/leafcode/ByteDecoder$Run" "starts" "[J" (.ref bx12_x1) := c112.other W127 (Or.inl ne23)
  have c131 : Fld Z h127 b2 "com/example/leafcode/leafcode/ByteDecoder$Run" "passed" "[J" (.ref bx12_x2) := c113.other W127 (Or.inl ne23)
  have c132 : Fld Z h127 b2 "com/example/leafcode/leafcode/ByteDecoder$Run" "pending" "[I" (.ref bx12_x3) := c114.other W127 (Or.inl ne23)
  have c133 : Fld Z h127 b2 "com/example/leafcode/leafcode/ByteDecoder$Run" "out" "[B" (.ref bx12_x4) := c115.other W127 (Or.inl ne23)
  have c134 : Fld Z h127 b2 "com/example/leafcode/leafcode/ByteDecoder$Run" "start" "I" (.int p2) := c116.other W127 (Or.inl ne23)
  have c135 : Fld Z h127 b2 "com/example/leafcode/leafcode/ByteDecoder$Run" "bit" "I" (.int p3) := c117.other W127 (Or.inl ne23)
  have c136 : Fld Z h127 b2 "com/example/leafcode/leafcode/ByteDecoder$Run" "count" "I" (.int p4) := c118.other W127 (Or.inl ne23)
  have c137 : Fld Z h127 b2 "com/example/leafcode/leafcode/ByteDecoder$Run" "first" "I" (.int p5) := c119.other W127 (Or.inl ne23)
  have c138 : Fld Z h127 b2 "com/example/leafcode/leafcode/ByteDecoder$Run" "recorded" "I" (.int p6) := c120.other W127 (Or.inl ne23)
  have c140 : own_Arj Z h127 bx12_x2 (List.replicate 513 (0 : Int64)) := c122.other W127 (Ne.symm xn12_0)
  have c141 : own_Ari Z h127 bx12_x3 .int (List.replicate 57 (0 : Int32)) := c123.other W127 (Ne.symm xn12_1)
  have c142 : own_Ari Z h127 bx12_x4 .byte ((List.replicate cp.toNatClampNeg (0 : Int32)).set 0 (nar .byte mk)) := c110.other W127 (Ne.symm xn12_2)
  have K127 : Keep h0 h127 [] := K109.wr W127 (Or.inr sz12_0)
  refine own_step st127 ?_
  show own_G p.tables e below _ (T127.setTop (mkF m 89 #[.val (.int p1), .val (.int p2), .val (.int p3), .val (.int p4), .val (.int p5), .val (.int p6), .val (.int cp), .val (.ref b2), .val (.int mk), .val (.long sm), .second] []))
  refine own_step (fun t k => XS.aload X127.here hx rfl (hb hby at_89) rfl rfl k) ?_
  show own_G p.tables e below _ (T127.setTop (mkF m 91 #[.val (.int p1), .val (.int p2), .val (.int p3), .val (.int p4), .val (.int p5), .val (.int p6), .val (.int cp), .val (.ref b2), .val (.int mk), .val (.long sm), .second] [(.ref b2)]))
  obtain ⟨T143, X143, e143, st143⟩ := getF X127 hx hZ hown (host := "") (Or.inl (hw _ (List.mem_of_getElem? (i := 33) rfl))) Via.refl e127 c131 (g := (mkF m 91 #[.val (.int p1), .val (.int p2), .val (.int p3), .val (.int p4), .val (.int p5), .val (.int p6), .val (.int cp), .val (.ref b2), .val (.int mk), .val (.long sm), .second] [(.ref b2)])) rfl rfl (hb hby at_91)
  refine own_step st143 ?_
  show own_G p.tables e below _ (T143.setTop (mkF m 94 #[.val (.int p1), .val (.int p2), .val (.int p3), .val (.int p4), .val (.int p5), .val (.int p6), .val (.int cp), .val (.ref b2), .val (.int mk), .val (.long sm), .second] [(.ref bx12_x2)]))
  refine own_step (fun t k => XS.iconst X143.here hx rfl (hb hby at_94) k) ?_
  show own_G p.tables e below _ (T143.setTop (mkF m 95 #[.val (.int p1), .val (.int p2), .val (.int p3), .val (.int p4), .val (.int p5), .val (.int p6), .val (.int cp), .val (.ref b2), .val (.int mk), .val (.long sm), .second] [(.int (0 : Int32)), (.ref bx12_x2)]))
  refine own_step (fun t k => XS.lload X143.here hx rfl (hb hby at_95) rfl k) ?_
  show own_G p.tables e below _ (T143.setTop (mkF m 97 #[.val (.int p1), .val (.int p2), .val (.int p3), .val (.int p4), .val (.int p5), .val (.int p6), .val (.int cp), .val (.ref b2), .val (.int mk), .val (.long sm), .second] [(.long sm), (.int (0 : Int32)), (.ref bx12_x2)]))
  refine own_step (X143.ldc2Long hx hown (mvT hZ (hw _ (List.mem_of_getElem? (i := 34) rfl))) (g := (mkF m 97 #[.val (.int p1), .val (.int p2), .val (.int p3), .val (.int p4), .val (.int p5), .val (.int p6), .val (.int cp), .val (.ref b2), .val (.int mk), .val (.long sm), .second] [(.long sm), (.int (0 : Int32)), (.ref bx12_x2)])) rfl (hb hby at_97)) ?_
  show own_G p.tables e below _ (T143.setTop (mkF m 100 #[.val (.int p1), .val (.int p2), .val (.int p3), .val (.int p4), .val (.int p5), .val (.int p6), .val (.int cp), .val (.ref b2), .val (.int mk), .val (.long sm), .second] [(.long (-1 : Int64)), (.long sm), (.int (0 : Int32)), (.ref bx12_x2)]))
  refine own_step (fun t k => XS.lxor X143.here hx rfl (hb hby at_100) rfl k) ?_
  show own_G p.tables e below _ (T143.setTop (mkF m 101 #[.val (.int p1), .val (.int p2), .val (.int p3), .val (.int p4), .val (.int p5), .val (.int p6), .val (.int cp), .val (.ref b2), .val (.int mk), .val (.long sm), .second] [(.long (sm ^^^ (-1 : Int64))), (.int (0 : Int32)), (.ref bx12_x2)]))
  obtain ⟨T144, h144, X144, e144, W144, c144, st144⟩ := own_lastore X143 hx hZ e143 c140 (own_inb (by decide) (by show 0 < _; simp)) (g := (mkF m 101 #[.val (.int p1), .val (.int p2), .val (.int p3), .val (.int p4), .val (.int p5), .val (.int p6), .val (.int cp), .val (.ref b2), .val (.int mk), .val (.long sm), .second] [(.long (sm ^^^ (-1 : Int64))), (.int (0 : Int32)), (.ref bx12_x2)])) rfl rfl (hb hby at_101)
  have N144 := Fr.snoc X144 N127 ge12_1
  have c145 : own_Arj Z h144 bx12_x2 ((List.replicate 513 (0 : Int64)).set 0 (sm ^^^ (-1 : Int64))) := c144
  have c146 : Exa Z h144 b2 "com/example/leafcode/leafcode/ByteDecoder$Run" := c129.wr W144
  have c147 : Fld Z h144 b2 "com/example/leafcode/leafcode/ByteDecoder$Run" "starts" "[J" (.ref bx12_x1) := c130.other W144 (Or.inl ne24)
  have c148 : Fld Z h144 b2 "com/example/leafcode/leafcode/ByteDecoder$Run" "passed" "[J" (.ref bx12_x2) := c131.other W144 (Or.inl ne24)
  have c149 : Fld Z h144 b2 "com/example/leafcode/leafcode/ByteDecoder$Run" "pending" "[I" (.ref bx12_x3) := c132.other W144 (Or.inl ne24)
  have c150 : Fld Z h144 b2 "com/example/leafcode/leafcode/ByteDecoder$Run" "out" "[B" (.ref bx12_x4) := c133.other W144 (Or.inl ne24)
  have c151 : Fld Z h144 b2 "com/example/leafcode/leafcode/ByteDecoder$Run" "start" "I" (.int p2) := c134.other W144 (Or.inl ne24)
  have c152 : Fld Z h144 b2 "com/example/leafcode/leafcode/ByteDecoder$Run" "bit" "I" (.int p3) := c135.other W144 (Or.inl ne24)
  have c153 : Fld Z h144 b2 "com/example/leafcode/leafcode/ByteDecoder$Run" "count" "I" (.int p4) := c136.other W144 (Or.inl ne24)
  have c154 : Fld Z h144 b2 "com/example/leafcode/leafcode/ByteDecoder$Run" "first" "I" (.int p5) := c137.other W144 (Or.inl ne24)
  have c155 : Fld Z h144 b2 "com/example/leafcode/leafcode/ByteDecoder$Run" "recorded" "I" (.int p6) := c138.other W144 (Or.inl ne24)
  have c156 : own_Arj Z h144 bx12_x1 ((List.replicate 513 (0 : Int64)).set 0 sm) := c128.other W144 xn12_0
  have c158 : own_Ari Z h144 bx12_x3 .int (List.replicate 57 (0 : Int32)) := c141.other W144 (Ne.symm xn12_3)
  have c159 : own_Ari Z h144 bx12_x4 .byte ((List.replicate cp.toNatClampNeg (0 : Int32)).set 0 (nar .byte mk)) := c142.other W144 (Ne.symm xn12_4)
  have K144 : Keep h0 h144 [] := K127.wr W144 (Or.inr sz12_1)
  refine own_step st144 ?_
  show own_G p.tables e below _ (T144.setTop (mkF m 102 #[.val (.int p1), .val (.int p2), .val (.int p3), .val (.int p4), .val (.int p5), .val (.int p6), .val (.int cp), .val (.ref b2), .val (.int mk), .val (.long sm), .second] []))
  refine own_step (fun t k => XS.aload X144.here hx rfl (hb hby at_102) rfl rfl k) ?_
  show own_G p.tables e below _ (T144.setTop (mkF m 104 #[.val (.int p1), .val (.int p2), .val (.int p3), .val (.int p4), .val (.int p5), .val (.int p6), .val (.int cp), .val (.ref b2), .val (.int mk), .val (.long sm), .second] [(.ref b2)]))
  obtain ⟨T160, X160, e160, st160⟩ := getF X144 hx hZ hown (host := "") (Or.inl (hw _ (List.mem_of_getElem? (i := 35) rfl))) Via.refl e144 c149 (g := (mkF m 104 #[.val (.int p1), .val (.int p2), .val (.int p3), .val (.int p4), .val (.int p5), .val (.int p6), .val (.int cp), .val (.ref b2), .val (.int mk), .val (.long sm), .second] [(.ref b2)])) rfl rfl (hb hby at_104)
  refine own_step st160 ?_
  show own_G p.tables e below _ (T160.setTop (mkF m 107 #[.val (.int p1), .val (.int p2), .val (.int p3), .val (.int p4), .val (.int p5), .val (.int p6), .val (.int cp), .val (.ref b2), .val (.int mk), .val (.long sm), .second] [(.ref bx12_x3)]))
  refine own_step (fun t k => XS.iconst X160.here hx rfl (hb hby at_107) k) ?_
  show own_G p.tables e below _ (T160.setTop (mkF m 108 #[.val (.int p1), .val (.int p2), .val (.int p3), .val (.int p4), .val (.int p5), .val (.int p6), .val (.int cp), .val (.ref b2), .val (.int mk), .val (.long sm), .second] [(.int (0 : Int32)), (.ref bx12_x3)]))
  refine own_step (fun t k => XS.iloadN X160.here hx rfl (hb hby at_108) rfl k) ?_
  show own_G p.tables e below _ (T160.setTop (mkF m 109 #[.val (.int p1), .val (.int p2), .val (.int p3), .val (.int p4), .val (.int p5), .val (.int p6), .val (.int cp), .val (.ref b2), .val (.int mk), .val (.long sm), .second] [(.int p3), (.int (0 : Int32)), (.ref bx12_x3)]))
  obtain ⟨T161, h161, X161, e161, W161, c161, st161⟩ := own_iastore X160 hx hZ e160 c158 (own_inb (by decide) (by show 0 < _; simp)) (g := (mkF m 109 #[.val (.int p1), .val (.int p2), .val (.int p3), .val (.int p4), .val (.int p5), .val (.int p6), .val (.int cp), .val (.ref b2), .val (.int mk), .val (.long sm), .second] [(.int p3), (.int (0 : Int32)), (.ref bx12_x3)])) rfl rfl (hb hby at_109)
  have N161 := Fr.snoc X161 N144 ge12_2
  have c162 : own_Ari Z h161 bx12_x3 .int ((List.replicate 57 (0 : Int32)).set 0 p3) := c161
  have c163 : Exa Z h161 b2 "com/example/leafcode/leafcode/ByteDecoder$Run" := c146.wr W161
  have c164 : Fld Z h161 b2 "com/example/leafcode/leafcode/ByteDecoder$Run" "starts" "[J" (.ref bx12_x1) := c147.other W161 (Or.inl ne25)
  have c165 : Fld Z h161 b2 "com/example/leafcode/leafcode/ByteDecoder$Run" "passed" "[J" (.ref bx12_x2) := c148.other W161 (Or.inl ne25)
  have c166 : Fld Z h161 b2 "com/example/leafcode/leafcode/ByteDecoder$Run" "pending" "[I" (.ref bx12_x3) := c149.other W161 (Or.inl ne25)
  have c167 : Fld Z h161 b2 "com/example/leafcode/leafcode/ByteDecoder$Run" "out" "[B" (.ref bx12_x4) := c150.other W161 (Or.inl ne25)
  have c168 : Fld Z h161 b2 "com/example/leafcode/leafcode/ByteDecoder$Run" "start" "I" (.int p2) := c151.other W161 (Or.inl ne25)
  have c169 : Fld Z h161 b2 "com/example/leafcode/leafcode/ByteDecoder$Run" "bit" "I" (.int p3) := c152.other W161 (Or.inl ne25)
  have c170 : Fld Z h161 b2 "com/example/leafcode/leafcode/ByteDecoder$Run" "count" "I" (.int p4) := c153.other W161 (Or.inl ne25)
  have c171 : Fld Z h161 b2 "com/example/leafcode/leafcode/ByteDecoder$Run" "first" "I" (.int p5) := c154.other W161 (Or.inl ne25)
  have c172 : Fld Z h161 b2 "com/example/leafcode/leafcode/ByteDecoder$Run" "recorded" "I" (.int p6) := c155.other W161 (Or.inl ne25)
  have c173 : own_Arj Z h161 bx12_x1 ((List.replicate 513 (0 : Int64)).set 0 sm) := c156.other W161 xn12_1
  have c174 : own_Arj Z h161 bx12_x2 ((List.replicate 513 (0 : Int64)).set 0 (sm ^^^ (-1 : Int64))) := c145.other W161 xn12_3
  have c176 : own_Ari Z h161 bx12_x4 .byte ((List.replicate cp.toNatClampNeg (0 : Int32)).set 0 (nar .byte mk)) := c159.other W161 (Ne.symm xn12_5)
  have K161 : Keep h0 h161 [] := K144.wr W161 (Or.inr sz12_2)
  refine own_step st161 ?_
  show own_G p.tables e below _ (T161.setTop (mkF m 110 #[.val (.int p1), .val (.int p2), .val (.int p3), .val (.int p4), .val (.int p5), .val (.int p6), .val (.int cp), .val (.ref b2), .val (.int mk), .val (.long sm), .second] []))
  refine own_step (fun t k => XS.aload X161.here hx rfl (hb hby at_110) rfl rfl k) ?_
  show own_G p.tables e below _ (T161.setTop (mkF m 112 #[.val (.int p1), .val (.int p2), .val (.int p3), .val (.int p4), .val (.int p5), .val (.int p6), .val (.int cp), .val (.ref b2), .val (.int mk), .val (.long sm), .second] [(.ref b2)]))
  refine own_step (fun t k => XS.iloadN X161.here hx rfl (hb hby at_112) rfl k) ?_
  show own_G p.tables e below _ (T161.setTop (mkF m 113 #[.val (.int p1), .val (.int p2), .val (.int p3), .val (.int p4), .val (.int p5), .val (.int p6), .val (.int cp), .val (.ref b2), .val (.int mk), .val (.long sm), .second] [(.int p1), (.ref b2)]))
  obtain ⟨cq177, kq177, q177a, q177b, q177c⟩ := isOf hZ e161 c163
  obtain ⟨_, _, ⟨T177, L177, k177, n177⟩, -, X177, ⟨Lc177, hQ177, l177, y177, z177⟩, st177⟩ := X161.virtualBack hx (y := (⟨"com/example/leafcode/leafcode/ByteDecoder$Run", "begin", "(I)V"⟩ : MethodName)) (z := (⟨"com/example/leafcode/leafcode/ByteDecoder$Run", "begin", "(I)V"⟩ : MethodName)) hown (mvT hZ (hw _ (List.mem_of_getElem? (i := 36) rfl))) (mvT hZ (hw _ (List.mem_of_getElem? (i := 37) rfl))) (notFace_of_selects (args := #[]) (mvT hZ (hw _ (List.mem_of_getElem? (i := 39) rfl)))) (mvT hZ (hw _ (List.mem_of_getElem? (i := 39) rfl))) (mvT hZ (hw _ (List.mem_of_getElem? (i := 38) rfl))) (by decide) (backOf (W := 0) (rm3 l Z a0 hw [] b2 p1 (.ref bx12_x1) (.ref bx12_x2) (.ref bx12_x3) (.ref bx12_x4) (.int p2) (.int p3) (.int p4) (.int p5) (.int p6) h161 n0 (Nat.le_trans Z0 K161.1) c163 c164 c165 c166 c167 c168 c169 c170 c171 c172 ge2) hZ (hw _ (List.mem_of_getElem? (i := 40) rfl)) (hw _ (List.mem_of_getElem? (i := 2) rfl)) (by decide) (by decide)) q177a q177c (g := (mkF m 113 #[.val (.int p1), .val (.int p2), .val (.int p3), .val (.int p4), .val (.int p5), .val (.int p6), .val (.int cp), .val (.ref b2), .val (.int mk), .val (.long sm), .second] [(.int p1), (.ref b2)])) rfl (by rw [hml]; rfl) (Steps.refl _) (argsL := [(.int p1)]) (rest := []) (lenOf pd_0_0 rfl) rfl (by show 2 * 0 + _ ≤ _; exact Nat.le_of_eq rfl) (hb hby at_113) (fun _ _ => ⟨rfl, e161, (by decide : 5 + 0 ≤ _), (by decide : 1100 + 0 ≤ _)⟩)
  dsimp only [Pt.U, Pt.locs, Pt.cells, Pt.slots] at X177 l177 y177 z177 st177 hQ177
  subst l177 y177 z177
  obtain ⟨rfl, N177q, K177q, w177_0, w177_1, w177_2, w177_3, w177_4, w177_5, w177_6, w177_7, w177_8⟩ := hQ177
  have c178 : Exa Z T177.heap b2 "com/example/leafcode/leafcode/ByteDecoder$Run" := c163.keep K177q
  have c188 : own_Arj Z T177.heap bx12_x1 ((List.replicate 513 (0 : Int64)).set 0 sm) := c173.keep K177q (ninS (Ne.symm ne23) nin0)
  have c189 : own_Arj Z T177.heap bx12_x2 ((List.replicate 513 (0 : Int64)).set 0 (sm ^^^ (-1 : Int64))) := c174.keep K177q (ninS (Ne.symm ne24) nin0)
  have c190 : own_Ari Z T177.heap bx12_x3 .int ((List.replicate 57 (0 : Int32)).set 0 p3) := c162.keep K177q (ninS (Ne.symm ne25) nin0)
  have c191 : own_Ari Z T177.heap bx12_x4 .byte ((List.replicate cp.toNatClampNeg (0 : Int32)).set 0 (nar .byte mk)) := c176.keep K177q (ninS (Ne.symm ne26) nin0)
  have K177 : Keep h0 T177.heap [] := K161.trans K177q (allS (Or.inr sz2) all0)
  have N177 := Fr.app N161 N177q
  refine own_step (fun t k => st177.trans k) ?_
  show own_G p.tables e below _ (T177.setTop (mkF m 116 #[.val (.int p1), .val (.int p2), .val (.int p3), .val (.int p4), .val (.int p5), .val (.int p6), .val (.int cp), .val (.ref b2), .val (.int mk), .val (.long sm), .second] []))
  refine own_step (fun t k => XS.aload X177.here hx rfl (hb hby at_116) rfl rfl k) ?_
  show own_G p.tables e below _ (T177.setTop (mkF m 118 #[.val (.int p1), .val (.int p2), .val (.int p3), .val (.int p4), .val (.int p5), .val (.int p6), .val (.int cp), .val (.ref b2), .val (.int mk), .val (.long sm), .second] [(.ref b2)]))
  obtain ⟨T192, X192, e192, st192⟩ := getF X177 hx hZ hown (host := "") (Or.inl (hw _ (List.mem_of_getElem? (i := 20) rfl))) Via.refl rfl w177_4 (g := (mkF m 118 #[.val (.int p1), .val (.int p2), .val (.int p3), .val (.int p4), .val (.int p5), .val (.int p6), .val (.int cp), .val (.ref b2), .val (.int mk), .val (.long sm), .second] [(.ref b2)])) rfl rfl (hb hby at_118)
  refine own_step st192 ?_
  show own_G p.tables e below _ (T192.setTop (mkF m 121 #[.val (.int p1), .val (.int p2), .val (.int p3), .val (.int p4), .val (.int p5), .val (.int p6), .val (.int cp), .val (.ref b2), .val (.int mk), .val (.long sm), .second] [(.int p1)]))
  refine own_step (fun t k => XS.iloadN X192.here hx rfl (hb hby at_121) rfl k) ?_
  show own_G p.tables e below _ (T192.setTop (mkF m 122 #[.val (.int p1), .val (.int p2), .val (.int p3), .val (.int p4), .val (.int p5), .val (.int p6), .val (.int cp), .val (.ref b2), .val (.int mk), .val (.long sm), .second] [(.int p1), (.int p1)]))
  have hk193 : p1 = p1 := rfl
  refine own_step (fun t k => XS.icmpNo X192.here hx rfl (hb hby at_122) rfl ((teq hk193).2) k) ?_
  show own_G p.tables e below _ (T192.setTop (mkF m 125 #[.val (.int p1), .val (.int p2), .val (.int p3), .val (.int p4), .val (.int p5), .val (.int p6), .val (.int cp), .val (.ref b2), .val (.int mk), .val (.long sm), .second] []))
  refine own_step (fun t k => XS.aload X192.here hx rfl (hb hby at_125) rfl rfl k) ?_
  show own_G p.tables e below _ (T192.setTop (mkF m 127 #[.val (.int p1), .val (.int p2), .val (.int p3), .val (.int p4), .val (.int p5), .val (.int p6), .val (.int cp), .val (.ref b2), .val (.int mk), .val (.long sm), .second] [(.ref b2)]))
  obtain ⟨T194, X194, e194, st194⟩ := getF X192 hx hZ hown (host := "") (Or.inl (hw _ (List.mem_of_getElem? (i := 22) rfl))) Via.refl e192 w177_5 (g := (mkF m 127 #[.val (.int p1), .val (.int p2), .val (.int p3), .val (.int p4), .val (.int p5), .val (.int p6), .val (.int cp), .val (.ref b2), .val (.int mk), .val (.long sm), .second] [(.ref b2)])) rfl rfl (hb hby at_127)
  refine own_step st194 ?_
  show own_G p.tables e below _ (T194.setTop (mkF m 130 #[.val (.int p1), .val (.int p2), .val (.int p3), .val (.int p4), .val (.int p5), .val (.int p6), .val (.int cp), .val (.ref b2), .val (.int mk), .val (.long sm), .second] [(.int p1)]))
  refine own_step (fun t k => XS.iloadN X194.here hx rfl (hb hby at_130) rfl k) ?_
  show own_G p.tables e below _ (T194.setTop (mkF m 131 #[.val (.int p1), .val (.int p2), .val (.int p3), .val (.int p4), .val (.int p5), .val (.int p6), .val (.int cp), .val (.ref b2), .val (.int mk), .val (.long sm), .second] [(.int p1), (.int p1)]))
  have hk195 : p1 = p1 := rfl
  refine own_step (fun t k => XS.icmpNo X194.here hx rfl (hb hby at_131) rfl ((teq hk195).2) k) ?_
  show own_G p.tables e below _ (T194.setTop (mkF m 134 #[.val (.int p1), .val (.int p2), .val (.int p3), .val (.int p4), .val (.int p5), .val (.int p6), .val (.int cp), .val (.ref b2), .val (.int mk), .val (.long sm), .second] []))
  refine own_step (fun t k => XS.aload X194.here hx rfl (hb hby at_134) rfl rfl k) ?_
  show own_G p.tables e below _ (T194.setTop (mkF m 136 #[.val (.int p1), .val (.int p2), .val (.int p3), .val (.int p4), .val (.int p5), .val (.int p6), .val (.int cp), .val (.ref b2), .val (.int mk), .val (.long sm), .second] [(.ref b2)]))
  obtain ⟨T196, X196, e196, st196⟩ := getF X194 hx hZ hown (host := "") (Or.inl (hw _ (List.mem_of_getElem? (i := 24) rfl))) Via.refl e194 w177_6 (g := (mkF m 136 #[.val (.int p1), .val (.int p2), .val (.int p3), .val (.int p4), .val (.int p5), .val (.int p6), .val (.int cp), .val (.ref b2), .val (.int mk), .val (.long sm), .second] [(.ref b2)])) rfl rfl (hb hby at_136)
  refine own_step st196 ?_
  show own_G p.tables e below _ (T196.setTop (mkF m 139 #[.val (.int p1), .val (.int p2), .val (.int p3), .val (.int p4), .val (.int p5), .val (.int p6), .val (.int cp), .val (.ref b2), .val (.int mk), .val (.long sm), .second] [(.int (0 : Int32))]))
  have hk197 : (0 : Int32) = (0 : Int32) := rfl
  refine own_step (fun t k => XS.ifNo X196.here hx rfl (hb hby at_139) rfl ((if0 _ _).trans (teq hk197).2) k) ?_
  show own_G p.tables e below _ (T196.setTop (mkF m 142 #[.val (.int p1), .val (.int p2), .val (.int p3), .val (.int p4), .val (.int p5), .val (.int p6), .val (.int cp), .val (.ref b2), .val (.int mk), .val (.long sm), .second] []))
  refine own_step (fun t k => XS.aload X196.here hx rfl (hb hby at_142) rfl rfl k) ?_
  show own_G p.tables e below _ (T196.setTop (mkF m 144 #[.val (.int p1), .val (.int p2), .val (.int p3), .val (.int p4), .val (.int p5), .val (.int p6), .val (.int cp), .val (.ref b2), .val (.int mk), .val (.long sm), .second] [(.ref b2)]))
  obtain ⟨T198, X198, e198, st198⟩ := getF X196 hx hZ hown (host := "") (Or.inl (hw _ (List.mem_of_getElem? (i := 26) rfl))) Via.refl e196 w177_7 (g := (mkF m 144 #[.val (.int p1), .val (.int p2), .val (.int p3), .val (.int p4), .val (.int p5), .val (.int p6), .val (.int cp), .val (.ref b2), .val (.int mk), .val (.long sm), .second] [(.ref b2)])) rfl rfl (hb hby at_144)
  refine own_step st198 ?_
  show own_G p.tables e below _ (T198.setTop (mkF m 147 #[.val (.int p1), .val (.int p2), .val (.int p3), .val (.int p4), .val (.int p5), .val (.int p6), .val (.int cp), .val (.ref b2), .val (.int mk), .val (.long sm), .second] [(.int (0 : Int32))]))
  have hk199 : (0 : Int32) = (0 : Int32) := rfl
  refine own_step (fun t k => XS.ifNo X198.here hx rfl (hb hby at_147) rfl ((if0 _ _).trans (teq hk199).2) k) ?_
  show own_G p.tables e below _ (T198.setTop (mkF m 150 #[.val (.int p1), .val (.int p2), .val (.int p3), .val (.int p4), .val (.int p5), .val (.int p6), .val (.int cp), .val (.ref b2), .val (.int mk), .val (.long sm), .second] []))
  refine own_step (fun t k => XS.aload X198.here hx rfl (hb hby at_150) rfl rfl k) ?_
  show own_G p.tables e below _ (T198.setTop (mkF m 152 #[.val (.int p1), .val (.int p2), .val (.int p3), .val (.int p4), .val (.int p5), .val (.int p6), .val (.int cp), .val (.ref b2), .val (.int mk), .val (.long sm), .second] [(.ref b2)]))
  obtain ⟨T200, X200, e200, st200⟩ := getF X198 hx hZ hown (host := "") (Or.inl (hw _ (List.mem_of_getElem? (i := 28) rfl))) Via.refl e198 w177_8 (g := (mkF m 152 #[.val (.int p1), .val (.int p2), .val (.int p3), .val (.int p4), .val (.int p5), .val (.int p6), .val (.int cp), .val (.ref b2), .val (.int mk), .val (.long sm), .second] [(.ref b2)])) rfl rfl (hb hby at_152)
  refine own_step st200 ?_
  show own_G p.tables e below _ (T200.setTop (mkF m 155 #[.val (.int p1), .val (.int p2), .val (.int p3), .val (.int p4), .val (.int p5), .val (.int p6), .val (.int cp), .val (.ref b2), .val (.int mk), .val (.long sm), .second] [(.int (0 : Int32))]))
  have hk201 : (0 : Int32) = (0 : Int32) := rfl
  refine own_step (fun t k => XS.ifNo X200.here hx rfl (hb hby at_155) rfl ((if0 _ _).trans (teq hk201).2) k) ?_
  show own_G p.tables e below _ (T200.setTop (mkF m 158 #[.val (.int p1), .val (.int p2), .val (.int p3), .val (.int p4), .val (.int p5), .val (.int p6), .val (.int cp), .val (.ref b2), .val (.int mk), .val (.long sm), .second] []))
  refine own_step (fun t k => XS.aload X200.here hx rfl (hb hby at_158) rfl rfl k) ?_
  show own_G p.tables e below _ (T200.setTop (mkF m 160 #[.val (.int p1), .val (.int p2), .val (.int p3), .val (.int p4), .val (.int p5), .val (.int p6), .val (.int cp), .val (.ref b2), .val (.int mk), .val (.long sm), .second] [(.ref b2)]))
  obtain ⟨T202, X202, e202, st202⟩ := getF X200 hx hZ hown (host := "") (Or.inl (hw _ (List.mem_of_getElem? (i := 30) rfl))) Via.refl e200 w177_3 (g := (mkF m 160 #[.val (.int p1), .val (.int p2), .val (.int p3), .val (.int p4), .val (.int p5), .val (.int p6), .val (.int cp), .val (.ref b2), .val (.int mk), .val (.long sm), .second] [(.ref b2)])) rfl rfl (hb hby at_160)
  refine own_step st202 ?_
  show own_G p.tables e below _ (T202.setTop (mkF m 163 #[.val (.int p1), .val (.int p2), .val (.int p3), .val (.int p4), .val (.int p5), .val (.int p6), .val (.int cp), .val (.ref b2), .val (.int mk), .val (.long sm), .second] [(.ref bx12_x4)]))
  refine own_step (own_lenI X202 hx hZ e202 c191 (g := (mkF m 163 #[.val (.int p1), .val (.int p2), .val (.int p3), .val (.int p4), .val (.int p5), .val (.int p6), .val (.int cp), .val (.ref b2), .val (.int mk), .val (.long sm), .second] [(.ref bx12_x4)])) rfl rfl (hb hby at_163)) ?_
  show own_G p.tables e below _ (T202.setTop (mkF m 164 #[.val (.int p1), .val (.int p2), .val (.int p3), .val (.int p4), .val (.int p5), .val (.int p6), .val (.int cp), .val (.ref b2), .val (.int mk), .val (.long sm), .second] [(.int (((List.replicate cp.toNatClampNeg (0 : Int32)).set 0 (nar .byte mk)).length.toInt32))]))
  refine own_step (fun t k => XS.iload X202.here hx rfl (hb hby at_164) rfl k) ?_
  show own_G p.tables e below _ (T202.setTop (mkF m 166 #[.val (.int p1), .val (.int p2), .val (.int p3), .val (.int p4), .val (.int p5), .val (.int p6), .val (.int cp), .val (.ref b2), .val (.int mk), .val (.long sm), .second] [(.int cp), (.int (((List.replicate cp.toNatClampNeg (0 : Int32)).set 0 (nar .byte mk)).length.toInt32))]))
  have hk203 : (((List.replicate cp.toNatClampNeg (0 : Int32)).set 0 (nar .byte mk)).length.toInt32) = cp := (by rw [List.length_set, List.length_replicate]; exact (back32 (by rw [hd_cp]; exact own_cap1 _)).1)
  refine own_step (fun t k => XS.icmpNo X202.here hx rfl (hb hby at_166) rfl ((teq hk203).2) k) ?_
  show own_G p.tables e below _ (T202.setTop (mkF m 169 #[.val (.int p1), .val (.int p2), .val (.int p3), .val (.int p4), .val (.int p5), .val (.int p6), .val (.int cp), .val (.ref b2), .val (.int mk), .val (.long sm), .second] []))
  refine own_step (fun t k => XS.aload X202.here hx rfl (hb hby at_169) rfl rfl k) ?_
  show own_G p.tables e below _ (T202.setTop (mkF m 171 #[.val (.int p1), .val (.int p2), .val (.int p3), .val (.int p4), .val (.int p5), .val (.int p6), .val (.int cp), .val (.ref b2), .val (.int mk), .val (.long sm), .second] [(.ref b2)]))
  obtain ⟨T204, X204, e204, st204⟩ := getF X202 hx hZ hown (host := "") (Or.inl (hw _ (List.mem_of_getElem? (i := 30) rfl))) Via.refl e202 w177_3 (g := (mkF m 171 #[.val (.int p1), .val (.int p2), .val (.int p3), .val (.int p4), .val (.int p5), .val (.int p6), .val (.int cp), .val (.ref b2), .val (.int mk), .val (.long sm), .second] [(.ref b2)])) rfl rfl (hb hby at_171)
  refine own_step st204 ?_
  show own_G p.tables e below _ (T204.setTop (mkF m 174 #[.val (.int p1), .val (.int p2), .val (.int p3), .val (.int p4), .val (.int p5), .val (.int p6), .val (.int cp), .val (.ref b2), .val (.int mk), .val (.long sm), .second] [(.ref bx12_x4)]))
  refine own_step (fun t k => XS.iconst X204.here hx rfl (hb hby at_174) k) ?_
  show own_G p.tables e below _ (T204.setTop (mkF m 175 #[.val (.int p1), .val (.int p2), .val (.int p3), .val (.int p4), .val (.int p5), .val (.int p6), .val (.int cp), .val (.ref b2), .val (.int mk), .val (.long sm), .second] [(.int (0 : Int32)), (.ref bx12_x4)]))
  refine own_step (own_baload X204 hx hZ e204 c191 (own_inb (by decide) (by rw [List.length_set, List.length_replicate, hd_cp]; exact own_cap3 _)) (g := (mkF m 175 #[.val (.int p1), .val (.int p2), .val (.int p3), .val (.int p4), .val (.int p5), .val (.int p6), .val (.int cp), .val (.ref b2), .val (.int mk), .val (.long sm), .second] [(.int (0 : Int32)), (.ref bx12_x4)])) rfl rfl (hb hby at_175)) ?_
  show own_G p.tables e below _ (T204.setTop (mkF m 176 #[.val (.int p1), .val (.int p2), .val (.int p3), .val (.int p4), .val (.int p5), .val (.int p6), .val (.int cp), .val (.ref b2), .val (.int mk), .val (.long sm), .second] [(.int (((List.replicate cp.toNatClampNeg (0 : Int32)).set 0 (nar .byte mk)).getD 0 0))]))
  refine own_step (fun t k => XS.iload X204.here hx rfl (hb hby at_176) rfl k) ?_
  show own_G p.tables e below _ (T204.setTop (mkF m 178 #[.val (.int p1), .val (.int p2), .val (.int p3), .val (.int p4), .val (.int p5), .val (.int p6), .val (.int cp), .val (.ref b2), .val (.int mk), .val (.long sm), .second] [(.int mk), (.int (((List.replicate cp.toNatClampNeg (0 : Int32)).set 0 (nar .byte mk)).getD 0 0))]))
  have hk205 : (((List.replicate cp.toNatClampNeg (0 : Int32)).set 0 (nar .byte mk)).getD 0 0) = mk := (by rw [own_set0 _ (by rw [List.length_replicate, hd_cp]; exact own_cap3 _), hd_mk]; exact own_i8 _)
  refine own_step (fun t k => XS.icmpNo X204.here hx rfl (hb hby at_178) rfl ((teq hk205).2) k) ?_
  show own_G p.tables e below _ (T204.setTop (mkF m 181 #[.val (.int p1), .val (.int p2), .val (.int p3), .val (.int p4), .val (.int p5), .val (.int p6), .val (.int cp), .val (.ref b2), .val (.int mk), .val (.long sm), .second] []))
  refine own_step (fun t k => XS.aload X204.here hx rfl (hb hby at_181) rfl rfl k) ?_
  show own_G p.tables e below _ (T204.setTop (mkF m 183 #[.val (.int p1), .val (.int p2), .val (.int p3), .val (.int p4), .val (.int p5), .val (.int p6), .val (.int cp), .val (.ref b2), .val (.int mk), .val (.long sm), .second] [(.ref b2)]))
  obtain ⟨T206, X206, e206, st206⟩ := getF X204 hx hZ hown (host := "") (Or.inl (hw _ (List.mem_of_getElem? (i := 32) rfl))) Via.refl e204 w177_0 (g := (mkF m 183 #[.val (.int p1), .val (.int p2), .val (.int p3), .val (.int p4), .val (.int p5), .val (.int p6), .val (.int cp), .val (.ref b2), .val (.int mk), .val (.long sm), .second] [(.ref b2)])) rfl rfl (hb hby at_183)
  refine own_step st206 ?_
  show own_G p.tables e below _ (T206.setTop (mkF m 186 #[.val (.int p1), .val (.int p2), .val (.int p3), .val (.int p4), .val (.int p5), .val (.int p6), .val (.int cp), .val (.ref b2), .val (.int mk), .val (.long sm), .second] [(.ref bx12_x1)]))
  refine own_step (fun t k => XS.iconst X206.here hx rfl (hb hby at_186) k) ?_
  show own_G p.tables e below _ (T206.setTop (mkF m 187 #[.val (.int p1), .val (.int p2), .val (.int p3), .val (.int p4), .val (.int p5), .val (.int p6), .val (.int cp), .val (.ref b2), .val (.int mk), .val (.long sm), .second] [(.int (0 : Int32)), (.ref bx12_x1)]))
  refine own_step (own_laload X206 hx hZ e206 c188 (own_inb (by decide) (by show 0 < _; simp)) (g := (mkF m 187 #[.val (.int p1), .val (.int p2), .val (.int p3), .val (.int p4), .val (.int p5), .val (.int p6), .val (.int cp), .val (.ref b2), .val (.int mk), .val (.long sm), .second] [(.int (0 : Int32)), (.ref bx12_x1)])) rfl rfl (hb hby at_187)) ?_
  show own_G p.tables e below _ (T206.setTop (mkF m 188 #[.val (.int p1), .val (.int p2), .val (.int p3), .val (.int p4), .val (.int p5), .val (.int p6), .val (.int cp), .val (.ref b2), .val (.int mk), .val (.long sm), .second] [(.long (((List.replicate 513 (0 : Int64)).set 0 sm).getD 0 0))]))
  refine own_step (fun t k => XS.lload X206.here hx rfl (hb hby at_188) rfl k) ?_
  show own_G p.tables e below _ (T206.setTop (mkF m 190 #[.val (.int p1), .val (.int p2), .val (.int p3), .val (.int p4), .val (.int p5), .val (.int p6), .val (.int cp), .val (.ref b2), .val (.int mk), .val (.long sm), .second] [(.long sm), (.long (((List.replicate 513 (0 : Int64)).set 0 sm).getD 0 0))]))
  refine own_step (fun t k => XS.lcmp X206.here hx rfl (hb hby at_190) rfl k) ?_
  show own_G p.tables e below _ (T206.setTop (mkF m 191 #[.val (.int p1), .val (.int p2), .val (.int p3), .val (.int p4), .val (.int p5), .val (.int p6), .val (.int cp), .val (.ref b2), .val (.int mk), .val (.long sm), .second] [(.int (lcmpW (((List.replicate 513 (0 : Int64)).set 0 sm).getD 0 0) sm))]))
  have hk207 : (((List.replicate 513 (0 : Int64)).set 0 sm).getD 0 0) = sm := rfl
  refine own_step (fun t k => XS.ifNo X206.here hx rfl (hb hby at_191) rfl ((if0 _ _).trans (teq ((lw_eq _ _).mpr hk207)).2) k) ?_
  show own_G p.tables e below _ (T206.setTop (mkF m 194 #[.val (.int p1), .val (.int p2), .val (.int p3), .val (.int p4), .val (.int p5), .val (.int p6), .val (.int cp), .val (.ref b2), .val (.int mk), .val (.long sm), .second] []))
  refine own_step (fun t k => XS.aload X206.here hx rfl (hb hby at_194) rfl rfl k) ?_
  show own_G p.tables e below _ (T206.setTop (mkF m 196 #[.val (.int p1), .val (.int p2), .val (.int p3), .val (.int p4), .val (.int p5), .val (.int p6), .val (.int cp), .val (.ref b2), .val (.int mk), .val (.long sm), .second] [(.ref b2)]))
  obtain ⟨T208, X208, e208, st208⟩ := getF X206 hx hZ hown (host := "") (Or.inl (hw _ (List.mem_of_getElem? (i := 33) rfl))) Via.refl e206 w177_1 (g := (mkF m 196 #[.val (.int p1), .val (.int p2), .val (.int p3), .val (.int p4), .val (.int p5), .val (.int p6), .val (.int cp), .val (.ref b2), .val (.int mk), .val (.long sm), .second] [(.ref b2)])) rfl rfl (hb hby at_196)
  refine own_step st208 ?_
  show own_G p.tables e below _ (T208.setTop (mkF m 199 #[.val (.int p1), .val (.int p2), .val (.int p3), .val (.int p4), .val (.int p5), .val (.int p6), .val (.int cp), .val (.ref b2), .val (.int mk), .val (.long sm), .second] [(.ref bx12_x2)]))
  refine own_step (fun t k => XS.iconst X208.here hx rfl (hb hby at_199) k) ?_
  show own_G p.tables e below _ (T208.setTop (mkF m 200 #[.val (.int p1), .val (.int p2), .val (.int p3), .val (.int p4), .val (.int p5), .val (.int p6), .val (.int cp), .val (.ref b2), .val (.int mk), .val (.long sm), .second] [(.int (0 : Int32)), (.ref bx12_x2)]))
  refine own_step (own_laload X208 hx hZ e208 c189 (own_inb (by decide) (by show 0 < _; simp)) (g := (mkF m 200 #[.val (.int p1), .val (.int p2), .val (.int p3), .val (.int p4), .val (.int p5), .val (.int p6), .val (.int cp), .val (.ref b2), .val (.int mk), .val (.long sm), .second] [(.int (0 : Int32)), (.ref bx12_x2)])) rfl rfl (hb hby at_200)) ?_
  show own_G p.tables e below _ (T208.setTop (mkF m 201 #[.val (.int p1), .val (.int p2), .val (.int p3), .val (.int p4), .val (.int p5), .val (.int p6), .val (.int cp), .val (.ref b2), .val (.int mk), .val (.long sm), .second] [(.long (((List.replicate 513 (0 : Int64)).set 0 (sm ^^^ (-1 : Int64))).getD 0 0))]))
  refine own_step (fun t k => XS.lload X208.here hx rfl (hb hby at_201) rfl k) ?_
  show own_G p.tables e below _ (T208.setTop (mkF m 203 #[.val (.int p1), .val (.int p2), .val (.int p3), .val (.int p4), .val (.int p5), .val (.int p6), .val (.int cp), .val (.ref b2), .val (.int mk), .val (.long sm), .second] [(.long sm), (.long (((List.replicate 513 (0 : Int64)).set 0 (sm ^^^ (-1 : Int64))).getD 0 0))]))
  refine own_step (X208.ldc2Long hx hown (mvT hZ (hw _ (List.mem_of_getElem? (i := 34) rfl))) (g := (mkF m 203 #[.val (.int p1), .val (.int p2), .val (.int p3), .val (.int p4), .val (.int p5), .val (.int p6), .val (.int cp), .val (.ref b2), .val (.int mk), .val (.long sm), .second] [(.long sm), (.long (((List.replicate 513 (0 : Int64)).set 0 (sm ^^^ (-1 : Int64))).getD 0 0))])) rfl (hb hby at_203)) ?_
  show own_G p.tables e below _ (T208.setTop (mkF m 206 #[.val (.int p1), .val (.int p2), .val (.int p3), .val (.int p4), .val (.int p5), .val (.int p6), .val (.int cp), .val (.ref b2), .val (.int mk), .val (.long sm), .second] [(.long (-1 : Int64)), (.long sm), (.long (((List.replicate 513 (0 : Int64)).set 0 (sm ^^^ (-1 : Int64))).getD 0 0))]))
  refine own_step (fun t k => XS.lxor X208.here hx rfl (hb hby at_206) rfl k) ?_
  show own_G p.tables e below _ (T208.setTop (mkF m 207 #[.val (.int p1), .val (.int p2), .val (.int p3), .val (.int p4), .val (.int p5), .val (.int p6), .val (.int cp), .val (.ref b2), .val (.int mk), .val (.long sm), .second] [(.long (sm ^^^ (-1 : Int64))), (.long (((List.replicate 513 (0 : Int64)).set 0 (sm ^^^ (-1 : Int64))).getD 0 0))]))
  refine own_step (fun t k => XS.lcmp X208.here hx rfl (hb hby at_207) rfl k) ?_
  show own_G p.tables e below _ (T208.setTop (mkF m 208 #[.val (.int p1), .val (.int p2), .val (.int p3), .val (.int p4), .val (.int p5), .val (.int p6), .val (.int cp), .val (.ref b2), .val (.int mk), .val (.long sm), .second] [(.int (lcmpW (((List.replicate 513 (0 : Int64)).set 0 (sm ^^^ (-1 : Int64))).getD 0 0) (sm ^^^ (-1 : Int64))))]))
  have hk209 : (((List.replicate 513 (0 : Int64)).set 0 (sm ^^^ (-1 : Int64))).getD 0 0) = (sm ^^^ (-1 : Int64)) := rfl
  refine own_step (fun t k => XS.ifNo X208.here hx rfl (hb hby at_208) rfl ((if0 _ _).trans (teq ((lw_eq _ _).mpr hk209)).2) k) ?_
  show own_G p.tables e below _ (T208.setTop (mkF m 211 #[.val (.int p1), .val (.int p2), .val (.int p3), .val (.int p4), .val (.int p5), .val (.int p6), .val (.int cp), .val (.ref b2), .val (.int mk), .val (.long sm), .second] []))
  refine own_step (fun t k => XS.aload X208.here hx rfl (hb hby at_211) rfl rfl k) ?_
  show own_G p.tables e below _ (T208.setTop (mkF m 213 #[.val (.int p1), .val (.int p2), .val (.int p3), .val (.int p4), .val (.int p5), .val (.int p6), .val (.int cp), .val (.ref b2), .val (.int mk), .val (.long sm), .second] [(.ref b2)]))
  obtain ⟨T210, X210, e210, st210⟩ := getF X208 hx hZ hown (host := "") (Or.inl (hw _ (List.mem_of_getElem? (i := 35) rfl))) Via.refl e208 w177_2 (g := (mkF m 213 #[.val (.int p1), .val (.int p2), .val (.int p3), .val (.int p4), .val (.int p5), .val (.int p6), .val (.int cp), .val (.ref b2), .val (.int mk), .val (.long sm), .second] [(.ref b2)])) rfl rfl (hb hby at_213)
  refine own_step st210 ?_
  show own_G p.tables e below _ (T210.setTop (mkF m 216 #[.val (.int p1), .val (.int p2), .val (.int p3), .val (.int p4), .val (.int p5), .val (.int p6), .val (.int cp), .val (.ref b2), .val (.int mk), .val (.long sm), .second] [(.ref bx12_x3)]))
  refine own_step (fun t k => XS.iconst X210.here hx rfl (hb hby at_216) k) ?_
  show own_G p.tables e below _ (T210.setTop (mkF m 217 #[.val (.int p1), .val (.int p2), .val (.int p3), .val (.int p4), .val (.int p5), .val (.int p6), .val (.int cp), .val (.ref b2), .val (.int mk), .val (.long sm), .second] [(.int (0 : Int32)), (.ref bx12_x3)]))
  refine own_step (own_iaload X210 hx hZ e210 c190 (own_inb (by decide) (by show 0 < _; simp)) (g := (mkF m 217 #[.val (.int p1), .val (.int p2), .val (.int p3), .val (.int p4), .val (.int p5), .val (.int p6), .val (.int cp), .val (.ref b2), .val (.int mk), .val (.long sm), .second] [(.int (0 : Int32)), (.ref bx12_x3)])) rfl rfl (hb hby at_217)) ?_
  show own_G p.tables e below _ (T210.setTop (mkF m 218 #[.val (.int p1), .val (.int p2), .val (.int p3), .val (.int p4), .val (.int p5), .val (.int p6), .val (.int cp), .val (.ref b2), .val (.int mk), .val (.long sm), .second] [(.int (((List.replicate 57 (0 : Int32)).set 0 p3).getD 0 0))]))
  refine own_step (fun t k => XS.iloadN X210.here hx rfl (hb hby at_218) rfl k) ?_
  show own_G p.tables e below _ (T210.setTop (mkF m 219 #[.val (.int p1), .val (.int p2), .val (.int p3), .val (.int p4), .val (.int p5), .val (.int p6), .val (.int cp), .val (.ref b2), .val (.int mk), .val (.long sm), .second] [(.int p3), (.int (((List.replicate 57 (0 : Int32)).set 0 p3).getD 0 0))]))
  have hk211 : (((List.replicate 57 (0 : Int32)).set 0 p3).getD 0 0) = p3 := rfl
  refine own_step (fun t k => XS.icmpNo X210.here hx rfl (hb hby at_219) rfl ((teq hk211).2) k) ?_
  show own_G p.tables e below _ (T210.setTop (mkF m 222 #[.val (.int p1), .val (.int p2), .val (.int p3), .val (.int p4), .val (.int p5), .val (.int p6), .val (.int cp), .val (.ref b2), .val (.int mk), .val (.long sm), .second] []))
  refine own_step (fun t k => XS.iconst X210.here hx rfl (hb hby at_222) k) ?_
  show own_G p.tables e below _ (T210.setTop (mkF m 223 #[.val (.int p1), .val (.int p2), .val (.int p3), .val (.int p4), .val (.int p5), .val (.int p6), .val (.int cp), .val (.ref b2), .val (.int mk), .val (.long sm), .second] [(.int (1 : Int32))]))
  refine own_step (fun t k => XS.goto X210.here hx rfl (pc0 := 223) (pc' := 227) rfl (hb hby at_223) (by decide) (by decide) k) ?_
  show own_G p.tables e below _ (T210.setTop (mkF m 227 #[.val (.int p1), .val (.int p2), .val (.int p3), .val (.int p4), .val (.int p5), .val (.int p6), .val (.int cp), .val (.ref b2), .val (.int mk), .val (.long sm), .second] [(.int (1 : Int32))]))
  obtain ⟨fs, hr, hrun, hended, hW, hsame⟩ := X210.leave (v := some (.int (1 : Int32))) (fun h => by rw [Bd.returns] at h; cases h)
  refine own_done (retN X210 hx (t := .boolean) Bd.returns (by simp) (hb hby at_227) hr) hrun hended ⟨_, _, rfl, ?_, ⟨_, rfl⟩, hW, hsame.mono (by decide) (by decide)⟩
  show Q0 Z p1 p2 p3 p4 p5 p6 h0 n0 _ T210.heap _
  rw [e210]
  exact ⟨rfl, N177⟩
set_option maxRecDepth 65536 in
set_option maxHeartbeats 40000000 in
theorem comes_1 {Post : Tables → Env → Array Value → State → Outcome → State → Prop} (hpost : ∀ tb e args s v u, (limb_1_1.after args s (.returned v) u = true ∧ limb_1_2.after args s (.returned v) u = true ∧ True) → FrameEnd s (.returned v) u (Jvm.fieldLocs frame_1_writes args s ++ Jvm.arrayLocs frame_1_arrays args s ++ Jvm.staticLocs frame_1_statics s) 24 2304 → Post tb e args s (.returned v) u) :
    ArmFor flags0 classFile x code maxLocals ret World_1 tables_1 room_1 Calls_1 rest_1 Pre_1 Post := by
  intro l hfl _ _ p e ha hc hk s m args below hf hA hF happ hP
  obtain ⟨hcalls, hrest, hpre⟩ := hP
  obtain ⟨-, -, -, hnamed, -, -, -, hat⟩ := (Spec.applies_iff hf).mp happ
  obtain ⟨hg, hn⟩ := and_e (Cond.before_iff.mp (show (Jvm.Cond.and given_1 narrow_1).before args s = true from hpre))
  obtain ⟨g1, g2⟩ := and_e hg
  obtain ⟨g3, g4⟩ := and_e g2
  obtain ⟨g5, g6⟩ := and_e g4
  obtain ⟨g7, g8⟩ := and_e g6
  obtain ⟨g9, g10⟩ := and_e g8
  obtain ⟨g11, g12⟩ := and_e g10
  obtain ⟨w0, w1, w2, w3, w4, w5, rfl⟩ : ∃ w0 w1 w2 w3 w4 w5 : Value, args = #[w0, w1, w2, w3, w4, w5] := by
    have hs : args.size = 6 := by simpa [Cond.value, given_1] using g1
    obtain ⟨L⟩ := args
    match L, hs with
    | [w0, w1, w2, w3, w4, w5], _ => exact ⟨w0, w1, w2, w3, w4, w5, rfl⟩
  have hw := fun d (hd : d ∈ tables_1) => atoms_spec (ws := Jvm.Cond.code x code maxLocals ret :: tables_1) hat d (List.mem_cons_of_mem _ hd)
  obtain ⟨i0, ei0⟩ := is_v g3
  obtain rfl : w0 = (.int i0) := Option.some.inj ei0
  obtain ⟨i1, ei1⟩ := is_v g5
  obtain rfl : w1 = (.int i1) := Option.some.inj ei1
  obtain ⟨i2, ei2⟩ := is_v g7
  obtain rfl : w2 = (.int i2) := Option.some.inj ei2
  obtain ⟨i3, ei3⟩ := is_v g9
  obtain rfl : w3 = (.int i3) := Option.some.inj ei3
  obtain ⟨i4, ei4⟩ := is_v g11
  obtain rfl : w4 = (.int i4) := Option.some.inj ei4
  obtain ⟨i5, ei5⟩ := is_v g12
  obtain rfl : w5 = (.int i5) := Option.some.inj ei5
  obtain ⟨n, o, h1, h2, h3, _, L, rfl, ⟨rfl, N⟩, hq⟩ := rm0 l s _ hw tables_1 i0 i1 i2 i3 i4 i5 s.heap s.heap.size (Nat.le_refl _)  p e ha hc hk s m _ below hf ((Spec.applies_iff_loose hf).mp happ).1 ⟨rfl, State.Warmed39.refl s, rfl⟩ trivial
  refine ⟨n, _, h1, h2, h3, hpost _ _ _ _ _ _ ⟨Cond.after_iff.mpr rfl, Cond.after_iff.mpr (eq_i res_at (Term.int_eval (1)) rfl), trivial⟩ ⟨hq.1, hq.2.1, (hq.2.2.sift fun y hy => Or.inr (N y hy)).mono (by decide) (by decide)⟩⟩
theorem main_1_1 : Claimed_1_1 := comes_1 fun _ _ _ _ _ _ h hF => ⟨h.1, hF⟩
theorem main_1_2 : Claimed_1_2 := comes_1 fun _ _ _ _ _ _ h hF => ⟨h.2.1, hF⟩
end Jvm.Pilot.@@N@@
namespace Jvm.Pilot.@@N@@
open Jvm Jvm.ClassFile Sem Op Lib Jvm.Free Jvm.Stand Jvm.Pilot.@@N@@.Jvm.D
/-! MADE BY PROGRAM (witnessworld.py) out of the Statement's table words and the real class files: 11 classes; the members and pool entries that the words name. The judged class is class 1, her method 1. -/
namespace start1
open Jvm.ClassFile
def u (s : String) : CpInfo := .utf8 (stringToUtf16 s)
/-- a pool by its gaps: so many unusable entries, then the entry; so many at the end -/
def gap : Nat → List CpInfo → List CpInfo
  | 0, r => r
  | n + 1, r => .unusable :: gap n r
def poolList (es : List (Nat × CpInfo)) (last : Nat) : List CpInfo := es.foldr (fun e r => gap e.1 (e.2 :: r)) (gap last [])
def pool (es : List (Nat × CpInfo)) (last : Nat) : Array CpInfo := ⟨poolList es last⟩
def fileOf (pool : Array CpInfo) (this : Nat) (attrs : Array Attribute := #[]) (ms : Array MethodInfo := #[]) (fl : Nat := 33) (sup : Nat := 0) (ifs : Array Nat := #[]) (fds : Array FieldInfo := #[]) : ClassFile where
  minorVersion := 0
  majorVersion := 65
  constantPool := pool
  accessFlags := fl
  thisClass := this
  superClass := sup
  interfaces := ifs
  fields := fds
  methods := ms
  attributes := attrs
def plain (name : String) (sup : Option ClassId) : Class where
  name := name
  kind := .ordinary
  loader := none
  accessFlags := 33
  super := sup
  interfaces := #[]
  cf := none
  fields := #[]
  methods := #[]
  instanceTypes := #[]
  staticTypes := #[]
  resolved := #[]
  callSites := []
  init := .initialized
  statics := none
  mirror := none

def pool0 : Array CpInfo := pool [(5, u "<init>"), (0, u "()V"), (1, .class_ 10), (1, u "java/lang/Object")] 113

def k0c0 : Code := { maxStack := 0, maxLocals := 1, code := object_method_1_code, exceptionTable := #[], attributes := #[] }
def k0m0 : Method := { name := "<init>", desc := "()V", sig := { parameters := [], returnType := none }, accessFlags := 1, code := some k0c0 }
/-- java/lang/Object -/
def k0 : Class := { plain "java/lang/Object" none with
  accessFlags := 33
  interfaces := #[]
  cf := some (fileOf pool0 8 #[] #[{ accessFlags := 1, nameIndex := 5, descriptorIndex := 6, attributes := #[] }] 33 0 #[] #[])
  fields := #[]
  methods := #[k0m0]
  instanceTypes := #[]
  staticTypes := #[]
  resolved := Array.replicate 124 none
  statics := none }

def pool1 : Array CpInfo := pool [(2, .class_ 4), (1, u "java/lang/Object"), (0, u "<init>"), (0, u "()V"), (0, .class_ 8), (0, u "com/example/leafcode/leafcode/ByteDecoder$Run"), (0, .methodref 7 10), (0, .nameAndType 5 11), (0, u "(I)V"), (0, .fieldref 7 13), (0, .nameAndType 14 15), (0, u "start"), (0, u "I"), (0, .fieldref 7 17), (0, .nameAndType 18 15), (0, u "bit"), (0, .fieldref 7 20), (0, .nameAndType 21 15), (0, u "count"), (0, .fieldref 7 23), (0, .nameAndType 24 15), (0, u "first"), (0, .fieldref 7 26), (0, .nameAndType 27 15), (0, u "recorded"), (0, .fieldref 7 29), (0, .nameAndType 30 31), (0, u "out"), (0, u "[B"), (0, .long 4294967295), (1, .fieldref 7 35), (0, .nameAndType 36 37), (0, u "starts"), (0, u "[J"), (0, .fieldref 7 39), (0, .nameAndType 40 37), (0, u "passed"), (0, .long 18446744073709551615), (1, .fieldref 7 44), (0, .nameAndType 45 46), (0, u "pending"), (0, u "[I"), (0, .methodref 7 48), (0, .nameAndType 49 11), (0, u "begin"), (0, .class_ 51), (0, u "com/example/leafcode/leafcode/RunBeginPinLaw"), (2, u "law"), (0, u "(IIIIII)Z")] 7

def k1m0 : Method := { name := "<init>", desc := "()V", sig := { parameters := [], returnType := none }, accessFlags := 1, code := none }
def k1c1 : Code := { maxStack := 6, maxLocals := 11, code := code, exceptionTable := #[], attributes := #[] }
def k1m1 : Method := { name := "law", desc := "(IIIIII)Z", sig := { parameters := [.int, .int, .int, .int, .int, .int], returnType := some .boolean }, accessFlags := 9, code := some k1c1 }
/-- com/example/leafcode/leafcode/RunBeginPinLaw -/
def k1 : Class := { plain "com/example/leafcode/leafcode/RunBeginPinLaw" (some 0) with
  accessFlags := 49
  interfaces := #[]
  cf := some (fileOf pool1 50 #[] #[{ accessFlags := 1, nameIndex := 5, descriptorIndex := 6, attributes := #[] }, { accessFlags := 9, nameIndex := 54, descriptorIndex := 55, attributes := #[] }] 49 2 #[] #[])
  fields := #[]
  methods := #[k1m0, k1m1]
  instanceTypes := #[]
  staticTypes := #[]
  resolved := Array.replicate 63 none
  statics := none }

def pool2 : Array CpInfo := pool [(1, .class_ 2), (0, u "com/example/leafcode/leafcode/ByteDecoder"), (0, .methodref 4 5), (0, .class_ 6), (0, .nameAndType 7 8), (0, u "java/lang/Object"), (0, u "<init>"), (0, u "()V"), (2, .fieldref 12 13), (0, .class_ 14), (0, .nameAndType 15 16), (0, u "com/example/leafcode/leafcode/ByteDecoder$Run"), (0, u "starts"), (0, u "[J"), (0, .fieldref 12 18), (0, .nameAndType 19 16), (0, u "passed"), (0, .fieldref 12 21), (0, .nameAndType 22 23), (0, u "pending"), (0, u "[I"), (0, .fieldref 12 25), (0, .nameAndType 26 27), (0, u "out"), (0, u "[B"), (0, .fieldref 12 29), (0, .nameAndType 30 31), (0, u "start"), (0, u "I"), (0, .fieldref 12 33), (0, .nameAndType 34 31), (0, u "bit"), (0, .fieldref 12 36), (0, .nameAndType 37 31), (0, u "count"), (0, .fieldref 12 39), (0, .nameAndType 40 31), (0, u "first"), (0, .fieldref 12 42), (0, .nameAndType 43 31), (0, u "recorded"), (0, u "(I)V"), (2, u "begin")] 5

def k2c0 : Code := { maxStack := 2, maxLocals := 2, code := prog_6_method_1_code, exceptionTable := #[], attributes := #[] }
def k2m0 : Method := { name := "<init>", desc := "(I)V", sig := { parameters := [.int], returnType := none }, accessFlags := 0, code := some k2c0 }
def k2c1 : Code := { maxStack := 2, maxLocals := 2, code := prog_6_method_2_code, exceptionTable := #[], attributes := #[] }
def k2m1 : Method := { name := "begin", desc := "(I)V", sig := { parameters := [.int], returnType := none }, accessFlags := 0, code := some k2c1 }
/-- com/example/leafcode/leafcode/ByteDecoder$Run -/
def k2 : Class := { plain "com/example/leafcode/leafcode/ByteDecoder$Run" (some 0) with
  accessFlags := 48
  interfaces := #[]
  cf := some (fileOf pool2 12 #[.nestHost 1] #[{ accessFlags := 0, nameIndex := 7, descriptorIndex := 44, attributes := #[] }, { accessFlags := 0, nameIndex := 47, descriptorIndex := 44, attributes := #[] }] 48 4 #[] #[{ accessFlags := 16, nameIndex := 26, descriptorIndex := 27, attributes := #[] }, { accessFlags := 16, nameIndex := 15, descriptorIndex := 16, attributes := #[] }, { accessFlags := 16, nameIndex := 19, descriptorIndex := 16, attributes := #[] }, { accessFlags := 0, nameIndex := 43, descriptorIndex := 31, attributes := #[] }, { accessFlags := 16, nameIndex := 22, descriptorIndex := 23, attributes := #[] }, { accessFlags := 0, nameIndex := 30, descriptorIndex := 31, attributes := #[] }, { accessFlags := 0, nameIndex := 34, descriptorIndex := 31, attributes := #[] }, { accessFlags := 0, nameIndex := 37, descriptorIndex := 31, attributes := #[] }, { accessFlags := 0, nameIndex := 40, descriptorIndex := 31, attributes := #[] }])
  fields := #[{ name := "out", type := (.array .byte), accessFlags := 16, slot := 0, constantValue := 0 }, { name := "starts", type := (.array .long), accessFlags := 16, slot := 1, constantValue := 0 }, { name := "passed", type := (.array .long), accessFlags := 16, slot := 2, constantValue := 0 }, { name := "recorded", type := .int, accessFlags := 0, slot := 3, constantValue := 0 }, { name := "pending", type := (.array .int), accessFlags := 16, slot := 4, constantValue := 0 }, { name := "start", type := .int, accessFlags := 0, slot := 5, constantValue := 0 }, { name := "bit", type := .int, accessFlags := 0, slot := 6, constantValue := 0 }, { name := "count", type := .int, accessFlags := 0, slot := 7, constantValue := 0 }, { name := "first", type := .int, accessFlags := 0, slot := 8, constantValue := 0 }]
  methods := #[k2m0, k2m1]
  instanceTypes := #[(.array .byte), (.array .long), (.array .long), .int, (.array .int), .int, .int, .int, .int]
  staticTypes := #[]
  resolved := Array.replicate 53 none
  statics := none }

def pool3 : Array CpInfo := pool [(1, u "java/lang/Cloneable"), (0, .class_ 1), (0, u "java/lang/Object"), (0, .class_ 3)] 3

/-- java/lang/Cloneable -/
def k3 : Class := { plain "java/lang/Cloneable" (some 0) with
  accessFlags := 1537
  interfaces := #[]
  cf := some (fileOf pool3 2 #[] #[] 1537 4 #[] #[])
  fields := #[]
  methods := #[]
  instanceTypes := #[]
  staticTypes := #[]
  resolved := Array.replicate 8 none
  statics := none }

def pool4 : Array CpInfo := pool [(1, u "java/io/Serializable"), (0, .class_ 1), (0, u "java/lang/Object"), (0, .class_ 3)] 3

/-- java/io/Serializable -/
def k4 : Class := { plain "java/io/Serializable" (some 0) with
  accessFlags := 1537
  interfaces := #[]
  cf := some (fileOf pool4 2 #[] #[] 1537 4 #[] #[])
  fields := #[]
  methods := #[]
  instanceTypes := #[]
  staticTypes := #[]
  resolved := Array.replicate 8 none
  statics := none }

/-- the primitive byte -/
def k5 : Class := { plain "byte" none with kind := .primitive 'B', accessFlags := 0x411 }
/-- [B -/
def k6 : Class := { plain "[B" (some 0) with kind := .array 5 .byte, interfaces := #[3, 4], accessFlags := 1041 }

/-- the primitive int -/
def k7 : Class := { plain "int" none with kind := .primitive 'I', accessFlags := 0x411 }
/-- [I -/
def k8 : Class := { plain "[I" (some 0) with kind := .array 7 .int, interfaces := #[3, 4], accessFlags := 1041 }

/-- the primitive long -/
def k9 : Class := { plain "long" none with kind := .primitive 'J', accessFlags := 0x411 }
/-- [J -/
def k10 : Class := { plain "[J" (some 0) with kind := .array 9 .long, interfaces := #[3, 4], accessFlags := 1041 }

def heap : Heap := #[]
def classes : Array Class := #[k0, k1, k2, k3, k4, k5, k6, k7, k8, k9, k10]
def interned : List (Array UInt16 × Addr) := []
def slotsUsed : Nat := 0
def theMethod : MethodId := ⟨1, 1⟩
def args0 : Array Value := #[.int 5, .int 7, .int 1, .int 2, .int 3, .int 4]
def aboutOver (below : List Frame) : State where
  vm := { classes := classes, interned := interned.toArray }
  heap := heap
  slotsUsed := slotsUsed
  threads := #[{ frames := .invoking theMethod args0 :: below }]
def below0 : List Frame := [.native { method := ⟨0, 0⟩, args := #[] }]
def about1 : State := aboutOver below0
def p0 : Program := .bare "" "" ""
def e0 : Env := launch0.env 0 0 0
theorem w_frames : about1.frames = Frame.invoking theMethod args0 :: below0 := rfl
set_option maxRecDepth 65536 in
theorem w_args : argsFit about1.vm theMethod args0 = true := by decide +kernel
set_option maxRecDepth 65536 in
theorem w_heap : heapFits about1 = true := by decide +kernel
set_option maxRecDepth 65536 in
theorem w_runnable : about1.curStatus? = some .runnable := by decide +kernel
set_option maxRecDepth 65536 in
theorem w_alone : about1.alone = true := by decide +kernel
set_option maxRecDepth 65536 in
theorem w_named : about1.methodNamed? x = some theMethod := by decide +kernel
set_option maxRecDepth 65536 in
theorem w_hears : about1.hears theMethod below0 = true := by decide +kernel
set_option maxRecDepth 65536 in
theorem w_ripe : about1.ripe theMethod args0 below0 = true := by decide +kernel
theorem w_running : about1.status = .running := rfl
set_option maxRecDepth 65536 in
theorem w_room : about1.hasRoom e0.platform room_1 = true :=
  launch0.hasRoom_least _ room_1 (by decide +kernel) (by decide +kernel) (by decide +kernel) (by decide +kernel) (by decide +kernel) (by decide +kernel)
theorem allAtoms_all (ts : List Jvm.Cond) (a : Array Jvm.Value) (st : Jvm.State) : (allAtoms ts).before a st = ts.all (fun c => c.before a st) := by
  induction ts with
  | nil => rfl
  | cons c t ih =>
    show (Jvm.Cond.and c (allAtoms t)).before a st = _
    rw [Jvm.Cond.before_and, ih, List.all_cons]
def words1 : List Jvm.Cond := Jvm.Cond.code x code maxLocals ret :: tables_1
/-- a 'code' word, met by the world's own term for the bytes: nothing is compared byte by byte -/
theorem code_word {y : MethodName} {bytes : ByteArray} {mx : Nat} {rt : Option FieldType} {a : Array Value} {s : State} {m : MethodId} {meth : Method} {c : Code} (h1 : s.methodNamed? y = some m) (h2 : s.vm.method? m = some meth) (h3 : meth.code = some c) (h4 : c.code = bytes)
    (h5 : (c.maxLocals == mx && c.exceptionTable.isEmpty && decide (c.maxStack ≤ mostOperands) && decide (meth.sig.returnType = rt) && !meth.locks && decide (parseMethodDescriptor y.desc = some meth.sig)) = true) : (Jvm.Cond.code y bytes mx rt).before a s = true := by
  simp only [Bool.and_eq_true, beq_iff_eq, Bool.not_eq_true', decide_eq_true_eq] at h5
  obtain ⟨⟨⟨⟨⟨g1, g2⟩, g3⟩, g4⟩, g5⟩, g6⟩ := h5
  simp [Cond.before, Cond.holds, Cond.value, h1, h2, h3, h4, g1, g2, g3, g4, g5, g6]
def isCode : Jvm.Cond → Bool
  | .code _ _ _ _ => true
  | _ => false
theorem all_split {L : List Jvm.Cond} {P : Jvm.Cond → Bool} (h1 : L.all (fun c => isCode c || P c) = true) (h2 : ∀ c ∈ L.filter isCode, P c = true) : L.all P = true := by
  refine List.all_eq_true.mpr fun c hc => ?_
  have h := List.all_eq_true.mp h1 c hc
  rcases Bool.eq_false_or_eq_true (isCode c) with hi | hi
  · exact h2 c (List.mem_filter.mpr ⟨hc, hi⟩)
  · simpa [hi] using h
set_option maxRecDepth 65536 in
theorem w_c0 : (Jvm.Cond.code x code maxLocals ret).before args0 about1 = true := code_word (m := ⟨1, 1⟩) (meth := k1m1) (c := k1c1) (by decide +kernel) rfl rfl rfl (by decide +kernel)
set_option maxRecDepth 65536 in
theorem w_c1 : (Jvm.Cond.code ({ cls := "com/example/leafcode/leafcode/ByteDecoder$Run", name := "<init>", desc := "(I)V" } : Jvm.MethodName) prog_6_method_1_code (2 : Nat) (Option.none : Option Jvm.ClassFile.FieldType)).before args0 about1 = true := code_word (m := ⟨2, 0⟩) (meth := k2m0) (c := k2c0) (by decide +kernel) rfl rfl rfl (by decide +kernel)
set_option maxRecDepth 65536 in
theorem w_c2 : (Jvm.Cond.code ({ cls := "java/lang/Object", name := "<init>", desc := "()V" } : Jvm.MethodName) object_method_1_code (1 : Nat) (Option.none : Option Jvm.ClassFile.FieldType)).before args0 about1 = true := code_word (m := ⟨0, 0⟩) (meth := k0m0) (c := k0c0) (by decide +kernel) rfl rfl rfl (by decide +kernel)
set_option maxRecDepth 65536 in
theorem w_c3 : (Jvm.Cond.code ({ cls := "com/example/leafcode/leafcode/ByteDecoder$Run", name := "begin", desc := "(I)V" } : Jvm.MethodName) prog_6_method_2_code (2 : Nat) (Option.none : Option Jvm.ClassFile.FieldType)).before args0 about1 = true := code_word (m := ⟨2, 1⟩) (meth := k2m1) (c := k2c1) (by decide +kernel) rfl rfl rfl (by decide +kernel)
def codes1 : List Jvm.Cond := [Jvm.Cond.code x code maxLocals ret, Jvm.Cond.code ({ cls := "com/example/leafcode/leafcode/ByteDecoder$Run", name := "<init>", desc := "(I)V" } : Jvm.MethodName) prog_6_method_1_code (2 : Nat) (Option.none : Option Jvm.ClassFile.FieldType), Jvm.Cond.code ({ cls := "java/lang/Object", name := "<init>", desc := "()V" } : Jvm.MethodName) object_method_1_code (1 : Nat) (Option.none : Option Jvm.ClassFile.FieldType), Jvm.Cond.code ({ cls := "com/example/leafcode/leafcode/ByteDecoder$Run", name := "begin", desc := "(I)V" } : Jvm.MethodName) prog_6_method_2_code (2 : Nat) (Option.none : Option Jvm.ClassFile.FieldType)]
set_option maxRecDepth 65536 in
theorem codes_eq : words1.filter isCode = codes1 := rfl
theorem w_codes : ∀ c ∈ words1.filter isCode, c.before args0 about1 = true := by
  rw [codes_eq]
  intro c hc
  simp only [codes1, List.mem_cons, List.not_mem_nil, or_false] at hc
  rcases hc with rfl | rfl | rfl | rfl
  · exact w_c0
  · exact w_c1
  · exact w_c2
  · exact w_c3
set_option maxRecDepth 65536 in
theorem w_t1 : (words1.take 24).all (fun c => isCode c || c.before args0 about1) = true := by decide +kernel
set_option maxRecDepth 65536 in
theorem w_t2 : (words1.drop 24).all (fun c => isCode c || c.before args0 about1) = true := by decide +kernel
theorem w_tables : (allAtoms (Jvm.Cond.code x code maxLocals ret :: tables_1)).before args0 about1 = true := by
  rw [allAtoms_all]
  show words1.all (fun c => c.before args0 about1) = true
  refine all_split ?_ w_codes
  rw [← List.take_append_drop 24 words1, List.all_append, w_t1, w_t2]
  rfl
set_option maxRecDepth 65536 in
theorem w_case : (Jvm.Cond.and given_1 narrow_1).before args0 about1 = true := by decide +kernel
theorem w_applies : (headSpec (Jvm.Cond.code x code maxLocals ret :: tables_1) room_1).applies x e0.platform about1 = true :=
  (Spec.applies_iff w_frames).mpr ⟨w_running, w_runnable, w_alone, w_named, w_hears, w_ripe, w_room, w_tables⟩
theorem atStart : AtStart classFile x code maxLocals ret World_1 tables_1 room_1 Calls_1 rest_1 Pre_1 launch0 p0 e0 about1 theMethod args0 below0 :=
  ⟨lists_1, trivial, launch0.admits_env _ _ _, launch0.least_env, fairChoices_fair.cas, fairChoices_fair.clock, w_frames, w_args, w_heap, w_applies, trivial, trivial, w_case⟩
end start1
theorem witness_1 : WitnessClaimed_1 := ⟨start1.p0, start1.e0, start1.about1, start1.theMethod, start1.args0, start1.below0, start1.atStart⟩
end Jvm.Pilot.@@N@@
