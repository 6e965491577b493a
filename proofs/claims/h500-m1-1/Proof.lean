import JvmDerived
import JvmDerived.Pilot.@@N@@Statement
import JvmDerived.Pilot.@@N@@Code
set_option linter.unusedVariables false
set_option linter.unusedSimpArgs false
namespace Jvm.Pilot.@@N@@
open Jvm Jvm.ClassFile Sem Op Lib Jvm.Free Jvm.Stand Jvm.LawKit Jvm.RoadKit Bundle Jvm.Pilot.@@N@@.Jvm.D
section OwnKit
variable {p : Program} {l : Launch} {e : Env} {R : Room} {s : State} {m : MethodId} {args : Array Value} {below : List Frame} {meth : Method} {c : Code} {T : State} {locs : List Loc} {cells slots kc ks : Nat} {Q : Option Value → Heap → List Loc → Prop} {A B : State}
/-- the rest of a walk: from the state A the run comes to a return that Q describes -/
def OW (p : Program) (e : Env) (below : List Frame) (s : State) (Q : Option Value → Heap → List Loc → Prop) (kc ks : Nat) (A : State) : Prop :=
  ∃ s₂ o, Steps p.tables e below A s₂ ∧ s₂.status = .running ∧ Ended s₂ below o ∧ ∃ v L, o = .returned v ∧ Q v s₂.heap L ∧ FrameEnd s o s₂ L kc ks
theorem OW.st (h : ∀ t, Steps p.tables e below B t → Steps p.tables e below A t) (k : OW p e below s Q kc ks B) : OW p e below s Q kc ks A := by
  obtain ⟨a, o, h1, h2⟩ := k; exact ⟨a, o, h _ h1, h2⟩
theorem OW.tr (h : Steps p.tables e below A B) (k : OW p e below s Q kc ks B) : OW p e below s Q kc ks A := by
  obtain ⟨a, o, h1, h2⟩ := k; exact ⟨a, o, h.trans h1, h2⟩
theorem OW.ret (X : Stand p l e R s m args below meth c T locs cells slots) (hx : p.tables.exec = Jvm.exec) (hlk : meth.locks = false) {pc : Nat} {Ls : Array Slot} {w : Value} {t : FieldType} {i : Instr} {rest : List Value} (hret : meth.sig.returnType = some t) (hn : narrow t w = w)
    (hi : (i = .ireturn ∧ (t = .int ∨ t = .boolean ∨ t = .byte ∨ t = .char ∨ t = .short) ∧ ∃ z, w = .int z) ∨ (i = .lreturn ∧ t = .long ∧ ∃ z, w = .long z) ∨ (i = .dreturn ∧ t = .double ∧ ∃ z, w = .double z) ∨ (i = .freturn ∧ t = .float ∧ ∃ z, w = .float z) ∨ (i = .areturn ∧ t.isReference = true ∧ w.isRef = true))
    (hd : decode c.code pc = .ok (i, 1)) {h : Heap} (eT : T.heap = h) (hc : cells ≤ kc) (hs : slots ≤ ks) (q : Q (some w) h locs) : OW p e below s Q kc ks (T.setTop (mkF m pc Ls (w :: rest))) := by
  obtain ⟨fs, hr, hrun, hended, hW, hsame⟩ := X.leave (v := some w) (fun h => by rw [hret] at h; cases h) hlk
  subst eT
  exact ⟨_, _, retOut X hx hret hn hi hd hr, hrun, hended, _, _, rfl, q, ⟨_, rfl⟩, hW, hsame.mono hc hs⟩
theorem OW.retV (X : Stand p l e R s m args below meth c T locs cells slots) (hx : p.tables.exec = Jvm.exec) (hlk : meth.locks = false) {pc : Nat} {Ls : Array Slot} (hret : meth.sig.returnType = none)
    (hd : decode c.code pc = .ok (.return_, 1)) {h : Heap} (eT : T.heap = h) (hc : cells ≤ kc) (hs : slots ≤ ks) (q : Q none h locs) : OW p e below s Q kc ks (T.setTop (mkF m pc Ls [])) := by
  obtain ⟨fs, hr, hrun, hended, hW, hsame⟩ := X.leave (v := none) (fun _ => rfl) hlk
  subst eT
  exact ⟨_, _, X.returnOut hx hret hd hr, hrun, hended, _, _, rfl, q, ⟨_, rfl⟩, hW, hsame.mono hc hs⟩
/-- the same for a walk that may intern: its Stand is over 's.setVm vm0' -/
def OWW (p : Program) (e : Env) (below : List Frame) (s : State) (Q : Option Value → Heap → List Loc → Prop) (kc ks : Nat) (A : State) : Prop :=
  ∃ s₂ o, Steps p.tables e below A s₂ ∧ s₂.status = .running ∧ Ended s₂ below o ∧ ∃ v L, o = .returned v ∧ Q v s₂.heap L ∧ ReturnedEndW s o s₂ L kc ks
theorem OWW.st (h : ∀ t, Steps p.tables e below B t → Steps p.tables e below A t) (k : OWW p e below s Q kc ks B) : OWW p e below s Q kc ks A := by
  obtain ⟨a, o, h1, h2⟩ := k; exact ⟨a, o, h _ h1, h2⟩
theorem OWW.tr (h : Steps p.tables e below A B) (k : OWW p e below s Q kc ks B) : OWW p e below s Q kc ks A := by
  obtain ⟨a, o, h1, h2⟩ := k; exact ⟨a, o, h.trans h1, h2⟩
theorem OWW.ret {vm0 : Vm} {k0 : Nat} (X : Stand p l e R (s.setVm vm0) m args below meth c T locs cells slots) {h : Heap} (hS : s.Since vm0 k0) (hk : k0 ≤ h.size) (hx : p.tables.exec = Jvm.exec) (hlk : meth.locks = false) {pc : Nat} {Ls : Array Slot} {w : Value} {t : FieldType} {i : Instr} {rest : List Value} (hret : meth.sig.returnType = some t) (hn : narrow t w = w)
    (hi : (i = .ireturn ∧ (t = .int ∨ t = .boolean ∨ t = .byte ∨ t = .char ∨ t = .short) ∧ ∃ z, w = .int z) ∨ (i = .lreturn ∧ t = .long ∧ ∃ z, w = .long z) ∨ (i = .dreturn ∧ t = .double ∧ ∃ z, w = .double z) ∨ (i = .freturn ∧ t = .float ∧ ∃ z, w = .float z) ∨ (i = .areturn ∧ t.isReference = true ∧ w.isRef = true))
    (hd : decode c.code pc = .ok (i, 1)) (eT : T.heap = h) (hc : cells ≤ kc) (hs : slots ≤ ks) (q : Q (some w) h locs) : OWW p e below s Q kc ks (T.setTop (mkF m pc Ls (w :: rest))) := by
  obtain ⟨fs, hr, hrun, hended, hW, hsame⟩ := X.leave (v := some w) (fun h => by rw [hret] at h; cases h) hlk
  subst eT
  obtain ⟨g1, g2, g3⟩ := hS.ended (U := T.setFrames fs) hW hk hsame
  exact ⟨_, _, retOut X hx hret hn hi hd hr, hrun, hended, _, _, rfl, q, ⟨_, rfl⟩, g1, g2, g3.mono hc hs⟩
theorem OWW.retV {vm0 : Vm} {k0 : Nat} (X : Stand p l e R (s.setVm vm0) m args below meth c T locs cells slots) {h : Heap} (hS : s.Since vm0 k0) (hk : k0 ≤ h.size) (hx : p.tables.exec = Jvm.exec) (hlk : meth.locks = false) {pc : Nat} {Ls : Array Slot} (hret : meth.sig.returnType = none)
    (hd : decode c.code pc = .ok (.return_, 1)) (eT : T.heap = h) (hc : cells ≤ kc) (hs : slots ≤ ks) (q : Q none h locs) : OWW p e below s Q kc ks (T.setTop (mkF m pc Ls [])) := by
  obtain ⟨fs, hr, hrun, hended, hW, hsame⟩ := X.leave (v := none) (fun _ => rfl) hlk
  subst eT
  obtain ⟨g1, g2, g3⟩ := hS.ended (U := T.setFrames fs) hW hk hsame
  exact ⟨_, _, X.returnOut hx hret hd hr, hrun, hended, _, _, rfl, q, ⟨_, rfl⟩, g1, g2, g3.mono hc hs⟩
end OwnKit
section OwnWords
variable {args : Array Value} {first s : State} {o : Option Outcome} {idx : List Nat} {t : Term}
theorem own_eq_int {k : Int32} (h : (Jvm.Cond.eq t (.int k)).value args first o s idx = some true) : t.eval args first o idx s = some (.int k) := by
  obtain ⟨x, y, h1, h2, k1, k2⟩ := cmp_v (Or.inl h)
  rw [Term.int_eval] at h2
  cases h2
  obtain ⟨z, rfl⟩ := k2
  rw [h1, gotT (Cond.eq_ints h1 (Term.int_eval k)) h]
theorem own_eq_ref {u : Term} {a : Addr} (h : (Jvm.Cond.eq t u).value args first o s idx = some true) (hu : u.eval args first o idx s = some (.ref a)) : t.eval args first o idx s = some (.ref a) := by
  obtain ⟨x, y, h1, h2, k1, k2⟩ := cmp_v (Or.inl h)
  cases hu.symm.trans h2
  have q := gotT (eq_R h1 hu k2.2 rfl) h
  rw [h1, q]
theorem own_arr {ty : FieldType} {a : Addr} {z : Int32} (ev : t.eval args s none [] s = some (.ref a)) (ha : (Jvm.Cond.arrayOf t ty).value args s none s [] = some true) (hl : (Term.length t).eval args s none [] s = some (.int z)) :
    ∃ cl : Cell, Arr s s.heap a cl ty ∧ cl.slots.size < 2 ^ 31 ∧ cl.slots.size.toInt32 = z ∧ ∀ j : Int32, ¬ j < 0 → ∀ v, (Term.elem t (.int j)).eval args s none [] s = some v → cl.slots[j.toNatClampNeg]? = some v := by
  obtain ⟨cl, A⟩ := Arr.start ev ha
  have hat := A.fin (Vm.Alike.refl _)
  have hlt : cl.slots.size < 2 ^ 31 := by
    refine Decidable.byContradiction fun q => ?_
    simp [Term.eval, ev, hat, q] at hl
  refine ⟨cl, A, hlt, ?_, fun j hj v hv => ?_⟩
  · rw [len_f ev hat hlt] at hl; exact Value.int.inj (Option.some.inj hl)
  · rw [elem_f ev (Term.int_eval j) hat hj] at hv; exact hv
end OwnWords
theorem own_oldle {Z : State} {n0 : Nat} {h : Heap} (X : Old Z n0 h) : n0 ≤ h.size := X.1 ▸ X.2.1
theorem own_cat {v : Value} (h : v.isRef = true) : v.category = 1 := by cases v <;> first | rfl | simp [Value.isRef] at h
theorem own_nar {v : Value} {t : FieldType} (h : v.isRef = true) (ht : t.isReference = true) : narrow t v = v := by cases t <;> first | (cases ht; done) | (cases v <;> first | rfl | simp [Value.isRef] at h)
theorem own_fit {v : Value} {t : FieldType} (h : v.isRef = true) (ht : t.isReference = true) : fits t v = true := by cases t <;> first | (cases ht; done) | (cases v <;> first | rfl | simp [Value.isRef] at h)

theorem own_nz {r : Int32} (h : r = 0 ∨ r = 1) : narrow .boolean (.int r) = .int r := by rcases h with rfl | rfl <;> rfl
theorem own_fz {r : Int32} (h : r = 0 ∨ r = 1) : fits .boolean (.int r) = true := by rcases h with rfl | rfl <;> rfl
theorem w_0 {a0 : Array Value} {Z : State} (hw : ∀ d ∈ tables_1, d.before a0 Z = true) : (Jvm.Cond.classLink "com/example/tileburgh/tileburgh/model/ConstructionKindTakesRenterPinLaw" (7 : Nat) "com/example/tileburgh/tileburgh/model/ConstructionKind").before a0 Z = true := hw _ (List.mem_of_getElem? (i := 0) rfl)
theorem w_1 {a0 : Array Value} {Z : State} (hw : ∀ d ∈ tables_1, d.before a0 Z = true) : (Jvm.Cond.arrayOver (Jvm.ClassFile.FieldType.object "com/example/tileburgh/tileburgh/model/ConstructionKind")).before a0 Z = true := hw _ (List.mem_of_getElem? (i := 1) rfl)
theorem w_2 {a0 : Array Value} {Z : State} (hw : ∀ d ∈ tables_1, d.before a0 Z = true) : (Jvm.Cond.fieldLink "com/example/tileburgh/tileburgh/model/ConstructionKindTakesRenterPinLaw" (9 : Nat) "com/example/tileburgh/tileburgh/model/ConstructionKind" "LOW_COST" "Lcom/example/tileburgh/tileburgh/model/ConstructionKind;").before a0 Z = true := hw _ (List.mem_of_getElem? (i := 2) rfl)
theorem w_3 {a0 : Array Value} {Z : State} (hw : ∀ d ∈ tables_1, d.before a0 Z = true) : (Jvm.Cond.initialized "com/example/tileburgh/tileburgh/model/ConstructionKind").before a0 Z = true := hw _ (List.mem_of_getElem? (i := 3) rfl)
theorem w_4 {a0 : Array Value} {Z : State} (hw : ∀ d ∈ tables_1, d.before a0 Z = true) : (Jvm.Cond.laysStatic "com/example/tileburgh/tileburgh/model/ConstructionKind" "LOW_COST" "Lcom/example/tileburgh/tileburgh/model/ConstructionKind;").before a0 Z = true := hw _ (List.mem_of_getElem? (i := 4) rfl)
theorem w_6 {a0 : Array Value} {Z : State} (hw : ∀ d ∈ tables_1, d.before a0 Z = true) : (Jvm.Cond.fieldLink "com/example/tileburgh/tileburgh/model/ConstructionKindTakesRenterPinLaw" (13 : Nat) "com/example/tileburgh/tileburgh/model/ConstructionKind" "CONVENTIONAL" "Lcom/example/tileburgh/tileburgh/model/ConstructionKind;").before a0 Z = true := hw _ (List.mem_of_getElem? (i := 6) rfl)
theorem w_7 {a0 : Array Value} {Z : State} (hw : ∀ d ∈ tables_1, d.before a0 Z = true) : (Jvm.Cond.laysStatic "com/example/tileburgh/tileburgh/model/ConstructionKind" "CONVENTIONAL" "Lcom/example/tileburgh/tileburgh/model/ConstructionKind;").before a0 Z = true := hw _ (List.mem_of_getElem? (i := 7) rfl)
theorem w_8 {a0 : Array Value} {Z : State} (hw : ∀ d ∈ tables_1, d.before a0 Z = true) : (Jvm.Cond.fieldLink "com/example/tileburgh/tileburgh/model/ConstructionKindTakesRenterPinLaw" (16 : Nat) "com/example/tileburgh/tileburgh/model/ConstructionKind" "GREEN" "Lcom/example/tileburgh/tileburgh/model/ConstructionKind;").before a0 Z = true := hw _ (List.mem_of_getElem? (i := 8) rfl)
theorem w_9 {a0 : Array Value} {Z : State} (hw : ∀ d ∈ tables_1, d.before a0 Z = true) : (Jvm.Cond.laysStatic "com/example/tileburgh/tileburgh/model/ConstructionKind" "GREEN" "Lcom/example/tileburgh/tileburgh/model/ConstructionKind;").before a0 Z = true := hw _ (List.mem_of_getElem? (i := 9) rfl)
theorem w_10 {a0 : Array Value} {Z : State} (hw : ∀ d ∈ tables_1, d.before a0 Z = true) : (Jvm.Cond.fieldLink "com/example/tileburgh/tileburgh/model/ConstructionKindTakesRenterPinLaw" (19 : Nat) "com/example/tileburgh/tileburgh/model/ConstructionKind" "SHOPPING" "Lcom/example/tileburgh/tileburgh/model/ConstructionKind;").before a0 Z = true := hw _ (List.mem_of_getElem? (i := 10) rfl)
theorem w_11 {a0 : Array Value} {Z : State} (hw : ∀ d ∈ tables_1, d.before a0 Z = true) : (Jvm.Cond.laysStatic "com/example/tileburgh/tileburgh/model/ConstructionKind" "SHOPPING" "Lcom/example/tileburgh/tileburgh/model/ConstructionKind;").before a0 Z = true := hw _ (List.mem_of_getElem? (i := 11) rfl)
theorem w_12 {a0 : Array Value} {Z : State} (hw : ∀ d ∈ tables_1, d.before a0 Z = true) : (Jvm.Cond.fieldLink "com/example/tileburgh/tileburgh/model/ConstructionKindTakesRenterPinLaw" (22 : Nat) "com/example/tileburgh/tileburgh/model/ConstructionKind" "GREENSPACE" "Lcom/example/tileburgh/tileburgh/model/ConstructionKind;").before a0 Z = true := hw _ (List.mem_of_getElem? (i := 12) rfl)
theorem w_13 {a0 : Array Value} {Z : State} (hw : ∀ d ∈ tables_1, d.before a0 Z = true) : (Jvm.Cond.laysStatic "com/example/tileburgh/tileburgh/model/ConstructionKind" "GREENSPACE" "Lcom/example/tileburgh/tileburgh/model/ConstructionKind;").before a0 Z = true := hw _ (List.mem_of_getElem? (i := 13) rfl)
theorem w_14 {a0 : Array Value} {Z : State} (hw : ∀ d ∈ tables_1, d.before a0 Z = true) : (Jvm.Cond.fieldLink "com/example/tileburgh/tileburgh/model/ConstructionKindTakesRenterPinLaw" (25 : Nat) "com/example/tileburgh/tileburgh/model/ConstructionKind" "ECO_PARK" "Lcom/example/tileburgh/tileburgh/model/ConstructionKind;").before a0 Z = true := hw _ (List.mem_of_getElem? (i := 14) rfl)
theorem w_15 {a0 : Array Value} {Z : State} (hw : ∀ d ∈ tables_1, d.before a0 Z = true) : (Jvm.Cond.laysStatic "com/example/tileburgh/tileburgh/model/ConstructionKind" "ECO_PARK" "Lcom/example/tileburgh/tileburgh/model/ConstructionKind;").before a0 Z = true := hw _ (List.mem_of_getElem? (i := 15) rfl)
theorem w_16 {a0 : Array Value} {Z : State} (hw : ∀ d ∈ tables_1, d.before a0 Z = true) : (Jvm.Cond.constant "com/example/tileburgh/tileburgh/model/ConstructionKindTakesRenterPinLaw" (28 : Nat) (2147483647 : Int32)).before a0 Z = true := hw _ (List.mem_of_getElem? (i := 16) rfl)
theorem w_17 {a0 : Array Value} {Z : State} (hw : ∀ d ∈ tables_1, d.before a0 Z = true) : (Jvm.Cond.methodLink "com/example/tileburgh/tileburgh/model/ConstructionKindTakesRenterPinLaw" (29 : Nat) ({ cls := "com/example/tileburgh/tileburgh/model/ConstructionKind", name := "takesRenter", desc := "()Z" } : Jvm.MethodName)).before a0 Z = true := hw _ (List.mem_of_getElem? (i := 17) rfl)
theorem w_18 {a0 : Array Value} {Z : State} (hw : ∀ d ∈ tables_1, d.before a0 Z = true) : (Jvm.Cond.declares ({ cls := "com/example/tileburgh/tileburgh/model/ConstructionKind", name := "takesRenter", desc := "()Z" } : Jvm.MethodName)).before a0 Z = true := hw _ (List.mem_of_getElem? (i := 18) rfl)
theorem w_19 {a0 : Array Value} {Z : State} (hw : ∀ d ∈ tables_1, d.before a0 Z = true) : (Jvm.Cond.instanceMethod ({ cls := "com/example/tileburgh/tileburgh/model/ConstructionKind", name := "takesRenter", desc := "()Z" } : Jvm.MethodName)).before a0 Z = true := hw _ (List.mem_of_getElem? (i := 19) rfl)
theorem w_20 {a0 : Array Value} {Z : State} (hw : ∀ d ∈ tables_1, d.before a0 Z = true) : (Jvm.Cond.selects "com/example/tileburgh/tileburgh/model/ConstructionKind" ({ cls := "com/example/tileburgh/tileburgh/model/ConstructionKind", name := "takesRenter", desc := "()Z" } : Jvm.MethodName) ({ cls := "com/example/tileburgh/tileburgh/model/ConstructionKind", name := "takesRenter", desc := "()Z" } : Jvm.MethodName)).before a0 Z = true := hw _ (List.mem_of_getElem? (i := 20) rfl)
theorem w_21 {a0 : Array Value} {Z : State} (hw : ∀ d ∈ tables_1, d.before a0 Z = true) : (Jvm.Cond.code ({ cls := "com/example/tileburgh/tileburgh/model/ConstructionKind", name := "takesRenter", desc := "()Z" } : Jvm.MethodName) prog_14_method_6_code (1 : Nat) (Option.some Jvm.ClassFile.FieldType.boolean)).before a0 Z = true := hw _ (List.mem_of_getElem? (i := 21) rfl)
theorem w_22 {a0 : Array Value} {Z : State} (hw : ∀ d ∈ tables_1, d.before a0 Z = true) : (Jvm.Cond.fieldLink "com/example/tileburgh/tileburgh/model/ConstructionKind" (3 : Nat) "com/example/tileburgh/tileburgh/model/ConstructionKind" "LOW_COST" "Lcom/example/tileburgh/tileburgh/model/ConstructionKind;").before a0 Z = true := hw _ (List.mem_of_getElem? (i := 22) rfl)
theorem w_23 {a0 : Array Value} {Z : State} (hw : ∀ d ∈ tables_1, d.before a0 Z = true) : (Jvm.Cond.methodLink "com/example/tileburgh/tileburgh/model/ConstructionKindTakesRenterPinLaw" (33 : Nat) ({ cls := "com/example/tileburgh/tileburgh/model/ConstructionKind", name := "isPark", desc := "()Z" } : Jvm.MethodName)).before a0 Z = true := hw _ (List.mem_of_getElem? (i := 23) rfl)
theorem w_24 {a0 : Array Value} {Z : State} (hw : ∀ d ∈ tables_1, d.before a0 Z = true) : (Jvm.Cond.declares ({ cls := "com/example/tileburgh/tileburgh/model/ConstructionKind", name := "isPark", desc := "()Z" } : Jvm.MethodName)).before a0 Z = true := hw _ (List.mem_of_getElem? (i := 24) rfl)
theorem w_25 {a0 : Array Value} {Z : State} (hw : ∀ d ∈ tables_1, d.before a0 Z = true) : (Jvm.Cond.instanceMethod ({ cls := "com/example/tileburgh/tileburgh/model/ConstructionKind", name := "isPark", desc := "()Z" } : Jvm.MethodName)).before a0 Z = true := hw _ (List.mem_of_getElem? (i := 25) rfl)
theorem w_26 {a0 : Array Value} {Z : State} (hw : ∀ d ∈ tables_1, d.before a0 Z = true) : (Jvm.Cond.selects "com/example/tileburgh/tileburgh/model/ConstructionKind" ({ cls := "com/example/tileburgh/tileburgh/model/ConstructionKind", name := "isPark", desc := "()Z" } : Jvm.MethodName) ({ cls := "com/example/tileburgh/tileburgh/model/ConstructionKind", name := "isPark", desc := "()Z" } : Jvm.MethodName)).before a0 Z = true := hw _ (List.mem_of_getElem? (i := 26) rfl)
theorem w_27 {a0 : Array Value} {Z : State} (hw : ∀ d ∈ tables_1, d.before a0 Z = true) : (Jvm.Cond.code ({ cls := "com/example/tileburgh/tileburgh/model/ConstructionKind", name := "isPark", desc := "()Z" } : Jvm.MethodName) prog_14_method_7_code (1 : Nat) (Option.some Jvm.ClassFile.FieldType.boolean)).before a0 Z = true := hw _ (List.mem_of_getElem? (i := 27) rfl)
theorem w_28 {a0 : Array Value} {Z : State} (hw : ∀ d ∈ tables_1, d.before a0 Z = true) : (Jvm.Cond.fieldLink "com/example/tileburgh/tileburgh/model/ConstructionKind" (16 : Nat) "com/example/tileburgh/tileburgh/model/ConstructionKind" "GREENSPACE" "Lcom/example/tileburgh/tileburgh/model/ConstructionKind;").before a0 Z = true := hw _ (List.mem_of_getElem? (i := 28) rfl)
theorem w_29 {a0 : Array Value} {Z : State} (hw : ∀ d ∈ tables_1, d.before a0 Z = true) : (Jvm.Cond.fieldLink "com/example/tileburgh/tileburgh/model/ConstructionKind" (19 : Nat) "com/example/tileburgh/tileburgh/model/ConstructionKind" "ECO_PARK" "Lcom/example/tileburgh/tileburgh/model/ConstructionKind;").before a0 Z = true := hw _ (List.mem_of_getElem? (i := 29) rfl)
theorem w_30 {a0 : Array Value} {Z : State} (hw : ∀ d ∈ tables_1, d.before a0 Z = true) : (Jvm.Cond.fieldLink "com/example/tileburgh/tileburgh/model/ConstructionKind" (7 : Nat) "com/example/tileburgh/tileburgh/model/ConstructionKind" "CONVENTIONAL" "Lcom/example/tileburgh/tileburgh/model/ConstructionKind;").before a0 Z = true := hw _ (List.mem_of_getElem? (i := 30) rfl)
theorem w_31 {a0 : Array Value} {Z : State} (hw : ∀ d ∈ tables_1, d.before a0 Z = true) : (Jvm.Cond.fieldLink "com/example/tileburgh/tileburgh/model/ConstructionKind" (10 : Nat) "com/example/tileburgh/tileburgh/model/ConstructionKind" "GREEN" "Lcom/example/tileburgh/tileburgh/model/ConstructionKind;").before a0 Z = true := hw _ (List.mem_of_getElem? (i := 31) rfl)
theorem d1_0 : decode prog_14_method_6_code 0 = .ok (.aload_n 0, 1) := by decide +kernel
theorem d1_1 : decode prog_14_method_6_code 1 = .ok (.getstatic 3, 3) := by decide +kernel
theorem d1_4 : decode prog_14_method_6_code 4 = .ok (.if_acmp .eq 17, 3) := by decide +kernel
theorem d1_7 : decode prog_14_method_6_code 7 = .ok (.aload_n 0, 1) := by decide +kernel
theorem d1_8 : decode prog_14_method_6_code 8 = .ok (.getstatic 7, 3) := by decide +kernel
theorem d1_11 : decode prog_14_method_6_code 11 = .ok (.if_acmp .eq 10, 3) := by decide +kernel
theorem d1_14 : decode prog_14_method_6_code 14 = .ok (.aload_n 0, 1) := by decide +kernel
theorem d1_15 : decode prog_14_method_6_code 15 = .ok (.getstatic 10, 3) := by decide +kernel
theorem d1_18 : decode prog_14_method_6_code 18 = .ok (.if_acmp .ne 7, 3) := by decide +kernel
theorem d1_21 : decode prog_14_method_6_code 21 = .ok (.iconst 1, 1) := by decide +kernel
theorem d1_22 : decode prog_14_method_6_code 22 = .ok (.goto 4, 3) := by decide +kernel
theorem d1_25 : decode prog_14_method_6_code 25 = .ok (.iconst 0, 1) := by decide +kernel
theorem d1_26 : decode prog_14_method_6_code 26 = .ok (.ireturn, 1) := by decide +kernel
theorem d2_0 : decode prog_14_method_7_code 0 = .ok (.aload_n 0, 1) := by decide +kernel
theorem d2_1 : decode prog_14_method_7_code 1 = .ok (.getstatic 16, 3) := by decide +kernel
theorem d2_4 : decode prog_14_method_7_code 4 = .ok (.if_acmp .eq 10, 3) := by decide +kernel
theorem d2_7 : decode prog_14_method_7_code 7 = .ok (.aload_n 0, 1) := by decide +kernel
theorem d2_8 : decode prog_14_method_7_code 8 = .ok (.getstatic 19, 3) := by decide +kernel
theorem d2_11 : decode prog_14_method_7_code 11 = .ok (.if_acmp .ne 7, 3) := by decide +kernel
theorem d2_14 : decode prog_14_method_7_code 14 = .ok (.iconst 1, 1) := by decide +kernel
theorem d2_15 : decode prog_14_method_7_code 15 = .ok (.goto 4, 3) := by decide +kernel
theorem d2_18 : decode prog_14_method_7_code 18 = .ok (.iconst 0, 1) := by decide +kernel
theorem d2_19 : decode prog_14_method_7_code 19 = .ok (.ireturn, 1) := by decide +kernel
theorem pn_0 : plainName "com/example/tileburgh/tileburgh/model/ConstructionKind" = true := by first | (simp [plainName, overriddenIn]; done) | decide +kernel
theorem pn_1 : plainName "com/example/tileburgh/tileburgh/model/ConstructionKindTakesRenterPinLaw" = true := by first | (simp [plainName, overriddenIn]; done) | decide +kernel
theorem pd_0 : parseMethodDescriptor "()Z" = some ⟨[], some .boolean⟩ := by decide +kernel
def OwnS (Z : State) (a_LOW_COST : Addr) (a_CONVENTIONAL : Addr) (a_GREEN : Addr) (a_SHOPPING : Addr) (a_GREENSPACE : Addr) (a_ECO_PARK : Addr) : Prop := (Sta Z Z.heap "com/example/tileburgh/tileburgh/model/ConstructionKind" "LOW_COST" "Lcom/example/tileburgh/tileburgh/model/ConstructionKind;" (.ref a_LOW_COST)) ∧ (Exa Z Z.heap a_LOW_COST "com/example/tileburgh/tileburgh/model/ConstructionKind") ∧ (Sta Z Z.heap "com/example/tileburgh/tileburgh/model/ConstructionKind" "CONVENTIONAL" "Lcom/example/tileburgh/tileburgh/model/ConstructionKind;" (.ref a_CONVENTIONAL)) ∧ (Exa Z Z.heap a_CONVENTIONAL "com/example/tileburgh/tileburgh/model/ConstructionKind") ∧ (Sta Z Z.heap "com/example/tileburgh/tileburgh/model/ConstructionKind" "GREEN" "Lcom/example/tileburgh/tileburgh/model/ConstructionKind;" (.ref a_GREEN)) ∧ (Exa Z Z.heap a_GREEN "com/example/tileburgh/tileburgh/model/ConstructionKind") ∧ (Sta Z Z.heap "com/example/tileburgh/tileburgh/model/ConstructionKind" "SHOPPING" "Lcom/example/tileburgh/tileburgh/model/ConstructionKind;" (.ref a_SHOPPING)) ∧ (Exa Z Z.heap a_SHOPPING "com/example/tileburgh/tileburgh/model/ConstructionKind") ∧ (Sta Z Z.heap "com/example/tileburgh/tileburgh/model/ConstructionKind" "GREENSPACE" "Lcom/example/tileburgh/tileburgh/model/ConstructionKind;" (.ref a_GREENSPACE)) ∧ (Exa Z Z.heap a_GREENSPACE "com/example/tileburgh/tileburgh/model/ConstructionKind") ∧ (Sta Z Z.heap "com/example/tileburgh/tileburgh/model/ConstructionKind" "ECO_PARK" "Lcom/example/tileburgh/tileburgh/model/ConstructionKind;" (.ref a_ECO_PARK)) ∧ (Exa Z Z.heap a_ECO_PARK "com/example/tileburgh/tileburgh/model/ConstructionKind") ∧ (Fld Z Z.heap a_LOW_COST "java/lang/Enum" "ordinal" "I" (.int (0 : Int32))) ∧ (Fld Z Z.heap a_GREENSPACE "java/lang/Enum" "ordinal" "I" (.int (4 : Int32))) ∧ (Fld Z Z.heap a_ECO_PARK "java/lang/Enum" "ordinal" "I" (.int (5 : Int32))) ∧ (Fld Z Z.heap a_SHOPPING "java/lang/Enum" "ordinal" "I" (.int (3 : Int32))) ∧ (Fld Z Z.heap a_CONVENTIONAL "java/lang/Enum" "ordinal" "I" (.int (1 : Int32))) ∧ (Fld Z Z.heap a_GREEN "java/lang/Enum" "ordinal" "I" (.int (2 : Int32)))
theorem own_mod6 (x : Int32) : (x &&& 2147483647) % 6 = 0 ∨ (x &&& 2147483647) % 6 = 1 ∨ (x &&& 2147483647) % 6 = 2 ∨ (x &&& 2147483647) % 6 = 3 ∨ (x &&& 2147483647) % 6 = 4 ∨ (x &&& 2147483647) % 6 = 5 := by
  have h1 := (c_and x 2147483647 (by decide)).1
  have h2 := (c_irem (x &&& 2147483647) 6 6 (by decide)).1 h1
  have h3 : 0 ≤ ((x &&& 2147483647) % 6).toInt ∧ ((x &&& 2147483647) % 6).toInt < 6 := by rw [h2]; omega
  generalize (x &&& 2147483647) % 6 = k at h3
  have h4 : k.toInt = 0 ∨ k.toInt = 1 ∨ k.toInt = 2 ∨ k.toInt = 3 ∨ k.toInt = 4 ∨ k.toInt = 5 := by omega
  rcases h4 with h | h | h | h | h | h
  · exact Or.inl (Int32.toInt_inj.mp h)
  · exact Or.inr (Or.inl (Int32.toInt_inj.mp h))
  · exact Or.inr (Or.inr (Or.inl (Int32.toInt_inj.mp h)))
  · exact Or.inr (Or.inr (Or.inr (Or.inl (Int32.toInt_inj.mp h))))
  · exact Or.inr (Or.inr (Or.inr (Or.inr (Or.inl (Int32.toInt_inj.mp h)))))
  · exact Or.inr (Or.inr (Or.inr (Or.inr (Or.inr (Int32.toInt_inj.mp h)))))
theorem ef_K (m : MethodId) (x0 : Addr) : entryFrame m #[(.ref x0)] 1 = mkF m 0 #[.val (.ref x0)] [] := by first | (simp [entryFrame, mkF, argsToLocals, Value.category]; done) | rfl
def QK (Z : State) (a : Addr) (a_LOW_COST : Addr) (a_CONVENTIONAL : Addr) (a_GREEN : Addr) (a_SHOPPING : Addr) (a_GREENSPACE : Addr) (a_ECO_PARK : Addr) (h0 : Heap) (n0 : Nat) (v : Option Value) (h : Heap) (L : List Loc) : Prop := v = some (.int (if a = a_GREENSPACE ∨ a = a_ECO_PARK then 1 else 0)) ∧ Fr n0 L ∧ h = h0
set_option maxRecDepth 65536 in
set_option maxHeartbeats 40000000 in
theorem rmK (l : Launch) (Z : State) (a0 : Array Value) (hw : ∀ d ∈ tables_1, d.before a0 Z = true) (ws : List Jvm.Cond) (a : Addr) (a_LOW_COST : Addr) (a_CONVENTIONAL : Addr) (a_GREEN : Addr) (a_SHOPPING : Addr) (a_GREENSPACE : Addr) (a_ECO_PARK : Addr) (h0 : Heap) (n0 : Nat) (O0 : Old Z n0 h0) (hS : OwnS Z a_LOW_COST a_CONVENTIONAL a_GREEN a_SHOPPING a_GREENSPACE a_ECO_PARK) :
    MetFree l (⟨"com/example/tileburgh/tileburgh/model/ConstructionKind", "isPark", "()Z"⟩ : MethodName) (head1 (Jvm.Cond.code (⟨"com/example/tileburgh/tileburgh/model/ConstructionKind", "isPark", "()Z"⟩ : MethodName) prog_14_method_7_code 1 (some .boolean) :: ws) ({ frames := 0, cells := 0, slots := 0, locals := 0 } : Room)) (fun aa_ UU_ => aa_ = #[(.ref a)] ∧ Z.Warmed39 UU_.vm ∧ UU_.heap = h0) (fun _ _ _ _ _ => True) (fun _ UU_ oo_ UV_ => ∃ vv_ LL_, oo_ = .returned vv_ ∧ QK Z a a_LOW_COST a_CONVENTIONAL a_GREEN a_SHOPPING a_GREENSPACE a_ECO_PARK h0 n0 vv_ UV_.heap LL_ ∧ FrameEnd UU_ oo_ UV_ LL_ ({ frames := 0, cells := 0, slots := 0, locals := 0 } : Room).cells ({ frames := 0, cells := 0, slots := 0, locals := 0 } : Room).slots) := by
  refine MetFree.of_bodySF (plainFor_of_name pn_0) hisR ?_
  intro p e s m args below meth c s₁ Bd hml0 hP hK
  obtain ⟨rfl, hZ, hh⟩ := hP
  have hx := Bd.exec
  have hby := Bd.bytes
  have hlk := BodyLoose.notSynchronized Bd
  have hml : c.maxLocals = 1 := hml0
  have hown : s.vm.findClass "com/example/tileburgh/tileburgh/model/ConstructionKind" = some m.cls := findClass_of_methodNamed Bd.named
  have hnm := (name_of_methodNamed Bd.named Bd.method).1
  have X0 : Stand p l e ({ frames := 0, cells := 0, slots := 0, locals := 0 } : Room) s m #[(.ref a)] below meth c s₁ [] 0 0 := Stand.of_body Bd
  have e0 : s₁.heap = h0 := by rw [← hh, Bd.state]; rfl
  have N0 := Fr.nil n0
  suffices hOW : OW p e below s (QK Z a a_LOW_COST a_CONVENTIONAL a_GREEN a_SHOPPING a_GREENSPACE a_ECO_PARK h0 n0) 0 0 (s₁.setTop (mkF m 0 #[.val (.ref a)] [])) by
    obtain ⟨q1, q2, q3, q4⟩ := hOW
    exact ⟨q1, q2, castTop (ef_K m a) q3, q4⟩
  have hS' := hS
  obtain ⟨Sa_LOW_COST, Ea_LOW_COST, Sa_CONVENTIONAL, Ea_CONVENTIONAL, Sa_GREEN, Ea_GREEN, Sa_SHOPPING, Ea_SHOPPING, Sa_GREENSPACE, Ea_GREENSPACE, Sa_ECO_PARK, Ea_ECO_PARK, Fa_LOW_COST_ordinal, Fa_GREENSPACE_ordinal, Fa_ECO_PARK_ordinal, Fa_SHOPPING_ordinal, Fa_CONVENTIONAL_ordinal, Fa_GREEN_ordinal⟩ := hS'
  refine OW.st (B := s₁.setTop (mkF m 1 #[.val (.ref a)] [(.ref a)])) (fun _ kk_ => XS.aloadN X0.here hx rfl (hb hby d2_0) rfl rfl kk_) ?_
  obtain ⟨T23, X23, e23, st23⟩ := getS2 X0 hx hZ hown (host := "") (Or.inl (w_28 hw)) Via.refl e0 (Sa_GREENSPACE.ext O0.2) (g := (mkF m 1 #[.val (.ref a)] [(.ref a)])) rfl (hb hby d2_1)
  refine OW.st (B := T23.setTop (mkF m 4 #[.val (.ref a)] [(.ref a_GREENSPACE), (.ref a)])) (st23) ?_
  by_cases hc24 : a = a_GREENSPACE
  · refine OW.st (B := T23.setTop (mkF m 14 #[.val (.ref a)] [])) (fun _ kk_ => Jvm.RoadKit.acmp (g := (mkF m 4 #[.val (.ref a)] [(.ref a_GREENSPACE), (.ref a)])) X23 hx rfl rfl rfl (pc0 := 4) (pc' := 14) (same := true) rfl (hb hby d2_4) rfl (decide_eq_true (congrArg Value.ref hc24)) (by decide) (by decide) kk_) ?_
    refine OW.st (B := T23.setTop (mkF m 15 #[.val (.ref a)] [(.int (1 : Int32))])) (fun _ kk_ => XS.iconst X23.here hx rfl (hb hby d2_14) kk_) ?_
    refine OW.st (B := T23.setTop (mkF m 19 #[.val (.ref a)] [(.int (1 : Int32))])) (fun _ kk_ => XS.goto X23.here hx rfl (pc0 := 15) (pc' := 19) rfl (hb hby d2_15) (by decide) (by decide) kk_) ?_
    exact OW.ret X23 hx hlk (i := .ireturn) Bd.returns rfl (Or.inl ⟨rfl, Or.inr (Or.inl rfl), _, rfl⟩) (hb hby d2_19) e23 (by decide) (by decide) ⟨by simp [hc24], N0, rfl⟩
  · refine OW.st (B := T23.setTop (mkF m 7 #[.val (.ref a)] [])) (fun _ kk_ => Jvm.RoadKit.acmp (g := (mkF m 4 #[.val (.ref a)] [(.ref a_GREENSPACE), (.ref a)])) X23 hx rfl rfl rfl (pc0 := 4) (pc' := 7) (same := false) rfl (hb hby d2_4) rfl (decide_eq_false fun q => hc24 (Value.ref.inj q)) (by decide) (by decide) kk_) ?_
    refine OW.st (B := T23.setTop (mkF m 8 #[.val (.ref a)] [(.ref a)])) (fun _ kk_ => XS.aloadN X23.here hx rfl (hb hby d2_7) rfl rfl kk_) ?_
    obtain ⟨T25, X25, e25, st25⟩ := getS2 X23 hx hZ hown (host := "") (Or.inl (w_29 hw)) Via.refl e23 (Sa_ECO_PARK.ext O0.2) (g := (mkF m 8 #[.val (.ref a)] [(.ref a)])) rfl (hb hby d2_8)
    refine OW.st (B := T25.setTop (mkF m 11 #[.val (.ref a)] [(.ref a_ECO_PARK), (.ref a)])) (st25) ?_
    by_cases hc26 : a = a_ECO_PARK
    · refine OW.st (B := T25.setTop (mkF m 14 #[.val (.ref a)] [])) (fun _ kk_ => Jvm.RoadKit.acmp (g := (mkF m 11 #[.val (.ref a)] [(.ref a_ECO_PARK), (.ref a)])) X25 hx rfl rfl rfl (pc0 := 11) (pc' := 14) (same := true) rfl (hb hby d2_11) rfl (decide_eq_true (congrArg Value.ref hc26)) (by decide) (by decide) kk_) ?_
      refine OW.st (B := T25.setTop (mkF m 15 #[.val (.ref a)] [(.int (1 : Int32))])) (fun _ kk_ => XS.iconst X25.here hx rfl (hb hby d2_14) kk_) ?_
      refine OW.st (B := T25.setTop (mkF m 19 #[.val (.ref a)] [(.int (1 : Int32))])) (fun _ kk_ => XS.goto X25.here hx rfl (pc0 := 15) (pc' := 19) rfl (hb hby d2_15) (by decide) (by decide) kk_) ?_
      exact OW.ret X25 hx hlk (i := .ireturn) Bd.returns rfl (Or.inl ⟨rfl, Or.inr (Or.inl rfl), _, rfl⟩) (hb hby d2_19) e25 (by decide) (by decide) ⟨by simp [hc24, hc26], N0, rfl⟩
    · refine OW.st (B := T25.setTop (mkF m 18 #[.val (.ref a)] [])) (fun _ kk_ => Jvm.RoadKit.acmp (g := (mkF m 11 #[.val (.ref a)] [(.ref a_ECO_PARK), (.ref a)])) X25 hx rfl rfl rfl (pc0 := 11) (pc' := 18) (same := false) rfl (hb hby d2_11) rfl (decide_eq_false fun q => hc26 (Value.ref.inj q)) (by decide) (by decide) kk_) ?_
      refine OW.st (B := T25.setTop (mkF m 19 #[.val (.ref a)] [(.int (0 : Int32))])) (fun _ kk_ => XS.iconst X25.here hx rfl (hb hby d2_18) kk_) ?_
      exact OW.ret X25 hx hlk (i := .ireturn) Bd.returns rfl (Or.inl ⟨rfl, Or.inr (Or.inl rfl), _, rfl⟩) (hb hby d2_19) e25 (by decide) (by decide) ⟨by simp [hc24, hc26], N0, rfl⟩
theorem ef_R (m : MethodId) (x0 : Addr) : entryFrame m #[(.ref x0)] 1 = mkF m 0 #[.val (.ref x0)] [] := by first | (simp [entryFrame, mkF, argsToLocals, Value.category]; done) | rfl
def QR (Z : State) (a : Addr) (a_LOW_COST : Addr) (a_CONVENTIONAL : Addr) (a_GREEN : Addr) (a_SHOPPING : Addr) (a_GREENSPACE : Addr) (a_ECO_PARK : Addr) (h0 : Heap) (n0 : Nat) (v : Option Value) (h : Heap) (L : List Loc) : Prop := v = some (.int (if a = a_LOW_COST ∨ a = a_CONVENTIONAL ∨ a = a_GREEN then 1 else 0)) ∧ Fr n0 L ∧ h = h0
set_option maxRecDepth 65536 in
set_option maxHeartbeats 40000000 in
theorem rmR (l : Launch) (Z : State) (a0 : Array Value) (hw : ∀ d ∈ tables_1, d.before a0 Z = true) (ws : List Jvm.Cond) (a : Addr) (a_LOW_COST : Addr) (a_CONVENTIONAL : Addr) (a_GREEN : Addr) (a_SHOPPING : Addr) (a_GREENSPACE : Addr) (a_ECO_PARK : Addr) (h0 : Heap) (n0 : Nat) (O0 : Old Z n0 h0) (hS : OwnS Z a_LOW_COST a_CONVENTIONAL a_GREEN a_SHOPPING a_GREENSPACE a_ECO_PARK) :
    MetFree l (⟨"com/example/tileburgh/tileburgh/model/ConstructionKind", "takesRenter", "()Z"⟩ : MethodName) (head1 (Jvm.Cond.code (⟨"com/example/tileburgh/tileburgh/model/ConstructionKind", "takesRenter", "()Z"⟩ : MethodName) prog_14_method_6_code 1 (some .boolean) :: ws) ({ frames := 0, cells := 0, slots := 0, locals := 0 } : Room)) (fun aa_ UU_ => aa_ = #[(.ref a)] ∧ Z.Warmed39 UU_.vm ∧ UU_.heap = h0) (fun _ _ _ _ _ => True) (fun _ UU_ oo_ UV_ => ∃ vv_ LL_, oo_ = .returned vv_ ∧ QR Z a a_LOW_COST a_CONVENTIONAL a_GREEN a_SHOPPING a_GREENSPACE a_ECO_PARK h0 n0 vv_ UV_.heap LL_ ∧ FrameEnd UU_ oo_ UV_ LL_ ({ frames := 0, cells := 0, slots := 0, locals := 0 } : Room).cells ({ frames := 0, cells := 0, slots := 0, locals := 0 } : Room).slots) := by
  refine MetFree.of_bodySF (plainFor_of_name pn_0) hisR ?_
  intro p e s m args below meth c s₁ Bd hml0 hP hK
  obtain ⟨rfl, hZ, hh⟩ := hP
  have hx := Bd.exec
  have hby := Bd.bytes
  have hlk := BodyLoose.notSynchronized Bd
  have hml : c.maxLocals = 1 := hml0
  have hown : s.vm.findClass "com/example/tileburgh/tileburgh/model/ConstructionKind" = some m.cls := findClass_of_methodNamed Bd.named
  have hnm := (name_of_methodNamed Bd.named Bd.method).1
  have X0 : Stand p l e ({ frames := 0, cells := 0, slots := 0, locals := 0 } : Room) s m #[(.ref a)] below meth c s₁ [] 0 0 := Stand.of_body Bd
  have e0 : s₁.heap = h0 := by rw [← hh, Bd.state]; rfl
  have N0 := Fr.nil n0
  suffices hOW : OW p e below s (QR Z a a_LOW_COST a_CONVENTIONAL a_GREEN a_SHOPPING a_GREENSPACE a_ECO_PARK h0 n0) 0 0 (s₁.setTop (mkF m 0 #[.val (.ref a)] [])) by
    obtain ⟨q1, q2, q3, q4⟩ := hOW
    exact ⟨q1, q2, castTop (ef_R m a) q3, q4⟩
  have hS' := hS
  obtain ⟨Sa_LOW_COST, Ea_LOW_COST, Sa_CONVENTIONAL, Ea_CONVENTIONAL, Sa_GREEN, Ea_GREEN, Sa_SHOPPING, Ea_SHOPPING, Sa_GREENSPACE, Ea_GREENSPACE, Sa_ECO_PARK, Ea_ECO_PARK, Fa_LOW_COST_ordinal, Fa_GREENSPACE_ordinal, Fa_ECO_PARK_ordinal, Fa_SHOPPING_ordinal, Fa_CONVENTIONAL_ordinal, Fa_GREEN_ordinal⟩ := hS'
  refine OW.st (B := s₁.setTop (mkF m 1 #[.val (.ref a)] [(.ref a)])) (fun _ kk_ => XS.aloadN X0.here hx rfl (hb hby d1_0) rfl rfl kk_) ?_
  obtain ⟨T27, X27, e27, st27⟩ := getS2 X0 hx hZ hown (host := "") (Or.inl (w_22 hw)) Via.refl e0 (Sa_LOW_COST.ext O0.2) (g := (mkF m 1 #[.val (.ref a)] [(.ref a)])) rfl (hb hby d1_1)
  refine OW.st (B := T27.setTop (mkF m 4 #[.val (.ref a)] [(.ref a_LOW_COST), (.ref a)])) (st27) ?_
  by_cases hc28 : a = a_LOW_COST
  · refine OW.st (B := T27.setTop (mkF m 21 #[.val (.ref a)] [])) (fun _ kk_ => Jvm.RoadKit.acmp (g := (mkF m 4 #[.val (.ref a)] [(.ref a_LOW_COST), (.ref a)])) X27 hx rfl rfl rfl (pc0 := 4) (pc' := 21) (same := true) rfl (hb hby d1_4) rfl (decide_eq_true (congrArg Value.ref hc28)) (by decide) (by decide) kk_) ?_
    refine OW.st (B := T27.setTop (mkF m 22 #[.val (.ref a)] [(.int (1 : Int32))])) (fun _ kk_ => XS.iconst X27.here hx rfl (hb hby d1_21) kk_) ?_
    refine OW.st (B := T27.setTop (mkF m 26 #[.val (.ref a)] [(.int (1 : Int32))])) (fun _ kk_ => XS.goto X27.here hx rfl (pc0 := 22) (pc' := 26) rfl (hb hby d1_22) (by decide) (by decide) kk_) ?_
    exact OW.ret X27 hx hlk (i := .ireturn) Bd.returns rfl (Or.inl ⟨rfl, Or.inr (Or.inl rfl), _, rfl⟩) (hb hby d1_26) e27 (by decide) (by decide) ⟨by simp [hc28], N0, rfl⟩
  · refine OW.st (B := T27.setTop (mkF m 7 #[.val (.ref a)] [])) (fun _ kk_ => Jvm.RoadKit.acmp (g := (mkF m 4 #[.val (.ref a)] [(.ref a_LOW_COST), (.ref a)])) X27 hx rfl rfl rfl (pc0 := 4) (pc' := 7) (same := false) rfl (hb hby d1_4) rfl (decide_eq_false fun q => hc28 (Value.ref.inj q)) (by decide) (by decide) kk_) ?_
    refine OW.st (B := T27.setTop (mkF m 8 #[.val (.ref a)] [(.ref a)])) (fun _ kk_ => XS.aloadN X27.here hx rfl (hb hby d1_7) rfl rfl kk_) ?_
    obtain ⟨T29, X29, e29, st29⟩ := getS2 X27 hx hZ hown (host := "") (Or.inl (w_30 hw)) Via.refl e27 (Sa_CONVENTIONAL.ext O0.2) (g := (mkF m 8 #[.val (.ref a)] [(.ref a)])) rfl (hb hby d1_8)
    refine OW.st (B := T29.setTop (mkF m 11 #[.val (.ref a)] [(.ref a_CONVENTIONAL), (.ref a)])) (st29) ?_
    by_cases hc30 : a = a_CONVENTIONAL
    · refine OW.st (B := T29.setTop (mkF m 21 #[.val (.ref a)] [])) (fun _ kk_ => Jvm.RoadKit.acmp (g := (mkF m 11 #[.val (.ref a)] [(.ref a_CONVENTIONAL), (.ref a)])) X29 hx rfl rfl rfl (pc0 := 11) (pc' := 21) (same := true) rfl (hb hby d1_11) rfl (decide_eq_true (congrArg Value.ref hc30)) (by decide) (by decide) kk_) ?_
      refine OW.st (B := T29.setTop (mkF m 22 #[.val (.ref a)] [(.int (1 : Int32))])) (fun _ kk_ => XS.iconst X29.here hx rfl (hb hby d1_21) kk_) ?_
      refine OW.st (B := T29.setTop (mkF m 26 #[.val (.ref a)] [(.int (1 : Int32))])) (fun _ kk_ => XS.goto X29.here hx rfl (pc0 := 22) (pc' := 26) rfl (hb hby d1_22) (by decide) (by decide) kk_) ?_
      exact OW.ret X29 hx hlk (i := .ireturn) Bd.returns rfl (Or.inl ⟨rfl, Or.inr (Or.inl rfl), _, rfl⟩) (hb hby d1_26) e29 (by decide) (by decide) ⟨by simp [hc28, hc30], N0, rfl⟩
    · refine OW.st (B := T29.setTop (mkF m 14 #[.val (.ref a)] [])) (fun _ kk_ => Jvm.RoadKit.acmp (g := (mkF m 11 #[.val (.ref a)] [(.ref a_CONVENTIONAL), (.ref a)])) X29 hx rfl rfl rfl (pc0 := 11) (pc' := 14) (same := false) rfl (hb hby d1_11) rfl (decide_eq_false fun q => hc30 (Value.ref.inj q)) (by decide) (by decide) kk_) ?_
      refine OW.st (B := T29.setTop (mkF m 15 #[.val (.ref a)] [(.ref a)])) (fun _ kk_ => XS.aloadN X29.here hx rfl (hb hby d1_14) rfl rfl kk_) ?_
      obtain ⟨T31, X31, e31, st31⟩ := getS2 X29 hx hZ hown (host := "") (Or.inl (w_31 hw)) Via.refl e29 (Sa_GREEN.ext O0.2) (g := (mkF m 15 #[.val (.ref a)] [(.ref a)])) rfl (hb hby d1_15)
      refine OW.st (B := T31.setTop (mkF m 18 #[.val (.ref a)] [(.ref a_GREEN), (.ref a)])) (st31) ?_
      by_cases hc32 : a = a_GREEN
      · refine OW.st (B := T31.setTop (mkF m 21 #[.val (.ref a)] [])) (fun _ kk_ => Jvm.RoadKit.acmp (g := (mkF m 18 #[.val (.ref a)] [(.ref a_GREEN), (.ref a)])) X31 hx rfl rfl rfl (pc0 := 18) (pc' := 21) (same := true) rfl (hb hby d1_18) rfl (decide_eq_true (congrArg Value.ref hc32)) (by decide) (by decide) kk_) ?_
        refine OW.st (B := T31.setTop (mkF m 22 #[.val (.ref a)] [(.int (1 : Int32))])) (fun _ kk_ => XS.iconst X31.here hx rfl (hb hby d1_21) kk_) ?_
        refine OW.st (B := T31.setTop (mkF m 26 #[.val (.ref a)] [(.int (1 : Int32))])) (fun _ kk_ => XS.goto X31.here hx rfl (pc0 := 22) (pc' := 26) rfl (hb hby d1_22) (by decide) (by decide) kk_) ?_
        exact OW.ret X31 hx hlk (i := .ireturn) Bd.returns rfl (Or.inl ⟨rfl, Or.inr (Or.inl rfl), _, rfl⟩) (hb hby d1_26) e31 (by decide) (by decide) ⟨by simp [hc28, hc30, hc32], N0, rfl⟩
      · refine OW.st (B := T31.setTop (mkF m 25 #[.val (.ref a)] [])) (fun _ kk_ => Jvm.RoadKit.acmp (g := (mkF m 18 #[.val (.ref a)] [(.ref a_GREEN), (.ref a)])) X31 hx rfl rfl rfl (pc0 := 18) (pc' := 25) (same := false) rfl (hb hby d1_18) rfl (decide_eq_false fun q => hc32 (Value.ref.inj q)) (by decide) (by decide) kk_) ?_
        refine OW.st (B := T31.setTop (mkF m 26 #[.val (.ref a)] [(.int (0 : Int32))])) (fun _ kk_ => XS.iconst X31.here hx rfl (hb hby d1_25) kk_) ?_
        exact OW.ret X31 hx hlk (i := .ireturn) Bd.returns rfl (Or.inl ⟨rfl, Or.inr (Or.inl rfl), _, rfl⟩) (hb hby d1_26) e31 (by decide) (by decide) ⟨by simp [hc28, hc30, hc32], N0, rfl⟩
theorem ef_0 (m : MethodId) (x0 : Int32) : entryFrame m #[(.int x0)] maxLocals = mkF m 0 #[.val (.int x0), .unset, .unset, .unset, .unset, .unset, .unset, .unset] [] := by first | (simp [entryFrame, mkF, argsToLocals, Value.category, maxLocals]; done) | rfl
def Q0 (Z : State) (n1 : Int32) (a_LOW_COST : Addr) (a_CONVENTIONAL : Addr) (a_GREEN : Addr) (a_SHOPPING : Addr) (a_GREENSPACE : Addr) (a_ECO_PARK : Addr) (h0 : Heap) (n0 : Nat) (v : Option Value) (h : Heap) (L : List Loc) : Prop := v = some (.int 1) ∧ Fr n0 L
set_option maxRecDepth 65536 in
set_option maxHeartbeats 40000000 in
theorem rm0 (l : Launch) (Z : State) (a0 : Array Value) (hw : ∀ d ∈ tables_1, d.before a0 Z = true) (ws : List Jvm.Cond) (n1 : Int32) (a_LOW_COST : Addr) (a_CONVENTIONAL : Addr) (a_GREEN : Addr) (a_SHOPPING : Addr) (a_GREENSPACE : Addr) (a_ECO_PARK : Addr) (h0 : Heap) (n0 : Nat) (O0 : Old Z n0 h0) (hS : OwnS Z a_LOW_COST a_CONVENTIONAL a_GREEN a_SHOPPING a_GREENSPACE a_ECO_PARK) :
    MetFree l x (head1 (Jvm.Cond.code x code maxLocals ret :: ws) room_1) (fun aa_ UU_ => aa_ = #[(.int n1)] ∧ Z.Warmed39 UU_.vm ∧ UU_.heap = h0) (fun _ _ _ _ _ => True) (fun _ UU_ oo_ UV_ => ∃ vv_ LL_, oo_ = .returned vv_ ∧ Q0 Z n1 a_LOW_COST a_CONVENTIONAL a_GREEN a_SHOPPING a_GREENSPACE a_ECO_PARK h0 n0 vv_ UV_.heap LL_ ∧ FrameEnd UU_ oo_ UV_ LL_ 1 6) := by
  refine MetFree.of_bodySF (plainFor_of_name pn_1) hisR ?_
  intro p e s m args below meth c s₁ Bd hml0 hP hK
  obtain ⟨rfl, hZ, hh⟩ := hP
  have hx := Bd.exec
  have hby := Bd.bytes
  have hlk := BodyLoose.notSynchronized Bd
  have hml : c.maxLocals = 8 := hml0
  have hown : s.vm.findClass "com/example/tileburgh/tileburgh/model/ConstructionKindTakesRenterPinLaw" = some m.cls := findClass_of_methodNamed Bd.named
  have hnm := (name_of_methodNamed Bd.named Bd.method).1
  have X0 : Stand p l e room_1 s m #[(.int n1)] below meth c s₁ [] 0 0 := Stand.of_body Bd
  have e0 : s₁.heap = h0 := by rw [← hh, Bd.state]; rfl
  have N0 := Fr.nil n0
  suffices hOW : OW p e below s (Q0 Z n1 a_LOW_COST a_CONVENTIONAL a_GREEN a_SHOPPING a_GREENSPACE a_ECO_PARK h0 n0) 1 6 (s₁.setTop (mkF m 0 #[.val (.int n1), .unset, .unset, .unset, .unset, .unset, .unset, .unset] [])) by
    obtain ⟨q1, q2, q3, q4⟩ := hOW
    exact ⟨q1, q2, castTop (ef_0 m n1) q3, q4⟩
  have hS' := hS
  obtain ⟨Sa_LOW_COST, Ea_LOW_COST, Sa_CONVENTIONAL, Ea_CONVENTIONAL, Sa_GREEN, Ea_GREEN, Sa_SHOPPING, Ea_SHOPPING, Sa_GREENSPACE, Ea_GREENSPACE, Sa_ECO_PARK, Ea_ECO_PARK, Fa_LOW_COST_ordinal, Fa_GREENSPACE_ordinal, Fa_ECO_PARK_ordinal, Fa_SHOPPING_ordinal, Fa_CONVENTIONAL_ordinal, Fa_GREEN_ordinal⟩ := hS'
  refine OW.st (B := s₁.setTop (mkF m 2 #[.val (.int n1), .unset, .unset, .unset, .unset, .unset, .unset, .unset] [(.int (6 : Int32))])) (fun _ kk_ => XS.bipush X0.here hx rfl (hb hby at_0) kk_) ?_
  obtain ⟨T33, h33, k33, X33, e33, E33, A33, Ov33, st33⟩ := newR X0 hx hZ hown (w_0 hw) (w_1 hw) e0 (g := (mkF m 2 #[.val (.int n1), .unset, .unset, .unset, .unset, .unset, .unset, .unset] [(.int (6 : Int32))])) rfl (hb hby at_2) rfl (by decide) (cap := 6) (by decide) (by decide) (by decide) (by decide)
  obtain ⟨b33, g33⟩ : ∃ z, z = h0.size := ⟨_, rfl⟩
  rw [← g33] at A33 st33
  have n_b33 : n0 ≤ b33 := Nat.le_trans (own_oldle O0) (Nat.le_of_eq g33.symm)
  have O33 : Old Z n0 h33 := O0.ext E33
  have V33 : Arv Z h33 b33 k33 (.object "com/example/tileburgh/tileburgh/model/ConstructionKind") (6 : Int32) [.null, .null, .null, .null, .null, .null] .null := (Arv.new A33 (by decide)).pad (pad_rep [] .null 6)
  refine OW.st (B := T33.setTop (mkF m 5 #[.val (.int n1), .unset, .unset, .unset, .unset, .unset, .unset, .unset] [(.ref b33)])) (st33) ?_
  refine OW.st (B := T33.setTop (mkF m 6 #[.val (.int n1), .unset, .unset, .unset, .unset, .unset, .unset, .unset] [(.ref b33), (.ref b33)])) (fun _ kk_ => XS.dup X33.here hx rfl (hb hby at_5) rfl rfl kk_) ?_
  refine OW.st (B := T33.setTop (mkF m 7 #[.val (.int n1), .unset, .unset, .unset, .unset, .unset, .unset, .unset] [(.int (0 : Int32)), (.ref b33), (.ref b33)])) (fun _ kk_ => XS.iconst X33.here hx rfl (hb hby at_6) kk_) ?_
  obtain ⟨T34, X34, e34, st34⟩ := getS2 X33 hx hZ hown (host := "") (Or.inl (w_2 hw)) Via.refl e33 (Sa_LOW_COST.ext O33.2) (g := (mkF m 7 #[.val (.int n1), .unset, .unset, .unset, .unset, .unset, .unset, .unset] [(.int (0 : Int32)), (.ref b33), (.ref b33)])) rfl (hb hby at_7)
  refine OW.st (B := T34.setTop (mkF m 10 #[.val (.int n1), .unset, .unset, .unset, .unset, .unset, .unset, .unset] [(.ref a_LOW_COST), (.int (0 : Int32)), (.ref b33), (.ref b33)])) (st34) ?_
  obtain ⟨cl35, Ar35, q35, S35, Ng35, Hs35, G35⟩ := V33
  have hin35 : ¬ ((0 : Int32) < 0 ∨ cl35.slots.size ≤ ((0 : Int32)).toNatClampNeg) := inb_of S35 ⟨by decide, by decide⟩
  obtain ⟨T36, h36, X36, e36, W36, st36⟩ := stR X34 hx hZ e34 Ar35 (j := (0 : Int32)) hin35 rfl (Sto.ofV Ar35 q35 Ov33 (Ins.self (Ea_LOW_COST.ext O33.2))) (g := (mkF m 10 #[.val (.int n1), .unset, .unset, .unset, .unset, .unset, .unset, .unset] [(.ref a_LOW_COST), (.int (0 : Int32)), (.ref b33), (.ref b33)])) rfl rfl (hb hby at_10)
  have N36 := Fr.snoc X36 N0 n_b33
  have O36 : Old Z n0 h36 := O33.wr W36 n_b33
  have V36 : Arv Z h36 b33 k33 (.object "com/example/tileburgh/tileburgh/model/ConstructionKind") (6 : Int32) [(.ref a_LOW_COST), .null, .null, .null, .null, .null] .null := Arv.set Ar35 q35 S35 Ng35 Hs35 G35 rfl W36 0 rfl (Nat.le_of_ble_eq_true rfl)
  refine OW.st (B := T36.setTop (mkF m 11 #[.val (.int n1), .unset, .unset, .unset, .unset, .unset, .unset, .unset] [(.ref b33)])) (st36) ?_
  refine OW.st (B := T36.setTop (mkF m 12 #[.val (.int n1), .unset, .unset, .unset, .unset, .unset, .unset, .unset] [(.ref b33), (.ref b33)])) (fun _ kk_ => XS.dup X36.here hx rfl (hb hby at_11) rfl rfl kk_) ?_
  refine OW.st (B := T36.setTop (mkF m 13 #[.val (.int n1), .unset, .unset, .unset, .unset, .unset, .unset, .unset] [(.int (1 : Int32)), (.ref b33), (.ref b33)])) (fun _ kk_ => XS.iconst X36.here hx rfl (hb hby at_12) kk_) ?_
  obtain ⟨T37, X37, e37, st37⟩ := getS2 X36 hx hZ hown (host := "") (Or.inl (w_6 hw)) Via.refl e36 (Sa_CONVENTIONAL.ext O36.2) (g := (mkF m 13 #[.val (.int n1), .unset, .unset, .unset, .unset, .unset, .unset, .unset] [(.int (1 : Int32)), (.ref b33), (.ref b33)])) rfl (hb hby at_13)
  refine OW.st (B := T37.setTop (mkF m 16 #[.val (.int n1), .unset, .unset, .unset, .unset, .unset, .unset, .unset] [(.ref a_CONVENTIONAL), (.int (1 : Int32)), (.ref b33), (.ref b33)])) (st37) ?_
  obtain ⟨cl38, Ar38, q38, S38, Ng38, Hs38, G38⟩ := V36
  have hin38 : ¬ ((1 : Int32) < 0 ∨ cl38.slots.size ≤ ((1 : Int32)).toNatClampNeg) := inb_of S38 ⟨by decide, by decide⟩
  obtain ⟨T39, h39, X39, e39, W39, st39⟩ := stR X37 hx hZ e37 Ar38 (j := (1 : Int32)) hin38 rfl (Sto.ofV Ar38 q38 Ov33 (Ins.self (Ea_CONVENTIONAL.ext O36.2))) (g := (mkF m 16 #[.val (.int n1), .unset, .unset, .unset, .unset, .unset, .unset, .unset] [(.ref a_CONVENTIONAL), (.int (1 : Int32)), (.ref b33), (.ref b33)])) rfl rfl (hb hby at_16)
  have N39 := Fr.snoc X39 N36 n_b33
  have O39 : Old Z n0 h39 := O36.wr W39 n_b33
  have V39 : Arv Z h39 b33 k33 (.object "com/example/tileburgh/tileburgh/model/ConstructionKind") (6 : Int32) [(.ref a_LOW_COST), (.ref a_CONVENTIONAL), .null, .null, .null, .null] .null := Arv.set Ar38 q38 S38 Ng38 Hs38 G38 rfl W39 1 rfl (Nat.le_of_ble_eq_true rfl)
  refine OW.st (B := T39.setTop (mkF m 17 #[.val (.int n1), .unset, .unset, .unset, .unset, .unset, .unset, .unset] [(.ref b33)])) (st39) ?_
  refine OW.st (B := T39.setTop (mkF m 18 #[.val (.int n1), .unset, .unset, .unset, .unset, .unset, .unset, .unset] [(.ref b33), (.ref b33)])) (fun _ kk_ => XS.dup X39.here hx rfl (hb hby at_17) rfl rfl kk_) ?_
  refine OW.st (B := T39.setTop (mkF m 19 #[.val (.int n1), .unset, .unset, .unset, .unset, .unset, .unset, .unset] [(.int (2 : Int32)), (.ref b33), (.ref b33)])) (fun _ kk_ => XS.iconst X39.here hx rfl (hb hby at_18) kk_) ?_
  obtain ⟨T40, X40, e40, st40⟩ := getS2 X39 hx hZ hown (host := "") (Or.inl (w_8 hw)) Via.refl e39 (Sa_GREEN.ext O39.2) (g := (mkF m 19 #[.val (.int n1), .unset, .unset, .unset, .unset, .unset, .unset, .unset] [(.int (2 : Int32)), (.ref b33), (.ref b33)])) rfl (hb hby at_19)
  refine OW.st (B := T40.setTop (mkF m 22 #[.val (.int n1), .unset, .unset, .unset, .unset, .unset, .unset, .unset] [(.ref a_GREEN), (.int (2 : Int32)), (.ref b33), (.ref b33)])) (st40) ?_
  obtain ⟨cl41, Ar41, q41, S41, Ng41, Hs41, G41⟩ := V39
  have hin41 : ¬ ((2 : Int32) < 0 ∨ cl41.slots.size ≤ ((2 : Int32)).toNatClampNeg) := inb_of S41 ⟨by decide, by decide⟩
  obtain ⟨T42, h42, X42, e42, W42, st42⟩ := stR X40 hx hZ e40 Ar41 (j := (2 : Int32)) hin41 rfl (Sto.ofV Ar41 q41 Ov33 (Ins.self (Ea_GREEN.ext O39.2))) (g := (mkF m 22 #[.val (.int n1), .unset, .unset, .unset, .unset, .unset, .unset, .unset] [(.ref a_GREEN), (.int (2 : Int32)), (.ref b33), (.ref b33)])) rfl rfl (hb hby at_22)
  have N42 := Fr.snoc X42 N39 n_b33
  have O42 : Old Z n0 h42 := O39.wr W42 n_b33
  have V42 : Arv Z h42 b33 k33 (.object "com/example/tileburgh/tileburgh/model/ConstructionKind") (6 : Int32) [(.ref a_LOW_COST), (.ref a_CONVENTIONAL), (.ref a_GREEN), .null, .null, .null] .null := Arv.set Ar41 q41 S41 Ng41 Hs41 G41 rfl W42 2 rfl (Nat.le_of_ble_eq_true rfl)
  refine OW.st (B := T42.setTop (mkF m 23 #[.val (.int n1), .unset, .unset, .unset, .unset, .unset, .unset, .unset] [(.ref b33)])) (st42) ?_
  refine OW.st (B := T42.setTop (mkF m 24 #[.val (.int n1), .unset, .unset, .unset, .unset, .unset, .unset, .unset] [(.ref b33), (.ref b33)])) (fun _ kk_ => XS.dup X42.here hx rfl (hb hby at_23) rfl rfl kk_) ?_
  refine OW.st (B := T42.setTop (mkF m 25 #[.val (.int n1), .unset, .unset, .unset, .unset, .unset, .unset, .unset] [(.int (3 : Int32)), (.ref b33), (.ref b33)])) (fun _ kk_ => XS.iconst X42.here hx rfl (hb hby at_24) kk_) ?_
  obtain ⟨T43, X43, e43, st43⟩ := getS2 X42 hx hZ hown (host := "") (Or.inl (w_10 hw)) Via.refl e42 (Sa_SHOPPING.ext O42.2) (g := (mkF m 25 #[.val (.int n1), .unset, .unset, .unset, .unset, .unset, .unset, .unset] [(.int (3 : Int32)), (.ref b33), (.ref b33)])) rfl (hb hby at_25)
  refine OW.st (B := T43.setTop (mkF m 28 #[.val (.int n1), .unset, .unset, .unset, .unset, .unset, .unset, .unset] [(.ref a_SHOPPING), (.int (3 : Int32)), (.ref b33), (.ref b33)])) (st43) ?_
  obtain ⟨cl44, Ar44, q44, S44, Ng44, Hs44, G44⟩ := V42
  have hin44 : ¬ ((3 : Int32) < 0 ∨ cl44.slots.size ≤ ((3 : Int32)).toNatClampNeg) := inb_of S44 ⟨by decide, by decide⟩
  obtain ⟨T45, h45, X45, e45, W45, st45⟩ := stR X43 hx hZ e43 Ar44 (j := (3 : Int32)) hin44 rfl (Sto.ofV Ar44 q44 Ov33 (Ins.self (Ea_SHOPPING.ext O42.2))) (g := (mkF m 28 #[.val (.int n1), .unset, .unset, .unset, .unset, .unset, .unset, .unset] [(.ref a_SHOPPING), (.int (3 : Int32)), (.ref b33), (.ref b33)])) rfl rfl (hb hby at_28)
  have N45 := Fr.snoc X45 N42 n_b33
  have O45 : Old Z n0 h45 := O42.wr W45 n_b33
  have V45 : Arv Z h45 b33 k33 (.object "com/example/tileburgh/tileburgh/model/ConstructionKind") (6 : Int32) [(.ref a_LOW_COST), (.ref a_CONVENTIONAL), (.ref a_GREEN), (.ref a_SHOPPING), .null, .null] .null := Arv.set Ar44 q44 S44 Ng44 Hs44 G44 rfl W45 3 rfl (Nat.le_of_ble_eq_true rfl)
  refine OW.st (B := T45.setTop (mkF m 29 #[.val (.int n1), .unset, .unset, .unset, .unset, .unset, .unset, .unset] [(.ref b33)])) (st45) ?_
  refine OW.st (B := T45.setTop (mkF m 30 #[.val (.int n1), .unset, .unset, .unset, .unset, .unset, .unset, .unset] [(.ref b33), (.ref b33)])) (fun _ kk_ => XS.dup X45.here hx rfl (hb hby at_29) rfl rfl kk_) ?_
  refine OW.st (B := T45.setTop (mkF m 31 #[.val (.int n1), .unset, .unset, .unset, .unset, .unset, .unset, .unset] [(.int (4 : Int32)), (.ref b33), (.ref b33)])) (fun _ kk_ => XS.iconst X45.here hx rfl (hb hby at_30) kk_) ?_
  obtain ⟨T46, X46, e46, st46⟩ := getS2 X45 hx hZ hown (host := "") (Or.inl (w_12 hw)) Via.refl e45 (Sa_GREENSPACE.ext O45.2) (g := (mkF m 31 #[.val (.int n1), .unset, .unset, .unset, .unset, .unset, .unset, .unset] [(.int (4 : Int32)), (.ref b33), (.ref b33)])) rfl (hb hby at_31)
  refine OW.st (B := T46.setTop (mkF m 34 #[.val (.int n1), .unset, .unset, .unset, .unset, .unset, .unset, .unset] [(.ref a_GREENSPACE), (.int (4 : Int32)), (.ref b33), (.ref b33)])) (st46) ?_
  obtain ⟨cl47, Ar47, q47, S47, Ng47, Hs47, G47⟩ := V45
  have hin47 : ¬ ((4 : Int32) < 0 ∨ cl47.slots.size ≤ ((4 : Int32)).toNatClampNeg) := inb_of S47 ⟨by decide, by decide⟩
  obtain ⟨T48, h48, X48, e48, W48, st48⟩ := stR X46 hx hZ e46 Ar47 (j := (4 : Int32)) hin47 rfl (Sto.ofV Ar47 q47 Ov33 (Ins.self (Ea_GREENSPACE.ext O45.2))) (g := (mkF m 34 #[.val (.int n1), .unset, .unset, .unset, .unset, .unset, .unset, .unset] [(.ref a_GREENSPACE), (.int (4 : Int32)), (.ref b33), (.ref b33)])) rfl rfl (hb hby at_34)
  have N48 := Fr.snoc X48 N45 n_b33
  have O48 : Old Z n0 h48 := O45.wr W48 n_b33
  have V48 : Arv Z h48 b33 k33 (.object "com/example/tileburgh/tileburgh/model/ConstructionKind") (6 : Int32) [(.ref a_LOW_COST), (.ref a_CONVENTIONAL), (.ref a_GREEN), (.ref a_SHOPPING), (.ref a_GREENSPACE), .null] .null := Arv.set Ar47 q47 S47 Ng47 Hs47 G47 rfl W48 4 rfl (Nat.le_of_ble_eq_true rfl)
  refine OW.st (B := T48.setTop (mkF m 35 #[.val (.int n1), .unset, .unset, .unset, .unset, .unset, .unset, .unset] [(.ref b33)])) (st48) ?_
  refine OW.st (B := T48.setTop (mkF m 36 #[.val (.int n1), .unset, .unset, .unset, .unset, .unset, .unset, .unset] [(.ref b33), (.ref b33)])) (fun _ kk_ => XS.dup X48.here hx rfl (hb hby at_35) rfl rfl kk_) ?_
  refine OW.st (B := T48.setTop (mkF m 37 #[.val (.int n1), .unset, .unset, .unset, .unset, .unset, .unset, .unset] [(.int (5 : Int32)), (.ref b33), (.ref b33)])) (fun _ kk_ => XS.iconst X48.here hx rfl (hb hby at_36) kk_) ?_
  obtain ⟨T49, X49, e49, st49⟩ := getS2 X48 hx hZ hown (host := "") (Or.inl (w_14 hw)) Via.refl e48 (Sa_ECO_PARK.ext O48.2) (g := (mkF m 37 #[.val (.int n1), .unset, .unset, .unset, .unset, .unset, .unset, .unset] [(.int (5 : Int32)), (.ref b33), (.ref b33)])) rfl (hb hby at_37)
  refine OW.st (B := T49.setTop (mkF m 40 #[.val (.int n1), .unset, .unset, .unset, .unset, .unset, .unset, .unset] [(.ref a_ECO_PARK), (.int (5 : Int32)), (.ref b33), (.ref b33)])) (st49) ?_
  obtain ⟨cl50, Ar50, q50, S50, Ng50, Hs50, G50⟩ := V48
  have hin50 : ¬ ((5 : Int32) < 0 ∨ cl50.slots.size ≤ ((5 : Int32)).toNatClampNeg) := inb_of S50 ⟨by decide, by decide⟩
  obtain ⟨T51, h51, X51, e51, W51, st51⟩ := stR X49 hx hZ e49 Ar50 (j := (5 : Int32)) hin50 rfl (Sto.ofV Ar50 q50 Ov33 (Ins.self (Ea_ECO_PARK.ext O48.2))) (g := (mkF m 40 #[.val (.int n1), .unset, .unset, .unset, .unset, .unset, .unset, .unset] [(.ref a_ECO_PARK), (.int (5 : Int32)), (.ref b33), (.ref b33)])) rfl rfl (hb hby at_40)
  have N51 := Fr.snoc X51 N48 n_b33
  have O51 : Old Z n0 h51 := O48.wr W51 n_b33
  have V51 : Arv Z h51 b33 k33 (.object "com/example/tileburgh/tileburgh/model/ConstructionKind") (6 : Int32) [(.ref a_LOW_COST), (.ref a_CONVENTIONAL), (.ref a_GREEN), (.ref a_SHOPPING), (.ref a_GREENSPACE), (.ref a_ECO_PARK)] .null := Arv.set Ar50 q50 S50 Ng50 Hs50 G50 rfl W51 5 rfl (Nat.le_of_ble_eq_true rfl)
  refine OW.st (B := T51.setTop (mkF m 41 #[.val (.int n1), .unset, .unset, .unset, .unset, .unset, .unset, .unset] [(.ref b33)])) (st51) ?_
  refine OW.st (B := T51.setTop (mkF m 42 #[.val (.int n1), .val (.ref b33), .unset, .unset, .unset, .unset, .unset, .unset] [])) (fun _ kk_ => XS.astoreN X51.here hx rfl (hb hby at_41) rfl rfl (l' := #[.val (.int n1), .val (.ref b33), .unset, .unset, .unset, .unset, .unset, .unset]) rfl kk_) ?_
  refine OW.st (B := T51.setTop (mkF m 43 #[.val (.int n1), .val (.ref b33), .unset, .unset, .unset, .unset, .unset, .unset] [(.int n1)])) (fun _ kk_ => XS.iloadN X51.here hx rfl (hb hby at_42) rfl kk_) ?_
  refine OW.st (B := T51.setTop (mkF m 45 #[.val (.int n1), .val (.ref b33), .unset, .unset, .unset, .unset, .unset, .unset] [(.int (2147483647 : Int32)), (.int n1)])) (X51.ldcInt hx hown (mvT hZ (w_16 hw)) (g := (mkF m 43 #[.val (.int n1), .val (.ref b33), .unset, .unset, .unset, .unset, .unset, .unset] [(.int n1)])) rfl (hb hby at_43)) ?_
  refine OW.st (B := T51.setTop (mkF m 46 #[.val (.int n1), .val (.ref b33), .unset, .unset, .unset, .unset, .unset, .unset] [(.int (n1 &&& (2147483647 : Int32)))])) (fun _ kk_ => XS.iand X51.here hx rfl (hb hby at_45) rfl kk_) ?_
  refine OW.st (B := T51.setTop (mkF m 48 #[.val (.int n1), .val (.ref b33), .unset, .unset, .unset, .unset, .unset, .unset] [(.int (6 : Int32)), (.int (n1 &&& (2147483647 : Int32)))])) (fun _ kk_ => XS.bipush X51.here hx rfl (hb hby at_46) kk_) ?_
  refine OW.st (B := T51.setTop (mkF m 49 #[.val (.int n1), .val (.ref b33), .unset, .unset, .unset, .unset, .unset, .unset] [(.int ((n1 &&& (2147483647 : Int32)) % (6 : Int32)))])) (fun _ kk_ => iremM X51 hx rfl (hb hby at_48) rfl (by decide) kk_) ?_
  suffices J : ∀ k : Int32, (k = 0 ∨ k = 1 ∨ k = 2 ∨ k = 3 ∨ k = 4 ∨ k = 5) → OW p e below s (Q0 Z n1 a_LOW_COST a_CONVENTIONAL a_GREEN a_SHOPPING a_GREENSPACE a_ECO_PARK h0 n0) 1 6 (T51.setTop (mkF m 49 #[.val (.int n1), .val (.ref b33), .unset, .unset, .unset, .unset, .unset, .unset] [(.int k)])) from J _ (own_mod6 n1)
  intro k hk
  rcases hk with rfl | rfl | rfl | rfl | rfl | rfl
  · refine OW.st (B := T51.setTop (mkF m 50 #[.val (.int n1), .val (.ref b33), .val (.int (0 : Int32)), .unset, .unset, .unset, .unset, .unset] [])) (fun _ kk_ => XS.istoreN X51.here hx rfl (hb hby at_49) rfl (l' := #[.val (.int n1), .val (.ref b33), .val (.int (0 : Int32)), .unset, .unset, .unset, .unset, .unset]) rfl kk_) ?_
    refine OW.st (B := T51.setTop (mkF m 51 #[.val (.int n1), .val (.ref b33), .val (.int (0 : Int32)), .unset, .unset, .unset, .unset, .unset] [(.ref b33)])) (fun _ kk_ => XS.aloadN X51.here hx rfl (hb hby at_50) rfl rfl kk_) ?_
    refine OW.st (B := T51.setTop (mkF m 52 #[.val (.int n1), .val (.ref b33), .val (.int (0 : Int32)), .unset, .unset, .unset, .unset, .unset] [(.int (0 : Int32)), (.ref b33)])) (fun _ kk_ => XS.iloadN X51.here hx rfl (hb hby at_51) rfl kk_) ?_
    obtain ⟨cl52, Ar52, q52, S52, Ng52, Hs52, G52⟩ := V51
    have hin52 : ¬ ((0 : Int32) < 0 ∨ cl52.slots.size ≤ ((0 : Int32)).toNatClampNeg) := inb_of S52 ⟨by decide, by decide⟩
    refine OW.st (B := T51.setTop (mkF m 53 #[.val (.int n1), .val (.ref b33), .val (.int (0 : Int32)), .unset, .unset, .unset, .unset, .unset] [(.ref a_LOW_COST)])) (X51.aaload hx (j := (0 : Int32)) (v := (.ref a_LOW_COST)) (by rw [e51]; exact Ar52.1) (State.isArrayOf_alike hZ.alike Ar52.2.1) rfl Ar52.2.2 hin52 (Has.at Hs52 hin52 rfl) (g := (mkF m 52 #[.val (.int n1), .val (.ref b33), .val (.int (0 : Int32)), .unset, .unset, .unset, .unset, .unset] [(.int (0 : Int32)), (.ref b33)])) rfl rfl (hb hby at_52)) ?_
    refine OW.st (B := T51.setTop (mkF m 54 #[.val (.int n1), .val (.ref b33), .val (.int (0 : Int32)), .val (.ref a_LOW_COST), .unset, .unset, .unset, .unset] [])) (fun _ kk_ => XS.astoreN X51.here hx rfl (hb hby at_53) rfl rfl (l' := #[.val (.int n1), .val (.ref b33), .val (.int (0 : Int32)), .val (.ref a_LOW_COST), .unset, .unset, .unset, .unset]) rfl kk_) ?_
    refine OW.st (B := T51.setTop (mkF m 55 #[.val (.int n1), .val (.ref b33), .val (.int (0 : Int32)), .val (.ref a_LOW_COST), .unset, .unset, .unset, .unset] [(.ref a_LOW_COST)])) (fun _ kk_ => XS.aloadN X51.here hx rfl (hb hby at_54) rfl rfl kk_) ?_
    obtain ⟨cq53, kq53, q53a, q53b, q53c⟩ := isOf hZ e51 (Ea_LOW_COST.ext O51.2)
    obtain ⟨_, _, ⟨T53, L53, k53, n53⟩, -, X53, ⟨Lc53, hQ53, l53, y53, z53⟩, st53⟩ := X51.virtualBack hx (y := (⟨"com/example/tileburgh/tileburgh/model/ConstructionKind", "takesRenter", "()Z"⟩ : MethodName)) (z := (⟨"com/example/tileburgh/tileburgh/model/ConstructionKind", "takesRenter", "()Z"⟩ : MethodName)) hown (mvT hZ (w_17 hw)) (mvT hZ (w_18 hw)) (notFace_of_selects (args := #[]) (mvT hZ (w_20 hw))) (mvT hZ (w_20 hw)) (mvT hZ (w_19 hw)) (by decide) (backOf (W := 0) (rmR l Z a0 hw [] a_LOW_COST a_LOW_COST a_CONVENTIONAL a_GREEN a_SHOPPING a_GREENSPACE a_ECO_PARK h51 n0 O51 hS) hZ (w_21 hw) (w_3 hw) (by decide) (by decide)) q53a q53c (g := (mkF m 55 #[.val (.int n1), .val (.ref b33), .val (.int (0 : Int32)), .val (.ref a_LOW_COST), .unset, .unset, .unset, .unset] [(.ref a_LOW_COST)])) rfl (by rw [hml]; rfl) (Steps.refl _) (argsL := []) (rest := []) (lenOf pd_0 rfl) rfl (by show 2 * 0 + _ ≤ _; exact Nat.le_of_eq rfl) (hb hby at_55) (fun _ _ => ⟨rfl, e51, (by decide : 1 + 0 ≤ _), (by decide : 6 + 0 ≤ _)⟩)
    dsimp only [Pt.U, Pt.locs, Pt.cells, Pt.slots] at X53 l53 y53 z53 st53 hQ53
    subst l53 y53 z53
    obtain ⟨hv53, Nq53, e53⟩ := hQ53
    have N53 := Fr.app N51 Nq53
    rw [if_pos (by simp)] at hv53; subst hv53
    refine OW.tr (B := T53.setTop (mkF m 58 #[.val (.int n1), .val (.ref b33), .val (.int (0 : Int32)), .val (.ref a_LOW_COST), .unset, .unset, .unset, .unset] [(.int (1 : Int32))])) (st53) ?_
    refine OW.st (B := T53.setTop (mkF m 60 #[.val (.int n1), .val (.ref b33), .val (.int (0 : Int32)), .val (.ref a_LOW_COST), .val (.int (1 : Int32)), .unset, .unset, .unset] [])) (fun _ kk_ => XS.istore X53.here hx rfl (hb hby at_58) rfl (l' := #[.val (.int n1), .val (.ref b33), .val (.int (0 : Int32)), .val (.ref a_LOW_COST), .val (.int (1 : Int32)), .unset, .unset, .unset]) rfl kk_) ?_
    refine OW.st (B := T53.setTop (mkF m 61 #[.val (.int n1), .val (.ref b33), .val (.int (0 : Int32)), .val (.ref a_LOW_COST), .val (.int (1 : Int32)), .unset, .unset, .unset] [(.ref a_LOW_COST)])) (fun _ kk_ => XS.aloadN X53.here hx rfl (hb hby at_60) rfl rfl kk_) ?_
    obtain ⟨cq54, kq54, q54a, q54b, q54c⟩ := isOf hZ e53 (Ea_LOW_COST.ext O51.2)
    obtain ⟨_, _, ⟨T54, L54, k54, n54⟩, -, X54, ⟨Lc54, hQ54, l54, y54, z54⟩, st54⟩ := X53.virtualBack hx (y := (⟨"com/example/tileburgh/tileburgh/model/ConstructionKind", "isPark", "()Z"⟩ : MethodName)) (z := (⟨"com/example/tileburgh/tileburgh/model/ConstructionKind", "isPark", "()Z"⟩ : MethodName)) hown (mvT hZ (w_23 hw)) (mvT hZ (w_24 hw)) (notFace_of_selects (args := #[]) (mvT hZ (w_26 hw))) (mvT hZ (w_26 hw)) (mvT hZ (w_25 hw)) (by decide) (backOf (W := 0) (rmK l Z a0 hw [] a_LOW_COST a_LOW_COST a_CONVENTIONAL a_GREEN a_SHOPPING a_GREENSPACE a_ECO_PARK h51 n0 O51 hS) hZ (w_27 hw) (w_3 hw) (by decide) (by decide)) q54a q54c (g := (mkF m 61 #[.val (.int n1), .val (.ref b33), .val (.int (0 : Int32)), .val (.ref a_LOW_COST), .val (.int (1 : Int32)), .unset, .unset, .unset] [(.ref a_LOW_COST)])) rfl (by rw [hml]; rfl) (Steps.refl _) (argsL := []) (rest := []) (lenOf pd_0 rfl) rfl (by show 2 * 0 + _ ≤ _; exact Nat.le_of_eq rfl) (hb hby at_61) (fun _ _ => ⟨rfl, e53, (by decide : 1 + 0 ≤ _), (by decide : 6 + 0 ≤ _)⟩)
    dsimp only [Pt.U, Pt.locs, Pt.cells, Pt.slots] at X54 l54 y54 z54 st54 hQ54
    subst l54 y54 z54
    obtain ⟨hv54, Nq54, e54⟩ := hQ54
    have N54 := Fr.app N53 Nq54
    rw [if_neg (by simp [(Fld.ne Fa_LOW_COST_ordinal Fa_GREENSPACE_ordinal (fun q => absurd (Value.int.inj q) (by decide))), (Fld.ne Fa_LOW_COST_ordinal Fa_ECO_PARK_ordinal (fun q => absurd (Value.int.inj q) (by decide)))])] at hv54; subst hv54
    refine OW.tr (B := T54.setTop (mkF m 64 #[.val (.int n1), .val (.ref b33), .val (.int (0 : Int32)), .val (.ref a_LOW_COST), .val (.int (1 : Int32)), .unset, .unset, .unset] [(.int (0 : Int32))])) (st54) ?_
    refine OW.st (B := T54.setTop (mkF m 66 #[.val (.int n1), .val (.ref b33), .val (.int (0 : Int32)), .val (.ref a_LOW_COST), .val (.int (1 : Int32)), .val (.int (0 : Int32)), .unset, .unset] [])) (fun _ kk_ => XS.istore X54.here hx rfl (hb hby at_64) rfl (l' := #[.val (.int n1), .val (.ref b33), .val (.int (0 : Int32)), .val (.ref a_LOW_COST), .val (.int (1 : Int32)), .val (.int (0 : Int32)), .unset, .unset]) rfl kk_) ?_
    refine OW.st (B := T54.setTop (mkF m 67 #[.val (.int n1), .val (.ref b33), .val (.int (0 : Int32)), .val (.ref a_LOW_COST), .val (.int (1 : Int32)), .val (.int (0 : Int32)), .unset, .unset] [(.int (0 : Int32))])) (fun _ kk_ => XS.iloadN X54.here hx rfl (hb hby at_66) rfl kk_) ?_
    refine OW.st (B := T54.setTop (mkF m 80 #[.val (.int n1), .val (.ref b33), .val (.int (0 : Int32)), .val (.ref a_LOW_COST), .val (.int (1 : Int32)), .val (.int (0 : Int32)), .unset, .unset] [])) (fun _ kk_ => XS.ifYes X54.here hx rfl (pc0 := 67) (pc' := 80) rfl (hb hby at_67) rfl ((if0 _ _).trans (teq (by decide)).1) (by decide) (by decide) kk_) ?_
    refine OW.st (B := T54.setTop (mkF m 81 #[.val (.int n1), .val (.ref b33), .val (.int (0 : Int32)), .val (.ref a_LOW_COST), .val (.int (1 : Int32)), .val (.int (0 : Int32)), .unset, .unset] [(.int (1 : Int32))])) (fun _ kk_ => XS.iconst X54.here hx rfl (hb hby at_80) kk_) ?_
    refine OW.st (B := T54.setTop (mkF m 85 #[.val (.int n1), .val (.ref b33), .val (.int (0 : Int32)), .val (.ref a_LOW_COST), .val (.int (1 : Int32)), .val (.int (0 : Int32)), .unset, .unset] [(.int (1 : Int32))])) (fun _ kk_ => XS.goto X54.here hx rfl (pc0 := 81) (pc' := 85) rfl (hb hby at_81) (by decide) (by decide) kk_) ?_
    refine OW.st (B := T54.setTop (mkF m 87 #[.val (.int n1), .val (.ref b33), .val (.int (0 : Int32)), .val (.ref a_LOW_COST), .val (.int (1 : Int32)), .val (.int (0 : Int32)), .val (.int (1 : Int32)), .unset] [])) (fun _ kk_ => XS.istore X54.here hx rfl (hb hby at_85) rfl (l' := #[.val (.int n1), .val (.ref b33), .val (.int (0 : Int32)), .val (.ref a_LOW_COST), .val (.int (1 : Int32)), .val (.int (0 : Int32)), .val (.int (1 : Int32)), .unset]) rfl kk_) ?_
    refine OW.st (B := T54.setTop (mkF m 88 #[.val (.int n1), .val (.ref b33), .val (.int (0 : Int32)), .val (.ref a_LOW_COST), .val (.int (1 : Int32)), .val (.int (0 : Int32)), .val (.int (1 : Int32)), .unset] [(.int (0 : Int32))])) (fun _ kk_ => XS.iconst X54.here hx rfl (hb hby at_87) kk_) ?_
    refine OW.st (B := T54.setTop (mkF m 90 #[.val (.int n1), .val (.ref b33), .val (.int (0 : Int32)), .val (.ref a_LOW_COST), .val (.int (1 : Int32)), .val (.int (0 : Int32)), .val (.int (1 : Int32)), .val (.int (0 : Int32))] [])) (fun _ kk_ => XS.istore X54.here hx rfl (hb hby at_88) rfl (l' := #[.val (.int n1), .val (.ref b33), .val (.int (0 : Int32)), .val (.ref a_LOW_COST), .val (.int (1 : Int32)), .val (.int (0 : Int32)), .val (.int (1 : Int32)), .val (.int (0 : Int32))]) rfl kk_) ?_
    refine OW.st (B := T54.setTop (mkF m 92 #[.val (.int n1), .val (.ref b33), .val (.int (0 : Int32)), .val (.ref a_LOW_COST), .val (.int (1 : Int32)), .val (.int (0 : Int32)), .val (.int (1 : Int32)), .val (.int (0 : Int32))] [(.int (1 : Int32))])) (fun _ kk_ => XS.iload X54.here hx rfl (hb hby at_90) rfl kk_) ?_
    refine OW.st (B := T54.setTop (mkF m 95 #[.val (.int n1), .val (.ref b33), .val (.int (0 : Int32)), .val (.ref a_LOW_COST), .val (.int (1 : Int32)), .val (.int (0 : Int32)), .val (.int (1 : Int32)), .val (.int (0 : Int32))] [])) (fun _ kk_ => XS.ifNo X54.here hx rfl (hb hby at_92) rfl ((if0 _ _).trans (feq (by decide)).1) kk_) ?_
    refine OW.st (B := T54.setTop (mkF m 97 #[.val (.int n1), .val (.ref b33), .val (.int (0 : Int32)), .val (.ref a_LOW_COST), .val (.int (1 : Int32)), .val (.int (0 : Int32)), .val (.int (1 : Int32)), .val (.int (0 : Int32))] [(.int (0 : Int32))])) (fun _ kk_ => XS.iload X54.here hx rfl (hb hby at_95) rfl kk_) ?_
    refine OW.st (B := T54.setTop (mkF m 98 #[.val (.int n1), .val (.ref b33), .val (.int (0 : Int32)), .val (.ref a_LOW_COST), .val (.int (1 : Int32)), .val (.int (0 : Int32)), .val (.int (1 : Int32)), .val (.int (0 : Int32))] [(.int (1 : Int32)), (.int (0 : Int32))])) (fun _ kk_ => XS.iconst X54.here hx rfl (hb hby at_97) kk_) ?_
    refine OW.st (B := T54.setTop (mkF m 99 #[.val (.int n1), .val (.ref b33), .val (.int (0 : Int32)), .val (.ref a_LOW_COST), .val (.int (1 : Int32)), .val (.int (0 : Int32)), .val (.int (1 : Int32)), .val (.int (0 : Int32))] [(.int ((0 : Int32) + (1 : Int32)))])) (fun _ kk_ => XS.iadd X54.here hx rfl (hb hby at_98) rfl kk_) ?_
    refine OW.st (B := T54.setTop (mkF m 101 #[.val (.int n1), .val (.ref b33), .val (.int (0 : Int32)), .val (.ref a_LOW_COST), .val (.int (1 : Int32)), .val (.int (0 : Int32)), .val (.int (1 : Int32)), .val (.int ((0 : Int32) + (1 : Int32)))] [])) (fun _ kk_ => XS.istore X54.here hx rfl (hb hby at_99) rfl (l' := #[.val (.int n1), .val (.ref b33), .val (.int (0 : Int32)), .val (.ref a_LOW_COST), .val (.int (1 : Int32)), .val (.int (0 : Int32)), .val (.int (1 : Int32)), .val (.int ((0 : Int32) + (1 : Int32)))]) rfl kk_) ?_
    refine OW.st (B := T54.setTop (mkF m 103 #[.val (.int n1), .val (.ref b33), .val (.int (0 : Int32)), .val (.ref a_LOW_COST), .val (.int (1 : Int32)), .val (.int (0 : Int32)), .val (.int (1 : Int32)), .val (.int ((0 : Int32) + (1 : Int32)))] [(.int (0 : Int32))])) (fun _ kk_ => XS.iload X54.here hx rfl (hb hby at_101) rfl kk_) ?_
    refine OW.st (B := T54.setTop (mkF m 112 #[.val (.int n1), .val (.ref b33), .val (.int (0 : Int32)), .val (.ref a_LOW_COST), .val (.int (1 : Int32)), .val (.int (0 : Int32)), .val (.int (1 : Int32)), .val (.int ((0 : Int32) + (1 : Int32)))] [])) (fun _ kk_ => XS.ifYes X54.here hx rfl (pc0 := 103) (pc' := 112) rfl (hb hby at_103) rfl ((if0 _ _).trans (teq (by decide)).1) (by decide) (by decide) kk_) ?_
    refine OW.st (B := T54.setTop (mkF m 113 #[.val (.int n1), .val (.ref b33), .val (.int (0 : Int32)), .val (.ref a_LOW_COST), .val (.int (1 : Int32)), .val (.int (0 : Int32)), .val (.int (1 : Int32)), .val (.int ((0 : Int32) + (1 : Int32)))] [(.ref a_LOW_COST)])) (fun _ kk_ => XS.aloadN X54.here hx rfl (hb hby at_112) rfl rfl kk_) ?_
    obtain ⟨T55, X55, e55, st55⟩ := getS2 X54 hx hZ hown (host := "") (Or.inl (w_10 hw)) Via.refl e54 (Sa_SHOPPING.ext O51.2) (g := (mkF m 113 #[.val (.int n1), .val (.ref b33), .val (.int (0 : Int32)), .val (.ref a_LOW_COST), .val (.int (1 : Int32)), .val (.int (0 : Int32)), .val (.int (1 : Int32)), .val (.int ((0 : Int32) + (1 : Int32)))] [(.ref a_LOW_COST)])) rfl (hb hby at_113)
    refine OW.st (B := T55.setTop (mkF m 116 #[.val (.int n1), .val (.ref b33), .val (.int (0 : Int32)), .val (.ref a_LOW_COST), .val (.int (1 : Int32)), .val (.int (0 : Int32)), .val (.int (1 : Int32)), .val (.int ((0 : Int32) + (1 : Int32)))] [(.ref a_SHOPPING), (.ref a_LOW_COST)])) (st55) ?_
    refine OW.st (B := T55.setTop (mkF m 125 #[.val (.int n1), .val (.ref b33), .val (.int (0 : Int32)), .val (.ref a_LOW_COST), .val (.int (1 : Int32)), .val (.int (0 : Int32)), .val (.int (1 : Int32)), .val (.int ((0 : Int32) + (1 : Int32)))] [])) (fun _ kk_ => Jvm.RoadKit.acmp (g := (mkF m 116 #[.val (.int n1), .val (.ref b33), .val (.int (0 : Int32)), .val (.ref a_LOW_COST), .val (.int (1 : Int32)), .val (.int (0 : Int32)), .val (.int (1 : Int32)), .val (.int ((0 : Int32) + (1 : Int32)))] [(.ref a_SHOPPING), (.ref a_LOW_COST)])) X55 hx rfl rfl rfl (pc0 := 116) (pc' := 125) (same := false) rfl (hb hby at_116) rfl (decide_eq_false fun q => (Fld.ne Fa_LOW_COST_ordinal Fa_SHOPPING_ordinal (fun q => absurd (Value.int.inj q) (by decide))) (Value.ref.inj q)) (by decide) (by decide) kk_) ?_
    refine OW.st (B := T55.setTop (mkF m 127 #[.val (.int n1), .val (.ref b33), .val (.int (0 : Int32)), .val (.ref a_LOW_COST), .val (.int (1 : Int32)), .val (.int (0 : Int32)), .val (.int (1 : Int32)), .val (.int ((0 : Int32) + (1 : Int32)))] [(.int (1 : Int32))])) (fun _ kk_ => XS.iload X55.here hx rfl (hb hby at_125) rfl kk_) ?_
    refine OW.st (B := T55.setTop (mkF m 129 #[.val (.int n1), .val (.ref b33), .val (.int (0 : Int32)), .val (.ref a_LOW_COST), .val (.int (1 : Int32)), .val (.int (0 : Int32)), .val (.int (1 : Int32)), .val (.int ((0 : Int32) + (1 : Int32)))] [(.int (1 : Int32)), (.int (1 : Int32))])) (fun _ kk_ => XS.iload X55.here hx rfl (hb hby at_127) rfl kk_) ?_
    refine OW.st (B := T55.setTop (mkF m 132 #[.val (.int n1), .val (.ref b33), .val (.int (0 : Int32)), .val (.ref a_LOW_COST), .val (.int (1 : Int32)), .val (.int (0 : Int32)), .val (.int (1 : Int32)), .val (.int ((0 : Int32) + (1 : Int32)))] [])) (fun _ kk_ => XS.icmpNo X55.here hx rfl (hb hby at_129) rfl (teq (by decide)).2 kk_) ?_
    refine OW.st (B := T55.setTop (mkF m 134 #[.val (.int n1), .val (.ref b33), .val (.int (0 : Int32)), .val (.ref a_LOW_COST), .val (.int (1 : Int32)), .val (.int (0 : Int32)), .val (.int (1 : Int32)), .val (.int ((0 : Int32) + (1 : Int32)))] [(.int ((0 : Int32) + (1 : Int32)))])) (fun _ kk_ => XS.iload X55.here hx rfl (hb hby at_132) rfl kk_) ?_
    refine OW.st (B := T55.setTop (mkF m 135 #[.val (.int n1), .val (.ref b33), .val (.int (0 : Int32)), .val (.ref a_LOW_COST), .val (.int (1 : Int32)), .val (.int (0 : Int32)), .val (.int (1 : Int32)), .val (.int ((0 : Int32) + (1 : Int32)))] [(.int (1 : Int32)), (.int ((0 : Int32) + (1 : Int32)))])) (fun _ kk_ => XS.iconst X55.here hx rfl (hb hby at_134) kk_) ?_
    refine OW.st (B := T55.setTop (mkF m 138 #[.val (.int n1), .val (.ref b33), .val (.int (0 : Int32)), .val (.ref a_LOW_COST), .val (.int (1 : Int32)), .val (.int (0 : Int32)), .val (.int (1 : Int32)), .val (.int ((0 : Int32) + (1 : Int32)))] [])) (fun _ kk_ => XS.icmpNo X55.here hx rfl (hb hby at_135) rfl (teq (by decide)).2 kk_) ?_
    refine OW.st (B := T55.setTop (mkF m 139 #[.val (.int n1), .val (.ref b33), .val (.int (0 : Int32)), .val (.ref a_LOW_COST), .val (.int (1 : Int32)), .val (.int (0 : Int32)), .val (.int (1 : Int32)), .val (.int ((0 : Int32) + (1 : Int32)))] [(.int (1 : Int32))])) (fun _ kk_ => XS.iconst X55.here hx rfl (hb hby at_138) kk_) ?_
    refine OW.st (B := T55.setTop (mkF m 143 #[.val (.int n1), .val (.ref b33), .val (.int (0 : Int32)), .val (.ref a_LOW_COST), .val (.int (1 : Int32)), .val (.int (0 : Int32)), .val (.int (1 : Int32)), .val (.int ((0 : Int32) + (1 : Int32)))] [(.int (1 : Int32))])) (fun _ kk_ => XS.goto X55.here hx rfl (pc0 := 139) (pc' := 143) rfl (hb hby at_139) (by decide) (by decide) kk_) ?_
    exact OW.ret X55 hx hlk (i := .ireturn) Bd.returns rfl (Or.inl ⟨rfl, Or.inr (Or.inl rfl), _, rfl⟩) (hb hby at_143) e55 (by decide) (by decide) ⟨rfl, N54⟩
  · refine OW.st (B := T51.setTop (mkF m 50 #[.val (.int n1), .val (.ref b33), .val (.int (1 : Int32)), .unset, .unset, .unset, .unset, .unset] [])) (fun _ kk_ => XS.istoreN X51.here hx rfl (hb hby at_49) rfl (l' := #[.val (.int n1), .val (.ref b33), .val (.int (1 : Int32)), .unset, .unset, .unset, .unset, .unset]) rfl kk_) ?_
    refine OW.st (B := T51.setTop (mkF m 51 #[.val (.int n1), .val (.ref b33), .val (.int (1 : Int32)), .unset, .unset, .unset, .unset, .unset] [(.ref b33)])) (fun _ kk_ => XS.aloadN X51.here hx rfl (hb hby at_50) rfl rfl kk_) ?_
    refine OW.st (B := T51.setTop (mkF m 52 #[.val (.int n1), .val (.ref b33), .val (.int (1 : Int32)), .unset, .unset, .unset, .unset, .unset] [(.int (1 : Int32)), (.ref b33)])) (fun _ kk_ => XS.iloadN X51.here hx rfl (hb hby at_51) rfl kk_) ?_
    obtain ⟨cl56, Ar56, q56, S56, Ng56, Hs56, G56⟩ := V51
    have hin56 : ¬ ((1 : Int32) < 0 ∨ cl56.slots.size ≤ ((1 : Int32)).toNatClampNeg) := inb_of S56 ⟨by decide, by decide⟩
    refine OW.st (B := T51.setTop (mkF m 53 #[.val (.int n1), .val (.ref b33), .val (.int (1 : Int32)), .unset, .unset, .unset, .unset, .unset] [(.ref a_CONVENTIONAL)])) (X51.aaload hx (j := (1 : Int32)) (v := (.ref a_CONVENTIONAL)) (by rw [e51]; exact Ar56.1) (State.isArrayOf_alike hZ.alike Ar56.2.1) rfl Ar56.2.2 hin56 (Has.at Hs56 hin56 rfl) (g := (mkF m 52 #[.val (.int n1), .val (.ref b33), .val (.int (1 : Int32)), .unset, .unset, .unset, .unset, .unset] [(.int (1 : Int32)), (.ref b33)])) rfl rfl (hb hby at_52)) ?_
    refine OW.st (B := T51.setTop (mkF m 54 #[.val (.int n1), .val (.ref b33), .val (.int (1 : Int32)), .val (.ref a_CONVENTIONAL), .unset, .unset, .unset, .unset] [])) (fun _ kk_ => XS.astoreN X51.here hx rfl (hb hby at_53) rfl rfl (l' := #[.val (.int n1), .val (.ref b33), .val (.int (1 : Int32)), .val (.ref a_CONVENTIONAL), .unset, .unset, .unset, .unset]) rfl kk_) ?_
    refine OW.st (B := T51.setTop (mkF m 55 #[.val (.int n1), .val (.ref b33), .val (.int (1 : Int32)), .val (.ref a_CONVENTIONAL), .unset, .unset, .unset, .unset] [(.ref a_CONVENTIONAL)])) (fun _ kk_ => XS.aloadN X51.here hx rfl (hb hby at_54) rfl rfl kk_) ?_
    obtain ⟨cq57, kq57, q57a, q57b, q57c⟩ := isOf hZ e51 (Ea_CONVENTIONAL.ext O51.2)
    obtain ⟨_, _, ⟨T57, L57, k57, n57⟩, -, X57, ⟨Lc57, hQ57, l57, y57, z57⟩, st57⟩ := X51.virtualBack hx (y := (⟨"com/example/tileburgh/tileburgh/model/ConstructionKind", "takesRenter", "()Z"⟩ : MethodName)) (z := (⟨"com/example/tileburgh/tileburgh/model/ConstructionKind", "takesRenter", "()Z"⟩ : MethodName)) hown (mvT hZ (w_17 hw)) (mvT hZ (w_18 hw)) (notFace_of_selects (args := #[]) (mvT hZ (w_20 hw))) (mvT hZ (w_20 hw)) (mvT hZ (w_19 hw)) (by decide) (backOf (W := 0) (rmR l Z a0 hw [] a_CONVENTIONAL a_LOW_COST a_CONVENTIONAL a_GREEN a_SHOPPING a_GREENSPACE a_ECO_PARK h51 n0 O51 hS) hZ (w_21 hw) (w_3 hw) (by decide) (by decide)) q57a q57c (g := (mkF m 55 #[.val (.int n1), .val (.ref b33), .val (.int (1 : Int32)), .val (.ref a_CONVENTIONAL), .unset, .unset, .unset, .unset] [(.ref a_CONVENTIONAL)])) rfl (by rw [hml]; rfl) (Steps.refl _) (argsL := []) (rest := []) (lenOf pd_0 rfl) rfl (by show 2 * 0 + _ ≤ _; exact Nat.le_of_eq rfl) (hb hby at_55) (fun _ _ => ⟨rfl, e51, (by decide : 1 + 0 ≤ _), (by decide : 6 + 0 ≤ _)⟩)
    dsimp only [Pt.U, Pt.locs, Pt.cells, Pt.slots] at X57 l57 y57 z57 st57 hQ57
    subst l57 y57 z57
    obtain ⟨hv57, Nq57, e57⟩ := hQ57
    have N57 := Fr.app N51 Nq57
    rw [if_pos (by simp)] at hv57; subst hv57
    refine OW.tr (B := T57.setTop (mkF m 58 #[.val (.int n1), .val (.ref b33), .val (.int (1 : Int32)), .val (.ref a_CONVENTIONAL), .unset, .unset, .unset, .unset] [(.int (1 : Int32))])) (st57) ?_
    refine OW.st (B := T57.setTop (mkF m 60 #[.val (.int n1), .val (.ref b33), .val (.int (1 : Int32)), .val (.ref a_CONVENTIONAL), .val (.int (1 : Int32)), .unset, .unset, .unset] [])) (fun _ kk_ => XS.istore X57.here hx rfl (hb hby at_58) rfl (l' := #[.val (.int n1), .val (.ref b33), .val (.int (1 : Int32)), .val (.ref a_CONVENTIONAL), .val (.int (1 : Int32)), .unset, .unset, .unset]) rfl kk_) ?_
    refine OW.st (B := T57.setTop (mkF m 61 #[.val (.int n1), .val (.ref b33), .val (.int (1 : Int32)), .val (.ref a_CONVENTIONAL), .val (.int (1 : Int32)), .unset, .unset, .unset] [(.ref a_CONVENTIONAL)])) (fun _ kk_ => XS.aloadN X57.here hx rfl (hb hby at_60) rfl rfl kk_) ?_
    obtain ⟨cq58, kq58, q58a, q58b, q58c⟩ := isOf hZ e57 (Ea_CONVENTIONAL.ext O51.2)
    obtain ⟨_, _, ⟨T58, L58, k58, n58⟩, -, X58, ⟨Lc58, hQ58, l58, y58, z58⟩, st58⟩ := X57.virtualBack hx (y := (⟨"com/example/tileburgh/tileburgh/model/ConstructionKind", "isPark", "()Z"⟩ : MethodName)) (z := (⟨"com/example/tileburgh/tileburgh/model/ConstructionKind", "isPark", "()Z"⟩ : MethodName)) hown (mvT hZ (w_23 hw)) (mvT hZ (w_24 hw)) (notFace_of_selects (args := #[]) (mvT hZ (w_26 hw))) (mvT hZ (w_26 hw)) (mvT hZ (w_25 hw)) (by decide) (backOf (W := 0) (rmK l Z a0 hw [] a_CONVENTIONAL a_LOW_COST a_CONVENTIONAL a_GREEN a_SHOPPING a_GREENSPACE a_ECO_PARK h51 n0 O51 hS) hZ (w_27 hw) (w_3 hw) (by decide) (by decide)) q58a q58c (g := (mkF m 61 #[.val (.int n1), .val (.ref b33), .val (.int (1 : Int32)), .val (.ref a_CONVENTIONAL), .val (.int (1 : Int32)), .unset, .unset, .unset] [(.ref a_CONVENTIONAL)])) rfl (by rw [hml]; rfl) (Steps.refl _) (argsL := []) (rest := []) (lenOf pd_0 rfl) rfl (by show 2 * 0 + _ ≤ _; exact Nat.le_of_eq rfl) (hb hby at_61) (fun _ _ => ⟨rfl, e57, (by decide : 1 + 0 ≤ _), (by decide : 6 + 0 ≤ _)⟩)
    dsimp only [Pt.U, Pt.locs, Pt.cells, Pt.slots] at X58 l58 y58 z58 st58 hQ58
    subst l58 y58 z58
    obtain ⟨hv58, Nq58, e58⟩ := hQ58
    have N58 := Fr.app N57 Nq58
    rw [if_neg (by simp [(Ne.symm (Fld.ne Fa_GREENSPACE_ordinal Fa_CONVENTIONAL_ordinal (fun q => absurd (Value.int.inj q) (by decide)))), (Ne.symm (Fld.ne Fa_ECO_PARK_ordinal Fa_CONVENTIONAL_ordinal (fun q => absurd (Value.int.inj q) (by decide))))])] at hv58; subst hv58
    refine OW.tr (B := T58.setTop (mkF m 64 #[.val (.int n1), .val (.ref b33), .val (.int (1 : Int32)), .val (.ref a_CONVENTIONAL), .val (.int (1 : Int32)), .unset, .unset, .unset] [(.int (0 : Int32))])) (st58) ?_
    refine OW.st (B := T58.setTop (mkF m 66 #[.val (.int n1), .val (.ref b33), .val (.int (1 : Int32)), .val (.ref a_CONVENTIONAL), .val (.int (1 : Int32)), .val (.int (0 : Int32)), .unset, .unset] [])) (fun _ kk_ => XS.istore X58.here hx rfl (hb hby at_64) rfl (l' := #[.val (.int n1), .val (.ref b33), .val (.int (1 : Int32)), .val (.ref a_CONVENTIONAL), .val (.int (1 : Int32)), .val (.int (0 : Int32)), .unset, .unset]) rfl kk_) ?_
    refine OW.st (B := T58.setTop (mkF m 67 #[.val (.int n1), .val (.ref b33), .val (.int (1 : Int32)), .val (.ref a_CONVENTIONAL), .val (.int (1 : Int32)), .val (.int (0 : Int32)), .unset, .unset] [(.int (1 : Int32))])) (fun _ kk_ => XS.iloadN X58.here hx rfl (hb hby at_66) rfl kk_) ?_
    refine OW.st (B := T58.setTop (mkF m 70 #[.val (.int n1), .val (.ref b33), .val (.int (1 : Int32)), .val (.ref a_CONVENTIONAL), .val (.int (1 : Int32)), .val (.int (0 : Int32)), .unset, .unset] [])) (fun _ kk_ => XS.ifNo X58.here hx rfl (hb hby at_67) rfl ((if0 _ _).trans (feq (by decide)).1) kk_) ?_
    refine OW.st (B := T58.setTop (mkF m 71 #[.val (.int n1), .val (.ref b33), .val (.int (1 : Int32)), .val (.ref a_CONVENTIONAL), .val (.int (1 : Int32)), .val (.int (0 : Int32)), .unset, .unset] [(.int (1 : Int32))])) (fun _ kk_ => XS.iloadN X58.here hx rfl (hb hby at_70) rfl kk_) ?_
    refine OW.st (B := T58.setTop (mkF m 72 #[.val (.int n1), .val (.ref b33), .val (.int (1 : Int32)), .val (.ref a_CONVENTIONAL), .val (.int (1 : Int32)), .val (.int (0 : Int32)), .unset, .unset] [(.int (1 : Int32)), (.int (1 : Int32))])) (fun _ kk_ => XS.iconst X58.here hx rfl (hb hby at_71) kk_) ?_
    refine OW.st (B := T58.setTop (mkF m 80 #[.val (.int n1), .val (.ref b33), .val (.int (1 : Int32)), .val (.ref a_CONVENTIONAL), .val (.int (1 : Int32)), .val (.int (0 : Int32)), .unset, .unset] [])) (fun _ kk_ => XS.icmpYes X58.here hx rfl (pc0 := 72) (pc' := 80) rfl (hb hby at_72) rfl (teq (by decide)).1 (by decide) (by decide) kk_) ?_
    refine OW.st (B := T58.setTop (mkF m 81 #[.val (.int n1), .val (.ref b33), .val (.int (1 : Int32)), .val (.ref a_CONVENTIONAL), .val (.int (1 : Int32)), .val (.int (0 : Int32)), .unset, .unset] [(.int (1 : Int32))])) (fun _ kk_ => XS.iconst X58.here hx rfl (hb hby at_80) kk_) ?_
    refine OW.st (B := T58.setTop (mkF m 85 #[.val (.int n1), .val (.ref b33), .val (.int (1 : Int32)), .val (.ref a_CONVENTIONAL), .val (.int (1 : Int32)), .val (.int (0 : Int32)), .unset, .unset] [(.int (1 : Int32))])) (fun _ kk_ => XS.goto X58.here hx rfl (pc0 := 81) (pc' := 85) rfl (hb hby at_81) (by decide) (by decide) kk_) ?_
    refine OW.st (B := T58.setTop (mkF m 87 #[.val (.int n1), .val (.ref b33), .val (.int (1 : Int32)), .val (.ref a_CONVENTIONAL), .val (.int (1 : Int32)), .val (.int (0 : Int32)), .val (.int (1 : Int32)), .unset] [])) (fun _ kk_ => XS.istore X58.here hx rfl (hb hby at_85) rfl (l' := #[.val (.int n1), .val (.ref b33), .val (.int (1 : Int32)), .val (.ref a_CONVENTIONAL), .val (.int (1 : Int32)), .val (.int (0 : Int32)), .val (.int (1 : Int32)), .unset]) rfl kk_) ?_
    refine OW.st (B := T58.setTop (mkF m 88 #[.val (.int n1), .val (.ref b33), .val (.int (1 : Int32)), .val (.ref a_CONVENTIONAL), .val (.int (1 : Int32)), .val (.int (0 : Int32)), .val (.int (1 : Int32)), .unset] [(.int (0 : Int32))])) (fun _ kk_ => XS.iconst X58.here hx rfl (hb hby at_87) kk_) ?_
    refine OW.st (B := T58.setTop (mkF m 90 #[.val (.int n1), .val (.ref b33), .val (.int (1 : Int32)), .val (.ref a_CONVENTIONAL), .val (.int (1 : Int32)), .val (.int (0 : Int32)), .val (.int (1 : Int32)), .val (.int (0 : Int32))] [])) (fun _ kk_ => XS.istore X58.here hx rfl (hb hby at_88) rfl (l' := #[.val (.int n1), .val (.ref b33), .val (.int (1 : Int32)), .val (.ref a_CONVENTIONAL), .val (.int (1 : Int32)), .val (.int (0 : Int32)), .val (.int (1 : Int32)), .val (.int (0 : Int32))]) rfl kk_) ?_
    refine OW.st (B := T58.setTop (mkF m 92 #[.val (.int n1), .val (.ref b33), .val (.int (1 : Int32)), .val (.ref a_CONVENTIONAL), .val (.int (1 : Int32)), .val (.int (0 : Int32)), .val (.int (1 : Int32)), .val (.int (0 : Int32))] [(.int (1 : Int32))])) (fun _ kk_ => XS.iload X58.here hx rfl (hb hby at_90) rfl kk_) ?_
    refine OW.st (B := T58.setTop (mkF m 95 #[.val (.int n1), .val (.ref b33), .val (.int (1 : Int32)), .val (.ref a_CONVENTIONAL), .val (.int (1 : Int32)), .val (.int (0 : Int32)), .val (.int (1 : Int32)), .val (.int (0 : Int32))] [])) (fun _ kk_ => XS.ifNo X58.here hx rfl (hb hby at_92) rfl ((if0 _ _).trans (feq (by decide)).1) kk_) ?_
    refine OW.st (B := T58.setTop (mkF m 97 #[.val (.int n1), .val (.ref b33), .val (.int (1 : Int32)), .val (.ref a_CONVENTIONAL), .val (.int (1 : Int32)), .val (.int (0 : Int32)), .val (.int (1 : Int32)), .val (.int (0 : Int32))] [(.int (0 : Int32))])) (fun _ kk_ => XS.iload X58.here hx rfl (hb hby at_95) rfl kk_) ?_
    refine OW.st (B := T58.setTop (mkF m 98 #[.val (.int n1), .val (.ref b33), .val (.int (1 : Int32)), .val (.ref a_CONVENTIONAL), .val (.int (1 : Int32)), .val (.int (0 : Int32)), .val (.int (1 : Int32)), .val (.int (0 : Int32))] [(.int (1 : Int32)), (.int (0 : Int32))])) (fun _ kk_ => XS.iconst X58.here hx rfl (hb hby at_97) kk_) ?_
    refine OW.st (B := T58.setTop (mkF m 99 #[.val (.int n1), .val (.ref b33), .val (.int (1 : Int32)), .val (.ref a_CONVENTIONAL), .val (.int (1 : Int32)), .val (.int (0 : Int32)), .val (.int (1 : Int32)), .val (.int (0 : Int32))] [(.int ((0 : Int32) + (1 : Int32)))])) (fun _ kk_ => XS.iadd X58.here hx rfl (hb hby at_98) rfl kk_) ?_
    refine OW.st (B := T58.setTop (mkF m 101 #[.val (.int n1), .val (.ref b33), .val (.int (1 : Int32)), .val (.ref a_CONVENTIONAL), .val (.int (1 : Int32)), .val (.int (0 : Int32)), .val (.int (1 : Int32)), .val (.int ((0 : Int32) + (1 : Int32)))] [])) (fun _ kk_ => XS.istore X58.here hx rfl (hb hby at_99) rfl (l' := #[.val (.int n1), .val (.ref b33), .val (.int (1 : Int32)), .val (.ref a_CONVENTIONAL), .val (.int (1 : Int32)), .val (.int (0 : Int32)), .val (.int (1 : Int32)), .val (.int ((0 : Int32) + (1 : Int32)))]) rfl kk_) ?_
    refine OW.st (B := T58.setTop (mkF m 103 #[.val (.int n1), .val (.ref b33), .val (.int (1 : Int32)), .val (.ref a_CONVENTIONAL), .val (.int (1 : Int32)), .val (.int (0 : Int32)), .val (.int (1 : Int32)), .val (.int ((0 : Int32) + (1 : Int32)))] [(.int (0 : Int32))])) (fun _ kk_ => XS.iload X58.here hx rfl (hb hby at_101) rfl kk_) ?_
    refine OW.st (B := T58.setTop (mkF m 112 #[.val (.int n1), .val (.ref b33), .val (.int (1 : Int32)), .val (.ref a_CONVENTIONAL), .val (.int (1 : Int32)), .val (.int (0 : Int32)), .val (.int (1 : Int32)), .val (.int ((0 : Int32) + (1 : Int32)))] [])) (fun _ kk_ => XS.ifYes X58.here hx rfl (pc0 := 103) (pc' := 112) rfl (hb hby at_103) rfl ((if0 _ _).trans (teq (by decide)).1) (by decide) (by decide) kk_) ?_
    refine OW.st (B := T58.setTop (mkF m 113 #[.val (.int n1), .val (.ref b33), .val (.int (1 : Int32)), .val (.ref a_CONVENTIONAL), .val (.int (1 : Int32)), .val (.int (0 : Int32)), .val (.int (1 : Int32)), .val (.int ((0 : Int32) + (1 : Int32)))] [(.ref a_CONVENTIONAL)])) (fun _ kk_ => XS.aloadN X58.here hx rfl (hb hby at_112) rfl rfl kk_) ?_
    obtain ⟨T59, X59, e59, st59⟩ := getS2 X58 hx hZ hown (host := "") (Or.inl (w_10 hw)) Via.refl e58 (Sa_SHOPPING.ext O51.2) (g := (mkF m 113 #[.val (.int n1), .val (.ref b33), .val (.int (1 : Int32)), .val (.ref a_CONVENTIONAL), .val (.int (1 : Int32)), .val (.int (0 : Int32)), .val (.int (1 : Int32)), .val (.int ((0 : Int32) + (1 : Int32)))] [(.ref a_CONVENTIONAL)])) rfl (hb hby at_113)
    refine OW.st (B := T59.setTop (mkF m 116 #[.val (.int n1), .val (.ref b33), .val (.int (1 : Int32)), .val (.ref a_CONVENTIONAL), .val (.int (1 : Int32)), .val (.int (0 : Int32)), .val (.int (1 : Int32)), .val (.int ((0 : Int32) + (1 : Int32)))] [(.ref a_SHOPPING), (.ref a_CONVENTIONAL)])) (st59) ?_
    refine OW.st (B := T59.setTop (mkF m 125 #[.val (.int n1), .val (.ref b33), .val (.int (1 : Int32)), .val (.ref a_CONVENTIONAL), .val (.int (1 : Int32)), .val (.int (0 : Int32)), .val (.int (1 : Int32)), .val (.int ((0 : Int32) + (1 : Int32)))] [])) (fun _ kk_ => Jvm.RoadKit.acmp (g := (mkF m 116 #[.val (.int n1), .val (.ref b33), .val (.int (1 : Int32)), .val (.ref a_CONVENTIONAL), .val (.int (1 : Int32)), .val (.int (0 : Int32)), .val (.int (1 : Int32)), .val (.int ((0 : Int32) + (1 : Int32)))] [(.ref a_SHOPPING), (.ref a_CONVENTIONAL)])) X59 hx rfl rfl rfl (pc0 := 116) (pc' := 125) (same := false) rfl (hb hby at_116) rfl (decide_eq_false fun q => (Ne.symm (Fld.ne Fa_SHOPPING_ordinal Fa_CONVENTIONAL_ordinal (fun q => absurd (Value.int.inj q) (by decide)))) (Value.ref.inj q)) (by decide) (by decide) kk_) ?_
    refine OW.st (B := T59.setTop (mkF m 127 #[.val (.int n1), .val (.ref b33), .val (.int (1 : Int32)), .val (.ref a_CONVENTIONAL), .val (.int (1 : Int32)), .val (.int (0 : Int32)), .val (.int (1 : Int32)), .val (.int ((0 : Int32) + (1 : Int32)))] [(.int (1 : Int32))])) (fun _ kk_ => XS.iload X59.here hx rfl (hb hby at_125) rfl kk_) ?_
    refine OW.st (B := T59.setTop (mkF m 129 #[.val (.int n1), .val (.ref b33), .val (.int (1 : Int32)), .val (.ref a_CONVENTIONAL), .val (.int (1 : Int32)), .val (.int (0 : Int32)), .val (.int (1 : Int32)), .val (.int ((0 : Int32) + (1 : Int32)))] [(.int (1 : Int32)), (.int (1 : Int32))])) (fun _ kk_ => XS.iload X59.here hx rfl (hb hby at_127) rfl kk_) ?_
    refine OW.st (B := T59.setTop (mkF m 132 #[.val (.int n1), .val (.ref b33), .val (.int (1 : Int32)), .val (.ref a_CONVENTIONAL), .val (.int (1 : Int32)), .val (.int (0 : Int32)), .val (.int (1 : Int32)), .val (.int ((0 : Int32) + (1 : Int32)))] [])) (fun _ kk_ => XS.icmpNo X59.here hx rfl (hb hby at_129) rfl (teq (by decide)).2 kk_) ?_
    refine OW.st (B := T59.setTop (mkF m 134 #[.val (.int n1), .val (.ref b33), .val (.int (1 : Int32)), .val (.ref a_CONVENTIONAL), .val (.int (1 : Int32)), .val (.int (0 : Int32)), .val (.int (1 : Int32)), .val (.int ((0 : Int32) + (1 : Int32)))] [(.int ((0 : Int32) + (1 : Int32)))])) (fun _ kk_ => XS.iload X59.here hx rfl (hb hby at_132) rfl kk_) ?_
    refine OW.st (B := T59.setTop (mkF m 135 #[.val (.int n1), .val (.ref b33), .val (.int (1 : Int32)), .val (.ref a_CONVENTIONAL), .val (.int (1 : Int32)), .val (.int (0 : Int32)), .val (.int (1 : Int32)), .val (.int ((0 : Int32) + (1 : Int32)))] [(.int (1 : Int32)), (.int ((0 : Int32) + (1 : Int32)))])) (fun _ kk_ => XS.iconst X59.here hx rfl (hb hby at_134) kk_) ?_
    refine OW.st (B := T59.setTop (mkF m 138 #[.val (.int n1), .val (.ref b33), .val (.int (1 : Int32)), .val (.ref a_CONVENTIONAL), .val (.int (1 : Int32)), .val (.int (0 : Int32)), .val (.int (1 : Int32)), .val (.int ((0 : Int32) + (1 : Int32)))] [])) (fun _ kk_ => XS.icmpNo X59.here hx rfl (hb hby at_135) rfl (teq (by decide)).2 kk_) ?_
    refine OW.st (B := T59.setTop (mkF m 139 #[.val (.int n1), .val (.ref b33), .val (.int (1 : Int32)), .val (.ref a_CONVENTIONAL), .val (.int (1 : Int32)), .val (.int (0 : Int32)), .val (.int (1 : Int32)), .val (.int ((0 : Int32) + (1 : Int32)))] [(.int (1 : Int32))])) (fun _ kk_ => XS.iconst X59.here hx rfl (hb hby at_138) kk_) ?_
    refine OW.st (B := T59.setTop (mkF m 143 #[.val (.int n1), .val (.ref b33), .val (.int (1 : Int32)), .val (.ref a_CONVENTIONAL), .val (.int (1 : Int32)), .val (.int (0 : Int32)), .val (.int (1 : Int32)), .val (.int ((0 : Int32) + (1 : Int32)))] [(.int (1 : Int32))])) (fun _ kk_ => XS.goto X59.here hx rfl (pc0 := 139) (pc' := 143) rfl (hb hby at_139) (by decide) (by decide) kk_) ?_
    exact OW.ret X59 hx hlk (i := .ireturn) Bd.returns rfl (Or.inl ⟨rfl, Or.inr (Or.inl rfl), _, rfl⟩) (hb hby at_143) e59 (by decide) (by decide) ⟨rfl, N58⟩
  · refine OW.st (B := T51.setTop (mkF m 50 #[.val (.int n1), .val (.ref b33), .val (.int (2 : Int32)), .unset, .unset, .unset, .unset, .unset] [])) (fun _ kk_ => XS.istoreN X51.here hx rfl (hb hby at_49) rfl (l' := #[.val (.int n1), .val (.ref b33), .val (.int (2 : Int32)), .unset, .unset, .unset, .unset, .unset]) rfl kk_) ?_
    refine OW.st (B := T51.setTop (mkF m 51 #[.val (.int n1), .val (.ref b33), .val (.int (2 : Int32)), .unset, .unset, .unset, .unset, .unset] [(.ref b33)])) (fun _ kk_ => XS.aloadN X51.here hx rfl (hb hby at_50) rfl rfl kk_) ?_
    refine OW.st (B := T51.setTop (mkF m 52 #[.val (.int n1), .val (.ref b33), .val (.int (2 : Int32)), .unset, .unset, .unset, .unset, .unset] [(.int (2 : Int32)), (.ref b33)])) (fun _ kk_ => XS.iloadN X51.here hx rfl (hb hby at_51) rfl kk_) ?_
    obtain ⟨cl60, Ar60, q60, S60, Ng60, Hs60, G60⟩ := V51
    have hin60 : ¬ ((2 : Int32) < 0 ∨ cl60.slots.size ≤ ((2 : Int32)).toNatClampNeg) := inb_of S60 ⟨by decide, by decide⟩
    refine OW.st (B := T51.setTop (mkF m 53 #[.val (.int n1), .val (.ref b33), .val (.int (2 : Int32)), .unset, .unset, .unset, .unset, .unset] [(.ref a_GREEN)])) (X51.aaload hx (j := (2 : Int32)) (v := (.ref a_GREEN)) (by rw [e51]; exact Ar60.1) (State.isArrayOf_alike hZ.alike Ar60.2.1) rfl Ar60.2.2 hin60 (Has.at Hs60 hin60 rfl) (g := (mkF m 52 #[.val (.int n1), .val (.ref b33), .val (.int (2 : Int32)), .unset, .unset, .unset, .unset, .unset] [(.int (2 : Int32)), (.ref b33)])) rfl rfl (hb hby at_52)) ?_
    refine OW.st (B := T51.setTop (mkF m 54 #[.val (.int n1), .val (.ref b33), .val (.int (2 : Int32)), .val (.ref a_GREEN), .unset, .unset, .unset, .unset] [])) (fun _ kk_ => XS.astoreN X51.here hx rfl (hb hby at_53) rfl rfl (l' := #[.val (.int n1), .val (.ref b33), .val (.int (2 : Int32)), .val (.ref a_GREEN), .unset, .unset, .unset, .unset]) rfl kk_) ?_
    refine OW.st (B := T51.setTop (mkF m 55 #[.val (.int n1), .val (.ref b33), .val (.int (2 : Int32)), .val (.ref a_GREEN), .unset, .unset, .unset, .unset] [(.ref a_GREEN)])) (fun _ kk_ => XS.aloadN X51.here hx rfl (hb hby at_54) rfl rfl kk_) ?_
    obtain ⟨cq61, kq61, q61a, q61b, q61c⟩ := isOf hZ e51 (Ea_GREEN.ext O51.2)
    obtain ⟨_, _, ⟨T61, L61, k61, n61⟩, -, X61, ⟨Lc61, hQ61, l61, y61, z61⟩, st61⟩ := X51.virtualBack hx (y := (⟨"com/example/tileburgh/tileburgh/model/ConstructionKind", "takesRenter", "()Z"⟩ : MethodName)) (z := (⟨"com/example/tileburgh/tileburgh/model/ConstructionKind", "takesRenter", "()Z"⟩ : MethodName)) hown (mvT hZ (w_17 hw)) (mvT hZ (w_18 hw)) (notFace_of_selects (args := #[]) (mvT hZ (w_20 hw))) (mvT hZ (w_20 hw)) (mvT hZ (w_19 hw)) (by decide) (backOf (W := 0) (rmR l Z a0 hw [] a_GREEN a_LOW_COST a_CONVENTIONAL a_GREEN a_SHOPPING a_GREENSPACE a_ECO_PARK h51 n0 O51 hS) hZ (w_21 hw) (w_3 hw) (by decide) (by decide)) q61a q61c (g := (mkF m 55 #[.val (.int n1), .val (.ref b33), .val (.int (2 : Int32)), .val (.ref a_GREEN), .unset, .unset, .unset, .unset] [(.ref a_GREEN)])) rfl (by rw [hml]; rfl) (Steps.refl _) (argsL := []) (rest := []) (lenOf pd_0 rfl) rfl (by show 2 * 0 + _ ≤ _; exact Nat.le_of_eq rfl) (hb hby at_55) (fun _ _ => ⟨rfl, e51, (by decide : 1 + 0 ≤ _), (by decide : 6 + 0 ≤ _)⟩)
    dsimp only [Pt.U, Pt.locs, Pt.cells, Pt.slots] at X61 l61 y61 z61 st61 hQ61
    subst l61 y61 z61
    obtain ⟨hv61, Nq61, e61⟩ := hQ61
    have N61 := Fr.app N51 Nq61
    rw [if_pos (by simp)] at hv61; subst hv61
    refine OW.tr (B := T61.setTop (mkF m 58 #[.val (.int n1), .val (.ref b33), .val (.int (2 : Int32)), .val (.ref a_GREEN), .unset, .unset, .unset, .unset] [(.int (1 : Int32))])) (st61) ?_
    refine OW.st (B := T61.setTop (mkF m 60 #[.val (.int n1), .val (.ref b33), .val (.int (2 : Int32)), .val (.ref a_GREEN), .val (.int (1 : Int32)), .unset, .unset, .unset] [])) (fun _ kk_ => XS.istore X61.here hx rfl (hb hby at_58) rfl (l' := #[.val (.int n1), .val (.ref b33), .val (.int (2 : Int32)), .val (.ref a_GREEN), .val (.int (1 : Int32)), .unset, .unset, .unset]) rfl kk_) ?_
    refine OW.st (B := T61.setTop (mkF m 61 #[.val (.int n1), .val (.ref b33), .val (.int (2 : Int32)), .val (.ref a_GREEN), .val (.int (1 : Int32)), .unset, .unset, .unset] [(.ref a_GREEN)])) (fun _ kk_ => XS.aloadN X61.here hx rfl (hb hby at_60) rfl rfl kk_) ?_
    obtain ⟨cq62, kq62, q62a, q62b, q62c⟩ := isOf hZ e61 (Ea_GREEN.ext O51.2)
    obtain ⟨_, _, ⟨T62, L62, k62, n62⟩, -, X62, ⟨Lc62, hQ62, l62, y62, z62⟩, st62⟩ := X61.virtualBack hx (y := (⟨"com/example/tileburgh/tileburgh/model/ConstructionKind", "isPark", "()Z"⟩ : MethodName)) (z := (⟨"com/example/tileburgh/tileburgh/model/ConstructionKind", "isPark", "()Z"⟩ : MethodName)) hown (mvT hZ (w_23 hw)) (mvT hZ (w_24 hw)) (notFace_of_selects (args := #[]) (mvT hZ (w_26 hw))) (mvT hZ (w_26 hw)) (mvT hZ (w_25 hw)) (by decide) (backOf (W := 0) (rmK l Z a0 hw [] a_GREEN a_LOW_COST a_CONVENTIONAL a_GREEN a_SHOPPING a_GREENSPACE a_ECO_PARK h51 n0 O51 hS) hZ (w_27 hw) (w_3 hw) (by decide) (by decide)) q62a q62c (g := (mkF m 61 #[.val (.int n1), .val (.ref b33), .val (.int (2 : Int32)), .val (.ref a_GREEN), .val (.int (1 : Int32)), .unset, .unset, .unset] [(.ref a_GREEN)])) rfl (by rw [hml]; rfl) (Steps.refl _) (argsL := []) (rest := []) (lenOf pd_0 rfl) rfl (by show 2 * 0 + _ ≤ _; exact Nat.le_of_eq rfl) (hb hby at_61) (fun _ _ => ⟨rfl, e61, (by decide : 1 + 0 ≤ _), (by decide : 6 + 0 ≤ _)⟩)
    dsimp only [Pt.U, Pt.locs, Pt.cells, Pt.slots] at X62 l62 y62 z62 st62 hQ62
    subst l62 y62 z62
    obtain ⟨hv62, Nq62, e62⟩ := hQ62
    have N62 := Fr.app N61 Nq62
    rw [if_neg (by simp [(Ne.symm (Fld.ne Fa_GREENSPACE_ordinal Fa_GREEN_ordinal (fun q => absurd (Value.int.inj q) (by decide)))), (Ne.symm (Fld.ne Fa_ECO_PARK_ordinal Fa_GREEN_ordinal (fun q => absurd (Value.int.inj q) (by decide))))])] at hv62; subst hv62
    refine OW.tr (B := T62.setTop (mkF m 64 #[.val (.int n1), .val (.ref b33), .val (.int (2 : Int32)), .val (.ref a_GREEN), .val (.int (1 : Int32)), .unset, .unset, .unset] [(.int (0 : Int32))])) (st62) ?_
    refine OW.st (B := T62.setTop (mkF m 66 #[.val (.int n1), .val (.ref b33), .val (.int (2 : Int32)), .val (.ref a_GREEN), .val (.int (1 : Int32)), .val (.int (0 : Int32)), .unset, .unset] [])) (fun _ kk_ => XS.istore X62.here hx rfl (hb hby at_64) rfl (l' := #[.val (.int n1), .val (.ref b33), .val (.int (2 : Int32)), .val (.ref a_GREEN), .val (.int (1 : Int32)), .val (.int (0 : Int32)), .unset, .unset]) rfl kk_) ?_
    refine OW.st (B := T62.setTop (mkF m 67 #[.val (.int n1), .val (.ref b33), .val (.int (2 : Int32)), .val (.ref a_GREEN), .val (.int (1 : Int32)), .val (.int (0 : Int32)), .unset, .unset] [(.int (2 : Int32))])) (fun _ kk_ => XS.iloadN X62.here hx rfl (hb hby at_66) rfl kk_) ?_
    refine OW.st (B := T62.setTop (mkF m 70 #[.val (.int n1), .val (.ref b33), .val (.int (2 : Int32)), .val (.ref a_GREEN), .val (.int (1 : Int32)), .val (.int (0 : Int32)), .unset, .unset] [])) (fun _ kk_ => XS.ifNo X62.here hx rfl (hb hby at_67) rfl ((if0 _ _).trans (feq (by decide)).1) kk_) ?_
    refine OW.st (B := T62.setTop (mkF m 71 #[.val (.int n1), .val (.ref b33), .val (.int (2 : Int32)), .val (.ref a_GREEN), .val (.int (1 : Int32)), .val (.int (0 : Int32)), .unset, .unset] [(.int (2 : Int32))])) (fun _ kk_ => XS.iloadN X62.here hx rfl (hb hby at_70) rfl kk_) ?_
    refine OW.st (B := T62.setTop (mkF m 72 #[.val (.int n1), .val (.ref b33), .val (.int (2 : Int32)), .val (.ref a_GREEN), .val (.int (1 : Int32)), .val (.int (0 : Int32)), .unset, .unset] [(.int (1 : Int32)), (.int (2 : Int32))])) (fun _ kk_ => XS.iconst X62.here hx rfl (hb hby at_71) kk_) ?_
    refine OW.st (B := T62.setTop (mkF m 75 #[.val (.int n1), .val (.ref b33), .val (.int (2 : Int32)), .val (.ref a_GREEN), .val (.int (1 : Int32)), .val (.int (0 : Int32)), .unset, .unset] [])) (fun _ kk_ => XS.icmpNo X62.here hx rfl (hb hby at_72) rfl (feq (by decide)).1 kk_) ?_
    refine OW.st (B := T62.setTop (mkF m 76 #[.val (.int n1), .val (.ref b33), .val (.int (2 : Int32)), .val (.ref a_GREEN), .val (.int (1 : Int32)), .val (.int (0 : Int32)), .unset, .unset] [(.int (2 : Int32))])) (fun _ kk_ => XS.iloadN X62.here hx rfl (hb hby at_75) rfl kk_) ?_
    refine OW.st (B := T62.setTop (mkF m 77 #[.val (.int n1), .val (.ref b33), .val (.int (2 : Int32)), .val (.ref a_GREEN), .val (.int (1 : Int32)), .val (.int (0 : Int32)), .unset, .unset] [(.int (2 : Int32)), (.int (2 : Int32))])) (fun _ kk_ => XS.iconst X62.here hx rfl (hb hby at_76) kk_) ?_
    refine OW.st (B := T62.setTop (mkF m 80 #[.val (.int n1), .val (.ref b33), .val (.int (2 : Int32)), .val (.ref a_GREEN), .val (.int (1 : Int32)), .val (.int (0 : Int32)), .unset, .unset] [])) (fun _ kk_ => XS.icmpNo X62.here hx rfl (hb hby at_77) rfl (teq (by decide)).2 kk_) ?_
    refine OW.st (B := T62.setTop (mkF m 81 #[.val (.int n1), .val (.ref b33), .val (.int (2 : Int32)), .val (.ref a_GREEN), .val (.int (1 : Int32)), .val (.int (0 : Int32)), .unset, .unset] [(.int (1 : Int32))])) (fun _ kk_ => XS.iconst X62.here hx rfl (hb hby at_80) kk_) ?_
    refine OW.st (B := T62.setTop (mkF m 85 #[.val (.int n1), .val (.ref b33), .val (.int (2 : Int32)), .val (.ref a_GREEN), .val (.int (1 : Int32)), .val (.int (0 : Int32)), .unset, .unset] [(.int (1 : Int32))])) (fun _ kk_ => XS.goto X62.here hx rfl (pc0 := 81) (pc' := 85) rfl (hb hby at_81) (by decide) (by decide) kk_) ?_
    refine OW.st (B := T62.setTop (mkF m 87 #[.val (.int n1), .val (.ref b33), .val (.int (2 : Int32)), .val (.ref a_GREEN), .val (.int (1 : Int32)), .val (.int (0 : Int32)), .val (.int (1 : Int32)), .unset] [])) (fun _ kk_ => XS.istore X62.here hx rfl (hb hby at_85) rfl (l' := #[.val (.int n1), .val (.ref b33), .val (.int (2 : Int32)), .val (.ref a_GREEN), .val (.int (1 : Int32)), .val (.int (0 : Int32)), .val (.int (1 : Int32)), .unset]) rfl kk_) ?_
    refine OW.st (B := T62.setTop (mkF m 88 #[.val (.int n1), .val (.ref b33), .val (.int (2 : Int32)), .val (.ref a_GREEN), .val (.int (1 : Int32)), .val (.int (0 : Int32)), .val (.int (1 : Int32)), .unset] [(.int (0 : Int32))])) (fun _ kk_ => XS.iconst X62.here hx rfl (hb hby at_87) kk_) ?_
    refine OW.st (B := T62.setTop (mkF m 90 #[.val (.int n1), .val (.ref b33), .val (.int (2 : Int32)), .val (.ref a_GREEN), .val (.int (1 : Int32)), .val (.int (0 : Int32)), .val (.int (1 : Int32)), .val (.int (0 : Int32))] [])) (fun _ kk_ => XS.istore X62.here hx rfl (hb hby at_88) rfl (l' := #[.val (.int n1), .val (.ref b33), .val (.int (2 : Int32)), .val (.ref a_GREEN), .val (.int (1 : Int32)), .val (.int (0 : Int32)), .val (.int (1 : Int32)), .val (.int (0 : Int32))]) rfl kk_) ?_
    refine OW.st (B := T62.setTop (mkF m 92 #[.val (.int n1), .val (.ref b33), .val (.int (2 : Int32)), .val (.ref a_GREEN), .val (.int (1 : Int32)), .val (.int (0 : Int32)), .val (.int (1 : Int32)), .val (.int (0 : Int32))] [(.int (1 : Int32))])) (fun _ kk_ => XS.iload X62.here hx rfl (hb hby at_90) rfl kk_) ?_
    refine OW.st (B := T62.setTop (mkF m 95 #[.val (.int n1), .val (.ref b33), .val (.int (2 : Int32)), .val (.ref a_GREEN), .val (.int (1 : Int32)), .val (.int (0 : Int32)), .val (.int (1 : Int32)), .val (.int (0 : Int32))] [])) (fun _ kk_ => XS.ifNo X62.here hx rfl (hb hby at_92) rfl ((if0 _ _).trans (feq (by decide)).1) kk_) ?_
    refine OW.st (B := T62.setTop (mkF m 97 #[.val (.int n1), .val (.ref b33), .val (.int (2 : Int32)), .val (.ref a_GREEN), .val (.int (1 : Int32)), .val (.int (0 : Int32)), .val (.int (1 : Int32)), .val (.int (0 : Int32))] [(.int (0 : Int32))])) (fun _ kk_ => XS.iload X62.here hx rfl (hb hby at_95) rfl kk_) ?_
    refine OW.st (B := T62.setTop (mkF m 98 #[.val (.int n1), .val (.ref b33), .val (.int (2 : Int32)), .val (.ref a_GREEN), .val (.int (1 : Int32)), .val (.int (0 : Int32)), .val (.int (1 : Int32)), .val (.int (0 : Int32))] [(.int (1 : Int32)), (.int (0 : Int32))])) (fun _ kk_ => XS.iconst X62.here hx rfl (hb hby at_97) kk_) ?_
    refine OW.st (B := T62.setTop (mkF m 99 #[.val (.int n1), .val (.ref b33), .val (.int (2 : Int32)), .val (.ref a_GREEN), .val (.int (1 : Int32)), .val (.int (0 : Int32)), .val (.int (1 : Int32)), .val (.int (0 : Int32))] [(.int ((0 : Int32) + (1 : Int32)))])) (fun _ kk_ => XS.iadd X62.here hx rfl (hb hby at_98) rfl kk_) ?_
    refine OW.st (B := T62.setTop (mkF m 101 #[.val (.int n1), .val (.ref b33), .val (.int (2 : Int32)), .val (.ref a_GREEN), .val (.int (1 : Int32)), .val (.int (0 : Int32)), .val (.int (1 : Int32)), .val (.int ((0 : Int32) + (1 : Int32)))] [])) (fun _ kk_ => XS.istore X62.here hx rfl (hb hby at_99) rfl (l' := #[.val (.int n1), .val (.ref b33), .val (.int (2 : Int32)), .val (.ref a_GREEN), .val (.int (1 : Int32)), .val (.int (0 : Int32)), .val (.int (1 : Int32)), .val (.int ((0 : Int32) + (1 : Int32)))]) rfl kk_) ?_
    refine OW.st (B := T62.setTop (mkF m 103 #[.val (.int n1), .val (.ref b33), .val (.int (2 : Int32)), .val (.ref a_GREEN), .val (.int (1 : Int32)), .val (.int (0 : Int32)), .val (.int (1 : Int32)), .val (.int ((0 : Int32) + (1 : Int32)))] [(.int (0 : Int32))])) (fun _ kk_ => XS.iload X62.here hx rfl (hb hby at_101) rfl kk_) ?_
    refine OW.st (B := T62.setTop (mkF m 112 #[.val (.int n1), .val (.ref b33), .val (.int (2 : Int32)), .val (.ref a_GREEN), .val (.int (1 : Int32)), .val (.int (0 : Int32)), .val (.int (1 : Int32)), .val (.int ((0 : Int32) + (1 : Int32)))] [])) (fun _ kk_ => XS.ifYes X62.here hx rfl (pc0 := 103) (pc' := 112) rfl (hb hby at_103) rfl ((if0 _ _).trans (teq (by decide)).1) (by decide) (by decide) kk_) ?_
    refine OW.st (B := T62.setTop (mkF m 113 #[.val (.int n1), .val (.ref b33), .val (.int (2 : Int32)), .val (.ref a_GREEN), .val (.int (1 : Int32)), .val (.int (0 : Int32)), .val (.int (1 : Int32)), .val (.int ((0 : Int32) + (1 : Int32)))] [(.ref a_GREEN)])) (fun _ kk_ => XS.aloadN X62.here hx rfl (hb hby at_112) rfl rfl kk_) ?_
    obtain ⟨T63, X63, e63, st63⟩ := getS2 X62 hx hZ hown (host := "") (Or.inl (w_10 hw)) Via.refl e62 (Sa_SHOPPING.ext O51.2) (g := (mkF m 113 #[.val (.int n1), .val (.ref b33), .val (.int (2 : Int32)), .val (.ref a_GREEN), .val (.int (1 : Int32)), .val (.int (0 : Int32)), .val (.int (1 : Int32)), .val (.int ((0 : Int32) + (1 : Int32)))] [(.ref a_GREEN)])) rfl (hb hby at_113)
    refine OW.st (B := T63.setTop (mkF m 116 #[.val (.int n1), .val (.ref b33), .val (.int (2 : Int32)), .val (.ref a_GREEN), .val (.int (1 : Int32)), .val (.int (0 : Int32)), .val (.int (1 : Int32)), .val (.int ((0 : Int32) + (1 : Int32)))] [(.ref a_SHOPPING), (.ref a_GREEN)])) (st63) ?_
    refine OW.st (B := T63.setTop (mkF m 125 #[.val (.int n1), .val (.ref b33), .val (.int (2 : Int32)), .val (.ref a_GREEN), .val (.int (1 : Int32)), .val (.int (0 : Int32)), .val (.int (1 : Int32)), .val (.int ((0 : Int32) + (1 : Int32)))] [])) (fun _ kk_ => Jvm.RoadKit.acmp (g := (mkF m 116 #[.val (.int n1), .val (.ref b33), .val (.int (2 : Int32)), .val (.ref a_GREEN), .val (.int (1 : Int32)), .val (.int (0 : Int32)), .val (.int (1 : Int32)), .val (.int ((0 : Int32) + (1 : Int32)))] [(.ref a_SHOPPING), (.ref a_GREEN)])) X63 hx rfl rfl rfl (pc0 := 116) (pc' := 125) (same := false) rfl (hb hby at_116) rfl (decide_eq_false fun q => (Ne.symm (Fld.ne Fa_SHOPPING_ordinal Fa_GREEN_ordinal (fun q => absurd (Value.int.inj q) (by decide)))) (Value.ref.inj q)) (by decide) (by decide) kk_) ?_
    refine OW.st (B := T63.setTop (mkF m 127 #[.val (.int n1), .val (.ref b33), .val (.int (2 : Int32)), .val (.ref a_GREEN), .val (.int (1 : Int32)), .val (.int (0 : Int32)), .val (.int (1 : Int32)), .val (.int ((0 : Int32) + (1 : Int32)))] [(.int (1 : Int32))])) (fun _ kk_ => XS.iload X63.here hx rfl (hb hby at_125) rfl kk_) ?_
    refine OW.st (B := T63.setTop (mkF m 129 #[.val (.int n1), .val (.ref b33), .val (.int (2 : Int32)), .val (.ref a_GREEN), .val (.int (1 : Int32)), .val (.int (0 : Int32)), .val (.int (1 : Int32)), .val (.int ((0 : Int32) + (1 : Int32)))] [(.int (1 : Int32)), (.int (1 : Int32))])) (fun _ kk_ => XS.iload X63.here hx rfl (hb hby at_127) rfl kk_) ?_
    refine OW.st (B := T63.setTop (mkF m 132 #[.val (.int n1), .val (.ref b33), .val (.int (2 : Int32)), .val (.ref a_GREEN), .val (.int (1 : Int32)), .val (.int (0 : Int32)), .val (.int (1 : Int32)), .val (.int ((0 : Int32) + (1 : Int32)))] [])) (fun _ kk_ => XS.icmpNo X63.here hx rfl (hb hby at_129) rfl (teq (by decide)).2 kk_) ?_
    refine OW.st (B := T63.setTop (mkF m 134 #[.val (.int n1), .val (.ref b33), .val (.int (2 : Int32)), .val (.ref a_GREEN), .val (.int (1 : Int32)), .val (.int (0 : Int32)), .val (.int (1 : Int32)), .val (.int ((0 : Int32) + (1 : Int32)))] [(.int ((0 : Int32) + (1 : Int32)))])) (fun _ kk_ => XS.iload X63.here hx rfl (hb hby at_132) rfl kk_) ?_
    refine OW.st (B := T63.setTop (mkF m 135 #[.val (.int n1), .val (.ref b33), .val (.int (2 : Int32)), .val (.ref a_GREEN), .val (.int (1 : Int32)), .val (.int (0 : Int32)), .val (.int (1 : Int32)), .val (.int ((0 : Int32) + (1 : Int32)))] [(.int (1 : Int32)), (.int ((0 : Int32) + (1 : Int32)))])) (fun _ kk_ => XS.iconst X63.here hx rfl (hb hby at_134) kk_) ?_
    refine OW.st (B := T63.setTop (mkF m 138 #[.val (.int n1), .val (.ref b33), .val (.int (2 : Int32)), .val (.ref a_GREEN), .val (.int (1 : Int32)), .val (.int (0 : Int32)), .val (.int (1 : Int32)), .val (.int ((0 : Int32) + (1 : Int32)))] [])) (fun _ kk_ => XS.icmpNo X63.here hx rfl (hb hby at_135) rfl (teq (by decide)).2 kk_) ?_
    refine OW.st (B := T63.setTop (mkF m 139 #[.val (.int n1), .val (.ref b33), .val (.int (2 : Int32)), .val (.ref a_GREEN), .val (.int (1 : Int32)), .val (.int (0 : Int32)), .val (.int (1 : Int32)), .val (.int ((0 : Int32) + (1 : Int32)))] [(.int (1 : Int32))])) (fun _ kk_ => XS.iconst X63.here hx rfl (hb hby at_138) kk_) ?_
    refine OW.st (B := T63.setTop (mkF m 143 #[.val (.int n1), .val (.ref b33), .val (.int (2 : Int32)), .val (.ref a_GREEN), .val (.int (1 : Int32)), .val (.int (0 : Int32)), .val (.int (1 : Int32)), .val (.int ((0 : Int32) + (1 : Int32)))] [(.int (1 : Int32))])) (fun _ kk_ => XS.goto X63.here hx rfl (pc0 := 139) (pc' := 143) rfl (hb hby at_139) (by decide) (by decide) kk_) ?_
    exact OW.ret X63 hx hlk (i := .ireturn) Bd.returns rfl (Or.inl ⟨rfl, Or.inr (Or.inl rfl), _, rfl⟩) (hb hby at_143) e63 (by decide) (by decide) ⟨rfl, N62⟩
  · refine OW.st (B := T51.setTop (mkF m 50 #[.val (.int n1), .val (.ref b33), .val (.int (3 : Int32)), .unset, .unset, .unset, .unset, .unset] [])) (fun _ kk_ => XS.istoreN X51.here hx rfl (hb hby at_49) rfl (l' := #[.val (.int n1), .val (.ref b33), .val (.int (3 : Int32)), .unset, .unset, .unset, .unset, .unset]) rfl kk_) ?_
    refine OW.st (B := T51.setTop (mkF m 51 #[.val (.int n1), .val (.ref b33), .val (.int (3 : Int32)), .unset, .unset, .unset, .unset, .unset] [(.ref b33)])) (fun _ kk_ => XS.aloadN X51.here hx rfl (hb hby at_50) rfl rfl kk_) ?_
    refine OW.st (B := T51.setTop (mkF m 52 #[.val (.int n1), .val (.ref b33), .val (.int (3 : Int32)), .unset, .unset, .unset, .unset, .unset] [(.int (3 : Int32)), (.ref b33)])) (fun _ kk_ => XS.iloadN X51.here hx rfl (hb hby at_51) rfl kk_) ?_
    obtain ⟨cl64, Ar64, q64, S64, Ng64, Hs64, G64⟩ := V51
    have hin64 : ¬ ((3 : Int32) < 0 ∨ cl64.slots.size ≤ ((3 : Int32)).toNatClampNeg) := inb_of S64 ⟨by decide, by decide⟩
    refine OW.st (B := T51.setTop (mkF m 53 #[.val (.int n1), .val (.ref b33), .val (.int (3 : Int32)), .unset, .unset, .unset, .unset, .unset] [(.ref a_SHOPPING)])) (X51.aaload hx (j := (3 : Int32)) (v := (.ref a_SHOPPING)) (by rw [e51]; exact Ar64.1) (State.isArrayOf_alike hZ.alike Ar64.2.1) rfl Ar64.2.2 hin64 (Has.at Hs64 hin64 rfl) (g := (mkF m 52 #[.val (.int n1), .val (.ref b33), .val (.int (3 : Int32)), .unset, .unset, .unset, .unset, .unset] [(.int (3 : Int32)), (.ref b33)])) rfl rfl (hb hby at_52)) ?_
    refine OW.st (B := T51.setTop (mkF m 54 #[.val (.int n1), .val (.ref b33), .val (.int (3 : Int32)), .val (.ref a_SHOPPING), .unset, .unset, .unset, .unset] [])) (fun _ kk_ => XS.astoreN X51.here hx rfl (hb hby at_53) rfl rfl (l' := #[.val (.int n1), .val (.ref b33), .val (.int (3 : Int32)), .val (.ref a_SHOPPING), .unset, .unset, .unset, .unset]) rfl kk_) ?_
    refine OW.st (B := T51.setTop (mkF m 55 #[.val (.int n1), .val (.ref b33), .val (.int (3 : Int32)), .val (.ref a_SHOPPING), .unset, .unset, .unset, .unset] [(.ref a_SHOPPING)])) (fun _ kk_ => XS.aloadN X51.here hx rfl (hb hby at_54) rfl rfl kk_) ?_
    obtain ⟨cq65, kq65, q65a, q65b, q65c⟩ := isOf hZ e51 (Ea_SHOPPING.ext O51.2)
    obtain ⟨_, _, ⟨T65, L65, k65, n65⟩, -, X65, ⟨Lc65, hQ65, l65, y65, z65⟩, st65⟩ := X51.virtualBack hx (y := (⟨"com/example/tileburgh/tileburgh/model/ConstructionKind", "takesRenter", "()Z"⟩ : MethodName)) (z := (⟨"com/example/tileburgh/tileburgh/model/ConstructionKind", "takesRenter", "()Z"⟩ : MethodName)) hown (mvT hZ (w_17 hw)) (mvT hZ (w_18 hw)) (notFace_of_selects (args := #[]) (mvT hZ (w_20 hw))) (mvT hZ (w_20 hw)) (mvT hZ (w_19 hw)) (by decide) (backOf (W := 0) (rmR l Z a0 hw [] a_SHOPPING a_LOW_COST a_CONVENTIONAL a_GREEN a_SHOPPING a_GREENSPACE a_ECO_PARK h51 n0 O51 hS) hZ (w_21 hw) (w_3 hw) (by decide) (by decide)) q65a q65c (g := (mkF m 55 #[.val (.int n1), .val (.ref b33), .val (.int (3 : Int32)), .val (.ref a_SHOPPING), .unset, .unset, .unset, .unset] [(.ref a_SHOPPING)])) rfl (by rw [hml]; rfl) (Steps.refl _) (argsL := []) (rest := []) (lenOf pd_0 rfl) rfl (by show 2 * 0 + _ ≤ _; exact Nat.le_of_eq rfl) (hb hby at_55) (fun _ _ => ⟨rfl, e51, (by decide : 1 + 0 ≤ _), (by decide : 6 + 0 ≤ _)⟩)
    dsimp only [Pt.U, Pt.locs, Pt.cells, Pt.slots] at X65 l65 y65 z65 st65 hQ65
    subst l65 y65 z65
    obtain ⟨hv65, Nq65, e65⟩ := hQ65
    have N65 := Fr.app N51 Nq65
    rw [if_neg (by simp [(Ne.symm (Fld.ne Fa_LOW_COST_ordinal Fa_SHOPPING_ordinal (fun q => absurd (Value.int.inj q) (by decide)))), (Fld.ne Fa_SHOPPING_ordinal Fa_CONVENTIONAL_ordinal (fun q => absurd (Value.int.inj q) (by decide))), (Fld.ne Fa_SHOPPING_ordinal Fa_GREEN_ordinal (fun q => absurd (Value.int.inj q) (by decide)))])] at hv65; subst hv65
    refine OW.tr (B := T65.setTop (mkF m 58 #[.val (.int n1), .val (.ref b33), .val (.int (3 : Int32)), .val (.ref a_SHOPPING), .unset, .unset, .unset, .unset] [(.int (0 : Int32))])) (st65) ?_
    refine OW.st (B := T65.setTop (mkF m 60 #[.val (.int n1), .val (.ref b33), .val (.int (3 : Int32)), .val (.ref a_SHOPPING), .val (.int (0 : Int32)), .unset, .unset, .unset] [])) (fun _ kk_ => XS.istore X65.here hx rfl (hb hby at_58) rfl (l' := #[.val (.int n1), .val (.ref b33), .val (.int (3 : Int32)), .val (.ref a_SHOPPING), .val (.int (0 : Int32)), .unset, .unset, .unset]) rfl kk_) ?_
    refine OW.st (B := T65.setTop (mkF m 61 #[.val (.int n1), .val (.ref b33), .val (.int (3 : Int32)), .val (.ref a_SHOPPING), .val (.int (0 : Int32)), .unset, .unset, .unset] [(.ref a_SHOPPING)])) (fun _ kk_ => XS.aloadN X65.here hx rfl (hb hby at_60) rfl rfl kk_) ?_
    obtain ⟨cq66, kq66, q66a, q66b, q66c⟩ := isOf hZ e65 (Ea_SHOPPING.ext O51.2)
    obtain ⟨_, _, ⟨T66, L66, k66, n66⟩, -, X66, ⟨Lc66, hQ66, l66, y66, z66⟩, st66⟩ := X65.virtualBack hx (y := (⟨"com/example/tileburgh/tileburgh/model/ConstructionKind", "isPark", "()Z"⟩ : MethodName)) (z := (⟨"com/example/tileburgh/tileburgh/model/ConstructionKind", "isPark", "()Z"⟩ : MethodName)) hown (mvT hZ (w_23 hw)) (mvT hZ (w_24 hw)) (notFace_of_selects (args := #[]) (mvT hZ (w_26 hw))) (mvT hZ (w_26 hw)) (mvT hZ (w_25 hw)) (by decide) (backOf (W := 0) (rmK l Z a0 hw [] a_SHOPPING a_LOW_COST a_CONVENTIONAL a_GREEN a_SHOPPING a_GREENSPACE a_ECO_PARK h51 n0 O51 hS) hZ (w_27 hw) (w_3 hw) (by decide) (by decide)) q66a q66c (g := (mkF m 61 #[.val (.int n1), .val (.ref b33), .val (.int (3 : Int32)), .val (.ref a_SHOPPING), .val (.int (0 : Int32)), .unset, .unset, .unset] [(.ref a_SHOPPING)])) rfl (by rw [hml]; rfl) (Steps.refl _) (argsL := []) (rest := []) (lenOf pd_0 rfl) rfl (by show 2 * 0 + _ ≤ _; exact Nat.le_of_eq rfl) (hb hby at_61) (fun _ _ => ⟨rfl, e65, (by decide : 1 + 0 ≤ _), (by decide : 6 + 0 ≤ _)⟩)
    dsimp only [Pt.U, Pt.locs, Pt.cells, Pt.slots] at X66 l66 y66 z66 st66 hQ66
    subst l66 y66 z66
    obtain ⟨hv66, Nq66, e66⟩ := hQ66
    have N66 := Fr.app N65 Nq66
    rw [if_neg (by simp [(Ne.symm (Fld.ne Fa_GREENSPACE_ordinal Fa_SHOPPING_ordinal (fun q => absurd (Value.int.inj q) (by decide)))), (Ne.symm (Fld.ne Fa_ECO_PARK_ordinal Fa_SHOPPING_ordinal (fun q => absurd (Value.int.inj q) (by decide))))])] at hv66; subst hv66
    refine OW.tr (B := T66.setTop (mkF m 64 #[.val (.int n1), .val (.ref b33), .val (.int (3 : Int32)), .val (.ref a_SHOPPING), .val (.int (0 : Int32)), .unset, .unset, .unset] [(.int (0 : Int32))])) (st66) ?_
    refine OW.st (B := T66.setTop (mkF m 66 #[.val (.int n1), .val (.ref b33), .val (.int (3 : Int32)), .val (.ref a_SHOPPING), .val (.int (0 : Int32)), .val (.int (0 : Int32)), .unset, .unset] [])) (fun _ kk_ => XS.istore X66.here hx rfl (hb hby at_64) rfl (l' := #[.val (.int n1), .val (.ref b33), .val (.int (3 : Int32)), .val (.ref a_SHOPPING), .val (.int (0 : Int32)), .val (.int (0 : Int32)), .unset, .unset]) rfl kk_) ?_
    refine OW.st (B := T66.setTop (mkF m 67 #[.val (.int n1), .val (.ref b33), .val (.int (3 : Int32)), .val (.ref a_SHOPPING), .val (.int (0 : Int32)), .val (.int (0 : Int32)), .unset, .unset] [(.int (3 : Int32))])) (fun _ kk_ => XS.iloadN X66.here hx rfl (hb hby at_66) rfl kk_) ?_
    refine OW.st (B := T66.setTop (mkF m 70 #[.val (.int n1), .val (.ref b33), .val (.int (3 : Int32)), .val (.ref a_SHOPPING), .val (.int (0 : Int32)), .val (.int (0 : Int32)), .unset, .unset] [])) (fun _ kk_ => XS.ifNo X66.here hx rfl (hb hby at_67) rfl ((if0 _ _).trans (feq (by decide)).1) kk_) ?_
    refine OW.st (B := T66.setTop (mkF m 71 #[.val (.int n1), .val (.ref b33), .val (.int (3 : Int32)), .val (.ref a_SHOPPING), .val (.int (0 : Int32)), .val (.int (0 : Int32)), .unset, .unset] [(.int (3 : Int32))])) (fun _ kk_ => XS.iloadN X66.here hx rfl (hb hby at_70) rfl kk_) ?_
    refine OW.st (B := T66.setTop (mkF m 72 #[.val (.int n1), .val (.ref b33), .val (.int (3 : Int32)), .val (.ref a_SHOPPING), .val (.int (0 : Int32)), .val (.int (0 : Int32)), .unset, .unset] [(.int (1 : Int32)), (.int (3 : Int32))])) (fun _ kk_ => XS.iconst X66.here hx rfl (hb hby at_71) kk_) ?_
    refine OW.st (B := T66.setTop (mkF m 75 #[.val (.int n1), .val (.ref b33), .val (.int (3 : Int32)), .val (.ref a_SHOPPING), .val (.int (0 : Int32)), .val (.int (0 : Int32)), .unset, .unset] [])) (fun _ kk_ => XS.icmpNo X66.here hx rfl (hb hby at_72) rfl (feq (by decide)).1 kk_) ?_
    refine OW.st (B := T66.setTop (mkF m 76 #[.val (.int n1), .val (.ref b33), .val (.int (3 : Int32)), .val (.ref a_SHOPPING), .val (.int (0 : Int32)), .val (.int (0 : Int32)), .unset, .unset] [(.int (3 : Int32))])) (fun _ kk_ => XS.iloadN X66.here hx rfl (hb hby at_75) rfl kk_) ?_
    refine OW.st (B := T66.setTop (mkF m 77 #[.val (.int n1), .val (.ref b33), .val (.int (3 : Int32)), .val (.ref a_SHOPPING), .val (.int (0 : Int32)), .val (.int (0 : Int32)), .unset, .unset] [(.int (2 : Int32)), (.int (3 : Int32))])) (fun _ kk_ => XS.iconst X66.here hx rfl (hb hby at_76) kk_) ?_
    refine OW.st (B := T66.setTop (mkF m 84 #[.val (.int n1), .val (.ref b33), .val (.int (3 : Int32)), .val (.ref a_SHOPPING), .val (.int (0 : Int32)), .val (.int (0 : Int32)), .unset, .unset] [])) (fun _ kk_ => XS.icmpYes X66.here hx rfl (pc0 := 77) (pc' := 84) rfl (hb hby at_77) rfl (feq (by decide)).2 (by decide) (by decide) kk_) ?_
    refine OW.st (B := T66.setTop (mkF m 85 #[.val (.int n1), .val (.ref b33), .val (.int (3 : Int32)), .val (.ref a_SHOPPING), .val (.int (0 : Int32)), .val (.int (0 : Int32)), .unset, .unset] [(.int (0 : Int32))])) (fun _ kk_ => XS.iconst X66.here hx rfl (hb hby at_84) kk_) ?_
    refine OW.st (B := T66.setTop (mkF m 87 #[.val (.int n1), .val (.ref b33), .val (.int (3 : Int32)), .val (.ref a_SHOPPING), .val (.int (0 : Int32)), .val (.int (0 : Int32)), .val (.int (0 : Int32)), .unset] [])) (fun _ kk_ => XS.istore X66.here hx rfl (hb hby at_85) rfl (l' := #[.val (.int n1), .val (.ref b33), .val (.int (3 : Int32)), .val (.ref a_SHOPPING), .val (.int (0 : Int32)), .val (.int (0 : Int32)), .val (.int (0 : Int32)), .unset]) rfl kk_) ?_
    refine OW.st (B := T66.setTop (mkF m 88 #[.val (.int n1), .val (.ref b33), .val (.int (3 : Int32)), .val (.ref a_SHOPPING), .val (.int (0 : Int32)), .val (.int (0 : Int32)), .val (.int (0 : Int32)), .unset] [(.int (0 : Int32))])) (fun _ kk_ => XS.iconst X66.here hx rfl (hb hby at_87) kk_) ?_
    refine OW.st (B := T66.setTop (mkF m 90 #[.val (.int n1), .val (.ref b33), .val (.int (3 : Int32)), .val (.ref a_SHOPPING), .val (.int (0 : Int32)), .val (.int (0 : Int32)), .val (.int (0 : Int32)), .val (.int (0 : Int32))] [])) (fun _ kk_ => XS.istore X66.here hx rfl (hb hby at_88) rfl (l' := #[.val (.int n1), .val (.ref b33), .val (.int (3 : Int32)), .val (.ref a_SHOPPING), .val (.int (0 : Int32)), .val (.int (0 : Int32)), .val (.int (0 : Int32)), .val (.int (0 : Int32))]) rfl kk_) ?_
    refine OW.st (B := T66.setTop (mkF m 92 #[.val (.int n1), .val (.ref b33), .val (.int (3 : Int32)), .val (.ref a_SHOPPING), .val (.int (0 : Int32)), .val (.int (0 : Int32)), .val (.int (0 : Int32)), .val (.int (0 : Int32))] [(.int (0 : Int32))])) (fun _ kk_ => XS.iload X66.here hx rfl (hb hby at_90) rfl kk_) ?_
    refine OW.st (B := T66.setTop (mkF m 101 #[.val (.int n1), .val (.ref b33), .val (.int (3 : Int32)), .val (.ref a_SHOPPING), .val (.int (0 : Int32)), .val (.int (0 : Int32)), .val (.int (0 : Int32)), .val (.int (0 : Int32))] [])) (fun _ kk_ => XS.ifYes X66.here hx rfl (pc0 := 92) (pc' := 101) rfl (hb hby at_92) rfl ((if0 _ _).trans (teq (by decide)).1) (by decide) (by decide) kk_) ?_
    refine OW.st (B := T66.setTop (mkF m 103 #[.val (.int n1), .val (.ref b33), .val (.int (3 : Int32)), .val (.ref a_SHOPPING), .val (.int (0 : Int32)), .val (.int (0 : Int32)), .val (.int (0 : Int32)), .val (.int (0 : Int32))] [(.int (0 : Int32))])) (fun _ kk_ => XS.iload X66.here hx rfl (hb hby at_101) rfl kk_) ?_
    refine OW.st (B := T66.setTop (mkF m 112 #[.val (.int n1), .val (.ref b33), .val (.int (3 : Int32)), .val (.ref a_SHOPPING), .val (.int (0 : Int32)), .val (.int (0 : Int32)), .val (.int (0 : Int32)), .val (.int (0 : Int32))] [])) (fun _ kk_ => XS.ifYes X66.here hx rfl (pc0 := 103) (pc' := 112) rfl (hb hby at_103) rfl ((if0 _ _).trans (teq (by decide)).1) (by decide) (by decide) kk_) ?_
    refine OW.st (B := T66.setTop (mkF m 113 #[.val (.int n1), .val (.ref b33), .val (.int (3 : Int32)), .val (.ref a_SHOPPING), .val (.int (0 : Int32)), .val (.int (0 : Int32)), .val (.int (0 : Int32)), .val (.int (0 : Int32))] [(.ref a_SHOPPING)])) (fun _ kk_ => XS.aloadN X66.here hx rfl (hb hby at_112) rfl rfl kk_) ?_
    obtain ⟨T67, X67, e67, st67⟩ := getS2 X66 hx hZ hown (host := "") (Or.inl (w_10 hw)) Via.refl e66 (Sa_SHOPPING.ext O51.2) (g := (mkF m 113 #[.val (.int n1), .val (.ref b33), .val (.int (3 : Int32)), .val (.ref a_SHOPPING), .val (.int (0 : Int32)), .val (.int (0 : Int32)), .val (.int (0 : Int32)), .val (.int (0 : Int32))] [(.ref a_SHOPPING)])) rfl (hb hby at_113)
    refine OW.st (B := T67.setTop (mkF m 116 #[.val (.int n1), .val (.ref b33), .val (.int (3 : Int32)), .val (.ref a_SHOPPING), .val (.int (0 : Int32)), .val (.int (0 : Int32)), .val (.int (0 : Int32)), .val (.int (0 : Int32))] [(.ref a_SHOPPING), (.ref a_SHOPPING)])) (st67) ?_
    refine OW.st (B := T67.setTop (mkF m 119 #[.val (.int n1), .val (.ref b33), .val (.int (3 : Int32)), .val (.ref a_SHOPPING), .val (.int (0 : Int32)), .val (.int (0 : Int32)), .val (.int (0 : Int32)), .val (.int (0 : Int32))] [])) (fun _ kk_ => Jvm.RoadKit.acmp (g := (mkF m 116 #[.val (.int n1), .val (.ref b33), .val (.int (3 : Int32)), .val (.ref a_SHOPPING), .val (.int (0 : Int32)), .val (.int (0 : Int32)), .val (.int (0 : Int32)), .val (.int (0 : Int32))] [(.ref a_SHOPPING), (.ref a_SHOPPING)])) X67 hx rfl rfl rfl (pc0 := 116) (pc' := 119) (same := true) rfl (hb hby at_116) rfl (decide_eq_true rfl) (by decide) (by decide) kk_) ?_
    refine OW.st (B := T67.setTop (mkF m 121 #[.val (.int n1), .val (.ref b33), .val (.int (3 : Int32)), .val (.ref a_SHOPPING), .val (.int (0 : Int32)), .val (.int (0 : Int32)), .val (.int (0 : Int32)), .val (.int (0 : Int32))] [(.int (0 : Int32))])) (fun _ kk_ => XS.iload X67.here hx rfl (hb hby at_119) rfl kk_) ?_
    refine OW.st (B := T67.setTop (mkF m 122 #[.val (.int n1), .val (.ref b33), .val (.int (3 : Int32)), .val (.ref a_SHOPPING), .val (.int (0 : Int32)), .val (.int (0 : Int32)), .val (.int (0 : Int32)), .val (.int (0 : Int32))] [(.int (1 : Int32)), (.int (0 : Int32))])) (fun _ kk_ => XS.iconst X67.here hx rfl (hb hby at_121) kk_) ?_
    refine OW.st (B := T67.setTop (mkF m 123 #[.val (.int n1), .val (.ref b33), .val (.int (3 : Int32)), .val (.ref a_SHOPPING), .val (.int (0 : Int32)), .val (.int (0 : Int32)), .val (.int (0 : Int32)), .val (.int (0 : Int32))] [(.int ((0 : Int32) + (1 : Int32)))])) (fun _ kk_ => XS.iadd X67.here hx rfl (hb hby at_122) rfl kk_) ?_
    refine OW.st (B := T67.setTop (mkF m 125 #[.val (.int n1), .val (.ref b33), .val (.int (3 : Int32)), .val (.ref a_SHOPPING), .val (.int (0 : Int32)), .val (.int (0 : Int32)), .val (.int (0 : Int32)), .val (.int ((0 : Int32) + (1 : Int32)))] [])) (fun _ kk_ => XS.istore X67.here hx rfl (hb hby at_123) rfl (l' := #[.val (.int n1), .val (.ref b33), .val (.int (3 : Int32)), .val (.ref a_SHOPPING), .val (.int (0 : Int32)), .val (.int (0 : Int32)), .val (.int (0 : Int32)), .val (.int ((0 : Int32) + (1 : Int32)))]) rfl kk_) ?_
    refine OW.st (B := T67.setTop (mkF m 127 #[.val (.int n1), .val (.ref b33), .val (.int (3 : Int32)), .val (.ref a_SHOPPING), .val (.int (0 : Int32)), .val (.int (0 : Int32)), .val (.int (0 : Int32)), .val (.int ((0 : Int32) + (1 : Int32)))] [(.int (0 : Int32))])) (fun _ kk_ => XS.iload X67.here hx rfl (hb hby at_125) rfl kk_) ?_
    refine OW.st (B := T67.setTop (mkF m 129 #[.val (.int n1), .val (.ref b33), .val (.int (3 : Int32)), .val (.ref a_SHOPPING), .val (.int (0 : Int32)), .val (.int (0 : Int32)), .val (.int (0 : Int32)), .val (.int ((0 : Int32) + (1 : Int32)))] [(.int (0 : Int32)), (.int (0 : Int32))])) (fun _ kk_ => XS.iload X67.here hx rfl (hb hby at_127) rfl kk_) ?_
    refine OW.st (B := T67.setTop (mkF m 132 #[.val (.int n1), .val (.ref b33), .val (.int (3 : Int32)), .val (.ref a_SHOPPING), .val (.int (0 : Int32)), .val (.int (0 : Int32)), .val (.int (0 : Int32)), .val (.int ((0 : Int32) + (1 : Int32)))] [])) (fun _ kk_ => XS.icmpNo X67.here hx rfl (hb hby at_129) rfl (teq (by decide)).2 kk_) ?_
    refine OW.st (B := T67.setTop (mkF m 134 #[.val (.int n1), .val (.ref b33), .val (.int (3 : Int32)), .val (.ref a_SHOPPING), .val (.int (0 : Int32)), .val (.int (0 : Int32)), .val (.int (0 : Int32)), .val (.int ((0 : Int32) + (1 : Int32)))] [(.int ((0 : Int32) + (1 : Int32)))])) (fun _ kk_ => XS.iload X67.here hx rfl (hb hby at_132) rfl kk_) ?_
    refine OW.st (B := T67.setTop (mkF m 135 #[.val (.int n1), .val (.ref b33), .val (.int (3 : Int32)), .val (.ref a_SHOPPING), .val (.int (0 : Int32)), .val (.int (0 : Int32)), .val (.int (0 : Int32)), .val (.int ((0 : Int32) + (1 : Int32)))] [(.int (1 : Int32)), (.int ((0 : Int32) + (1 : Int32)))])) (fun _ kk_ => XS.iconst X67.here hx rfl (hb hby at_134) kk_) ?_
    refine OW.st (B := T67.setTop (mkF m 138 #[.val (.int n1), .val (.ref b33), .val (.int (3 : Int32)), .val (.ref a_SHOPPING), .val (.int (0 : Int32)), .val (.int (0 : Int32)), .val (.int (0 : Int32)), .val (.int ((0 : Int32) + (1 : Int32)))] [])) (fun _ kk_ => XS.icmpNo X67.here hx rfl (hb hby at_135) rfl (teq (by decide)).2 kk_) ?_
    refine OW.st (B := T67.setTop (mkF m 139 #[.val (.int n1), .val (.ref b33), .val (.int (3 : Int32)), .val (.ref a_SHOPPING), .val (.int (0 : Int32)), .val (.int (0 : Int32)), .val (.int (0 : Int32)), .val (.int ((0 : Int32) + (1 : Int32)))] [(.int (1 : Int32))])) (fun _ kk_ => XS.iconst X67.here hx rfl (hb hby at_138) kk_) ?_
    refine OW.st (B := T67.setTop (mkF m 143 #[.val (.int n1), .val (.ref b33), .val (.int (3 : Int32)), .val (.ref a_SHOPPING), .val (.int (0 : Int32)), .val (.int (0 : Int32)), .val (.int (0 : Int32)), .val (.int ((0 : Int32) + (1 : Int32)))] [(.int (1 : Int32))])) (fun _ kk_ => XS.goto X67.here hx rfl (pc0 := 139) (pc' := 143) rfl (hb hby at_139) (by decide) (by decide) kk_) ?_
    exact OW.ret X67 hx hlk (i := .ireturn) Bd.returns rfl (Or.inl ⟨rfl, Or.inr (Or.inl rfl), _, rfl⟩) (hb hby at_143) e67 (by decide) (by decide) ⟨rfl, N66⟩
  · refine OW.st (B := T51.setTop (mkF m 50 #[.val (.int n1), .val (.ref b33), .val (.int (4 : Int32)), .unset, .unset, .unset, .unset, .unset] [])) (fun _ kk_ => XS.istoreN X51.here hx rfl (hb hby at_49) rfl (l' := #[.val (.int n1), .val (.ref b33), .val (.int (4 : Int32)), .unset, .unset, .unset, .unset, .unset]) rfl kk_) ?_
    refine OW.st (B := T51.setTop (mkF m 51 #[.val (.int n1), .val (.ref b33), .val (.int (4 : Int32)), .unset, .unset, .unset, .unset, .unset] [(.ref b33)])) (fun _ kk_ => XS.aloadN X51.here hx rfl (hb hby at_50) rfl rfl kk_) ?_
    refine OW.st (B := T51.setTop (mkF m 52 #[.val (.int n1), .val (.ref b33), .val (.int (4 : Int32)), .unset, .unset, .unset, .unset, .unset] [(.int (4 : Int32)), (.ref b33)])) (fun _ kk_ => XS.iloadN X51.here hx rfl (hb hby at_51) rfl kk_) ?_
    obtain ⟨cl68, Ar68, q68, S68, Ng68, Hs68, G68⟩ := V51
    have hin68 : ¬ ((4 : Int32) < 0 ∨ cl68.slots.size ≤ ((4 : Int32)).toNatClampNeg) := inb_of S68 ⟨by decide, by decide⟩
    refine OW.st (B := T51.setTop (mkF m 53 #[.val (.int n1), .val (.ref b33), .val (.int (4 : Int32)), .unset, .unset, .unset, .unset, .unset] [(.ref a_GREENSPACE)])) (X51.aaload hx (j := (4 : Int32)) (v := (.ref a_GREENSPACE)) (by rw [e51]; exact Ar68.1) (State.isArrayOf_alike hZ.alike Ar68.2.1) rfl Ar68.2.2 hin68 (Has.at Hs68 hin68 rfl) (g := (mkF m 52 #[.val (.int n1), .val (.ref b33), .val (.int (4 : Int32)), .unset, .unset, .unset, .unset, .unset] [(.int (4 : Int32)), (.ref b33)])) rfl rfl (hb hby at_52)) ?_
    refine OW.st (B := T51.setTop (mkF m 54 #[.val (.int n1), .val (.ref b33), .val (.int (4 : Int32)), .val (.ref a_GREENSPACE), .unset, .unset, .unset, .unset] [])) (fun _ kk_ => XS.astoreN X51.here hx rfl (hb hby at_53) rfl rfl (l' := #[.val (.int n1), .val (.ref b33), .val (.int (4 : Int32)), .val (.ref a_GREENSPACE), .unset, .unset, .unset, .unset]) rfl kk_) ?_
    refine OW.st (B := T51.setTop (mkF m 55 #[.val (.int n1), .val (.ref b33), .val (.int (4 : Int32)), .val (.ref a_GREENSPACE), .unset, .unset, .unset, .unset] [(.ref a_GREENSPACE)])) (fun _ kk_ => XS.aloadN X51.here hx rfl (hb hby at_54) rfl rfl kk_) ?_
    obtain ⟨cq69, kq69, q69a, q69b, q69c⟩ := isOf hZ e51 (Ea_GREENSPACE.ext O51.2)
    obtain ⟨_, _, ⟨T69, L69, k69, n69⟩, -, X69, ⟨Lc69, hQ69, l69, y69, z69⟩, st69⟩ := X51.virtualBack hx (y := (⟨"com/example/tileburgh/tileburgh/model/ConstructionKind", "takesRenter", "()Z"⟩ : MethodName)) (z := (⟨"com/example/tileburgh/tileburgh/model/ConstructionKind", "takesRenter", "()Z"⟩ : MethodName)) hown (mvT hZ (w_17 hw)) (mvT hZ (w_18 hw)) (notFace_of_selects (args := #[]) (mvT hZ (w_20 hw))) (mvT hZ (w_20 hw)) (mvT hZ (w_19 hw)) (by decide) (backOf (W := 0) (rmR l Z a0 hw [] a_GREENSPACE a_LOW_COST a_CONVENTIONAL a_GREEN a_SHOPPING a_GREENSPACE a_ECO_PARK h51 n0 O51 hS) hZ (w_21 hw) (w_3 hw) (by decide) (by decide)) q69a q69c (g := (mkF m 55 #[.val (.int n1), .val (.ref b33), .val (.int (4 : Int32)), .val (.ref a_GREENSPACE), .unset, .unset, .unset, .unset] [(.ref a_GREENSPACE)])) rfl (by rw [hml]; rfl) (Steps.refl _) (argsL := []) (rest := []) (lenOf pd_0 rfl) rfl (by show 2 * 0 + _ ≤ _; exact Nat.le_of_eq rfl) (hb hby at_55) (fun _ _ => ⟨rfl, e51, (by decide : 1 + 0 ≤ _), (by decide : 6 + 0 ≤ _)⟩)
    dsimp only [Pt.U, Pt.locs, Pt.cells, Pt.slots] at X69 l69 y69 z69 st69 hQ69
    subst l69 y69 z69
    obtain ⟨hv69, Nq69, e69⟩ := hQ69
    have N69 := Fr.app N51 Nq69
    rw [if_neg (by simp [(Ne.symm (Fld.ne Fa_LOW_COST_ordinal Fa_GREENSPACE_ordinal (fun q => absurd (Value.int.inj q) (by decide)))), (Fld.ne Fa_GREENSPACE_ordinal Fa_CONVENTIONAL_ordinal (fun q => absurd (Value.int.inj q) (by decide))), (Fld.ne Fa_GREENSPACE_ordinal Fa_GREEN_ordinal (fun q => absurd (Value.int.inj q) (by decide)))])] at hv69; subst hv69
    refine OW.tr (B := T69.setTop (mkF m 58 #[.val (.int n1), .val (.ref b33), .val (.int (4 : Int32)), .val (.ref a_GREENSPACE), .unset, .unset, .unset, .unset] [(.int (0 : Int32))])) (st69) ?_
    refine OW.st (B := T69.setTop (mkF m 60 #[.val (.int n1), .val (.ref b33), .val (.int (4 : Int32)), .val (.ref a_GREENSPACE), .val (.int (0 : Int32)), .unset, .unset, .unset] [])) (fun _ kk_ => XS.istore X69.here hx rfl (hb hby at_58) rfl (l' := #[.val (.int n1), .val (.ref b33), .val (.int (4 : Int32)), .val (.ref a_GREENSPACE), .val (.int (0 : Int32)), .unset, .unset, .unset]) rfl kk_) ?_
    refine OW.st (B := T69.setTop (mkF m 61 #[.val (.int n1), .val (.ref b33), .val (.int (4 : Int32)), .val (.ref a_GREENSPACE), .val (.int (0 : Int32)), .unset, .unset, .unset] [(.ref a_GREENSPACE)])) (fun _ kk_ => XS.aloadN X69.here hx rfl (hb hby at_60) rfl rfl kk_) ?_
    obtain ⟨cq70, kq70, q70a, q70b, q70c⟩ := isOf hZ e69 (Ea_GREENSPACE.ext O51.2)
    obtain ⟨_, _, ⟨T70, L70, k70, n70⟩, -, X70, ⟨Lc70, hQ70, l70, y70, z70⟩, st70⟩ := X69.virtualBack hx (y := (⟨"com/example/tileburgh/tileburgh/model/ConstructionKind", "isPark", "()Z"⟩ : MethodName)) (z := (⟨"com/example/tileburgh/tileburgh/model/ConstructionKind", "isPark", "()Z"⟩ : MethodName)) hown (mvT hZ (w_23 hw)) (mvT hZ (w_24 hw)) (notFace_of_selects (args := #[]) (mvT hZ (w_26 hw))) (mvT hZ (w_26 hw)) (mvT hZ (w_25 hw)) (by decide) (backOf (W := 0) (rmK l Z a0 hw [] a_GREENSPACE a_LOW_COST a_CONVENTIONAL a_GREEN a_SHOPPING a_GREENSPACE a_ECO_PARK h51 n0 O51 hS) hZ (w_27 hw) (w_3 hw) (by decide) (by decide)) q70a q70c (g := (mkF m 61 #[.val (.int n1), .val (.ref b33), .val (.int (4 : Int32)), .val (.ref a_GREENSPACE), .val (.int (0 : Int32)), .unset, .unset, .unset] [(.ref a_GREENSPACE)])) rfl (by rw [hml]; rfl) (Steps.refl _) (argsL := []) (rest := []) (lenOf pd_0 rfl) rfl (by show 2 * 0 + _ ≤ _; exact Nat.le_of_eq rfl) (hb hby at_61) (fun _ _ => ⟨rfl, e69, (by decide : 1 + 0 ≤ _), (by decide : 6 + 0 ≤ _)⟩)
    dsimp only [Pt.U, Pt.locs, Pt.cells, Pt.slots] at X70 l70 y70 z70 st70 hQ70
    subst l70 y70 z70
    obtain ⟨hv70, Nq70, e70⟩ := hQ70
    have N70 := Fr.app N69 Nq70
    rw [if_pos (by simp)] at hv70; subst hv70
    refine OW.tr (B := T70.setTop (mkF m 64 #[.val (.int n1), .val (.ref b33), .val (.int (4 : Int32)), .val (.ref a_GREENSPACE), .val (.int (0 : Int32)), .unset, .unset, .unset] [(.int (1 : Int32))])) (st70) ?_
    refine OW.st (B := T70.setTop (mkF m 66 #[.val (.int n1), .val (.ref b33), .val (.int (4 : Int32)), .val (.ref a_GREENSPACE), .val (.int (0 : Int32)), .val (.int (1 : Int32)), .unset, .unset] [])) (fun _ kk_ => XS.istore X70.here hx rfl (hb hby at_64) rfl (l' := #[.val (.int n1), .val (.ref b33), .val (.int (4 : Int32)), .val (.ref a_GREENSPACE), .val (.int (0 : Int32)), .val (.int (1 : Int32)), .unset, .unset]) rfl kk_) ?_
    refine OW.st (B := T70.setTop (mkF m 67 #[.val (.int n1), .val (.ref b33), .val (.int (4 : Int32)), .val (.ref a_GREENSPACE), .val (.int (0 : Int32)), .val (.int (1 : Int32)), .unset, .unset] [(.int (4 : Int32))])) (fun _ kk_ => XS.iloadN X70.here hx rfl (hb hby at_66) rfl kk_) ?_
    refine OW.st (B := T70.setTop (mkF m 70 #[.val (.int n1), .val (.ref b33), .val (.int (4 : Int32)), .val (.ref a_GREENSPACE), .val (.int (0 : Int32)), .val (.int (1 : Int32)), .unset, .unset] [])) (fun _ kk_ => XS.ifNo X70.here hx rfl (hb hby at_67) rfl ((if0 _ _).trans (feq (by decide)).1) kk_) ?_
    refine OW.st (B := T70.setTop (mkF m 71 #[.val (.int n1), .val (.ref b33), .val (.int (4 : Int32)), .val (.ref a_GREENSPACE), .val (.int (0 : Int32)), .val (.int (1 : Int32)), .unset, .unset] [(.int (4 : Int32))])) (fun _ kk_ => XS.iloadN X70.here hx rfl (hb hby at_70) rfl kk_) ?_
    refine OW.st (B := T70.setTop (mkF m 72 #[.val (.int n1), .val (.ref b33), .val (.int (4 : Int32)), .val (.ref a_GREENSPACE), .val (.int (0 : Int32)), .val (.int (1 : Int32)), .unset, .unset] [(.int (1 : Int32)), (.int (4 : Int32))])) (fun _ kk_ => XS.iconst X70.here hx rfl (hb hby at_71) kk_) ?_
    refine OW.st (B := T70.setTop (mkF m 75 #[.val (.int n1), .val (.ref b33), .val (.int (4 : Int32)), .val (.ref a_GREENSPACE), .val (.int (0 : Int32)), .val (.int (1 : Int32)), .unset, .unset] [])) (fun _ kk_ => XS.icmpNo X70.here hx rfl (hb hby at_72) rfl (feq (by decide)).1 kk_) ?_
    refine OW.st (B := T70.setTop (mkF m 76 #[.val (.int n1), .val (.ref b33), .val (.int (4 : Int32)), .val (.ref a_GREENSPACE), .val (.int (0 : Int32)), .val (.int (1 : Int32)), .unset, .unset] [(.int (4 : Int32))])) (fun _ kk_ => XS.iloadN X70.here hx rfl (hb hby at_75) rfl kk_) ?_
    refine OW.st (B := T70.setTop (mkF m 77 #[.val (.int n1), .val (.ref b33), .val (.int (4 : Int32)), .val (.ref a_GREENSPACE), .val (.int (0 : Int32)), .val (.int (1 : Int32)), .unset, .unset] [(.int (2 : Int32)), (.int (4 : Int32))])) (fun _ kk_ => XS.iconst X70.here hx rfl (hb hby at_76) kk_) ?_
    refine OW.st (B := T70.setTop (mkF m 84 #[.val (.int n1), .val (.ref b33), .val (.int (4 : Int32)), .val (.ref a_GREENSPACE), .val (.int (0 : Int32)), .val (.int (1 : Int32)), .unset, .unset] [])) (fun _ kk_ => XS.icmpYes X70.here hx rfl (pc0 := 77) (pc' := 84) rfl (hb hby at_77) rfl (feq (by decide)).2 (by decide) (by decide) kk_) ?_
    refine OW.st (B := T70.setTop (mkF m 85 #[.val (.int n1), .val (.ref b33), .val (.int (4 : Int32)), .val (.ref a_GREENSPACE), .val (.int (0 : Int32)), .val (.int (1 : Int32)), .unset, .unset] [(.int (0 : Int32))])) (fun _ kk_ => XS.iconst X70.here hx rfl (hb hby at_84) kk_) ?_
    refine OW.st (B := T70.setTop (mkF m 87 #[.val (.int n1), .val (.ref b33), .val (.int (4 : Int32)), .val (.ref a_GREENSPACE), .val (.int (0 : Int32)), .val (.int (1 : Int32)), .val (.int (0 : Int32)), .unset] [])) (fun _ kk_ => XS.istore X70.here hx rfl (hb hby at_85) rfl (l' := #[.val (.int n1), .val (.ref b33), .val (.int (4 : Int32)), .val (.ref a_GREENSPACE), .val (.int (0 : Int32)), .val (.int (1 : Int32)), .val (.int (0 : Int32)), .unset]) rfl kk_) ?_
    refine OW.st (B := T70.setTop (mkF m 88 #[.val (.int n1), .val (.ref b33), .val (.int (4 : Int32)), .val (.ref a_GREENSPACE), .val (.int (0 : Int32)), .val (.int (1 : Int32)), .val (.int (0 : Int32)), .unset] [(.int (0 : Int32))])) (fun _ kk_ => XS.iconst X70.here hx rfl (hb hby at_87) kk_) ?_
    refine OW.st (B := T70.setTop (mkF m 90 #[.val (.int n1), .val (.ref b33), .val (.int (4 : Int32)), .val (.ref a_GREENSPACE), .val (.int (0 : Int32)), .val (.int (1 : Int32)), .val (.int (0 : Int32)), .val (.int (0 : Int32))] [])) (fun _ kk_ => XS.istore X70.here hx rfl (hb hby at_88) rfl (l' := #[.val (.int n1), .val (.ref b33), .val (.int (4 : Int32)), .val (.ref a_GREENSPACE), .val (.int (0 : Int32)), .val (.int (1 : Int32)), .val (.int (0 : Int32)), .val (.int (0 : Int32))]) rfl kk_) ?_
    refine OW.st (B := T70.setTop (mkF m 92 #[.val (.int n1), .val (.ref b33), .val (.int (4 : Int32)), .val (.ref a_GREENSPACE), .val (.int (0 : Int32)), .val (.int (1 : Int32)), .val (.int (0 : Int32)), .val (.int (0 : Int32))] [(.int (0 : Int32))])) (fun _ kk_ => XS.iload X70.here hx rfl (hb hby at_90) rfl kk_) ?_
    refine OW.st (B := T70.setTop (mkF m 101 #[.val (.int n1), .val (.ref b33), .val (.int (4 : Int32)), .val (.ref a_GREENSPACE), .val (.int (0 : Int32)), .val (.int (1 : Int32)), .val (.int (0 : Int32)), .val (.int (0 : Int32))] [])) (fun _ kk_ => XS.ifYes X70.here hx rfl (pc0 := 92) (pc' := 101) rfl (hb hby at_92) rfl ((if0 _ _).trans (teq (by decide)).1) (by decide) (by decide) kk_) ?_
    refine OW.st (B := T70.setTop (mkF m 103 #[.val (.int n1), .val (.ref b33), .val (.int (4 : Int32)), .val (.ref a_GREENSPACE), .val (.int (0 : Int32)), .val (.int (1 : Int32)), .val (.int (0 : Int32)), .val (.int (0 : Int32))] [(.int (1 : Int32))])) (fun _ kk_ => XS.iload X70.here hx rfl (hb hby at_101) rfl kk_) ?_
    refine OW.st (B := T70.setTop (mkF m 106 #[.val (.int n1), .val (.ref b33), .val (.int (4 : Int32)), .val (.ref a_GREENSPACE), .val (.int (0 : Int32)), .val (.int (1 : Int32)), .val (.int (0 : Int32)), .val (.int (0 : Int32))] [])) (fun _ kk_ => XS.ifNo X70.here hx rfl (hb hby at_103) rfl ((if0 _ _).trans (feq (by decide)).1) kk_) ?_
    refine OW.st (B := T70.setTop (mkF m 108 #[.val (.int n1), .val (.ref b33), .val (.int (4 : Int32)), .val (.ref a_GREENSPACE), .val (.int (0 : Int32)), .val (.int (1 : Int32)), .val (.int (0 : Int32)), .val (.int (0 : Int32))] [(.int (0 : Int32))])) (fun _ kk_ => XS.iload X70.here hx rfl (hb hby at_106) rfl kk_) ?_
    refine OW.st (B := T70.setTop (mkF m 109 #[.val (.int n1), .val (.ref b33), .val (.int (4 : Int32)), .val (.ref a_GREENSPACE), .val (.int (0 : Int32)), .val (.int (1 : Int32)), .val (.int (0 : Int32)), .val (.int (0 : Int32))] [(.int (1 : Int32)), (.int (0 : Int32))])) (fun _ kk_ => XS.iconst X70.here hx rfl (hb hby at_108) kk_) ?_
    refine OW.st (B := T70.setTop (mkF m 110 #[.val (.int n1), .val (.ref b33), .val (.int (4 : Int32)), .val (.ref a_GREENSPACE), .val (.int (0 : Int32)), .val (.int (1 : Int32)), .val (.int (0 : Int32)), .val (.int (0 : Int32))] [(.int ((0 : Int32) + (1 : Int32)))])) (fun _ kk_ => XS.iadd X70.here hx rfl (hb hby at_109) rfl kk_) ?_
    refine OW.st (B := T70.setTop (mkF m 112 #[.val (.int n1), .val (.ref b33), .val (.int (4 : Int32)), .val (.ref a_GREENSPACE), .val (.int (0 : Int32)), .val (.int (1 : Int32)), .val (.int (0 : Int32)), .val (.int ((0 : Int32) + (1 : Int32)))] [])) (fun _ kk_ => XS.istore X70.here hx rfl (hb hby at_110) rfl (l' := #[.val (.int n1), .val (.ref b33), .val (.int (4 : Int32)), .val (.ref a_GREENSPACE), .val (.int (0 : Int32)), .val (.int (1 : Int32)), .val (.int (0 : Int32)), .val (.int ((0 : Int32) + (1 : Int32)))]) rfl kk_) ?_
    refine OW.st (B := T70.setTop (mkF m 113 #[.val (.int n1), .val (.ref b33), .val (.int (4 : Int32)), .val (.ref a_GREENSPACE), .val (.int (0 : Int32)), .val (.int (1 : Int32)), .val (.int (0 : Int32)), .val (.int ((0 : Int32) + (1 : Int32)))] [(.ref a_GREENSPACE)])) (fun _ kk_ => XS.aloadN X70.here hx rfl (hb hby at_112) rfl rfl kk_) ?_
    obtain ⟨T71, X71, e71, st71⟩ := getS2 X70 hx hZ hown (host := "") (Or.inl (w_10 hw)) Via.refl e70 (Sa_SHOPPING.ext O51.2) (g := (mkF m 113 #[.val (.int n1), .val (.ref b33), .val (.int (4 : Int32)), .val (.ref a_GREENSPACE), .val (.int (0 : Int32)), .val (.int (1 : Int32)), .val (.int (0 : Int32)), .val (.int ((0 : Int32) + (1 : Int32)))] [(.ref a_GREENSPACE)])) rfl (hb hby at_113)
    refine OW.st (B := T71.setTop (mkF m 116 #[.val (.int n1), .val (.ref b33), .val (.int (4 : Int32)), .val (.ref a_GREENSPACE), .val (.int (0 : Int32)), .val (.int (1 : Int32)), .val (.int (0 : Int32)), .val (.int ((0 : Int32) + (1 : Int32)))] [(.ref a_SHOPPING), (.ref a_GREENSPACE)])) (st71) ?_
    refine OW.st (B := T71.setTop (mkF m 125 #[.val (.int n1), .val (.ref b33), .val (.int (4 : Int32)), .val (.ref a_GREENSPACE), .val (.int (0 : Int32)), .val (.int (1 : Int32)), .val (.int (0 : Int32)), .val (.int ((0 : Int32) + (1 : Int32)))] [])) (fun _ kk_ => Jvm.RoadKit.acmp (g := (mkF m 116 #[.val (.int n1), .val (.ref b33), .val (.int (4 : Int32)), .val (.ref a_GREENSPACE), .val (.int (0 : Int32)), .val (.int (1 : Int32)), .val (.int (0 : Int32)), .val (.int ((0 : Int32) + (1 : Int32)))] [(.ref a_SHOPPING), (.ref a_GREENSPACE)])) X71 hx rfl rfl rfl (pc0 := 116) (pc' := 125) (same := false) rfl (hb hby at_116) rfl (decide_eq_false fun q => (Fld.ne Fa_GREENSPACE_ordinal Fa_SHOPPING_ordinal (fun q => absurd (Value.int.inj q) (by decide))) (Value.ref.inj q)) (by decide) (by decide) kk_) ?_
    refine OW.st (B := T71.setTop (mkF m 127 #[.val (.int n1), .val (.ref b33), .val (.int (4 : Int32)), .val (.ref a_GREENSPACE), .val (.int (0 : Int32)), .val (.int (1 : Int32)), .val (.int (0 : Int32)), .val (.int ((0 : Int32) + (1 : Int32)))] [(.int (0 : Int32))])) (fun _ kk_ => XS.iload X71.here hx rfl (hb hby at_125) rfl kk_) ?_
    refine OW.st (B := T71.setTop (mkF m 129 #[.val (.int n1), .val (.ref b33), .val (.int (4 : Int32)), .val (.ref a_GREENSPACE), .val (.int (0 : Int32)), .val (.int (1 : Int32)), .val (.int (0 : Int32)), .val (.int ((0 : Int32) + (1 : Int32)))] [(.int (0 : Int32)), (.int (0 : Int32))])) (fun _ kk_ => XS.iload X71.here hx rfl (hb hby at_127) rfl kk_) ?_
    refine OW.st (B := T71.setTop (mkF m 132 #[.val (.int n1), .val (.ref b33), .val (.int (4 : Int32)), .val (.ref a_GREENSPACE), .val (.int (0 : Int32)), .val (.int (1 : Int32)), .val (.int (0 : Int32)), .val (.int ((0 : Int32) + (1 : Int32)))] [])) (fun _ kk_ => XS.icmpNo X71.here hx rfl (hb hby at_129) rfl (teq (by decide)).2 kk_) ?_
    refine OW.st (B := T71.setTop (mkF m 134 #[.val (.int n1), .val (.ref b33), .val (.int (4 : Int32)), .val (.ref a_GREENSPACE), .val (.int (0 : Int32)), .val (.int (1 : Int32)), .val (.int (0 : Int32)), .val (.int ((0 : Int32) + (1 : Int32)))] [(.int ((0 : Int32) + (1 : Int32)))])) (fun _ kk_ => XS.iload X71.here hx rfl (hb hby at_132) rfl kk_) ?_
    refine OW.st (B := T71.setTop (mkF m 135 #[.val (.int n1), .val (.ref b33), .val (.int (4 : Int32)), .val (.ref a_GREENSPACE), .val (.int (0 : Int32)), .val (.int (1 : Int32)), .val (.int (0 : Int32)), .val (.int ((0 : Int32) + (1 : Int32)))] [(.int (1 : Int32)), (.int ((0 : Int32) + (1 : Int32)))])) (fun _ kk_ => XS.iconst X71.here hx rfl (hb hby at_134) kk_) ?_
    refine OW.st (B := T71.setTop (mkF m 138 #[.val (.int n1), .val (.ref b33), .val (.int (4 : Int32)), .val (.ref a_GREENSPACE), .val (.int (0 : Int32)), .val (.int (1 : Int32)), .val (.int (0 : Int32)), .val (.int ((0 : Int32) + (1 : Int32)))] [])) (fun _ kk_ => XS.icmpNo X71.here hx rfl (hb hby at_135) rfl (teq (by decide)).2 kk_) ?_
    refine OW.st (B := T71.setTop (mkF m 139 #[.val (.int n1), .val (.ref b33), .val (.int (4 : Int32)), .val (.ref a_GREENSPACE), .val (.int (0 : Int32)), .val (.int (1 : Int32)), .val (.int (0 : Int32)), .val (.int ((0 : Int32) + (1 : Int32)))] [(.int (1 : Int32))])) (fun _ kk_ => XS.iconst X71.here hx rfl (hb hby at_138) kk_) ?_
    refine OW.st (B := T71.setTop (mkF m 143 #[.val (.int n1), .val (.ref b33), .val (.int (4 : Int32)), .val (.ref a_GREENSPACE), .val (.int (0 : Int32)), .val (.int (1 : Int32)), .val (.int (0 : Int32)), .val (.int ((0 : Int32) + (1 : Int32)))] [(.int (1 : Int32))])) (fun _ kk_ => XS.goto X71.here hx rfl (pc0 := 139) (pc' := 143) rfl (hb hby at_139) (by decide) (by decide) kk_) ?_
    exact OW.ret X71 hx hlk (i := .ireturn) Bd.returns rfl (Or.inl ⟨rfl, Or.inr (Or.inl rfl), _, rfl⟩) (hb hby at_143) e71 (by decide) (by decide) ⟨rfl, N70⟩
  · refine OW.st (B := T51.setTop (mkF m 50 #[.val (.int n1), .val (.ref b33), .val (.int (5 : Int32)), .unset, .unset, .unset, .unset, .unset] [])) (fun _ kk_ => XS.istoreN X51.here hx rfl (hb hby at_49) rfl (l' := #[.val (.int n1), .val (.ref b33), .val (.int (5 : Int32)), .unset, .unset, .unset, .unset, .unset]) rfl kk_) ?_
    refine OW.st (B := T51.setTop (mkF m 51 #[.val (.int n1), .val (.ref b33), .val (.int (5 : Int32)), .unset, .unset, .unset, .unset, .unset] [(.ref b33)])) (fun _ kk_ => XS.aloadN X51.here hx rfl (hb hby at_50) rfl rfl kk_) ?_
    refine OW.st (B := T51.setTop (mkF m 52 #[.val (.int n1), .val (.ref b33), .val (.int (5 : Int32)), .unset, .unset, .unset, .unset, .unset] [(.int (5 : Int32)), (.ref b33)])) (fun _ kk_ => XS.iloadN X51.here hx rfl (hb hby at_51) rfl kk_) ?_
    obtain ⟨cl72, Ar72, q72, S72, Ng72, Hs72, G72⟩ := V51
    have hin72 : ¬ ((5 : Int32) < 0 ∨ cl72.slots.size ≤ ((5 : Int32)).toNatClampNeg) := inb_of S72 ⟨by decide, by decide⟩
    refine OW.st (B := T51.setTop (mkF m 53 #[.val (.int n1), .val (.ref b33), .val (.int (5 : Int32)), .unset, .unset, .unset, .unset, .unset] [(.ref a_ECO_PARK)])) (X51.aaload hx (j := (5 : Int32)) (v := (.ref a_ECO_PARK)) (by rw [e51]; exact Ar72.1) (State.isArrayOf_alike hZ.alike Ar72.2.1) rfl Ar72.2.2 hin72 (Has.at Hs72 hin72 rfl) (g := (mkF m 52 #[.val (.int n1), .val (.ref b33), .val (.int (5 : Int32)), .unset, .unset, .unset, .unset, .unset] [(.int (5 : Int32)), (.ref b33)])) rfl rfl (hb hby at_52)) ?_
    refine OW.st (B := T51.setTop (mkF m 54 #[.val (.int n1), .val (.ref b33), .val (.int (5 : Int32)), .val (.ref a_ECO_PARK), .unset, .unset, .unset, .unset] [])) (fun _ kk_ => XS.astoreN X51.here hx rfl (hb hby at_53) rfl rfl (l' := #[.val (.int n1), .val (.ref b33), .val (.int (5 : Int32)), .val (.ref a_ECO_PARK), .unset, .unset, .unset, .unset]) rfl kk_) ?_
    refine OW.st (B := T51.setTop (mkF m 55 #[.val (.int n1), .val (.ref b33), .val (.int (5 : Int32)), .val (.ref a_ECO_PARK), .unset, .unset, .unset, .unset] [(.ref a_ECO_PARK)])) (fun _ kk_ => XS.aloadN X51.here hx rfl (hb hby at_54) rfl rfl kk_) ?_
    obtain ⟨cq73, kq73, q73a, q73b, q73c⟩ := isOf hZ e51 (Ea_ECO_PARK.ext O51.2)
    obtain ⟨_, _, ⟨T73, L73, k73, n73⟩, -, X73, ⟨Lc73, hQ73, l73, y73, z73⟩, st73⟩ := X51.virtualBack hx (y := (⟨"com/example/tileburgh/tileburgh/model/ConstructionKind", "takesRenter", "()Z"⟩ : MethodName)) (z := (⟨"com/example/tileburgh/tileburgh/model/ConstructionKind", "takesRenter", "()Z"⟩ : MethodName)) hown (mvT hZ (w_17 hw)) (mvT hZ (w_18 hw)) (notFace_of_selects (args := #[]) (mvT hZ (w_20 hw))) (mvT hZ (w_20 hw)) (mvT hZ (w_19 hw)) (by decide) (backOf (W := 0) (rmR l Z a0 hw [] a_ECO_PARK a_LOW_COST a_CONVENTIONAL a_GREEN a_SHOPPING a_GREENSPACE a_ECO_PARK h51 n0 O51 hS) hZ (w_21 hw) (w_3 hw) (by decide) (by decide)) q73a q73c (g := (mkF m 55 #[.val (.int n1), .val (.ref b33), .val (.int (5 : Int32)), .val (.ref a_ECO_PARK), .unset, .unset, .unset, .unset] [(.ref a_ECO_PARK)])) rfl (by rw [hml]; rfl) (Steps.refl _) (argsL := []) (rest := []) (lenOf pd_0 rfl) rfl (by show 2 * 0 + _ ≤ _; exact Nat.le_of_eq rfl) (hb hby at_55) (fun _ _ => ⟨rfl, e51, (by decide : 1 + 0 ≤ _), (by decide : 6 + 0 ≤ _)⟩)
    dsimp only [Pt.U, Pt.locs, Pt.cells, Pt.slots] at X73 l73 y73 z73 st73 hQ73
    subst l73 y73 z73
    obtain ⟨hv73, Nq73, e73⟩ := hQ73
    have N73 := Fr.app N51 Nq73
    rw [if_neg (by simp [(Ne.symm (Fld.ne Fa_LOW_COST_ordinal Fa_ECO_PARK_ordinal (fun q => absurd (Value.int.inj q) (by decide)))), (Fld.ne Fa_ECO_PARK_ordinal Fa_CONVENTIONAL_ordinal (fun q => absurd (Value.int.inj q) (by decide))), (Fld.ne Fa_ECO_PARK_ordinal Fa_GREEN_ordinal (fun q => absurd (Value.int.inj q) (by decide)))])] at hv73; subst hv73
    refine OW.tr (B := T73.setTop (mkF m 58 #[.val (.int n1), .val (.ref b33), .val (.int (5 : Int32)), .val (.ref a_ECO_PARK), .unset, .unset, .unset, .unset] [(.int (0 : Int32))])) (st73) ?_
    refine OW.st (B := T73.setTop (mkF m 60 #[.val (.int n1), .val (.ref b33), .val (.int (5 : Int32)), .val (.ref a_ECO_PARK), .val (.int (0 : Int32)), .unset, .unset, .unset] [])) (fun _ kk_ => XS.istore X73.here hx rfl (hb hby at_58) rfl (l' := #[.val (.int n1), .val (.ref b33), .val (.int (5 : Int32)), .val (.ref a_ECO_PARK), .val (.int (0 : Int32)), .unset, .unset, .unset]) rfl kk_) ?_
    refine OW.st (B := T73.setTop (mkF m 61 #[.val (.int n1), .val (.ref b33), .val (.int (5 : Int32)), .val (.ref a_ECO_PARK), .val (.int (0 : Int32)), .unset, .unset, .unset] [(.ref a_ECO_PARK)])) (fun _ kk_ => XS.aloadN X73.here hx rfl (hb hby at_60) rfl rfl kk_) ?_
    obtain ⟨cq74, kq74, q74a, q74b, q74c⟩ := isOf hZ e73 (Ea_ECO_PARK.ext O51.2)
    obtain ⟨_, _, ⟨T74, L74, k74, n74⟩, -, X74, ⟨Lc74, hQ74, l74, y74, z74⟩, st74⟩ := X73.virtualBack hx (y := (⟨"com/example/tileburgh/tileburgh/model/ConstructionKind", "isPark", "()Z"⟩ : MethodName)) (z := (⟨"com/example/tileburgh/tileburgh/model/ConstructionKind", "isPark", "()Z"⟩ : MethodName)) hown (mvT hZ (w_23 hw)) (mvT hZ (w_24 hw)) (notFace_of_selects (args := #[]) (mvT hZ (w_26 hw))) (mvT hZ (w_26 hw)) (mvT hZ (w_25 hw)) (by decide) (backOf (W := 0) (rmK l Z a0 hw [] a_ECO_PARK a_LOW_COST a_CONVENTIONAL a_GREEN a_SHOPPING a_GREENSPACE a_ECO_PARK h51 n0 O51 hS) hZ (w_27 hw) (w_3 hw) (by decide) (by decide)) q74a q74c (g := (mkF m 61 #[.val (.int n1), .val (.ref b33), .val (.int (5 : Int32)), .val (.ref a_ECO_PARK), .val (.int (0 : Int32)), .unset, .unset, .unset] [(.ref a_ECO_PARK)])) rfl (by rw [hml]; rfl) (Steps.refl _) (argsL := []) (rest := []) (lenOf pd_0 rfl) rfl (by show 2 * 0 + _ ≤ _; exact Nat.le_of_eq rfl) (hb hby at_61) (fun _ _ => ⟨rfl, e73, (by decide : 1 + 0 ≤ _), (by decide : 6 + 0 ≤ _)⟩)
    dsimp only [Pt.U, Pt.locs, Pt.cells, Pt.slots] at X74 l74 y74 z74 st74 hQ74
    subst l74 y74 z74
    obtain ⟨hv74, Nq74, e74⟩ := hQ74
    have N74 := Fr.app N73 Nq74
    rw [if_pos (by simp)] at hv74; subst hv74
    refine OW.tr (B := T74.setTop (mkF m 64 #[.val (.int n1), .val (.ref b33), .val (.int (5 : Int32)), .val (.ref a_ECO_PARK), .val (.int (0 : Int32)), .unset, .unset, .unset] [(.int (1 : Int32))])) (st74) ?_
    refine OW.st (B := T74.setTop (mkF m 66 #[.val (.int n1), .val (.ref b33), .val (.int (5 : Int32)), .val (.ref a_ECO_PARK), .val (.int (0 : Int32)), .val (.int (1 : Int32)), .unset, .unset] [])) (fun _ kk_ => XS.istore X74.here hx rfl (hb hby at_64) rfl (l' := #[.val (.int n1), .val (.ref b33), .val (.int (5 : Int32)), .val (.ref a_ECO_PARK), .val (.int (0 : Int32)), .val (.int (1 : Int32)), .unset, .unset]) rfl kk_) ?_
    refine OW.st (B := T74.setTop (mkF m 67 #[.val (.int n1), .val (.ref b33), .val (.int (5 : Int32)), .val (.ref a_ECO_PARK), .val (.int (0 : Int32)), .val (.int (1 : Int32)), .unset, .unset] [(.int (5 : Int32))])) (fun _ kk_ => XS.iloadN X74.here hx rfl (hb hby at_66) rfl kk_) ?_
    refine OW.st (B := T74.setTop (mkF m 70 #[.val (.int n1), .val (.ref b33), .val (.int (5 : Int32)), .val (.ref a_ECO_PARK), .val (.int (0 : Int32)), .val (.int (1 : Int32)), .unset, .unset] [])) (fun _ kk_ => XS.ifNo X74.here hx rfl (hb hby at_67) rfl ((if0 _ _).trans (feq (by decide)).1) kk_) ?_
    refine OW.st (B := T74.setTop (mkF m 71 #[.val (.int n1), .val (.ref b33), .val (.int (5 : Int32)), .val (.ref a_ECO_PARK), .val (.int (0 : Int32)), .val (.int (1 : Int32)), .unset, .unset] [(.int (5 : Int32))])) (fun _ kk_ => XS.iloadN X74.here hx rfl (hb hby at_70) rfl kk_) ?_
    refine OW.st (B := T74.setTop (mkF m 72 #[.val (.int n1), .val (.ref b33), .val (.int (5 : Int32)), .val (.ref a_ECO_PARK), .val (.int (0 : Int32)), .val (.int (1 : Int32)), .unset, .unset] [(.int (1 : Int32)), (.int (5 : Int32))])) (fun _ kk_ => XS.iconst X74.here hx rfl (hb hby at_71) kk_) ?_
    refine OW.st (B := T74.setTop (mkF m 75 #[.val (.int n1), .val (.ref b33), .val (.int (5 : Int32)), .val (.ref a_ECO_PARK), .val (.int (0 : Int32)), .val (.int (1 : Int32)), .unset, .unset] [])) (fun _ kk_ => XS.icmpNo X74.here hx rfl (hb hby at_72) rfl (feq (by decide)).1 kk_) ?_
    refine OW.st (B := T74.setTop (mkF m 76 #[.val (.int n1), .val (.ref b33), .val (.int (5 : Int32)), .val (.ref a_ECO_PARK), .val (.int (0 : Int32)), .val (.int (1 : Int32)), .unset, .unset] [(.int (5 : Int32))])) (fun _ kk_ => XS.iloadN X74.here hx rfl (hb hby at_75) rfl kk_) ?_
    refine OW.st (B := T74.setTop (mkF m 77 #[.val (.int n1), .val (.ref b33), .val (.int (5 : Int32)), .val (.ref a_ECO_PARK), .val (.int (0 : Int32)), .val (.int (1 : Int32)), .unset, .unset] [(.int (2 : Int32)), (.int (5 : Int32))])) (fun _ kk_ => XS.iconst X74.here hx rfl (hb hby at_76) kk_) ?_
    refine OW.st (B := T74.setTop (mkF m 84 #[.val (.int n1), .val (.ref b33), .val (.int (5 : Int32)), .val (.ref a_ECO_PARK), .val (.int (0 : Int32)), .val (.int (1 : Int32)), .unset, .unset] [])) (fun _ kk_ => XS.icmpYes X74.here hx rfl (pc0 := 77) (pc' := 84) rfl (hb hby at_77) rfl (feq (by decide)).2 (by decide) (by decide) kk_) ?_
    refine OW.st (B := T74.setTop (mkF m 85 #[.val (.int n1), .val (.ref b33), .val (.int (5 : Int32)), .val (.ref a_ECO_PARK), .val (.int (0 : Int32)), .val (.int (1 : Int32)), .unset, .unset] [(.int (0 : Int32))])) (fun _ kk_ => XS.iconst X74.here hx rfl (hb hby at_84) kk_) ?_
    refine OW.st (B := T74.setTop (mkF m 87 #[.val (.int n1), .val (.ref b33), .val (.int (5 : Int32)), .val (.ref a_ECO_PARK), .val (.int (0 : Int32)), .val (.int (1 : Int32)), .val (.int (0 : Int32)), .unset] [])) (fun _ kk_ => XS.istore X74.here hx rfl (hb hby at_85) rfl (l' := #[.val (.int n1), .val (.ref b33), .val (.int (5 : Int32)), .val (.ref a_ECO_PARK), .val (.int (0 : Int32)), .val (.int (1 : Int32)), .val (.int (0 : Int32)), .unset]) rfl kk_) ?_
    refine OW.st (B := T74.setTop (mkF m 88 #[.val (.int n1), .val (.ref b33), .val (.int (5 : Int32)), .val (.ref a_ECO_PARK), .val (.int (0 : Int32)), .val (.int (1 : Int32)), .val (.int (0 : Int32)), .unset] [(.int (0 : Int32))])) (fun _ kk_ => XS.iconst X74.here hx rfl (hb hby at_87) kk_) ?_
    refine OW.st (B := T74.setTop (mkF m 90 #[.val (.int n1), .val (.ref b33), .val (.int (5 : Int32)), .val (.ref a_ECO_PARK), .val (.int (0 : Int32)), .val (.int (1 : Int32)), .val (.int (0 : Int32)), .val (.int (0 : Int32))] [])) (fun _ kk_ => XS.istore X74.here hx rfl (hb hby at_88) rfl (l' := #[.val (.int n1), .val (.ref b33), .val (.int (5 : Int32)), .val (.ref a_ECO_PARK), .val (.int (0 : Int32)), .val (.int (1 : Int32)), .val (.int (0 : Int32)), .val (.int (0 : Int32))]) rfl kk_) ?_
    refine OW.st (B := T74.setTop (mkF m 92 #[.val (.int n1), .val (.ref b33), .val (.int (5 : Int32)), .val (.ref a_ECO_PARK), .val (.int (0 : Int32)), .val (.int (1 : Int32)), .val (.int (0 : Int32)), .val (.int (0 : Int32))] [(.int (0 : Int32))])) (fun _ kk_ => XS.iload X74.here hx rfl (hb hby at_90) rfl kk_) ?_
    refine OW.st (B := T74.setTop (mkF m 101 #[.val (.int n1), .val (.ref b33), .val (.int (5 : Int32)), .val (.ref a_ECO_PARK), .val (.int (0 : Int32)), .val (.int (1 : Int32)), .val (.int (0 : Int32)), .val (.int (0 : Int32))] [])) (fun _ kk_ => XS.ifYes X74.here hx rfl (pc0 := 92) (pc' := 101) rfl (hb hby at_92) rfl ((if0 _ _).trans (teq (by decide)).1) (by decide) (by decide) kk_) ?_
    refine OW.st (B := T74.setTop (mkF m 103 #[.val (.int n1), .val (.ref b33), .val (.int (5 : Int32)), .val (.ref a_ECO_PARK), .val (.int (0 : Int32)), .val (.int (1 : Int32)), .val (.int (0 : Int32)), .val (.int (0 : Int32))] [(.int (1 : Int32))])) (fun _ kk_ => XS.iload X74.here hx rfl (hb hby at_101) rfl kk_) ?_
    refine OW.st (B := T74.setTop (mkF m 106 #[.val (.int n1), .val (.ref b33), .val (.int (5 : Int32)), .val (.ref a_ECO_PARK), .val (.int (0 : Int32)), .val (.int (1 : Int32)), .val (.int (0 : Int32)), .val (.int (0 : Int32))] [])) (fun _ kk_ => XS.ifNo X74.here hx rfl (hb hby at_103) rfl ((if0 _ _).trans (feq (by decide)).1) kk_) ?_
    refine OW.st (B := T74.setTop (mkF m 108 #[.val (.int n1), .val (.ref b33), .val (.int (5 : Int32)), .val (.ref a_ECO_PARK), .val (.int (0 : Int32)), .val (.int (1 : Int32)), .val (.int (0 : Int32)), .val (.int (0 : Int32))] [(.int (0 : Int32))])) (fun _ kk_ => XS.iload X74.here hx rfl (hb hby at_106) rfl kk_) ?_
    refine OW.st (B := T74.setTop (mkF m 109 #[.val (.int n1), .val (.ref b33), .val (.int (5 : Int32)), .val (.ref a_ECO_PARK), .val (.int (0 : Int32)), .val (.int (1 : Int32)), .val (.int (0 : Int32)), .val (.int (0 : Int32))] [(.int (1 : Int32)), (.int (0 : Int32))])) (fun _ kk_ => XS.iconst X74.here hx rfl (hb hby at_108) kk_) ?_
    refine OW.st (B := T74.setTop (mkF m 110 #[.val (.int n1), .val (.ref b33), .val (.int (5 : Int32)), .val (.ref a_ECO_PARK), .val (.int (0 : Int32)), .val (.int (1 : Int32)), .val (.int (0 : Int32)), .val (.int (0 : Int32))] [(.int ((0 : Int32) + (1 : Int32)))])) (fun _ kk_ => XS.iadd X74.here hx rfl (hb hby at_109) rfl kk_) ?_
    refine OW.st (B := T74.setTop (mkF m 112 #[.val (.int n1), .val (.ref b33), .val (.int (5 : Int32)), .val (.ref a_ECO_PARK), .val (.int (0 : Int32)), .val (.int (1 : Int32)), .val (.int (0 : Int32)), .val (.int ((0 : Int32) + (1 : Int32)))] [])) (fun _ kk_ => XS.istore X74.here hx rfl (hb hby at_110) rfl (l' := #[.val (.int n1), .val (.ref b33), .val (.int (5 : Int32)), .val (.ref a_ECO_PARK), .val (.int (0 : Int32)), .val (.int (1 : Int32)), .val (.int (0 : Int32)), .val (.int ((0 : Int32) + (1 : Int32)))]) rfl kk_) ?_
    refine OW.st (B := T74.setTop (mkF m 113 #[.val (.int n1), .val (.ref b33), .val (.int (5 : Int32)), .val (.ref a_ECO_PARK), .val (.int (0 : Int32)), .val (.int (1 : Int32)), .val (.int (0 : Int32)), .val (.int ((0 : Int32) + (1 : Int32)))] [(.ref a_ECO_PARK)])) (fun _ kk_ => XS.aloadN X74.here hx rfl (hb hby at_112) rfl rfl kk_) ?_
    obtain ⟨T75, X75, e75, st75⟩ := getS2 X74 hx hZ hown (host := "") (Or.inl (w_10 hw)) Via.refl e74 (Sa_SHOPPING.ext O51.2) (g := (mkF m 113 #[.val (.int n1), .val (.ref b33), .val (.int (5 : Int32)), .val (.ref a_ECO_PARK), .val (.int (0 : Int32)), .val (.int (1 : Int32)), .val (.int (0 : Int32)), .val (.int ((0 : Int32) + (1 : Int32)))] [(.ref a_ECO_PARK)])) rfl (hb hby at_113)
    refine OW.st (B := T75.setTop (mkF m 116 #[.val (.int n1), .val (.ref b33), .val (.int (5 : Int32)), .val (.ref a_ECO_PARK), .val (.int (0 : Int32)), .val (.int (1 : Int32)), .val (.int (0 : Int32)), .val (.int ((0 : Int32) + (1 : Int32)))] [(.ref a_SHOPPING), (.ref a_ECO_PARK)])) (st75) ?_
    refine OW.st (B := T75.setTop (mkF m 125 #[.val (.int n1), .val (.ref b33), .val (.int (5 : Int32)), .val (.ref a_ECO_PARK), .val (.int (0 : Int32)), .val (.int (1 : Int32)), .val (.int (0 : Int32)), .val (.int ((0 : Int32) + (1 : Int32)))] [])) (fun _ kk_ => Jvm.RoadKit.acmp (g := (mkF m 116 #[.val (.int n1), .val (.ref b33), .val (.int (5 : Int32)), .val (.ref a_ECO_PARK), .val (.int (0 : Int32)), .val (.int (1 : Int32)), .val (.int (0 : Int32)), .val (.int ((0 : Int32) + (1 : Int32)))] [(.ref a_SHOPPING), (.ref a_ECO_PARK)])) X75 hx rfl rfl rfl (pc0 := 116) (pc' := 125) (same := false) rfl (hb hby at_116) rfl (decide_eq_false fun q => (Fld.ne Fa_ECO_PARK_ordinal Fa_SHOPPING_ordinal (fun q => absurd (Value.int.inj q) (by decide))) (Value.ref.inj q)) (by decide) (by decide) kk_) ?_
    refine OW.st (B := T75.setTop (mkF m 127 #[.val (.int n1), .val (.ref b33), .val (.int (5 : Int32)), .val (.ref a_ECO_PARK), .val (.int (0 : Int32)), .val (.int (1 : Int32)), .val (.int (0 : Int32)), .val (.int ((0 : Int32) + (1 : Int32)))] [(.int (0 : Int32))])) (fun _ kk_ => XS.iload X75.here hx rfl (hb hby at_125) rfl kk_) ?_
    refine OW.st (B := T75.setTop (mkF m 129 #[.val (.int n1), .val (.ref b33), .val (.int (5 : Int32)), .val (.ref a_ECO_PARK), .val (.int (0 : Int32)), .val (.int (1 : Int32)), .val (.int (0 : Int32)), .val (.int ((0 : Int32) + (1 : Int32)))] [(.int (0 : Int32)), (.int (0 : Int32))])) (fun _ kk_ => XS.iload X75.here hx rfl (hb hby at_127) rfl kk_) ?_
    refine OW.st (B := T75.setTop (mkF m 132 #[.val (.int n1), .val (.ref b33), .val (.int (5 : Int32)), .val (.ref a_ECO_PARK), .val (.int (0 : Int32)), .val (.int (1 : Int32)), .val (.int (0 : Int32)), .val (.int ((0 : Int32) + (1 : Int32)))] [])) (fun _ kk_ => XS.icmpNo X75.here hx rfl (hb hby at_129) rfl (teq (by decide)).2 kk_) ?_
    refine OW.st (B := T75.setTop (mkF m 134 #[.val (.int n1), .val (.ref b33), .val (.int (5 : Int32)), .val (.ref a_ECO_PARK), .val (.int (0 : Int32)), .val (.int (1 : Int32)), .val (.int (0 : Int32)), .val (.int ((0 : Int32) + (1 : Int32)))] [(.int ((0 : Int32) + (1 : Int32)))])) (fun _ kk_ => XS.iload X75.here hx rfl (hb hby at_132) rfl kk_) ?_
    refine OW.st (B := T75.setTop (mkF m 135 #[.val (.int n1), .val (.ref b33), .val (.int (5 : Int32)), .val (.ref a_ECO_PARK), .val (.int (0 : Int32)), .val (.int (1 : Int32)), .val (.int (0 : Int32)), .val (.int ((0 : Int32) + (1 : Int32)))] [(.int (1 : Int32)), (.int ((0 : Int32) + (1 : Int32)))])) (fun _ kk_ => XS.iconst X75.here hx rfl (hb hby at_134) kk_) ?_
    refine OW.st (B := T75.setTop (mkF m 138 #[.val (.int n1), .val (.ref b33), .val (.int (5 : Int32)), .val (.ref a_ECO_PARK), .val (.int (0 : Int32)), .val (.int (1 : Int32)), .val (.int (0 : Int32)), .val (.int ((0 : Int32) + (1 : Int32)))] [])) (fun _ kk_ => XS.icmpNo X75.here hx rfl (hb hby at_135) rfl (teq (by decide)).2 kk_) ?_
    refine OW.st (B := T75.setTop (mkF m 139 #[.val (.int n1), .val (.ref b33), .val (.int (5 : Int32)), .val (.ref a_ECO_PARK), .val (.int (0 : Int32)), .val (.int (1 : Int32)), .val (.int (0 : Int32)), .val (.int ((0 : Int32) + (1 : Int32)))] [(.int (1 : Int32))])) (fun _ kk_ => XS.iconst X75.here hx rfl (hb hby at_138) kk_) ?_
    refine OW.st (B := T75.setTop (mkF m 143 #[.val (.int n1), .val (.ref b33), .val (.int (5 : Int32)), .val (.ref a_ECO_PARK), .val (.int (0 : Int32)), .val (.int (1 : Int32)), .val (.int (0 : Int32)), .val (.int ((0 : Int32) + (1 : Int32)))] [(.int (1 : Int32))])) (fun _ kk_ => XS.goto X75.here hx rfl (pc0 := 139) (pc' := 143) rfl (hb hby at_139) (by decide) (by decide) kk_) ?_
    exact OW.ret X75 hx hlk (i := .ireturn) Bd.returns rfl (Or.inl ⟨rfl, Or.inr (Or.inl rfl), _, rfl⟩) (hb hby at_143) e75 (by decide) (by decide) ⟨rfl, N74⟩
set_option maxRecDepth 65536 in
set_option maxHeartbeats 40000000 in
theorem comes_1 {Post : Tables → Env → Array Value → State → Outcome → State → Prop} (hpost : ∀ tb e args s v u, (limb_1_1.after args s (.returned v) u = true ∧ limb_1_2.after args s (.returned v) u = true ∧ True) → FrameEnd s (.returned v) u (Jvm.fieldLocs frame_1_writes args s ++ Jvm.arrayLocs frame_1_arrays args s ++ Jvm.staticLocs frame_1_statics s) 16 128 → Post tb e args s (.returned v) u) :
    ArmFor flags0 classFile x code maxLocals ret World_1 tables_1 room_1 Calls_1 rest_1 Pre_1 Post := by
  intro l hfl _ _ p e ha hc hk s m args below hf hA hF happ hP
  obtain ⟨hcalls, hrest, hpre⟩ := hP
  obtain ⟨-, -, -, hnamed, -, -, -, hat⟩ := (Spec.applies_iff hf).mp happ
  obtain ⟨hg, hn⟩ := and_e (Cond.before_iff.mp (show (Jvm.Cond.and given_1 narrow_1).before args s = true from hpre))
  obtain ⟨k76, k77⟩ := and_e hg
  obtain ⟨w0, rfl⟩ : ∃ w0 : Value, args = #[w0] := by
    have hs : args.size = 1 := by simpa [Cond.value, given_1] using k76
    obtain ⟨L⟩ := args
    match L, hs with
    | [w0], _ => exact ⟨w0, rfl⟩
  have hw := fun d (hd : d ∈ tables_1) => atoms_spec (ws := Jvm.Cond.code x code maxLocals ret :: tables_1) hat d (List.mem_cons_of_mem _ hd)
  have hfit : Fit s := fun {y c} hc i hi => by
    obtain ⟨ha, rfl⟩ := Array.getElem?_eq_some_iff.mp hc
    have q := List.all_eq_true.mp ((Array.all_eq_true_iff_forall_mem.mp hF) _ (Array.getElem_mem ha)) i (List.mem_range.mpr hi)
    simpa [Array.getElem?_eq_getElem hi] using q
  obtain ⟨i0, ei0⟩ := is_v k77
  obtain rfl : w0 = (.int i0) := Option.some.inj ei0
  obtain ⟨k1, k2⟩ := and_e hn
  obtain ⟨k3, k4⟩ := and_e k2
  obtain ⟨k5, k6⟩ := and_e k4
  obtain ⟨k7, k8⟩ := and_e k6
  obtain ⟨k9, k10⟩ := and_e k8
  obtain ⟨k11, k12⟩ := and_e k10
  obtain ⟨k13, k14⟩ := and_e k12
  obtain ⟨k15, k16⟩ := and_e k14
  obtain ⟨k17, k18⟩ := and_e k16
  obtain ⟨k19, k20⟩ := and_e k18
  obtain ⟨k21, k22⟩ := and_e k20
  obtain ⟨a_LOW_COST, eva_LOW_COST⟩ := exa_v k1
  obtain ⟨a_CONVENTIONAL, eva_CONVENTIONAL⟩ := exa_v k3
  obtain ⟨a_GREEN, eva_GREEN⟩ := exa_v k5
  obtain ⟨a_SHOPPING, eva_SHOPPING⟩ := exa_v k7
  obtain ⟨a_GREENSPACE, eva_GREENSPACE⟩ := exa_v k9
  obtain ⟨a_ECO_PARK, eva_ECO_PARK⟩ := exa_v k11
  have hS : OwnS s a_LOW_COST a_CONVENTIONAL a_GREEN a_SHOPPING a_GREENSPACE a_ECO_PARK := ⟨Sta.start eva_LOW_COST (Or.inr ⟨(w_3 hw), (w_4 hw)⟩), Exa.start eva_LOW_COST k1, Sta.start eva_CONVENTIONAL (Or.inr ⟨(w_3 hw), (w_7 hw)⟩), Exa.start eva_CONVENTIONAL k3, Sta.start eva_GREEN (Or.inr ⟨(w_3 hw), (w_9 hw)⟩), Exa.start eva_GREEN k5, Sta.start eva_SHOPPING (Or.inr ⟨(w_3 hw), (w_11 hw)⟩), Exa.start eva_SHOPPING k7, Sta.start eva_GREENSPACE (Or.inr ⟨(w_3 hw), (w_13 hw)⟩), Exa.start eva_GREENSPACE k9, Sta.start eva_ECO_PARK (Or.inr ⟨(w_3 hw), (w_15 hw)⟩), Exa.start eva_ECO_PARK k11, Fld.start ((fld_at eva_LOW_COST).symm.trans (own_eq_int k13)), Fld.start ((fld_at eva_GREENSPACE).symm.trans (own_eq_int k15)), Fld.start ((fld_at eva_ECO_PARK).symm.trans (own_eq_int k17)), Fld.start ((fld_at eva_SHOPPING).symm.trans (own_eq_int k19)), Fld.start ((fld_at eva_CONVENTIONAL).symm.trans (own_eq_int k21)), Fld.start ((fld_at eva_GREEN).symm.trans (own_eq_int k22))⟩
  obtain ⟨n, o, h1, h2, h3, _, L, rfl, ⟨rfl, N⟩, hq⟩ := rm0 l s _ hw tables_1 i0 a_LOW_COST a_CONVENTIONAL a_GREEN a_SHOPPING a_GREENSPACE a_ECO_PARK s.heap s.heap.size (Old.start s) hS p e ha hc hk s m _ below hf ((Spec.applies_iff_loose hf).mp happ).1 ⟨rfl, State.Warmed39.refl s, rfl⟩ trivial
  refine ⟨n, _, h1, h2, h3, hpost _ _ _ _ _ _ ⟨Cond.after_iff.mpr rfl, Cond.after_iff.mpr (eq_i res_at (Term.int_eval (1)) rfl), trivial⟩ ⟨hq.1, hq.2.1, (hq.2.2.sift fun y hy => Or.inr (N y hy)).mono (by decide) (by decide)⟩⟩
theorem main_1_1 : Claimed_1_1 := comes_1 fun _ _ _ _ _ _ h hF => ⟨h.1, hF⟩
theorem main_1_2 : Claimed_1_2 := comes_1 fun _ _ _ _ _ _ h hF => ⟨h.2.1, hF⟩
end Jvm.Pilot.@@N@@
namespace Jvm.Pilot.@@N@@
open Jvm Jvm.ClassFile Sem Op Lib Jvm.Free Jvm.Stand Jvm.Pilot.@@N@@.Jvm.D
/-! MADE BY PROGRAM (witnessworld.py) out of the Statement's table words and the real class files: 13 classes; the members and pool entries that the words name. The judged class is class 1, her method 1. -/
namespace start1
open Jvm.ClassFile
def u (s : String) : CpInfo := .utf8 (stringToUtf16 s)
/-- a pool by its gaps: so many unusable entries, then the entry; so many at the end -/
def gap : Nat → List CpInfo → List CpInfo
  | 0, r => r
  | n + 1, r => .unusable :: gap n r
def poolList (es : List (Nat × CpInfo)) (last : Nat) : List CpInfo := es.foldr (fun e r => gap e.1 (e.2 :: r)) (gap last [])
def pool (es : List (Nat × CpInfo)) (last : Nat) : Array CpInfo := ⟨poolList es last⟩
def fileOf (pool : Array CpInfo) (this : Nat) (attrs : Array Attribute := #[]) (ms : Array MethodInfo := #[]) (fl : Nat := 33) (sup : Nat := 0) (ifs : Array Nat := #[]) (fds : Array FieldInfo := #[]) : ClassFile where
  minorVersion := 0
  majorVersion := 65
  constantPool := pool
  accessFlags := fl
  thisClass := this
  superClass := sup
  interfaces := ifs
  fields := fds
  methods := ms
  attributes := attrs
def plain (name : String) (sup : Option ClassId) : Class where
  name := name
  kind := .ordinary
  loader := none
  accessFlags := 33
  super := sup
  interfaces := #[]
  cf := none
  fields := #[]
  methods := #[]
  instanceTypes := #[]
  staticTypes := #[]
  resolved := #[]
  callSites := []
  init := .initialized
  statics := none
  mirror := none

def pool0 : Array CpInfo := pool [(5, u "<init>"), (0, u "()V"), (1, .class_ 10), (1, u "java/lang/Object")] 113

def k0m0 : Method := { name := "<init>", desc := "()V", sig := { parameters := [], returnType := none }, accessFlags := 1, code := none }
/-- java/lang/Object -/
def k0 : Class := { plain "java/lang/Object" none with
  accessFlags := 33
  interfaces := #[]
  cf := some (fileOf pool0 8 #[] #[{ accessFlags := 1, nameIndex := 5, descriptorIndex := 6, attributes := #[] }] 33 0 #[] #[])
  fields := #[]
  methods := #[k0m0]
  instanceTypes := #[]
  staticTypes := #[]
  resolved := Array.replicate 124 none
  statics := none }

def pool1 : Array CpInfo := pool [(2, .class_ 4), (1, u "java/lang/Object"), (0, u "<init>"), (0, u "()V"), (0, .class_ 8), (0, u "com/example/tileburgh/tileburgh/model/ConstructionKind"), (0, .fieldref 7 10), (0, .nameAndType 11 12), (0, u "LOW_COST"), (0, u "Lcom/example/tileburgh/tileburgh/model/ConstructionKind;"), (0, .fieldref 7 14), (0, .nameAndType 15 12), (0, u "CONVENTIONAL"), (0, .fieldref 7 17), (0, .nameAndType 18 12), (0, u "GREEN"), (0, .fieldref 7 20), (0, .nameAndType 21 12), (0, u "SHOPPING"), (0, .fieldref 7 23), (0, .nameAndType 24 12), (0, u "GREENSPACE"), (0, .fieldref 7 26), (0, .nameAndType 27 12), (0, u "ECO_PARK"), (0, .integer 2147483647), (0, .methodref 7 30), (0, .nameAndType 31 32), (0, u "takesRenter"), (0, u "()Z"), (0, .methodref 7 34), (0, .nameAndType 35 32), (0, u "isPark"), (0, .class_ 37), (0, u "com/example/tileburgh/tileburgh/model/ConstructionKindTakesRenterPinLaw"), (2, u "law"), (0, u "(I)Z")] 5

def k1m0 : Method := { name := "<init>", desc := "()V", sig := { parameters := [], returnType := none }, accessFlags := 1, code := none }
def k1c1 : Code := { maxStack := 4, maxLocals := 8, code := code, exceptionTable := #[], attributes := #[] }
def k1m1 : Method := { name := "law", desc := "(I)Z", sig := { parameters := [.int], returnType := some .boolean }, accessFlags := 9, code := some k1c1 }
/-- com/example/tileburgh/tileburgh/model/ConstructionKindTakesRenterPinLaw -/
def k1 : Class := { plain "com/example/tileburgh/tileburgh/model/ConstructionKindTakesRenterPinLaw" (some 0) with
  accessFlags := 49
  interfaces := #[]
  cf := some (fileOf pool1 36 #[] #[{ accessFlags := 1, nameIndex := 5, descriptorIndex := 6, attributes := #[] }, { accessFlags := 9, nameIndex := 40, descriptorIndex := 41, attributes := #[] }] 49 2 #[] #[])
  fields := #[]
  methods := #[k1m0, k1m1]
  instanceTypes := #[]
  staticTypes := #[]
  resolved := Array.replicate 47 none
  statics := none }

def pool2 : Array CpInfo := pool [(1, .class_ 2), (0, u "java/lang/constant/Constable"), (0, .class_ 4), (0, u "java/lang/Object")] 6

/-- java/lang/constant/Constable -/
def k2 : Class := { plain "java/lang/constant/Constable" (some 0) with
  accessFlags := 1537
  interfaces := #[]
  cf := some (fileOf pool2 1 #[] #[] 1537 3 #[] #[])
  fields := #[]
  methods := #[]
  instanceTypes := #[]
  staticTypes := #[]
  resolved := Array.replicate 11 none
  statics := none }

def pool3 : Array CpInfo := pool [(1, .class_ 2), (0, u "java/lang/Comparable"), (0, .class_ 4), (0, u "java/lang/Object")] 7

/-- java/lang/Comparable -/
def k3 : Class := { plain "java/lang/Comparable" (some 0) with
  accessFlags := 1537
  interfaces := #[]
  cf := some (fileOf pool3 1 #[] #[] 1537 3 #[] #[])
  fields := #[]
  methods := #[]
  instanceTypes := #[]
  staticTypes := #[]
  resolved := Array.replicate 12 none
  statics := none }

def pool4 : Array CpInfo := pool [(1, .class_ 2), (0, u "java/io/Serializable"), (0, .class_ 4), (0, u "java/lang/Object")] 2

/-- java/io/Serializable -/
def k4 : Class := { plain "java/io/Serializable" (some 0) with
  accessFlags := 1537
  interfaces := #[]
  cf := some (fileOf pool4 1 #[] #[] 1537 3 #[] #[])
  fields := #[]
  methods := #[]
  instanceTypes := #[]
  staticTypes := #[]
  resolved := Array.replicate 7 none
  statics := none }

def pool5 : Array CpInfo := pool [(2, .class_ 4), (1, u "java/lang/Enum"), (0, u "name"), (0, u "Ljava/lang/String;"), (2, u "ordinal"), (0, u "I"), (1, .class_ 14), (1, u "java/lang/Object"), (4, u "hash"), (86, .class_ 108), (1, u "java/lang/Enum$EnumDesc"), (2, .class_ 112), (0, u "java/lang/constant/Constable"), (0, .class_ 114), (0, u "java/lang/Comparable"), (0, .class_ 116), (0, u "java/io/Serializable")] 87

/-- java/lang/Enum -/
def k5 : Class := { plain "java/lang/Enum" (some 0) with
  accessFlags := 1057
  interfaces := #[2, 3, 4]
  cf := some (fileOf pool5 2 #[.nestMembers #[106]] #[] 1057 12 #[111, 113, 115] #[{ accessFlags := 18, nameIndex := 5, descriptorIndex := 6, attributes := #[] }, { accessFlags := 18, nameIndex := 9, descriptorIndex := 10, attributes := #[] }, { accessFlags := 2, nameIndex := 19, descriptorIndex := 10, attributes := #[] }])
  fields := #[{ name := "name", type := (.object "java/lang/String"), accessFlags := 18, slot := 0, constantValue := 0 }, { name := "ordinal", type := .int, accessFlags := 18, slot := 1, constantValue := 0 }, { name := "hash", type := .int, accessFlags := 2, slot := 2, constantValue := 0 }]
  methods := #[]
  instanceTypes := #[(.object "java/lang/String"), .int, .int]
  staticTypes := #[]
  resolved := Array.replicate 204 none
  statics := none }

def pool6 : Array CpInfo := pool [(1, .class_ 2), (0, u "com/example/tileburgh/tileburgh/model/ConstructionKind"), (0, .fieldref 1 4), (0, .nameAndType 5 6), (0, u "LOW_COST"), (0, u "Lcom/example/tileburgh/tileburgh/model/ConstructionKind;"), (0, .fieldref 1 8), (0, .nameAndType 9 6), (0, u "CONVENTIONAL"), (0, .fieldref 1 11), (0, .nameAndType 12 6), (0, u "GREEN"), (2, u "SHOPPING"), (0, .fieldref 1 17), (0, .nameAndType 18 6), (0, u "GREENSPACE"), (0, .fieldref 1 20), (0, .nameAndType 21 6), (0, u "ECO_PARK"), (2, u "$VALUES"), (0, u "[Lcom/example/tileburgh/tileburgh/model/ConstructionKind;"), (6, .class_ 34), (1, u "java/lang/Enum"), (8, u "displayName"), (0, u "Ljava/lang/String;"), (49, u "takesRenter"), (0, u "()Z"), (1, u "isPark")] 27

def k6c0 : Code := { maxStack := 2, maxLocals := 1, code := prog_14_method_6_code, exceptionTable := #[], attributes := #[] }
def k6m0 : Method := { name := "takesRenter", desc := "()Z", sig := { parameters := [], returnType := some .boolean }, accessFlags := 1, code := some k6c0 }
def k6c1 : Code := { maxStack := 2, maxLocals := 1, code := prog_14_method_7_code, exceptionTable := #[], attributes := #[] }
def k6m1 : Method := { name := "isPark", desc := "()Z", sig := { parameters := [], returnType := some .boolean }, accessFlags := 1, code := some k6c1 }
/-- com/example/tileburgh/tileburgh/model/ConstructionKind -/
def k6 : Class := { plain "com/example/tileburgh/tileburgh/model/ConstructionKind" (some 5) with
  accessFlags := 16433
  interfaces := #[]
  cf := some (fileOf pool6 1 #[] #[{ accessFlags := 1, nameIndex := 94, descriptorIndex := 95, attributes := #[] }, { accessFlags := 1, nameIndex := 97, descriptorIndex := 95, attributes := #[] }] 16433 32 #[] #[{ accessFlags := 16409, nameIndex := 5, descriptorIndex := 6, attributes := #[] }, { accessFlags := 16409, nameIndex := 9, descriptorIndex := 6, attributes := #[] }, { accessFlags := 16409, nameIndex := 12, descriptorIndex := 6, attributes := #[] }, { accessFlags := 16409, nameIndex := 15, descriptorIndex := 6, attributes := #[] }, { accessFlags := 16409, nameIndex := 18, descriptorIndex := 6, attributes := #[] }, { accessFlags := 16409, nameIndex := 21, descriptorIndex := 6, attributes := #[] }, { accessFlags := 18, nameIndex := 43, descriptorIndex := 44, attributes := #[] }, { accessFlags := 4122, nameIndex := 24, descriptorIndex := 25, attributes := #[] }])
  fields := #[{ name := "LOW_COST", type := (.object "com/example/tileburgh/tileburgh/model/ConstructionKind"), accessFlags := 16409, slot := 0, constantValue := 0 }, { name := "CONVENTIONAL", type := (.object "com/example/tileburgh/tileburgh/model/ConstructionKind"), accessFlags := 16409, slot := 1, constantValue := 0 }, { name := "GREEN", type := (.object "com/example/tileburgh/tileburgh/model/ConstructionKind"), accessFlags := 16409, slot := 2, constantValue := 0 }, { name := "SHOPPING", type := (.object "com/example/tileburgh/tileburgh/model/ConstructionKind"), accessFlags := 16409, slot := 3, constantValue := 0 }, { name := "GREENSPACE", type := (.object "com/example/tileburgh/tileburgh/model/ConstructionKind"), accessFlags := 16409, slot := 4, constantValue := 0 }, { name := "ECO_PARK", type := (.object "com/example/tileburgh/tileburgh/model/ConstructionKind"), accessFlags := 16409, slot := 5, constantValue := 0 }, { name := "displayName", type := (.object "java/lang/String"), accessFlags := 18, slot := 3, constantValue := 0 }, { name := "$VALUES", type := (.array (.object "com/example/tileburgh/tileburgh/model/ConstructionKind")), accessFlags := 4122, slot := 6, constantValue := 0 }]
  methods := #[k6m0, k6m1]
  instanceTypes := #[(.object "java/lang/String"), .int, .int, (.object "java/lang/String")]
  staticTypes := #[(.object "com/example/tileburgh/tileburgh/model/ConstructionKind"), (.object "com/example/tileburgh/tileburgh/model/ConstructionKind"), (.object "com/example/tileburgh/tileburgh/model/ConstructionKind"), (.object "com/example/tileburgh/tileburgh/model/ConstructionKind"), (.object "com/example/tileburgh/tileburgh/model/ConstructionKind"), (.object "com/example/tileburgh/tileburgh/model/ConstructionKind"), (.array (.object "com/example/tileburgh/tileburgh/model/ConstructionKind"))]
  resolved := Array.replicate 125 none
  statics := some 0 }

def pool7 : Array CpInfo := pool [(1, u "java/lang/Cloneable"), (0, .class_ 1), (0, u "java/lang/Object"), (0, .class_ 3)] 3

/-- java/lang/Cloneable -/
def k7 : Class := { plain "java/lang/Cloneable" (some 0) with
  accessFlags := 1537
  interfaces := #[]
  cf := some (fileOf pool7 2 #[] #[] 1537 4 #[] #[])
  fields := #[]
  methods := #[]
  instanceTypes := #[]
  staticTypes := #[]
  resolved := Array.replicate 8 none
  statics := none }

/-- the primitive byte -/
def k8 : Class := { plain "byte" none with kind := .primitive 'B', accessFlags := 0x411 }
/-- [B -/
def k9 : Class := { plain "[B" (some 0) with kind := .array 8 .byte, interfaces := #[7, 4], accessFlags := 1041 }

/-- the primitive int -/
def k10 : Class := { plain "int" none with kind := .primitive 'I', accessFlags := 0x411 }
/-- [I -/
def k11 : Class := { plain "[I" (some 0) with kind := .array 10 .int, interfaces := #[7, 4], accessFlags := 1041 }

/-- [Lcom/example/tileburgh/tileburgh/model/ConstructionKind; -/
def k12 : Class := { plain "[Lcom/example/tileburgh/tileburgh/model/ConstructionKind;" (some 0) with kind := .array 6 (.object "com/example/tileburgh/tileburgh/model/ConstructionKind"), interfaces := #[7, 4], accessFlags := 1041 }

def heap : Heap := #[{ cls := 6, slots := #[.ref 1, .ref 2, .ref 3, .ref 4, .ref 5, .ref 6, .null], vm := .statics 6 },
  { cls := 6, slots := #[.null, .int 0, .int 0, .null], vm := .none },
  { cls := 6, slots := #[.null, .int 1, .int 0, .null], vm := .none },
  { cls := 6, slots := #[.null, .int 2, .int 0, .null], vm := .none },
  { cls := 6, slots := #[.null, .int 3, .int 0, .null], vm := .none },
  { cls := 6, slots := #[.null, .int 4, .int 0, .null], vm := .none },
  { cls := 6, slots := #[.null, .int 5, .int 0, .null], vm := .none }]
def classes : Array Class := #[k0, k1, k2, k3, k4, k5, k6, k7, k8, k9, k10, k11, k12]
def interned : List (Array UInt16 × Addr) := []
def slotsUsed : Nat := 31
def theMethod : MethodId := ⟨1, 1⟩
def args0 : Array Value := #[.int 5]
def aboutOver (below : List Frame) : State where
  vm := { classes := classes, interned := interned.toArray }
  heap := heap
  slotsUsed := slotsUsed
  threads := #[{ frames := .invoking theMethod args0 :: below }]
def below0 : List Frame := [.native { method := ⟨0, 0⟩, args := #[] }]
def about1 : State := aboutOver below0
def p0 : Program := .bare "" "" ""
def e0 : Env := launch0.env 0 0 0
theorem w_frames : about1.frames = Frame.invoking theMethod args0 :: below0 := rfl
set_option maxRecDepth 65536 in
theorem w_args : argsFit about1.vm theMethod args0 = true := by decide +kernel
set_option maxRecDepth 65536 in
theorem w_heap : heapFits about1 = true := by decide +kernel
set_option maxRecDepth 65536 in
theorem w_runnable : about1.curStatus? = some .runnable := by decide +kernel
set_option maxRecDepth 65536 in
theorem w_alone : about1.alone = true := by decide +kernel
set_option maxRecDepth 65536 in
theorem w_named : about1.methodNamed? x = some theMethod := by decide +kernel
set_option maxRecDepth 65536 in
theorem w_hears : about1.hears theMethod below0 = true := by decide +kernel
set_option maxRecDepth 65536 in
theorem w_ripe : about1.ripe theMethod args0 below0 = true := by decide +kernel
theorem w_running : about1.status = .running := rfl
set_option maxRecDepth 65536 in
theorem w_room : about1.hasRoom e0.platform room_1 = true :=
  launch0.hasRoom_least _ room_1 (by decide +kernel) (by decide +kernel) (by decide +kernel) (by decide +kernel) (by decide +kernel) (by decide +kernel)
theorem allAtoms_all (ts : List Jvm.Cond) (a : Array Jvm.Value) (st : Jvm.State) : (allAtoms ts).before a st = ts.all (fun c => c.before a st) := by
  induction ts with
  | nil => rfl
  | cons c t ih =>
    show (Jvm.Cond.and c (allAtoms t)).before a st = _
    rw [Jvm.Cond.before_and, ih, List.all_cons]
def words1 : List Jvm.Cond := Jvm.Cond.code x code maxLocals ret :: tables_1
/-- a 'code' word, met by the world's own term for the bytes: nothing is compared byte by byte -/
theorem code_word {y : MethodName} {bytes : ByteArray} {mx : Nat} {rt : Option FieldType} {a : Array Value} {s : State} {m : MethodId} {meth : Method} {c : Code} (h1 : s.methodNamed? y = some m) (h2 : s.vm.method? m = some meth) (h3 : meth.code = some c) (h4 : c.code = bytes)
    (h5 : (c.maxLocals == mx && c.exceptionTable.isEmpty && decide (c.maxStack ≤ mostOperands) && decide (meth.sig.returnType = rt) && !meth.locks && decide (parseMethodDescriptor y.desc = some meth.sig)) = true) : (Jvm.Cond.code y bytes mx rt).before a s = true := by
  simp only [Bool.and_eq_true, beq_iff_eq, Bool.not_eq_true', decide_eq_true_eq] at h5
  obtain ⟨⟨⟨⟨⟨g1, g2⟩, g3⟩, g4⟩, g5⟩, g6⟩ := h5
  simp [Cond.before, Cond.holds, Cond.value, h1, h2, h3, h4, g1, g2, g3, g4, g5, g6]
def isCode : Jvm.Cond → Bool
  | .code _ _ _ _ => true
  | _ => false
theorem all_split {L : List Jvm.Cond} {P : Jvm.Cond → Bool} (h1 : L.all (fun c => isCode c || P c) = true) (h2 : ∀ c ∈ L.filter isCode, P c = true) : L.all P = true := by
  refine List.all_eq_true.mpr fun c hc => ?_
  have h := List.all_eq_true.mp h1 c hc
  rcases Bool.eq_false_or_eq_true (isCode c) with hi | hi
  · exact h2 c (List.mem_filter.mpr ⟨hc, hi⟩)
  · simpa [hi] using h
set_option maxRecDepth 65536 in
theorem w_c0 : (Jvm.Cond.code x code maxLocals ret).before args0 about1 = true := code_word (m := ⟨1, 1⟩) (meth := k1m1) (c := k1c1) (by decide +kernel) rfl rfl rfl (by decide +kernel)
set_option maxRecDepth 65536 in
theorem w_c1 : (Jvm.Cond.code ({ cls := "com/example/tileburgh/tileburgh/model/ConstructionKind", name := "takesRenter", desc := "()Z" } : Jvm.MethodName) prog_14_method_6_code (1 : Nat) (Option.some Jvm.ClassFile.FieldType.boolean)).before args0 about1 = true := code_word (m := ⟨6, 0⟩) (meth := k6m0) (c := k6c0) (by decide +kernel) rfl rfl rfl (by decide +kernel)
set_option maxRecDepth 65536 in
theorem w_c2 : (Jvm.Cond.code ({ cls := "com/example/tileburgh/tileburgh/model/ConstructionKind", name := "isPark", desc := "()Z" } : Jvm.MethodName) prog_14_method_7_code (1 : Nat) (Option.some Jvm.ClassFile.FieldType.boolean)).before args0 about1 = true := code_word (m := ⟨6, 1⟩) (meth := k6m1) (c := k6c1) (by decide +kernel) rfl rfl rfl (by decide +kernel)
def codes1 : List Jvm.Cond := [Jvm.Cond.code x code maxLocals ret, Jvm.Cond.code ({ cls := "com/example/tileburgh/tileburgh/model/ConstructionKind", name := "takesRenter", desc := "()Z" } : Jvm.MethodName) prog_14_method_6_code (1 : Nat) (Option.some Jvm.ClassFile.FieldType.boolean), Jvm.Cond.code ({ cls := "com/example/tileburgh/tileburgh/model/ConstructionKind", name := "isPark", desc := "()Z" } : Jvm.MethodName) prog_14_method_7_code (1 : Nat) (Option.some Jvm.ClassFile.FieldType.boolean)]
set_option maxRecDepth 65536 in
theorem codes_eq : words1.filter isCode = codes1 := rfl
theorem w_codes : ∀ c ∈ words1.filter isCode, c.before args0 about1 = true := by
  rw [codes_eq]
  intro c hc
  simp only [codes1, List.mem_cons, List.not_mem_nil, or_false] at hc
  rcases hc with rfl | rfl | rfl
  · exact w_c0
  · exact w_c1
  · exact w_c2
set_option maxRecDepth 65536 in
theorem w_t1 : (words1.take 24).all (fun c => isCode c || c.before args0 about1) = true := by decide +kernel
set_option maxRecDepth 65536 in
theorem w_t2 : (words1.drop 24).all (fun c => isCode c || c.before args0 about1) = true := by decide +kernel
theorem w_tables : (allAtoms (Jvm.Cond.code x code maxLocals ret :: tables_1)).before args0 about1 = true := by
  rw [allAtoms_all]
  show words1.all (fun c => c.before args0 about1) = true
  refine all_split ?_ w_codes
  rw [← List.take_append_drop 24 words1, List.all_append, w_t1, w_t2]
  rfl
set_option maxRecDepth 65536 in
theorem w_case : (Jvm.Cond.and given_1 narrow_1).before args0 about1 = true := by decide +kernel
theorem w_applies : (headSpec (Jvm.Cond.code x code maxLocals ret :: tables_1) room_1).applies x e0.platform about1 = true :=
  (Spec.applies_iff w_frames).mpr ⟨w_running, w_runnable, w_alone, w_named, w_hears, w_ripe, w_room, w_tables⟩
theorem atStart : AtStart classFile x code maxLocals ret World_1 tables_1 room_1 Calls_1 rest_1 Pre_1 launch0 p0 e0 about1 theMethod args0 below0 :=
  ⟨lists_1, trivial, launch0.admits_env _ _ _, launch0.least_env, fairChoices_fair.cas, fairChoices_fair.clock, w_frames, w_args, w_heap, w_applies, trivial, trivial, w_case⟩
end start1
theorem witness_1 : WitnessClaimed_1 := ⟨start1.p0, start1.e0, start1.about1, start1.theMethod, start1.args0, start1.below0, start1.atStart⟩
end Jvm.Pilot.@@N@@
