import JvmDerived
import JvmDerived.Pilot.@@N@@Statement
import JvmDerived.Pilot.@@N@@Code
set_option linter.unusedVariables false
set_option linter.unusedSimpArgs false
namespace Jvm.Pilot.@@N@@
open Jvm Jvm.ClassFile Sem Op Lib Jvm.Free Jvm.Stand Jvm.LawKit Jvm.RoadKit Bundle Jvm.Pilot.@@N@@.Jvm.D
section OwnKit
variable {p : Program} {l : Launch} {e : Env} {R : Room} {s : State} {m : MethodId} {args : Array Value} {below : List Frame} {meth : Method} {c : Code} {T : State} {locs : List Loc} {cells slots kc ks : Nat} {Q : Option Value → Heap → List Loc → Prop} {A B : State}
/-- the rest of a walk: from the state A the run comes to a return that Q describes -/
def OW (p : Program) (e : Env) (below : List Frame) (s : State) (Q : Option Value → Heap → List Loc → Prop) (kc ks : Nat) (A : State) : Prop :=
  ∃ s₂ o, Steps p.tables e below A s₂ ∧ s₂.status = .running ∧ Ended s₂ below o ∧ ∃ v L, o = .returned v ∧ Q v s₂.heap L ∧ FrameEnd s o s₂ L kc ks
theorem OW.st (h : ∀ t, Steps p.tables e below B t → Steps p.tables e below A t) (k : OW p e below s Q kc ks B) : OW p e below s Q kc ks A := by
  obtain ⟨a, o, h1, h2⟩ := k; exact ⟨a, o, h _ h1, h2⟩
theorem OW.tr (h : Steps p.tables e below A B) (k : OW p e below s Q kc ks B) : OW p e below s Q kc ks A := by
  obtain ⟨a, o, h1, h2⟩ := k; exact ⟨a, o, h.trans h1, h2⟩
theorem OW.ret (X : Stand p l e R s m args below meth c T locs cells slots) (hx : p.tables.exec = Jvm.exec) (hlk : meth.locks = false) {pc : Nat} {Ls : Array Slot} {w : Value} {t : FieldType} {i : Instr} {rest : List Value} (hret : meth.sig.returnType = some t) (hn : narrow t w = w)
    (hi : (i = .ireturn ∧ (t = .int ∨ t = .boolean ∨ t = .byte ∨ t = .char ∨ t = .short) ∧ ∃ z, w = .int z) ∨ (i = .lreturn ∧ t = .long ∧ ∃ z, w = .long z) ∨ (i = .dreturn ∧ t = .double ∧ ∃ z, w = .double z) ∨ (i = .freturn ∧ t = .float ∧ ∃ z, w = .float z) ∨ (i = .areturn ∧ t.isReference = true ∧ w.isRef = true))
    (hd : decode c.code pc = .ok (i, 1)) {h : Heap} (eT : T.heap = h) (hc : cells ≤ kc) (hs : slots ≤ ks) (q : Q (some w) h locs) : OW p e below s Q kc ks (T.setTop (mkF m pc Ls (w :: rest))) := by
  obtain ⟨fs, hr, hrun, hended, hW, hsame⟩ := X.leave (v := some w) (fun h => by rw [hret] at h; cases h) hlk
  subst eT
  exact ⟨_, _, retOut X hx hret hn hi hd hr, hrun, hended, _, _, rfl, q, ⟨_, rfl⟩, hW, hsame.mono hc hs⟩
theorem OW.retV (X : Stand p l e R s m args below meth c T locs cells slots) (hx : p.tables.exec = Jvm.exec) (hlk : meth.locks = false) {pc : Nat} {Ls : Array Slot} (hret : meth.sig.returnType = none)
    (hd : decode c.code pc = .ok (.return_, 1)) {h : Heap} (eT : T.heap = h) (hc : cells ≤ kc) (hs : slots ≤ ks) (q : Q none h locs) : OW p e below s Q kc ks (T.setTop (mkF m pc Ls [])) := by
  obtain ⟨fs, hr, hrun, hended, hW, hsame⟩ := X.leave (v := none) (fun _ => rfl) hlk
  subst eT
  exact ⟨_, _, X.returnOut hx hret hd hr, hrun, hended, _, _, rfl, q, ⟨_, rfl⟩, hW, hsame.mono hc hs⟩
/-- the same for a walk that may intern: its Stand is over 's.setVm vm0' -/
def OWW (p : Program) (e : Env) (below : List Frame) (s : State) (Q : Option Value → Heap → List Loc → Prop) (kc ks : Nat) (A : State) : Prop :=
  ∃ s₂ o, Steps p.tables e below A s₂ ∧ s₂.status = .running ∧ Ended s₂ below o ∧ ∃ v L, o = .returned v ∧ Q v s₂.heap L ∧ ReturnedEndW s o s₂ L kc ks
theorem OWW.st (h : ∀ t, Steps p.tables e below B t → Steps p.tables e below A t) (k : OWW p e below s Q kc ks B) : OWW p e below s Q kc ks A := by
  obtain ⟨a, o, h1, h2⟩ := k; exact ⟨a, o, h _ h1, h2⟩
theorem OWW.tr (h : Steps p.tables e below A B) (k : OWW p e below s Q kc ks B) : OWW p e below s Q kc ks A := by
  obtain ⟨a, o, h1, h2⟩ := k; exact ⟨a, o, h.trans h1, h2⟩
theorem OWW.ret {vm0 : Vm} {k0 : Nat} (X : Stand p l e R (s.setVm vm0) m args below meth c T locs cells slots) {h : Heap} (hS : s.Since vm0 k0) (hk : k0 ≤ h.size) (hx : p.tables.exec = Jvm.exec) (hlk : meth.locks = false) {pc : Nat} {Ls : Array Slot} {w : Value} {t : FieldType} {i : Instr} {rest : List Value} (hret : meth.sig.returnType = some t) (hn : narrow t w = w)
    (hi : (i = .ireturn ∧ (t = .int ∨ t = .boolean ∨ t = .byte ∨ t = .char ∨ t = .short) ∧ ∃ z, w = .int z) ∨ (i = .lreturn ∧ t = .long ∧ ∃ z, w = .long z) ∨ (i = .dreturn ∧ t = .double ∧ ∃ z, w = .double z) ∨ (i = .freturn ∧ t = .float ∧ ∃ z, w = .float z) ∨ (i = .areturn ∧ t.isReference = true ∧ w.isRef = true))
    (hd : decode c.code pc = .ok (i, 1)) (eT : T.heap = h) (hc : cells ≤ kc) (hs : slots ≤ ks) (q : Q (some w) h locs) : OWW p e below s Q kc ks (T.setTop (mkF m pc Ls (w :: rest))) := by
  obtain ⟨fs, hr, hrun, hended, hW, hsame⟩ := X.leave (v := some w) (fun h => by rw [hret] at h; cases h) hlk
  subst eT
  obtain ⟨g1, g2, g3⟩ := hS.ended (U := T.setFrames fs) hW hk hsame
  exact ⟨_, _, retOut X hx hret hn hi hd hr, hrun, hended, _, _, rfl, q, ⟨_, rfl⟩, g1, g2, g3.mono hc hs⟩
theorem OWW.retV {vm0 : Vm} {k0 : Nat} (X : Stand p l e R (s.setVm vm0) m args below meth c T locs cells slots) {h : Heap} (hS : s.Since vm0 k0) (hk : k0 ≤ h.size) (hx : p.tables.exec = Jvm.exec) (hlk : meth.locks = false) {pc : Nat} {Ls : Array Slot} (hret : meth.sig.returnType = none)
    (hd : decode c.code pc = .ok (.return_, 1)) (eT : T.heap = h) (hc : cells ≤ kc) (hs : slots ≤ ks) (q : Q none h locs) : OWW p e below s Q kc ks (T.setTop (mkF m pc Ls [])) := by
  obtain ⟨fs, hr, hrun, hended, hW, hsame⟩ := X.leave (v := none) (fun _ => rfl) hlk
  subst eT
  obtain ⟨g1, g2, g3⟩ := hS.ended (U := T.setFrames fs) hW hk hsame
  exact ⟨_, _, X.returnOut hx hret hd hr, hrun, hended, _, _, rfl, q, ⟨_, rfl⟩, g1, g2, g3.mono hc hs⟩
end OwnKit
section OwnWords
variable {args : Array Value} {first s : State} {o : Option Outcome} {idx : List Nat} {t : Term}
theorem own_eq_int {k : Int32} (h : (Jvm.Cond.eq t (.int k)).value args first o s idx = some true) : t.eval args first o idx s = some (.int k) := by
  obtain ⟨x, y, h1, h2, k1, k2⟩ := cmp_v (Or.inl h)
  rw [Term.int_eval] at h2
  cases h2
  obtain ⟨z, rfl⟩ := k2
  rw [h1, gotT (Cond.eq_ints h1 (Term.int_eval k)) h]
theorem own_eq_ref {u : Term} {a : Addr} (h : (Jvm.Cond.eq t u).value args first o s idx = some true) (hu : u.eval args first o idx s = some (.ref a)) : t.eval args first o idx s = some (.ref a) := by
  obtain ⟨x, y, h1, h2, k1, k2⟩ := cmp_v (Or.inl h)
  cases hu.symm.trans h2
  have q := gotT (eq_R h1 hu k2.2 rfl) h
  rw [h1, q]
theorem own_arr {ty : FieldType} {a : Addr} {z : Int32} (ev : t.eval args s none [] s = some (.ref a)) (ha : (Jvm.Cond.arrayOf t ty).value args s none s [] = some true) (hl : (Term.length t).eval args s none [] s = some (.int z)) :
    ∃ cl : Cell, Arr s s.heap a cl ty ∧ cl.slots.size < 2 ^ 31 ∧ cl.slots.size.toInt32 = z ∧ ∀ j : Int32, ¬ j < 0 → ∀ v, (Term.elem t (.int j)).eval args s none [] s = some v → cl.slots[j.toNatClampNeg]? = some v := by
  obtain ⟨cl, A⟩ := Arr.start ev ha
  have hat := A.fin (Vm.Alike.refl _)
  have hlt : cl.slots.size < 2 ^ 31 := by
    refine Decidable.byContradiction fun q => ?_
    simp [Term.eval, ev, hat, q] at hl
  refine ⟨cl, A, hlt, ?_, fun j hj v hv => ?_⟩
  · rw [len_f ev hat hlt] at hl; exact Value.int.inj (Option.some.inj hl)
  · rw [elem_f ev (Term.int_eval j) hat hj] at hv; exact hv
end OwnWords
theorem own_oldle {Z : State} {n0 : Nat} {h : Heap} (X : Old Z n0 h) : n0 ≤ h.size := X.1 ▸ X.2.1
theorem own_cat {v : Value} (h : v.isRef = true) : v.category = 1 := by cases v <;> first | rfl | simp [Value.isRef] at h
theorem own_nar {v : Value} {t : FieldType} (h : v.isRef = true) (ht : t.isReference = true) : narrow t v = v := by cases t <;> first | (cases ht; done) | (cases v <;> first | rfl | simp [Value.isRef] at h)
theorem own_fit {v : Value} {t : FieldType} (h : v.isRef = true) (ht : t.isReference = true) : fits t v = true := by cases t <;> first | (cases ht; done) | (cases v <;> first | rfl | simp [Value.isRef] at h)

theorem own_nz {r : Int32} (h : r = 0 ∨ r = 1) : narrow .boolean (.int r) = .int r := by rcases h with rfl | rfl <;> rfl
theorem own_fz {r : Int32} (h : r = 0 ∨ r = 1) : fits .boolean (.int r) = true := by rcases h with rfl | rfl <;> rfl
theorem w_0 {a0 : Array Value} {Z : State} (hw : ∀ d ∈ tables_1, d.before a0 Z = true) : (Jvm.Cond.constant "com/example/demarcate/demarcate/TransactionDefinitionWithReadOnlyPinLaw" (49 : Nat) (2147483647 : Int32)).before a0 Z = true := hw _ (List.mem_of_getElem? (i := 0) rfl)
theorem w_1 {a0 : Array Value} {Z : State} (hw : ∀ d ∈ tables_1, d.before a0 Z = true) : (Jvm.Cond.methodLink "com/example/demarcate/demarcate/TransactionDefinitionWithReadOnlyPinLaw" (50 : Nat) ({ cls := "com/example/demarcate/demarcate/TransactionDefinitionWithReadOnlyPinLaw", name := "prop", desc := "(I)Lcom/example/demarcate/demarcate/Propagation;" } : Jvm.MethodName)).before a0 Z = true := hw _ (List.mem_of_getElem? (i := 1) rfl)
theorem w_2 {a0 : Array Value} {Z : State} (hw : ∀ d ∈ tables_1, d.before a0 Z = true) : (Jvm.Cond.static ({ cls := "com/example/demarcate/demarcate/TransactionDefinitionWithReadOnlyPinLaw", name := "prop", desc := "(I)Lcom/example/demarcate/demarcate/Propagation;" } : Jvm.MethodName)).before a0 Z = true := hw _ (List.mem_of_getElem? (i := 2) rfl)
theorem w_3 {a0 : Array Value} {Z : State} (hw : ∀ d ∈ tables_1, d.before a0 Z = true) : (Jvm.Cond.initialized "com/example/demarcate/demarcate/TransactionDefinitionWithReadOnlyPinLaw").before a0 Z = true := hw _ (List.mem_of_getElem? (i := 3) rfl)
theorem w_4 {a0 : Array Value} {Z : State} (hw : ∀ d ∈ tables_1, d.before a0 Z = true) : (Jvm.Cond.code ({ cls := "com/example/demarcate/demarcate/TransactionDefinitionWithReadOnlyPinLaw", name := "prop", desc := "(I)Lcom/example/demarcate/demarcate/Propagation;" } : Jvm.MethodName) method_2_code (1 : Nat) (Option.some (Jvm.ClassFile.FieldType.object "com/example/demarcate/demarcate/Propagation"))).before a0 Z = true := hw _ (List.mem_of_getElem? (i := 4) rfl)
theorem w_5 {a0 : Array Value} {Z : State} (hw : ∀ d ∈ tables_1, d.before a0 Z = true) : (Jvm.Cond.fieldLink "com/example/demarcate/demarcate/TransactionDefinitionWithReadOnlyPinLaw" (7 : Nat) "com/example/demarcate/demarcate/Propagation" "REQUIRED" "Lcom/example/demarcate/demarcate/Propagation;").before a0 Z = true := hw _ (List.mem_of_getElem? (i := 5) rfl)
theorem w_6 {a0 : Array Value} {Z : State} (hw : ∀ d ∈ tables_1, d.before a0 Z = true) : (Jvm.Cond.initialized "com/example/demarcate/demarcate/Propagation").before a0 Z = true := hw _ (List.mem_of_getElem? (i := 6) rfl)
theorem w_7 {a0 : Array Value} {Z : State} (hw : ∀ d ∈ tables_1, d.before a0 Z = true) : (Jvm.Cond.laysStatic "com/example/demarcate/demarcate/Propagation" "REQUIRED" "Lcom/example/demarcate/demarcate/Propagation;").before a0 Z = true := hw _ (List.mem_of_getElem? (i := 7) rfl)
theorem w_8 {a0 : Array Value} {Z : State} (hw : ∀ d ∈ tables_1, d.before a0 Z = true) : (Jvm.Cond.methodLink "com/example/demarcate/demarcate/TransactionDefinitionWithReadOnlyPinLaw" (56 : Nat) ({ cls := "com/example/demarcate/demarcate/TransactionDefinitionWithReadOnlyPinLaw", name := "iso", desc := "(I)Lcom/example/demarcate/demarcate/Isolation;" } : Jvm.MethodName)).before a0 Z = true := hw _ (List.mem_of_getElem? (i := 8) rfl)
theorem w_9 {a0 : Array Value} {Z : State} (hw : ∀ d ∈ tables_1, d.before a0 Z = true) : (Jvm.Cond.static ({ cls := "com/example/demarcate/demarcate/TransactionDefinitionWithReadOnlyPinLaw", name := "iso", desc := "(I)Lcom/example/demarcate/demarcate/Isolation;" } : Jvm.MethodName)).before a0 Z = true := hw _ (List.mem_of_getElem? (i := 9) rfl)
theorem w_10 {a0 : Array Value} {Z : State} (hw : ∀ d ∈ tables_1, d.before a0 Z = true) : (Jvm.Cond.code ({ cls := "com/example/demarcate/demarcate/TransactionDefinitionWithReadOnlyPinLaw", name := "iso", desc := "(I)Lcom/example/demarcate/demarcate/Isolation;" } : Jvm.MethodName) method_3_code (1 : Nat) (Option.some (Jvm.ClassFile.FieldType.object "com/example/demarcate/demarcate/Isolation"))).before a0 Z = true := hw _ (List.mem_of_getElem? (i := 10) rfl)
theorem w_11 {a0 : Array Value} {Z : State} (hw : ∀ d ∈ tables_1, d.before a0 Z = true) : (Jvm.Cond.fieldLink "com/example/demarcate/demarcate/TransactionDefinitionWithReadOnlyPinLaw" (43 : Nat) "com/example/demarcate/demarcate/Isolation" "REPEATABLE_READ" "Lcom/example/demarcate/demarcate/Isolation;").before a0 Z = true := hw _ (List.mem_of_getElem? (i := 11) rfl)
theorem w_12 {a0 : Array Value} {Z : State} (hw : ∀ d ∈ tables_1, d.before a0 Z = true) : (Jvm.Cond.initialized "com/example/demarcate/demarcate/Isolation").before a0 Z = true := hw _ (List.mem_of_getElem? (i := 12) rfl)
theorem w_13 {a0 : Array Value} {Z : State} (hw : ∀ d ∈ tables_1, d.before a0 Z = true) : (Jvm.Cond.laysStatic "com/example/demarcate/demarcate/Isolation" "REPEATABLE_READ" "Lcom/example/demarcate/demarcate/Isolation;").before a0 Z = true := hw _ (List.mem_of_getElem? (i := 13) rfl)
theorem w_14 {a0 : Array Value} {Z : State} (hw : ∀ d ∈ tables_1, d.before a0 Z = true) : (Jvm.Cond.classLink "com/example/demarcate/demarcate/TransactionDefinitionWithReadOnlyPinLaw" (60 : Nat) "com/example/demarcate/demarcate/TransactionDefinition").before a0 Z = true := hw _ (List.mem_of_getElem? (i := 14) rfl)
theorem w_15 {a0 : Array Value} {Z : State} (hw : ∀ d ∈ tables_1, d.before a0 Z = true) : (Jvm.Cond.instantiable "com/example/demarcate/demarcate/TransactionDefinition" (4 : Nat)).before a0 Z = true := hw _ (List.mem_of_getElem? (i := 15) rfl)
theorem w_16 {a0 : Array Value} {Z : State} (hw : ∀ d ∈ tables_1, d.before a0 Z = true) : (Jvm.Cond.initialized "com/example/demarcate/demarcate/TransactionDefinition").before a0 Z = true := hw _ (List.mem_of_getElem? (i := 16) rfl)
theorem w_17 {a0 : Array Value} {Z : State} (hw : ∀ d ∈ tables_1, d.before a0 Z = true) : (Jvm.Cond.methodLink "com/example/demarcate/demarcate/TransactionDefinitionWithReadOnlyPinLaw" (62 : Nat) ({ cls := "com/example/demarcate/demarcate/TransactionDefinition", name := "<init>", desc := "()V" } : Jvm.MethodName)).before a0 Z = true := hw _ (List.mem_of_getElem? (i := 17) rfl)
theorem w_18 {a0 : Array Value} {Z : State} (hw : ∀ d ∈ tables_1, d.before a0 Z = true) : (Jvm.Cond.instanceMethod ({ cls := "com/example/demarcate/demarcate/TransactionDefinition", name := "<init>", desc := "()V" } : Jvm.MethodName)).before a0 Z = true := hw _ (List.mem_of_getElem? (i := 18) rfl)
theorem w_19 {a0 : Array Value} {Z : State} (hw : ∀ d ∈ tables_1, d.before a0 Z = true) : (Jvm.Cond.code ({ cls := "com/example/demarcate/demarcate/TransactionDefinition", name := "<init>", desc := "()V" } : Jvm.MethodName) prog_19_method_1_code (1 : Nat) (Option.none : Option Jvm.ClassFile.FieldType)).before a0 Z = true := hw _ (List.mem_of_getElem? (i := 19) rfl)
theorem w_20 {a0 : Array Value} {Z : State} (hw : ∀ d ∈ tables_1, d.before a0 Z = true) : (Jvm.Cond.fieldLink "com/example/demarcate/demarcate/TransactionDefinition" (1 : Nat) "com/example/demarcate/demarcate/Propagation" "REQUIRED" "Lcom/example/demarcate/demarcate/Propagation;").before a0 Z = true := hw _ (List.mem_of_getElem? (i := 20) rfl)
theorem w_21 {a0 : Array Value} {Z : State} (hw : ∀ d ∈ tables_1, d.before a0 Z = true) : (Jvm.Cond.fieldLink "com/example/demarcate/demarcate/TransactionDefinition" (7 : Nat) "com/example/demarcate/demarcate/Isolation" "DEFAULT" "Lcom/example/demarcate/demarcate/Isolation;").before a0 Z = true := hw _ (List.mem_of_getElem? (i := 21) rfl)
theorem w_22 {a0 : Array Value} {Z : State} (hw : ∀ d ∈ tables_1, d.before a0 Z = true) : (Jvm.Cond.laysStatic "com/example/demarcate/demarcate/Isolation" "DEFAULT" "Lcom/example/demarcate/demarcate/Isolation;").before a0 Z = true := hw _ (List.mem_of_getElem? (i := 22) rfl)
theorem w_23 {a0 : Array Value} {Z : State} (hw : ∀ d ∈ tables_1, d.before a0 Z = true) : (Jvm.Cond.methodLink "com/example/demarcate/demarcate/TransactionDefinition" (13 : Nat) ({ cls := "java/util/OptionalInt", name := "empty", desc := "()Ljava/util/OptionalInt;" } : Jvm.MethodName)).before a0 Z = true := hw _ (List.mem_of_getElem? (i := 23) rfl)
theorem w_24 {a0 : Array Value} {Z : State} (hw : ∀ d ∈ tables_1, d.before a0 Z = true) : (Jvm.Cond.static ({ cls := "java/util/OptionalInt", name := "empty", desc := "()Ljava/util/OptionalInt;" } : Jvm.MethodName)).before a0 Z = true := hw _ (List.mem_of_getElem? (i := 24) rfl)
theorem w_25 {a0 : Array Value} {Z : State} (hw : ∀ d ∈ tables_1, d.before a0 Z = true) : (Jvm.Cond.initialized "java/util/OptionalInt").before a0 Z = true := hw _ (List.mem_of_getElem? (i := 25) rfl)
theorem w_26 {a0 : Array Value} {Z : State} (hw : ∀ d ∈ tables_1, d.before a0 Z = true) : (Jvm.Cond.code ({ cls := "java/util/OptionalInt", name := "empty", desc := "()Ljava/util/OptionalInt;" } : Jvm.MethodName) jdk_2649_method_2_code (0 : Nat) (Option.some (Jvm.ClassFile.FieldType.object "java/util/OptionalInt"))).before a0 Z = true := hw _ (List.mem_of_getElem? (i := 26) rfl)
theorem w_27 {a0 : Array Value} {Z : State} (hw : ∀ d ∈ tables_1, d.before a0 Z = true) : (Jvm.Cond.fieldLink "java/util/OptionalInt" (17 : Nat) "java/util/OptionalInt" "EMPTY" "Ljava/util/OptionalInt;").before a0 Z = true := hw _ (List.mem_of_getElem? (i := 27) rfl)
theorem w_28 {a0 : Array Value} {Z : State} (hw : ∀ d ∈ tables_1, d.before a0 Z = true) : (Jvm.Cond.methodLink "com/example/demarcate/demarcate/TransactionDefinition" (19 : Nat) ({ cls := "com/example/demarcate/demarcate/TransactionDefinition", name := "<init>", desc := "(Lcom/example/demarcate/demarcate/Propagation;Lcom/example/demarcate/demarcate/Isolation;ZLjava/util/OptionalInt;)V" } : Jvm.MethodName)).before a0 Z = true := hw _ (List.mem_of_getElem? (i := 28) rfl)
theorem w_29 {a0 : Array Value} {Z : State} (hw : ∀ d ∈ tables_1, d.before a0 Z = true) : (Jvm.Cond.instanceMethod ({ cls := "com/example/demarcate/demarcate/TransactionDefinition", name := "<init>", desc := "(Lcom/example/demarcate/demarcate/Propagation;Lcom/example/demarcate/demarcate/Isolation;ZLjava/util/OptionalInt;)V" } : Jvm.MethodName)).before a0 Z = true := hw _ (List.mem_of_getElem? (i := 29) rfl)
theorem w_30 {a0 : Array Value} {Z : State} (hw : ∀ d ∈ tables_1, d.before a0 Z = true) : (Jvm.Cond.code ({ cls := "com/example/demarcate/demarcate/TransactionDefinition", name := "<init>", desc := "(Lcom/example/demarcate/demarcate/Propagation;Lcom/example/demarcate/demarcate/Isolation;ZLjava/util/OptionalInt;)V" } : Jvm.MethodName) prog_19_method_2_code (5 : Nat) (Option.none : Option Jvm.ClassFile.FieldType)).before a0 Z = true := hw _ (List.mem_of_getElem? (i := 30) rfl)
theorem w_31 {a0 : Array Value} {Z : State} (hw : ∀ d ∈ tables_1, d.before a0 Z = true) : (Jvm.Cond.methodLink "com/example/demarcate/demarcate/TransactionDefinition" (25 : Nat) ({ cls := "java/lang/Object", name := "<init>", desc := "()V" } : Jvm.MethodName)).before a0 Z = true := hw _ (List.mem_of_getElem? (i := 31) rfl)
theorem w_32 {a0 : Array Value} {Z : State} (hw : ∀ d ∈ tables_1, d.before a0 Z = true) : (Jvm.Cond.instanceMethod ({ cls := "java/lang/Object", name := "<init>", desc := "()V" } : Jvm.MethodName)).before a0 Z = true := hw _ (List.mem_of_getElem? (i := 32) rfl)
theorem w_33 {a0 : Array Value} {Z : State} (hw : ∀ d ∈ tables_1, d.before a0 Z = true) : (Jvm.Cond.code ({ cls := "java/lang/Object", name := "<init>", desc := "()V" } : Jvm.MethodName) object_method_1_code (1 : Nat) (Option.none : Option Jvm.ClassFile.FieldType)).before a0 Z = true := hw _ (List.mem_of_getElem? (i := 33) rfl)
theorem w_34 {a0 : Array Value} {Z : State} (hw : ∀ d ∈ tables_1, d.before a0 Z = true) : (Jvm.Cond.fieldLink "com/example/demarcate/demarcate/TransactionDefinition" (30 : Nat) "com/example/demarcate/demarcate/TransactionDefinition" "propagation" "Lcom/example/demarcate/demarcate/Propagation;").before a0 Z = true := hw _ (List.mem_of_getElem? (i := 34) rfl)
theorem w_35 {a0 : Array Value} {Z : State} (hw : ∀ d ∈ tables_1, d.before a0 Z = true) : (Jvm.Cond.laysFinal "com/example/demarcate/demarcate/TransactionDefinition" "com/example/demarcate/demarcate/TransactionDefinition" "propagation" "Lcom/example/demarcate/demarcate/Propagation;").before a0 Z = true := hw _ (List.mem_of_getElem? (i := 35) rfl)
theorem w_36 {a0 : Array Value} {Z : State} (hw : ∀ d ∈ tables_1, d.before a0 Z = true) : (Jvm.Cond.fieldLink "com/example/demarcate/demarcate/TransactionDefinition" (33 : Nat) "com/example/demarcate/demarcate/TransactionDefinition" "isolation" "Lcom/example/demarcate/demarcate/Isolation;").before a0 Z = true := hw _ (List.mem_of_getElem? (i := 36) rfl)
theorem w_37 {a0 : Array Value} {Z : State} (hw : ∀ d ∈ tables_1, d.before a0 Z = true) : (Jvm.Cond.laysFinal "com/example/demarcate/demarcate/TransactionDefinition" "com/example/demarcate/demarcate/TransactionDefinition" "isolation" "Lcom/example/demarcate/demarcate/Isolation;").before a0 Z = true := hw _ (List.mem_of_getElem? (i := 37) rfl)
theorem w_38 {a0 : Array Value} {Z : State} (hw : ∀ d ∈ tables_1, d.before a0 Z = true) : (Jvm.Cond.fieldLink "com/example/demarcate/demarcate/TransactionDefinition" (36 : Nat) "com/example/demarcate/demarcate/TransactionDefinition" "readOnly" "Z").before a0 Z = true := hw _ (List.mem_of_getElem? (i := 38) rfl)
theorem w_39 {a0 : Array Value} {Z : State} (hw : ∀ d ∈ tables_1, d.before a0 Z = true) : (Jvm.Cond.laysFinal "com/example/demarcate/demarcate/TransactionDefinition" "com/example/demarcate/demarcate/TransactionDefinition" "readOnly" "Z").before a0 Z = true := hw _ (List.mem_of_getElem? (i := 39) rfl)
theorem w_40 {a0 : Array Value} {Z : State} (hw : ∀ d ∈ tables_1, d.before a0 Z = true) : (Jvm.Cond.fieldLink "com/example/demarcate/demarcate/TransactionDefinition" (40 : Nat) "com/example/demarcate/demarcate/TransactionDefinition" "timeout" "Ljava/util/OptionalInt;").before a0 Z = true := hw _ (List.mem_of_getElem? (i := 40) rfl)
theorem w_41 {a0 : Array Value} {Z : State} (hw : ∀ d ∈ tables_1, d.before a0 Z = true) : (Jvm.Cond.laysFinal "com/example/demarcate/demarcate/TransactionDefinition" "com/example/demarcate/demarcate/TransactionDefinition" "timeout" "Ljava/util/OptionalInt;").before a0 Z = true := hw _ (List.mem_of_getElem? (i := 41) rfl)
theorem w_42 {a0 : Array Value} {Z : State} (hw : ∀ d ∈ tables_1, d.before a0 Z = true) : (Jvm.Cond.methodLink "com/example/demarcate/demarcate/TransactionDefinitionWithReadOnlyPinLaw" (63 : Nat) ({ cls := "com/example/demarcate/demarcate/TransactionDefinition", name := "withPropagation", desc := "(Lcom/example/demarcate/demarcate/Propagation;)Lcom/example/demarcate/demarcate/TransactionDefinition;" } : Jvm.MethodName)).before a0 Z = true := hw _ (List.mem_of_getElem? (i := 42) rfl)
theorem w_43 {a0 : Array Value} {Z : State} (hw : ∀ d ∈ tables_1, d.before a0 Z = true) : (Jvm.Cond.declares ({ cls := "com/example/demarcate/demarcate/TransactionDefinition", name := "withPropagation", desc := "(Lcom/example/demarcate/demarcate/Propagation;)Lcom/example/demarcate/demarcate/TransactionDefinition;" } : Jvm.MethodName)).before a0 Z = true := hw _ (List.mem_of_getElem? (i := 43) rfl)
theorem w_44 {a0 : Array Value} {Z : State} (hw : ∀ d ∈ tables_1, d.before a0 Z = true) : (Jvm.Cond.instanceMethod ({ cls := "com/example/demarcate/demarcate/TransactionDefinition", name := "withPropagation", desc := "(Lcom/example/demarcate/demarcate/Propagation;)Lcom/example/demarcate/demarcate/TransactionDefinition;" } : Jvm.MethodName)).before a0 Z = true := hw _ (List.mem_of_getElem? (i := 44) rfl)
theorem w_45 {a0 : Array Value} {Z : State} (hw : ∀ d ∈ tables_1, d.before a0 Z = true) : (Jvm.Cond.selects "com/example/demarcate/demarcate/TransactionDefinition" ({ cls := "com/example/demarcate/demarcate/TransactionDefinition", name := "withPropagation", desc := "(Lcom/example/demarcate/demarcate/Propagation;)Lcom/example/demarcate/demarcate/TransactionDefinition;" } : Jvm.MethodName) ({ cls := "com/example/demarcate/demarcate/TransactionDefinition", name := "withPropagation", desc := "(Lcom/example/demarcate/demarcate/Propagation;)Lcom/example/demarcate/demarcate/TransactionDefinition;" } : Jvm.MethodName)).before a0 Z = true := hw _ (List.mem_of_getElem? (i := 45) rfl)
theorem w_46 {a0 : Array Value} {Z : State} (hw : ∀ d ∈ tables_1, d.before a0 Z = true) : (Jvm.Cond.code ({ cls := "com/example/demarcate/demarcate/TransactionDefinition", name := "withPropagation", desc := "(Lcom/example/demarcate/demarcate/Propagation;)Lcom/example/demarcate/demarcate/TransactionDefinition;" } : Jvm.MethodName) prog_19_method_3_code (2 : Nat) (Option.some (Jvm.ClassFile.FieldType.object "com/example/demarcate/demarcate/TransactionDefinition"))).before a0 Z = true := hw _ (List.mem_of_getElem? (i := 46) rfl)
theorem w_47 {a0 : Array Value} {Z : State} (hw : ∀ d ∈ tables_1, d.before a0 Z = true) : (Jvm.Cond.classLink "com/example/demarcate/demarcate/TransactionDefinition" (20 : Nat) "com/example/demarcate/demarcate/TransactionDefinition").before a0 Z = true := hw _ (List.mem_of_getElem? (i := 47) rfl)
theorem w_48 {a0 : Array Value} {Z : State} (hw : ∀ d ∈ tables_1, d.before a0 Z = true) : (Jvm.Cond.stringLink "com/example/demarcate/demarcate/TransactionDefinition" (44 : Nat) "propagation").before a0 Z = true := hw _ (List.mem_of_getElem? (i := 48) rfl)
theorem w_49 {a0 : Array Value} {Z : State} (hw : ∀ d ∈ tables_1, d.before a0 Z = true) : (Jvm.Cond.initialized "java/lang/String").before a0 Z = true := hw _ (List.mem_of_getElem? (i := 49) rfl)
theorem w_50 {a0 : Array Value} {Z : State} (hw : ∀ d ∈ tables_1, d.before a0 Z = true) : (Jvm.Cond.instantiable "java/lang/String" (4 : Nat)).before a0 Z = true := hw _ (List.mem_of_getElem? (i := 50) rfl)
theorem w_51 {a0 : Array Value} {Z : State} (hw : ∀ d ∈ tables_1, d.before a0 Z = true) : (Jvm.Cond.arrayClass Jvm.ClassFile.FieldType.byte).before a0 Z = true := hw _ (List.mem_of_getElem? (i := 51) rfl)
theorem w_52 {a0 : Array Value} {Z : State} (hw : ∀ d ∈ tables_1, d.before a0 Z = true) : (Jvm.Cond.laysFinal "java/lang/String" "java/lang/String" "value" "[B").before a0 Z = true := hw _ (List.mem_of_getElem? (i := 52) rfl)
theorem w_53 {a0 : Array Value} {Z : State} (hw : ∀ d ∈ tables_1, d.before a0 Z = true) : (Jvm.Cond.laysFinal "java/lang/String" "java/lang/String" "coder" "B").before a0 Z = true := hw _ (List.mem_of_getElem? (i := 53) rfl)
theorem w_54 {a0 : Array Value} {Z : State} (hw : ∀ d ∈ tables_1, d.before a0 Z = true) : (Jvm.Cond.soleField "java/lang/String" "value").before a0 Z = true := hw _ (List.mem_of_getElem? (i := 54) rfl)
theorem w_55 {a0 : Array Value} {Z : State} (hw : ∀ d ∈ tables_1, d.before a0 Z = true) : (Jvm.Cond.soleField "java/lang/String" "coder").before a0 Z = true := hw _ (List.mem_of_getElem? (i := 55) rfl)
theorem w_56 {a0 : Array Value} {Z : State} (hw : ∀ d ∈ tables_1, d.before a0 Z = true) : (Jvm.Cond.methodLink "com/example/demarcate/demarcate/TransactionDefinition" (45 : Nat) ({ cls := "java/util/Objects", name := "requireNonNull", desc := "(Ljava/lang/Object;Ljava/lang/String;)Ljava/lang/Object;" } : Jvm.MethodName)).before a0 Z = true := hw _ (List.mem_of_getElem? (i := 56) rfl)
theorem w_57 {a0 : Array Value} {Z : State} (hw : ∀ d ∈ tables_1, d.before a0 Z = true) : (Jvm.Cond.static ({ cls := "java/util/Objects", name := "requireNonNull", desc := "(Ljava/lang/Object;Ljava/lang/String;)Ljava/lang/Object;" } : Jvm.MethodName)).before a0 Z = true := hw _ (List.mem_of_getElem? (i := 57) rfl)
theorem w_58 {a0 : Array Value} {Z : State} (hw : ∀ d ∈ tables_1, d.before a0 Z = true) : (Jvm.Cond.initialized "java/util/Objects").before a0 Z = true := hw _ (List.mem_of_getElem? (i := 58) rfl)
theorem w_59 {a0 : Array Value} {Z : State} (hw : ∀ d ∈ tables_1, d.before a0 Z = true) : (Jvm.Cond.code ({ cls := "java/util/Objects", name := "requireNonNull", desc := "(Ljava/lang/Object;Ljava/lang/String;)Ljava/lang/Object;" } : Jvm.MethodName) jdk_31_method_11_code (2 : Nat) (Option.some (Jvm.ClassFile.FieldType.object "java/lang/Object"))).before a0 Z = true := hw _ (List.mem_of_getElem? (i := 59) rfl)
theorem w_60 {a0 : Array Value} {Z : State} (hw : ∀ d ∈ tables_1, d.before a0 Z = true) : (Jvm.Cond.classLink "com/example/demarcate/demarcate/TransactionDefinition" (2 : Nat) "com/example/demarcate/demarcate/Propagation").before a0 Z = true := hw _ (List.mem_of_getElem? (i := 60) rfl)
theorem w_62 {a0 : Array Value} {Z : State} (hw : ∀ d ∈ tables_1, d.before a0 Z = true) : (Jvm.Cond.methodLink "com/example/demarcate/demarcate/TransactionDefinitionWithReadOnlyPinLaw" (67 : Nat) ({ cls := "com/example/demarcate/demarcate/TransactionDefinition", name := "withIsolation", desc := "(Lcom/example/demarcate/demarcate/Isolation;)Lcom/example/demarcate/demarcate/TransactionDefinition;" } : Jvm.MethodName)).before a0 Z = true := hw _ (List.mem_of_getElem? (i := 62) rfl)
theorem w_63 {a0 : Array Value} {Z : State} (hw : ∀ d ∈ tables_1, d.before a0 Z = true) : (Jvm.Cond.declares ({ cls := "com/example/demarcate/demarcate/TransactionDefinition", name := "withIsolation", desc := "(Lcom/example/demarcate/demarcate/Isolation;)Lcom/example/demarcate/demarcate/TransactionDefinition;" } : Jvm.MethodName)).before a0 Z = true := hw _ (List.mem_of_getElem? (i := 63) rfl)
theorem w_64 {a0 : Array Value} {Z : State} (hw : ∀ d ∈ tables_1, d.before a0 Z = true) : (Jvm.Cond.instanceMethod ({ cls := "com/example/demarcate/demarcate/TransactionDefinition", name := "withIsolation", desc := "(Lcom/example/demarcate/demarcate/Isolation;)Lcom/example/demarcate/demarcate/TransactionDefinition;" } : Jvm.MethodName)).before a0 Z = true := hw _ (List.mem_of_getElem? (i := 64) rfl)
theorem w_65 {a0 : Array Value} {Z : State} (hw : ∀ d ∈ tables_1, d.before a0 Z = true) : (Jvm.Cond.selects "com/example/demarcate/demarcate/TransactionDefinition" ({ cls := "com/example/demarcate/demarcate/TransactionDefinition", name := "withIsolation", desc := "(Lcom/example/demarcate/demarcate/Isolation;)Lcom/example/demarcate/demarcate/TransactionDefinition;" } : Jvm.MethodName) ({ cls := "com/example/demarcate/demarcate/TransactionDefinition", name := "withIsolation", desc := "(Lcom/example/demarcate/demarcate/Isolation;)Lcom/example/demarcate/demarcate/TransactionDefinition;" } : Jvm.MethodName)).before a0 Z = true := hw _ (List.mem_of_getElem? (i := 65) rfl)
theorem w_66 {a0 : Array Value} {Z : State} (hw : ∀ d ∈ tables_1, d.before a0 Z = true) : (Jvm.Cond.code ({ cls := "com/example/demarcate/demarcate/TransactionDefinition", name := "withIsolation", desc := "(Lcom/example/demarcate/demarcate/Isolation;)Lcom/example/demarcate/demarcate/TransactionDefinition;" } : Jvm.MethodName) prog_19_method_4_code (2 : Nat) (Option.some (Jvm.ClassFile.FieldType.object "com/example/demarcate/demarcate/TransactionDefinition"))).before a0 Z = true := hw _ (List.mem_of_getElem? (i := 66) rfl)
theorem w_67 {a0 : Array Value} {Z : State} (hw : ∀ d ∈ tables_1, d.before a0 Z = true) : (Jvm.Cond.stringLink "com/example/demarcate/demarcate/TransactionDefinition" (51 : Nat) "isolation").before a0 Z = true := hw _ (List.mem_of_getElem? (i := 67) rfl)
theorem w_68 {a0 : Array Value} {Z : State} (hw : ∀ d ∈ tables_1, d.before a0 Z = true) : (Jvm.Cond.classLink "com/example/demarcate/demarcate/TransactionDefinition" (8 : Nat) "com/example/demarcate/demarcate/Isolation").before a0 Z = true := hw _ (List.mem_of_getElem? (i := 68) rfl)
theorem w_70 {a0 : Array Value} {Z : State} (hw : ∀ d ∈ tables_1, d.before a0 Z = true) : (Jvm.Cond.methodLink "com/example/demarcate/demarcate/TransactionDefinitionWithReadOnlyPinLaw" (71 : Nat) ({ cls := "com/example/demarcate/demarcate/TransactionDefinition", name := "withReadOnly", desc := "(Z)Lcom/example/demarcate/demarcate/TransactionDefinition;" } : Jvm.MethodName)).before a0 Z = true := hw _ (List.mem_of_getElem? (i := 70) rfl)
theorem w_71 {a0 : Array Value} {Z : State} (hw : ∀ d ∈ tables_1, d.before a0 Z = true) : (Jvm.Cond.declares ({ cls := "com/example/demarcate/demarcate/TransactionDefinition", name := "withReadOnly", desc := "(Z)Lcom/example/demarcate/demarcate/TransactionDefinition;" } : Jvm.MethodName)).before a0 Z = true := hw _ (List.mem_of_getElem? (i := 71) rfl)
theorem w_72 {a0 : Array Value} {Z : State} (hw : ∀ d ∈ tables_1, d.before a0 Z = true) : (Jvm.Cond.instanceMethod ({ cls := "com/example/demarcate/demarcate/TransactionDefinition", name := "withReadOnly", desc := "(Z)Lcom/example/demarcate/demarcate/TransactionDefinition;" } : Jvm.MethodName)).before a0 Z = true := hw _ (List.mem_of_getElem? (i := 72) rfl)
theorem w_73 {a0 : Array Value} {Z : State} (hw : ∀ d ∈ tables_1, d.before a0 Z = true) : (Jvm.Cond.selects "com/example/demarcate/demarcate/TransactionDefinition" ({ cls := "com/example/demarcate/demarcate/TransactionDefinition", name := "withReadOnly", desc := "(Z)Lcom/example/demarcate/demarcate/TransactionDefinition;" } : Jvm.MethodName) ({ cls := "com/example/demarcate/demarcate/TransactionDefinition", name := "withReadOnly", desc := "(Z)Lcom/example/demarcate/demarcate/TransactionDefinition;" } : Jvm.MethodName)).before a0 Z = true := hw _ (List.mem_of_getElem? (i := 73) rfl)
theorem w_74 {a0 : Array Value} {Z : State} (hw : ∀ d ∈ tables_1, d.before a0 Z = true) : (Jvm.Cond.code ({ cls := "com/example/demarcate/demarcate/TransactionDefinition", name := "withReadOnly", desc := "(Z)Lcom/example/demarcate/demarcate/TransactionDefinition;" } : Jvm.MethodName) prog_19_method_5_code (2 : Nat) (Option.some (Jvm.ClassFile.FieldType.object "com/example/demarcate/demarcate/TransactionDefinition"))).before a0 Z = true := hw _ (List.mem_of_getElem? (i := 74) rfl)
theorem w_75 {a0 : Array Value} {Z : State} (hw : ∀ d ∈ tables_1, d.before a0 Z = true) : (Jvm.Cond.methodLink "com/example/demarcate/demarcate/TransactionDefinitionWithReadOnlyPinLaw" (85 : Nat) ({ cls := "com/example/demarcate/demarcate/TransactionDefinition", name := "isReadOnly", desc := "()Z" } : Jvm.MethodName)).before a0 Z = true := hw _ (List.mem_of_getElem? (i := 75) rfl)
theorem w_76 {a0 : Array Value} {Z : State} (hw : ∀ d ∈ tables_1, d.before a0 Z = true) : (Jvm.Cond.declares ({ cls := "com/example/demarcate/demarcate/TransactionDefinition", name := "isReadOnly", desc := "()Z" } : Jvm.MethodName)).before a0 Z = true := hw _ (List.mem_of_getElem? (i := 76) rfl)
theorem w_77 {a0 : Array Value} {Z : State} (hw : ∀ d ∈ tables_1, d.before a0 Z = true) : (Jvm.Cond.instanceMethod ({ cls := "com/example/demarcate/demarcate/TransactionDefinition", name := "isReadOnly", desc := "()Z" } : Jvm.MethodName)).before a0 Z = true := hw _ (List.mem_of_getElem? (i := 77) rfl)
theorem w_78 {a0 : Array Value} {Z : State} (hw : ∀ d ∈ tables_1, d.before a0 Z = true) : (Jvm.Cond.selects "com/example/demarcate/demarcate/TransactionDefinition" ({ cls := "com/example/demarcate/demarcate/TransactionDefinition", name := "isReadOnly", desc := "()Z" } : Jvm.MethodName) ({ cls := "com/example/demarcate/demarcate/TransactionDefinition", name := "isReadOnly", desc := "()Z" } : Jvm.MethodName)).before a0 Z = true := hw _ (List.mem_of_getElem? (i := 78) rfl)
theorem w_79 {a0 : Array Value} {Z : State} (hw : ∀ d ∈ tables_1, d.before a0 Z = true) : (Jvm.Cond.code ({ cls := "com/example/demarcate/demarcate/TransactionDefinition", name := "isReadOnly", desc := "()Z" } : Jvm.MethodName) prog_19_method_9_code (1 : Nat) (Option.some Jvm.ClassFile.FieldType.boolean)).before a0 Z = true := hw _ (List.mem_of_getElem? (i := 79) rfl)
theorem w_80 {a0 : Array Value} {Z : State} (hw : ∀ d ∈ tables_1, d.before a0 Z = true) : (Jvm.Cond.methodLink "com/example/demarcate/demarcate/TransactionDefinitionWithReadOnlyPinLaw" (89 : Nat) ({ cls := "com/example/demarcate/demarcate/TransactionDefinition", name := "propagation", desc := "()Lcom/example/demarcate/demarcate/Propagation;" } : Jvm.MethodName)).before a0 Z = true := hw _ (List.mem_of_getElem? (i := 80) rfl)
theorem w_81 {a0 : Array Value} {Z : State} (hw : ∀ d ∈ tables_1, d.before a0 Z = true) : (Jvm.Cond.declares ({ cls := "com/example/demarcate/demarcate/TransactionDefinition", name := "propagation", desc := "()Lcom/example/demarcate/demarcate/Propagation;" } : Jvm.MethodName)).before a0 Z = true := hw _ (List.mem_of_getElem? (i := 81) rfl)
theorem w_82 {a0 : Array Value} {Z : State} (hw : ∀ d ∈ tables_1, d.before a0 Z = true) : (Jvm.Cond.instanceMethod ({ cls := "com/example/demarcate/demarcate/TransactionDefinition", name := "propagation", desc := "()Lcom/example/demarcate/demarcate/Propagation;" } : Jvm.MethodName)).before a0 Z = true := hw _ (List.mem_of_getElem? (i := 82) rfl)
theorem w_83 {a0 : Array Value} {Z : State} (hw : ∀ d ∈ tables_1, d.before a0 Z = true) : (Jvm.Cond.selects "com/example/demarcate/demarcate/TransactionDefinition" ({ cls := "com/example/demarcate/demarcate/TransactionDefinition", name := "propagation", desc := "()Lcom/example/demarcate/demarcate/Propagation;" } : Jvm.MethodName) ({ cls := "com/example/demarcate/demarcate/TransactionDefinition", name := "propagation", desc := "()Lcom/example/demarcate/demarcate/Propagation;" } : Jvm.MethodName)).before a0 Z = true := hw _ (List.mem_of_getElem? (i := 83) rfl)
theorem w_84 {a0 : Array Value} {Z : State} (hw : ∀ d ∈ tables_1, d.before a0 Z = true) : (Jvm.Cond.code ({ cls := "com/example/demarcate/demarcate/TransactionDefinition", name := "propagation", desc := "()Lcom/example/demarcate/demarcate/Propagation;" } : Jvm.MethodName) prog_19_method_7_code (1 : Nat) (Option.some (Jvm.ClassFile.FieldType.object "com/example/demarcate/demarcate/Propagation"))).before a0 Z = true := hw _ (List.mem_of_getElem? (i := 84) rfl)
theorem w_85 {a0 : Array Value} {Z : State} (hw : ∀ d ∈ tables_1, d.before a0 Z = true) : (Jvm.Cond.methodLink "com/example/demarcate/demarcate/TransactionDefinitionWithReadOnlyPinLaw" (93 : Nat) ({ cls := "com/example/demarcate/demarcate/TransactionDefinition", name := "isolation", desc := "()Lcom/example/demarcate/demarcate/Isolation;" } : Jvm.MethodName)).before a0 Z = true := hw _ (List.mem_of_getElem? (i := 85) rfl)
theorem w_86 {a0 : Array Value} {Z : State} (hw : ∀ d ∈ tables_1, d.before a0 Z = true) : (Jvm.Cond.declares ({ cls := "com/example/demarcate/demarcate/TransactionDefinition", name := "isolation", desc := "()Lcom/example/demarcate/demarcate/Isolation;" } : Jvm.MethodName)).before a0 Z = true := hw _ (List.mem_of_getElem? (i := 86) rfl)
theorem w_87 {a0 : Array Value} {Z : State} (hw : ∀ d ∈ tables_1, d.before a0 Z = true) : (Jvm.Cond.instanceMethod ({ cls := "com/example/demarcate/demarcate/TransactionDefinition", name := "isolation", desc := "()Lcom/example/demarcate/demarcate/Isolation;" } : Jvm.MethodName)).before a0 Z = true := hw _ (List.mem_of_getElem? (i := 87) rfl)
theorem w_88 {a0 : Array Value} {Z : State} (hw : ∀ d ∈ tables_1, d.before a0 Z = true) : (Jvm.Cond.selects "com/example/demarcate/demarcate/TransactionDefinition" ({ cls := "com/example/demarcate/demarcate/TransactionDefinition", name := "isolation", desc := "()Lcom/example/demarcate/demarcate/Isolation;" } : Jvm.MethodName) ({ cls := "com/example/demarcate/demarcate/TransactionDefinition", name := "isolation", desc := "()Lcom/example/demarcate/demarcate/Isolation;" } : Jvm.MethodName)).before a0 Z = true := hw _ (List.mem_of_getElem? (i := 88) rfl)
theorem w_89 {a0 : Array Value} {Z : State} (hw : ∀ d ∈ tables_1, d.before a0 Z = true) : (Jvm.Cond.code ({ cls := "com/example/demarcate/demarcate/TransactionDefinition", name := "isolation", desc := "()Lcom/example/demarcate/demarcate/Isolation;" } : Jvm.MethodName) prog_19_method_8_code (1 : Nat) (Option.some (Jvm.ClassFile.FieldType.object "com/example/demarcate/demarcate/Isolation"))).before a0 Z = true := hw _ (List.mem_of_getElem? (i := 89) rfl)
theorem w_90 {a0 : Array Value} {Z : State} (hw : ∀ d ∈ tables_1, d.before a0 Z = true) : (Jvm.Cond.methodLink "com/example/demarcate/demarcate/TransactionDefinitionWithReadOnlyPinLaw" (97 : Nat) ({ cls := "com/example/demarcate/demarcate/TransactionDefinition", name := "timeout", desc := "()Ljava/util/OptionalInt;" } : Jvm.MethodName)).before a0 Z = true := hw _ (List.mem_of_getElem? (i := 90) rfl)
theorem w_91 {a0 : Array Value} {Z : State} (hw : ∀ d ∈ tables_1, d.before a0 Z = true) : (Jvm.Cond.declares ({ cls := "com/example/demarcate/demarcate/TransactionDefinition", name := "timeout", desc := "()Ljava/util/OptionalInt;" } : Jvm.MethodName)).before a0 Z = true := hw _ (List.mem_of_getElem? (i := 91) rfl)
theorem w_92 {a0 : Array Value} {Z : State} (hw : ∀ d ∈ tables_1, d.before a0 Z = true) : (Jvm.Cond.instanceMethod ({ cls := "com/example/demarcate/demarcate/TransactionDefinition", name := "timeout", desc := "()Ljava/util/OptionalInt;" } : Jvm.MethodName)).before a0 Z = true := hw _ (List.mem_of_getElem? (i := 92) rfl)
theorem w_93 {a0 : Array Value} {Z : State} (hw : ∀ d ∈ tables_1, d.before a0 Z = true) : (Jvm.Cond.selects "com/example/demarcate/demarcate/TransactionDefinition" ({ cls := "com/example/demarcate/demarcate/TransactionDefinition", name := "timeout", desc := "()Ljava/util/OptionalInt;" } : Jvm.MethodName) ({ cls := "com/example/demarcate/demarcate/TransactionDefinition", name := "timeout", desc := "()Ljava/util/OptionalInt;" } : Jvm.MethodName)).before a0 Z = true := hw _ (List.mem_of_getElem? (i := 93) rfl)
theorem w_94 {a0 : Array Value} {Z : State} (hw : ∀ d ∈ tables_1, d.before a0 Z = true) : (Jvm.Cond.code ({ cls := "com/example/demarcate/demarcate/TransactionDefinition", name := "timeout", desc := "()Ljava/util/OptionalInt;" } : Jvm.MethodName) prog_19_method_10_code (1 : Nat) (Option.some (Jvm.ClassFile.FieldType.object "java/util/OptionalInt"))).before a0 Z = true := hw _ (List.mem_of_getElem? (i := 94) rfl)
theorem w_95 {a0 : Array Value} {Z : State} (hw : ∀ d ∈ tables_1, d.before a0 Z = true) : (Jvm.Cond.fieldLink "com/example/demarcate/demarcate/TransactionDefinitionWithReadOnlyPinLaw" (25 : Nat) "com/example/demarcate/demarcate/Propagation" "NEVER" "Lcom/example/demarcate/demarcate/Propagation;").before a0 Z = true := hw _ (List.mem_of_getElem? (i := 95) rfl)
theorem w_96 {a0 : Array Value} {Z : State} (hw : ∀ d ∈ tables_1, d.before a0 Z = true) : (Jvm.Cond.laysStatic "com/example/demarcate/demarcate/Propagation" "NEVER" "Lcom/example/demarcate/demarcate/Propagation;").before a0 Z = true := hw _ (List.mem_of_getElem? (i := 96) rfl)
theorem w_97 {a0 : Array Value} {Z : State} (hw : ∀ d ∈ tables_1, d.before a0 Z = true) : (Jvm.Cond.fieldLink "com/example/demarcate/demarcate/TransactionDefinitionWithReadOnlyPinLaw" (16 : Nat) "com/example/demarcate/demarcate/Propagation" "MANDATORY" "Lcom/example/demarcate/demarcate/Propagation;").before a0 Z = true := hw _ (List.mem_of_getElem? (i := 97) rfl)
theorem w_98 {a0 : Array Value} {Z : State} (hw : ∀ d ∈ tables_1, d.before a0 Z = true) : (Jvm.Cond.laysStatic "com/example/demarcate/demarcate/Propagation" "MANDATORY" "Lcom/example/demarcate/demarcate/Propagation;").before a0 Z = true := hw _ (List.mem_of_getElem? (i := 98) rfl)
theorem w_99 {a0 : Array Value} {Z : State} (hw : ∀ d ∈ tables_1, d.before a0 Z = true) : (Jvm.Cond.fieldLink "com/example/demarcate/demarcate/TransactionDefinitionWithReadOnlyPinLaw" (46 : Nat) "com/example/demarcate/demarcate/Isolation" "SERIALIZABLE" "Lcom/example/demarcate/demarcate/Isolation;").before a0 Z = true := hw _ (List.mem_of_getElem? (i := 99) rfl)
theorem w_100 {a0 : Array Value} {Z : State} (hw : ∀ d ∈ tables_1, d.before a0 Z = true) : (Jvm.Cond.laysStatic "com/example/demarcate/demarcate/Isolation" "SERIALIZABLE" "Lcom/example/demarcate/demarcate/Isolation;").before a0 Z = true := hw _ (List.mem_of_getElem? (i := 100) rfl)
theorem w_101 {a0 : Array Value} {Z : State} (hw : ∀ d ∈ tables_1, d.before a0 Z = true) : (Jvm.Cond.fieldLink "com/example/demarcate/demarcate/TransactionDefinitionWithReadOnlyPinLaw" (13 : Nat) "com/example/demarcate/demarcate/Propagation" "SUPPORTS" "Lcom/example/demarcate/demarcate/Propagation;").before a0 Z = true := hw _ (List.mem_of_getElem? (i := 101) rfl)
theorem w_102 {a0 : Array Value} {Z : State} (hw : ∀ d ∈ tables_1, d.before a0 Z = true) : (Jvm.Cond.laysStatic "com/example/demarcate/demarcate/Propagation" "SUPPORTS" "Lcom/example/demarcate/demarcate/Propagation;").before a0 Z = true := hw _ (List.mem_of_getElem? (i := 102) rfl)
theorem w_103 {a0 : Array Value} {Z : State} (hw : ∀ d ∈ tables_1, d.before a0 Z = true) : (Jvm.Cond.fieldLink "com/example/demarcate/demarcate/TransactionDefinitionWithReadOnlyPinLaw" (31 : Nat) "com/example/demarcate/demarcate/Isolation" "DEFAULT" "Lcom/example/demarcate/demarcate/Isolation;").before a0 Z = true := hw _ (List.mem_of_getElem? (i := 103) rfl)
theorem w_104 {a0 : Array Value} {Z : State} (hw : ∀ d ∈ tables_1, d.before a0 Z = true) : (Jvm.Cond.methodLink "com/example/demarcate/demarcate/TransactionDefinitionWithReadOnlyPinLaw" (75 : Nat) ({ cls := "java/lang/Math", name := "max", desc := "(II)I" } : Jvm.MethodName)).before a0 Z = true := hw _ (List.mem_of_getElem? (i := 104) rfl)
theorem w_105 {a0 : Array Value} {Z : State} (hw : ∀ d ∈ tables_1, d.before a0 Z = true) : (Jvm.Cond.static ({ cls := "java/lang/Math", name := "max", desc := "(II)I" } : Jvm.MethodName)).before a0 Z = true := hw _ (List.mem_of_getElem? (i := 105) rfl)
theorem w_106 {a0 : Array Value} {Z : State} (hw : ∀ d ∈ tables_1, d.before a0 Z = true) : (Jvm.Cond.initialized "java/lang/Math").before a0 Z = true := hw _ (List.mem_of_getElem? (i := 106) rfl)
theorem w_107 {a0 : Array Value} {Z : State} (hw : ∀ d ∈ tables_1, d.before a0 Z = true) : (Jvm.Cond.code ({ cls := "java/lang/Math", name := "max", desc := "(II)I" } : Jvm.MethodName) jdk_29_method_65_code (2 : Nat) (Option.some Jvm.ClassFile.FieldType.int)).before a0 Z = true := hw _ (List.mem_of_getElem? (i := 107) rfl)
theorem w_108 {a0 : Array Value} {Z : State} (hw : ∀ d ∈ tables_1, d.before a0 Z = true) : (Jvm.Cond.methodLink "com/example/demarcate/demarcate/TransactionDefinitionWithReadOnlyPinLaw" (81 : Nat) ({ cls := "com/example/demarcate/demarcate/TransactionDefinition", name := "withTimeout", desc := "(I)Lcom/example/demarcate/demarcate/TransactionDefinition;" } : Jvm.MethodName)).before a0 Z = true := hw _ (List.mem_of_getElem? (i := 108) rfl)
theorem w_109 {a0 : Array Value} {Z : State} (hw : ∀ d ∈ tables_1, d.before a0 Z = true) : (Jvm.Cond.declares ({ cls := "com/example/demarcate/demarcate/TransactionDefinition", name := "withTimeout", desc := "(I)Lcom/example/demarcate/demarcate/TransactionDefinition;" } : Jvm.MethodName)).before a0 Z = true := hw _ (List.mem_of_getElem? (i := 109) rfl)
theorem w_110 {a0 : Array Value} {Z : State} (hw : ∀ d ∈ tables_1, d.before a0 Z = true) : (Jvm.Cond.instanceMethod ({ cls := "com/example/demarcate/demarcate/TransactionDefinition", name := "withTimeout", desc := "(I)Lcom/example/demarcate/demarcate/TransactionDefinition;" } : Jvm.MethodName)).before a0 Z = true := hw _ (List.mem_of_getElem? (i := 110) rfl)
theorem w_111 {a0 : Array Value} {Z : State} (hw : ∀ d ∈ tables_1, d.before a0 Z = true) : (Jvm.Cond.selects "com/example/demarcate/demarcate/TransactionDefinition" ({ cls := "com/example/demarcate/demarcate/TransactionDefinition", name := "withTimeout", desc := "(I)Lcom/example/demarcate/demarcate/TransactionDefinition;" } : Jvm.MethodName) ({ cls := "com/example/demarcate/demarcate/TransactionDefinition", name := "withTimeout", desc := "(I)Lcom/example/demarcate/demarcate/TransactionDefinition;" } : Jvm.MethodName)).before a0 Z = true := hw _ (List.mem_of_getElem? (i := 111) rfl)
theorem w_112 {a0 : Array Value} {Z : State} (hw : ∀ d ∈ tables_1, d.before a0 Z = true) : (Jvm.Cond.code ({ cls := "com/example/demarcate/demarcate/TransactionDefinition", name := "withTimeout", desc := "(I)Lcom/example/demarcate/demarcate/TransactionDefinition;" } : Jvm.MethodName) prog_19_method_6_code (2 : Nat) (Option.some (Jvm.ClassFile.FieldType.object "com/example/demarcate/demarcate/TransactionDefinition"))).before a0 Z = true := hw _ (List.mem_of_getElem? (i := 112) rfl)
theorem w_113 {a0 : Array Value} {Z : State} (hw : ∀ d ∈ tables_1, d.before a0 Z = true) : (Jvm.Cond.methodLink "com/example/demarcate/demarcate/TransactionDefinition" (61 : Nat) ({ cls := "java/util/OptionalInt", name := "of", desc := "(I)Ljava/util/OptionalInt;" } : Jvm.MethodName)).before a0 Z = true := hw _ (List.mem_of_getElem? (i := 113) rfl)
theorem w_114 {a0 : Array Value} {Z : State} (hw : ∀ d ∈ tables_1, d.before a0 Z = true) : (Jvm.Cond.static ({ cls := "java/util/OptionalInt", name := "of", desc := "(I)Ljava/util/OptionalInt;" } : Jvm.MethodName)).before a0 Z = true := hw _ (List.mem_of_getElem? (i := 114) rfl)
theorem w_115 {a0 : Array Value} {Z : State} (hw : ∀ d ∈ tables_1, d.before a0 Z = true) : (Jvm.Cond.code ({ cls := "java/util/OptionalInt", name := "of", desc := "(I)Ljava/util/OptionalInt;" } : Jvm.MethodName) jdk_2649_method_4_code (1 : Nat) (Option.some (Jvm.ClassFile.FieldType.object "java/util/OptionalInt"))).before a0 Z = true := hw _ (List.mem_of_getElem? (i := 115) rfl)
theorem w_116 {a0 : Array Value} {Z : State} (hw : ∀ d ∈ tables_1, d.before a0 Z = true) : (Jvm.Cond.classLink "java/util/OptionalInt" (8 : Nat) "java/util/OptionalInt").before a0 Z = true := hw _ (List.mem_of_getElem? (i := 116) rfl)
theorem w_117 {a0 : Array Value} {Z : State} (hw : ∀ d ∈ tables_1, d.before a0 Z = true) : (Jvm.Cond.instantiable "java/util/OptionalInt" (2 : Nat)).before a0 Z = true := hw _ (List.mem_of_getElem? (i := 117) rfl)
theorem w_118 {a0 : Array Value} {Z : State} (hw : ∀ d ∈ tables_1, d.before a0 Z = true) : (Jvm.Cond.methodLink "java/util/OptionalInt" (21 : Nat) ({ cls := "java/util/OptionalInt", name := "<init>", desc := "(I)V" } : Jvm.MethodName)).before a0 Z = true := hw _ (List.mem_of_getElem? (i := 118) rfl)
theorem w_119 {a0 : Array Value} {Z : State} (hw : ∀ d ∈ tables_1, d.before a0 Z = true) : (Jvm.Cond.instanceMethod ({ cls := "java/util/OptionalInt", name := "<init>", desc := "(I)V" } : Jvm.MethodName)).before a0 Z = true := hw _ (List.mem_of_getElem? (i := 119) rfl)
theorem w_121 {a0 : Array Value} {Z : State} (hw : ∀ d ∈ tables_1, d.before a0 Z = true) : (Jvm.Cond.code ({ cls := "java/util/OptionalInt", name := "<init>", desc := "(I)V" } : Jvm.MethodName) jdk_2649_method_3_code (2 : Nat) (Option.none : Option Jvm.ClassFile.FieldType)).before a0 Z = true := hw _ (List.mem_of_getElem? (i := 121) rfl)
theorem w_122 {a0 : Array Value} {Z : State} (hw : ∀ d ∈ tables_1, d.before a0 Z = true) : (Jvm.Cond.methodLink "java/util/OptionalInt" (1 : Nat) ({ cls := "java/lang/Object", name := "<init>", desc := "()V" } : Jvm.MethodName)).before a0 Z = true := hw _ (List.mem_of_getElem? (i := 122) rfl)
theorem w_123 {a0 : Array Value} {Z : State} (hw : ∀ d ∈ tables_1, d.before a0 Z = true) : (Jvm.Cond.fieldLink "java/util/OptionalInt" (7 : Nat) "java/util/OptionalInt" "isPresent" "Z").before a0 Z = true := hw _ (List.mem_of_getElem? (i := 123) rfl)
theorem w_124 {a0 : Array Value} {Z : State} (hw : ∀ d ∈ tables_1, d.before a0 Z = true) : (Jvm.Cond.laysFinal "java/util/OptionalInt" "java/util/OptionalInt" "isPresent" "Z").before a0 Z = true := hw _ (List.mem_of_getElem? (i := 124) rfl)
theorem w_125 {a0 : Array Value} {Z : State} (hw : ∀ d ∈ tables_1, d.before a0 Z = true) : (Jvm.Cond.fieldLink "java/util/OptionalInt" (13 : Nat) "java/util/OptionalInt" "value" "I").before a0 Z = true := hw _ (List.mem_of_getElem? (i := 125) rfl)
theorem w_126 {a0 : Array Value} {Z : State} (hw : ∀ d ∈ tables_1, d.before a0 Z = true) : (Jvm.Cond.laysFinal "java/util/OptionalInt" "java/util/OptionalInt" "value" "I").before a0 Z = true := hw _ (List.mem_of_getElem? (i := 126) rfl)
theorem w_127 {a0 : Array Value} {Z : State} (hw : ∀ d ∈ tables_1, d.before a0 Z = true) : (Jvm.Cond.fieldLink "com/example/demarcate/demarcate/TransactionDefinitionWithReadOnlyPinLaw" (19 : Nat) "com/example/demarcate/demarcate/Propagation" "REQUIRES_NEW" "Lcom/example/demarcate/demarcate/Propagation;").before a0 Z = true := hw _ (List.mem_of_getElem? (i := 127) rfl)
theorem w_128 {a0 : Array Value} {Z : State} (hw : ∀ d ∈ tables_1, d.before a0 Z = true) : (Jvm.Cond.laysStatic "com/example/demarcate/demarcate/Propagation" "REQUIRES_NEW" "Lcom/example/demarcate/demarcate/Propagation;").before a0 Z = true := hw _ (List.mem_of_getElem? (i := 128) rfl)
theorem w_129 {a0 : Array Value} {Z : State} (hw : ∀ d ∈ tables_1, d.before a0 Z = true) : (Jvm.Cond.fieldLink "com/example/demarcate/demarcate/TransactionDefinitionWithReadOnlyPinLaw" (37 : Nat) "com/example/demarcate/demarcate/Isolation" "READ_UNCOMMITTED" "Lcom/example/demarcate/demarcate/Isolation;").before a0 Z = true := hw _ (List.mem_of_getElem? (i := 129) rfl)
theorem w_130 {a0 : Array Value} {Z : State} (hw : ∀ d ∈ tables_1, d.before a0 Z = true) : (Jvm.Cond.laysStatic "com/example/demarcate/demarcate/Isolation" "READ_UNCOMMITTED" "Lcom/example/demarcate/demarcate/Isolation;").before a0 Z = true := hw _ (List.mem_of_getElem? (i := 130) rfl)
theorem w_131 {a0 : Array Value} {Z : State} (hw : ∀ d ∈ tables_1, d.before a0 Z = true) : (Jvm.Cond.fieldLink "com/example/demarcate/demarcate/TransactionDefinitionWithReadOnlyPinLaw" (40 : Nat) "com/example/demarcate/demarcate/Isolation" "READ_COMMITTED" "Lcom/example/demarcate/demarcate/Isolation;").before a0 Z = true := hw _ (List.mem_of_getElem? (i := 131) rfl)
theorem w_132 {a0 : Array Value} {Z : State} (hw : ∀ d ∈ tables_1, d.before a0 Z = true) : (Jvm.Cond.laysStatic "com/example/demarcate/demarcate/Isolation" "READ_COMMITTED" "Lcom/example/demarcate/demarcate/Isolation;").before a0 Z = true := hw _ (List.mem_of_getElem? (i := 132) rfl)
theorem w_133 {a0 : Array Value} {Z : State} (hw : ∀ d ∈ tables_1, d.before a0 Z = true) : (Jvm.Cond.fieldLink "com/example/demarcate/demarcate/TransactionDefinitionWithReadOnlyPinLaw" (22 : Nat) "com/example/demarcate/demarcate/Propagation" "NOT_SUPPORTED" "Lcom/example/demarcate/demarcate/Propagation;").before a0 Z = true := hw _ (List.mem_of_getElem? (i := 133) rfl)
theorem w_134 {a0 : Array Value} {Z : State} (hw : ∀ d ∈ tables_1, d.before a0 Z = true) : (Jvm.Cond.laysStatic "com/example/demarcate/demarcate/Propagation" "NOT_SUPPORTED" "Lcom/example/demarcate/demarcate/Propagation;").before a0 Z = true := hw _ (List.mem_of_getElem? (i := 134) rfl)
theorem w_135 {a0 : Array Value} {Z : State} (hw : ∀ d ∈ tables_1, d.before a0 Z = true) : (Jvm.Cond.fieldLink "com/example/demarcate/demarcate/TransactionDefinitionWithReadOnlyPinLaw" (28 : Nat) "com/example/demarcate/demarcate/Propagation" "NESTED" "Lcom/example/demarcate/demarcate/Propagation;").before a0 Z = true := hw _ (List.mem_of_getElem? (i := 135) rfl)
theorem w_136 {a0 : Array Value} {Z : State} (hw : ∀ d ∈ tables_1, d.before a0 Z = true) : (Jvm.Cond.laysStatic "com/example/demarcate/demarcate/Propagation" "NESTED" "Lcom/example/demarcate/demarcate/Propagation;").before a0 Z = true := hw _ (List.mem_of_getElem? (i := 136) rfl)
theorem d1_0 : decode method_2_code 0 = .ok (.iload_n 0, 1) := by decide +kernel
theorem d1_1 : decode method_2_code 1 = .ok (.ifCond .ne 7, 3) := by decide +kernel
theorem d1_4 : decode method_2_code 4 = .ok (.getstatic 7, 3) := by decide +kernel
theorem d1_7 : decode method_2_code 7 = .ok (.areturn, 1) := by decide +kernel
theorem d1_8 : decode method_2_code 8 = .ok (.iload_n 0, 1) := by decide +kernel
theorem d1_9 : decode method_2_code 9 = .ok (.iconst 1, 1) := by decide +kernel
theorem d1_10 : decode method_2_code 10 = .ok (.if_icmp .ne 7, 3) := by decide +kernel
theorem d1_13 : decode method_2_code 13 = .ok (.getstatic 13, 3) := by decide +kernel
theorem d1_16 : decode method_2_code 16 = .ok (.areturn, 1) := by decide +kernel
theorem d1_17 : decode method_2_code 17 = .ok (.iload_n 0, 1) := by decide +kernel
theorem d1_18 : decode method_2_code 18 = .ok (.iconst 2, 1) := by decide +kernel
theorem d1_19 : decode method_2_code 19 = .ok (.if_icmp .ne 7, 3) := by decide +kernel
theorem d1_22 : decode method_2_code 22 = .ok (.getstatic 16, 3) := by decide +kernel
theorem d1_25 : decode method_2_code 25 = .ok (.areturn, 1) := by decide +kernel
theorem d1_26 : decode method_2_code 26 = .ok (.iload_n 0, 1) := by decide +kernel
theorem d1_27 : decode method_2_code 27 = .ok (.iconst 3, 1) := by decide +kernel
theorem d1_28 : decode method_2_code 28 = .ok (.if_icmp .ne 7, 3) := by decide +kernel
theorem d1_31 : decode method_2_code 31 = .ok (.getstatic 19, 3) := by decide +kernel
theorem d1_34 : decode method_2_code 34 = .ok (.areturn, 1) := by decide +kernel
theorem d1_35 : decode method_2_code 35 = .ok (.iload_n 0, 1) := by decide +kernel
theorem d1_36 : decode method_2_code 36 = .ok (.iconst 4, 1) := by decide +kernel
theorem d1_37 : decode method_2_code 37 = .ok (.if_icmp .ne 7, 3) := by decide +kernel
theorem d1_40 : decode method_2_code 40 = .ok (.getstatic 22, 3) := by decide +kernel
theorem d1_43 : decode method_2_code 43 = .ok (.areturn, 1) := by decide +kernel
theorem d1_44 : decode method_2_code 44 = .ok (.iload_n 0, 1) := by decide +kernel
theorem d1_45 : decode method_2_code 45 = .ok (.iconst 5, 1) := by decide +kernel
theorem d1_46 : decode method_2_code 46 = .ok (.if_icmp .ne 7, 3) := by decide +kernel
theorem d1_49 : decode method_2_code 49 = .ok (.getstatic 25, 3) := by decide +kernel
theorem d1_52 : decode method_2_code 52 = .ok (.areturn, 1) := by decide +kernel
theorem d1_53 : decode method_2_code 53 = .ok (.getstatic 28, 3) := by decide +kernel
theorem d1_56 : decode method_2_code 56 = .ok (.areturn, 1) := by decide +kernel
theorem d2_0 : decode method_3_code 0 = .ok (.iload_n 0, 1) := by decide +kernel
theorem d2_1 : decode method_3_code 1 = .ok (.ifCond .ne 7, 3) := by decide +kernel
theorem d2_4 : decode method_3_code 4 = .ok (.getstatic 31, 3) := by decide +kernel
theorem d2_7 : decode method_3_code 7 = .ok (.areturn, 1) := by decide +kernel
theorem d2_8 : decode method_3_code 8 = .ok (.iload_n 0, 1) := by decide +kernel
theorem d2_9 : decode method_3_code 9 = .ok (.iconst 1, 1) := by decide +kernel
theorem d2_10 : decode method_3_code 10 = .ok (.if_icmp .ne 7, 3) := by decide +kernel
theorem d2_13 : decode method_3_code 13 = .ok (.getstatic 37, 3) := by decide +kernel
theorem d2_16 : decode method_3_code 16 = .ok (.areturn, 1) := by decide +kernel
theorem d2_17 : decode method_3_code 17 = .ok (.iload_n 0, 1) := by decide +kernel
theorem d2_18 : decode method_3_code 18 = .ok (.iconst 2, 1) := by decide +kernel
theorem d2_19 : decode method_3_code 19 = .ok (.if_icmp .ne 7, 3) := by decide +kernel
theorem d2_22 : decode method_3_code 22 = .ok (.getstatic 40, 3) := by decide +kernel
theorem d2_25 : decode method_3_code 25 = .ok (.areturn, 1) := by decide +kernel
theorem d2_26 : decode method_3_code 26 = .ok (.iload_n 0, 1) := by decide +kernel
theorem d2_27 : decode method_3_code 27 = .ok (.iconst 3, 1) := by decide +kernel
theorem d2_28 : decode method_3_code 28 = .ok (.if_icmp .ne 7, 3) := by decide +kernel
theorem d2_31 : decode method_3_code 31 = .ok (.getstatic 43, 3) := by decide +kernel
theorem d2_34 : decode method_3_code 34 = .ok (.areturn, 1) := by decide +kernel
theorem d2_35 : decode method_3_code 35 = .ok (.getstatic 46, 3) := by decide +kernel
theorem d2_38 : decode method_3_code 38 = .ok (.areturn, 1) := by decide +kernel
theorem d3_0 : decode prog_19_method_1_code 0 = .ok (.aload_n 0, 1) := by decide +kernel
theorem d3_1 : decode prog_19_method_1_code 1 = .ok (.getstatic 1, 3) := by decide +kernel
theorem d3_4 : decode prog_19_method_1_code 4 = .ok (.getstatic 7, 3) := by decide +kernel
theorem d3_7 : decode prog_19_method_1_code 7 = .ok (.iconst 0, 1) := by decide +kernel
theorem d3_8 : decode prog_19_method_1_code 8 = .ok (.invokestatic 13, 3) := by decide +kernel
theorem d3_11 : decode prog_19_method_1_code 11 = .ok (.invokespecial 19, 3) := by decide +kernel
theorem d3_14 : decode prog_19_method_1_code 14 = .ok (.return_, 1) := by decide +kernel
theorem d4_0 : decode jdk_2649_method_2_code 0 = .ok (.getstatic 17, 3) := by decide +kernel
theorem d4_3 : decode jdk_2649_method_2_code 3 = .ok (.areturn, 1) := by decide +kernel
theorem d5_0 : decode prog_19_method_2_code 0 = .ok (.aload_n 0, 1) := by decide +kernel
theorem d5_1 : decode prog_19_method_2_code 1 = .ok (.invokespecial 25, 3) := by decide +kernel
theorem d5_4 : decode prog_19_method_2_code 4 = .ok (.aload_n 0, 1) := by decide +kernel
theorem d5_5 : decode prog_19_method_2_code 5 = .ok (.aload_n 1, 1) := by decide +kernel
theorem d5_6 : decode prog_19_method_2_code 6 = .ok (.putfield 30, 3) := by decide +kernel
theorem d5_9 : decode prog_19_method_2_code 9 = .ok (.aload_n 0, 1) := by decide +kernel
theorem d5_10 : decode prog_19_method_2_code 10 = .ok (.aload_n 2, 1) := by decide +kernel
theorem d5_11 : decode prog_19_method_2_code 11 = .ok (.putfield 33, 3) := by decide +kernel
theorem d5_14 : decode prog_19_method_2_code 14 = .ok (.aload_n 0, 1) := by decide +kernel
theorem d5_15 : decode prog_19_method_2_code 15 = .ok (.iload_n 3, 1) := by decide +kernel
theorem d5_16 : decode prog_19_method_2_code 16 = .ok (.putfield 36, 3) := by decide +kernel
theorem d5_19 : decode prog_19_method_2_code 19 = .ok (.aload_n 0, 1) := by decide +kernel
theorem d5_20 : decode prog_19_method_2_code 20 = .ok (.aload 4, 2) := by decide +kernel
theorem d5_22 : decode prog_19_method_2_code 22 = .ok (.putfield 40, 3) := by decide +kernel
theorem d5_25 : decode prog_19_method_2_code 25 = .ok (.return_, 1) := by decide +kernel
theorem d7_0 : decode prog_19_method_3_code 0 = .ok (.new 20, 3) := by decide +kernel
theorem d7_3 : decode prog_19_method_3_code 3 = .ok (.dup, 1) := by decide +kernel
theorem d7_4 : decode prog_19_method_3_code 4 = .ok (.aload_n 1, 1) := by decide +kernel
theorem d7_5 : decode prog_19_method_3_code 5 = .ok (.ldc 44, 2) := by decide +kernel
theorem d7_7 : decode prog_19_method_3_code 7 = .ok (.invokestatic 45, 3) := by decide +kernel
theorem d7_10 : decode prog_19_method_3_code 10 = .ok (.checkcast 2, 3) := by decide +kernel
theorem d7_13 : decode prog_19_method_3_code 13 = .ok (.aload_n 0, 1) := by decide +kernel
theorem d7_14 : decode prog_19_method_3_code 14 = .ok (.getfield 33, 3) := by decide +kernel
theorem d7_17 : decode prog_19_method_3_code 17 = .ok (.aload_n 0, 1) := by decide +kernel
theorem d7_18 : decode prog_19_method_3_code 18 = .ok (.getfield 36, 3) := by decide +kernel
theorem d7_21 : decode prog_19_method_3_code 21 = .ok (.aload_n 0, 1) := by decide +kernel
theorem d7_22 : decode prog_19_method_3_code 22 = .ok (.getfield 40, 3) := by decide +kernel
theorem d7_25 : decode prog_19_method_3_code 25 = .ok (.invokespecial 19, 3) := by decide +kernel
theorem d7_28 : decode prog_19_method_3_code 28 = .ok (.areturn, 1) := by decide +kernel
theorem d8_0 : decode jdk_31_method_11_code 0 = .ok (.aload_n 0, 1) := by decide +kernel
theorem d8_1 : decode jdk_31_method_11_code 1 = .ok (.ifnonnull 12, 3) := by decide +kernel
theorem d8_13 : decode jdk_31_method_11_code 13 = .ok (.aload_n 0, 1) := by decide +kernel
theorem d8_14 : decode jdk_31_method_11_code 14 = .ok (.areturn, 1) := by decide +kernel
theorem d9_0 : decode prog_19_method_4_code 0 = .ok (.new 20, 3) := by decide +kernel
theorem d9_3 : decode prog_19_method_4_code 3 = .ok (.dup, 1) := by decide +kernel
theorem d9_4 : decode prog_19_method_4_code 4 = .ok (.aload_n 0, 1) := by decide +kernel
theorem d9_5 : decode prog_19_method_4_code 5 = .ok (.getfield 30, 3) := by decide +kernel
theorem d9_8 : decode prog_19_method_4_code 8 = .ok (.aload_n 1, 1) := by decide +kernel
theorem d9_9 : decode prog_19_method_4_code 9 = .ok (.ldc 51, 2) := by decide +kernel
theorem d9_11 : decode prog_19_method_4_code 11 = .ok (.invokestatic 45, 3) := by decide +kernel
theorem d9_14 : decode prog_19_method_4_code 14 = .ok (.checkcast 8, 3) := by decide +kernel
theorem d9_17 : decode prog_19_method_4_code 17 = .ok (.aload_n 0, 1) := by decide +kernel
theorem d9_18 : decode prog_19_method_4_code 18 = .ok (.getfield 36, 3) := by decide +kernel
theorem d9_21 : decode prog_19_method_4_code 21 = .ok (.aload_n 0, 1) := by decide +kernel
theorem d9_22 : decode prog_19_method_4_code 22 = .ok (.getfield 40, 3) := by decide +kernel
theorem d9_25 : decode prog_19_method_4_code 25 = .ok (.invokespecial 19, 3) := by decide +kernel
theorem d9_28 : decode prog_19_method_4_code 28 = .ok (.areturn, 1) := by decide +kernel
theorem d10_0 : decode prog_19_method_5_code 0 = .ok (.new 20, 3) := by decide +kernel
theorem d10_3 : decode prog_19_method_5_code 3 = .ok (.dup, 1) := by decide +kernel
theorem d10_4 : decode prog_19_method_5_code 4 = .ok (.aload_n 0, 1) := by decide +kernel
theorem d10_5 : decode prog_19_method_5_code 5 = .ok (.getfield 30, 3) := by decide +kernel
theorem d10_8 : decode prog_19_method_5_code 8 = .ok (.aload_n 0, 1) := by decide +kernel
theorem d10_9 : decode prog_19_method_5_code 9 = .ok (.getfield 33, 3) := by decide +kernel
theorem d10_12 : decode prog_19_method_5_code 12 = .ok (.iload_n 1, 1) := by decide +kernel
theorem d10_13 : decode prog_19_method_5_code 13 = .ok (.aload_n 0, 1) := by decide +kernel
theorem d10_14 : decode prog_19_method_5_code 14 = .ok (.getfield 40, 3) := by decide +kernel
theorem d10_17 : decode prog_19_method_5_code 17 = .ok (.invokespecial 19, 3) := by decide +kernel
theorem d10_20 : decode prog_19_method_5_code 20 = .ok (.areturn, 1) := by decide +kernel
theorem d11_0 : decode prog_19_method_9_code 0 = .ok (.aload_n 0, 1) := by decide +kernel
theorem d11_1 : decode prog_19_method_9_code 1 = .ok (.getfield 36, 3) := by decide +kernel
theorem d11_4 : decode prog_19_method_9_code 4 = .ok (.ireturn, 1) := by decide +kernel
theorem d12_0 : decode prog_19_method_7_code 0 = .ok (.aload_n 0, 1) := by decide +kernel
theorem d12_1 : decode prog_19_method_7_code 1 = .ok (.getfield 30, 3) := by decide +kernel
theorem d12_4 : decode prog_19_method_7_code 4 = .ok (.areturn, 1) := by decide +kernel
theorem d13_0 : decode prog_19_method_8_code 0 = .ok (.aload_n 0, 1) := by decide +kernel
theorem d13_1 : decode prog_19_method_8_code 1 = .ok (.getfield 33, 3) := by decide +kernel
theorem d13_4 : decode prog_19_method_8_code 4 = .ok (.areturn, 1) := by decide +kernel
theorem d14_0 : decode prog_19_method_10_code 0 = .ok (.aload_n 0, 1) := by decide +kernel
theorem d14_1 : decode prog_19_method_10_code 1 = .ok (.getfield 40, 3) := by decide +kernel
theorem d14_4 : decode prog_19_method_10_code 4 = .ok (.areturn, 1) := by decide +kernel
theorem d15_0 : decode jdk_29_method_65_code 0 = .ok (.iload_n 0, 1) := by decide +kernel
theorem d15_1 : decode jdk_29_method_65_code 1 = .ok (.iload_n 1, 1) := by decide +kernel
theorem d15_2 : decode jdk_29_method_65_code 2 = .ok (.if_icmp .lt 7, 3) := by decide +kernel
theorem d15_5 : decode jdk_29_method_65_code 5 = .ok (.iload_n 0, 1) := by decide +kernel
theorem d15_6 : decode jdk_29_method_65_code 6 = .ok (.goto 4, 3) := by decide +kernel
theorem d15_9 : decode jdk_29_method_65_code 9 = .ok (.iload_n 1, 1) := by decide +kernel
theorem d15_10 : decode jdk_29_method_65_code 10 = .ok (.ireturn, 1) := by decide +kernel
theorem d16_0 : decode prog_19_method_6_code 0 = .ok (.iload_n 1, 1) := by decide +kernel
theorem d16_1 : decode prog_19_method_6_code 1 = .ok (.iconst 1, 1) := by decide +kernel
theorem d16_2 : decode prog_19_method_6_code 2 = .ok (.if_icmp .ge 17, 3) := by decide +kernel
theorem d16_19 : decode prog_19_method_6_code 19 = .ok (.new 20, 3) := by decide +kernel
theorem d16_22 : decode prog_19_method_6_code 22 = .ok (.dup, 1) := by decide +kernel
theorem d16_23 : decode prog_19_method_6_code 23 = .ok (.aload_n 0, 1) := by decide +kernel
theorem d16_24 : decode prog_19_method_6_code 24 = .ok (.getfield 30, 3) := by decide +kernel
theorem d16_27 : decode prog_19_method_6_code 27 = .ok (.aload_n 0, 1) := by decide +kernel
theorem d16_28 : decode prog_19_method_6_code 28 = .ok (.getfield 33, 3) := by decide +kernel
theorem d16_31 : decode prog_19_method_6_code 31 = .ok (.aload_n 0, 1) := by decide +kernel
theorem d16_32 : decode prog_19_method_6_code 32 = .ok (.getfield 36, 3) := by decide +kernel
theorem d16_35 : decode prog_19_method_6_code 35 = .ok (.iload_n 1, 1) := by decide +kernel
theorem d16_36 : decode prog_19_method_6_code 36 = .ok (.invokestatic 61, 3) := by decide +kernel
theorem d16_39 : decode prog_19_method_6_code 39 = .ok (.invokespecial 19, 3) := by decide +kernel
theorem d16_42 : decode prog_19_method_6_code 42 = .ok (.areturn, 1) := by decide +kernel
theorem d17_0 : decode jdk_2649_method_4_code 0 = .ok (.new 8, 3) := by decide +kernel
theorem d17_3 : decode jdk_2649_method_4_code 3 = .ok (.dup, 1) := by decide +kernel
theorem d17_4 : decode jdk_2649_method_4_code 4 = .ok (.iload_n 0, 1) := by decide +kernel
theorem d17_5 : decode jdk_2649_method_4_code 5 = .ok (.invokespecial 21, 3) := by decide +kernel
theorem d17_8 : decode jdk_2649_method_4_code 8 = .ok (.areturn, 1) := by decide +kernel
theorem d18_0 : decode jdk_2649_method_3_code 0 = .ok (.aload_n 0, 1) := by decide +kernel
theorem d18_1 : decode jdk_2649_method_3_code 1 = .ok (.invokespecial 1, 3) := by decide +kernel
theorem d18_4 : decode jdk_2649_method_3_code 4 = .ok (.aload_n 0, 1) := by decide +kernel
theorem d18_5 : decode jdk_2649_method_3_code 5 = .ok (.iconst 1, 1) := by decide +kernel
theorem d18_6 : decode jdk_2649_method_3_code 6 = .ok (.putfield 7, 3) := by decide +kernel
theorem d18_9 : decode jdk_2649_method_3_code 9 = .ok (.aload_n 0, 1) := by decide +kernel
theorem d18_10 : decode jdk_2649_method_3_code 10 = .ok (.iload_n 1, 1) := by decide +kernel
theorem d18_11 : decode jdk_2649_method_3_code 11 = .ok (.putfield 13, 3) := by decide +kernel
theorem d18_14 : decode jdk_2649_method_3_code 14 = .ok (.return_, 1) := by decide +kernel
theorem pn_0 : plainName "com/example/demarcate/demarcate/TransactionDefinitionWithReadOnlyPinLaw" = true := by first | (simp [plainName, overriddenIn]; done) | decide +kernel
theorem pn_1 : plainName "java/util/OptionalInt" = true := by first | (simp [plainName, overriddenIn]; done) | decide +kernel
theorem pn_2 : plainName "java/util/Objects" = true := by first | (simp [plainName, overriddenIn]; done) | decide +kernel
theorem pn_3 : plainName "com/example/demarcate/demarcate/TransactionDefinition" = true := by first | (simp [plainName, overriddenIn]; done) | decide +kernel
theorem pd_0 : parseMethodDescriptor "()Ljava/util/OptionalInt;" = some ⟨[], some (.object "java/util/OptionalInt")⟩ := by decide +kernel
theorem pd_1 : parseMethodDescriptor "(Lcom/example/demarcate/demarcate/Propagation;Lcom/example/demarcate/demarcate/Isolation;ZLjava/util/OptionalInt;)V" = some ⟨[(.object "com/example/demarcate/demarcate/Propagation"), (.object "com/example/demarcate/demarcate/Isolation"), .boolean, (.object "java/util/OptionalInt")], none⟩ := by decide +kernel
theorem pd_2 : parseMethodDescriptor "(I)V" = some ⟨[.int], none⟩ := by decide +kernel
theorem pd_3 : parseMethodDescriptor "(Ljava/lang/Object;Ljava/lang/String;)Ljava/lang/Object;" = some ⟨[(.object "java/lang/Object"), (.object "java/lang/String")], some (.object "java/lang/Object")⟩ := by decide +kernel
theorem pd_4 : parseMethodDescriptor "(I)Ljava/util/OptionalInt;" = some ⟨[.int], some (.object "java/util/OptionalInt")⟩ := by decide +kernel
theorem pd_5 : parseMethodDescriptor "(I)Lcom/example/demarcate/demarcate/Propagation;" = some ⟨[.int], some (.object "com/example/demarcate/demarcate/Propagation")⟩ := by decide +kernel
theorem pd_6 : parseMethodDescriptor "(I)Lcom/example/demarcate/demarcate/Isolation;" = some ⟨[.int], some (.object "com/example/demarcate/demarcate/Isolation")⟩ := by decide +kernel
theorem pd_7 : parseMethodDescriptor "()V" = some ⟨[], none⟩ := by decide +kernel
theorem pd_8 : parseMethodDescriptor "(Lcom/example/demarcate/demarcate/Propagation;)Lcom/example/demarcate/demarcate/TransactionDefinition;" = some ⟨[(.object "com/example/demarcate/demarcate/Propagation")], some (.object "com/example/demarcate/demarcate/TransactionDefinition")⟩ := by decide +kernel
theorem pd_9 : parseMethodDescriptor "(Lcom/example/demarcate/demarcate/Isolation;)Lcom/example/demarcate/demarcate/TransactionDefinition;" = some ⟨[(.object "com/example/demarcate/demarcate/Isolation")], some (.object "com/example/demarcate/demarcate/TransactionDefinition")⟩ := by decide +kernel
theorem pd_10 : parseMethodDescriptor "(Z)Lcom/example/demarcate/demarcate/TransactionDefinition;" = some ⟨[.boolean], some (.object "com/example/demarcate/demarcate/TransactionDefinition")⟩ := by decide +kernel
theorem pd_11 : parseMethodDescriptor "()Z" = some ⟨[], some .boolean⟩ := by decide +kernel
theorem pd_12 : parseMethodDescriptor "()Lcom/example/demarcate/demarcate/Propagation;" = some ⟨[], some (.object "com/example/demarcate/demarcate/Propagation")⟩ := by decide +kernel
theorem pd_13 : parseMethodDescriptor "()Lcom/example/demarcate/demarcate/Isolation;" = some ⟨[], some (.object "com/example/demarcate/demarcate/Isolation")⟩ := by decide +kernel
theorem pd_14 : parseMethodDescriptor "(II)I" = some ⟨[.int, .int], some .int⟩ := by decide +kernel
theorem pd_15 : parseMethodDescriptor "(I)Lcom/example/demarcate/demarcate/TransactionDefinition;" = some ⟨[.int], some (.object "com/example/demarcate/demarcate/TransactionDefinition")⟩ := by decide +kernel
theorem own_wS {a0 : Array Value} {Z : State} (hw : ∀ d ∈ tables_1, d.before a0 Z = true) : ∀ a ∈ Bundle.stringAtoms, a.before a0 Z = true := fun d hd => by
  simp only [Bundle.stringAtoms, List.mem_cons, List.not_mem_nil, or_false] at hd
  rcases hd with rfl | rfl | rfl | rfl | rfl | rfl | rfl
  · exact (w_49 hw)
  · exact (w_50 hw)
  · exact (w_51 hw)
  · exact (w_52 hw)
  · exact (w_53 hw)
  · exact (w_54 hw)
  · exact (w_55 hw)
def OwnS (Z : State) (a_REQUIRED : Addr) (a_REPEATABLE_READ : Addr) (a_DEFAULT : Addr) (a_NEVER : Addr) (a_MANDATORY : Addr) (a_SERIALIZABLE : Addr) (a_SUPPORTS : Addr) (a_REQUIRES_NEW : Addr) (a_READ_UNCOMMITTED : Addr) (a_READ_COMMITTED : Addr) (a_NOT_SUPPORTED : Addr) (a_NESTED : Addr) (a_EMPTY : Addr) : Prop := (Sta Z Z.heap "com/example/demarcate/demarcate/Propagation" "REQUIRED" "Lcom/example/demarcate/demarcate/Propagation;" (.ref a_REQUIRED)) ∧ (Exa Z Z.heap a_REQUIRED "com/example/demarcate/demarcate/Propagation") ∧ (Sta Z Z.heap "com/example/demarcate/demarcate/Isolation" "REPEATABLE_READ" "Lcom/example/demarcate/demarcate/Isolation;" (.ref a_REPEATABLE_READ)) ∧ (Exa Z Z.heap a_REPEATABLE_READ "com/example/demarcate/demarcate/Isolation") ∧ (Sta Z Z.heap "com/example/demarcate/demarcate/Isolation" "DEFAULT" "Lcom/example/demarcate/demarcate/Isolation;" (.ref a_DEFAULT)) ∧ (Exa Z Z.heap a_DEFAULT "com/example/demarcate/demarcate/Isolation") ∧ (Sta Z Z.heap "com/example/demarcate/demarcate/Propagation" "NEVER" "Lcom/example/demarcate/demarcate/Propagation;" (.ref a_NEVER)) ∧ (Exa Z Z.heap a_NEVER "com/example/demarcate/demarcate/Propagation") ∧ (Sta Z Z.heap "com/example/demarcate/demarcate/Propagation" "MANDATORY" "Lcom/example/demarcate/demarcate/Propagation;" (.ref a_MANDATORY)) ∧ (Exa Z Z.heap a_MANDATORY "com/example/demarcate/demarcate/Propagation") ∧ (Sta Z Z.heap "com/example/demarcate/demarcate/Isolation" "SERIALIZABLE" "Lcom/example/demarcate/demarcate/Isolation;" (.ref a_SERIALIZABLE)) ∧ (Exa Z Z.heap a_SERIALIZABLE "com/example/demarcate/demarcate/Isolation") ∧ (Sta Z Z.heap "com/example/demarcate/demarcate/Propagation" "SUPPORTS" "Lcom/example/demarcate/demarcate/Propagation;" (.ref a_SUPPORTS)) ∧ (Exa Z Z.heap a_SUPPORTS "com/example/demarcate/demarcate/Propagation") ∧ (Sta Z Z.heap "com/example/demarcate/demarcate/Propagation" "REQUIRES_NEW" "Lcom/example/demarcate/demarcate/Propagation;" (.ref a_REQUIRES_NEW)) ∧ (Exa Z Z.heap a_REQUIRES_NEW "com/example/demarcate/demarcate/Propagation") ∧ (Sta Z Z.heap "com/example/demarcate/demarcate/Isolation" "READ_UNCOMMITTED" "Lcom/example/demarcate/demarcate/Isolation;" (.ref a_READ_UNCOMMITTED)) ∧ (Exa Z Z.heap a_READ_UNCOMMITTED "com/example/demarcate/demarcate/Isolation") ∧ (Sta Z Z.heap "com/example/demarcate/demarcate/Isolation" "READ_COMMITTED" "Lcom/example/demarcate/demarcate/Isolation;" (.ref a_READ_COMMITTED)) ∧ (Exa Z Z.heap a_READ_COMMITTED "com/example/demarcate/demarcate/Isolation") ∧ (Sta Z Z.heap "com/example/demarcate/demarcate/Propagation" "NOT_SUPPORTED" "Lcom/example/demarcate/demarcate/Propagation;" (.ref a_NOT_SUPPORTED)) ∧ (Exa Z Z.heap a_NOT_SUPPORTED "com/example/demarcate/demarcate/Propagation") ∧ (Sta Z Z.heap "com/example/demarcate/demarcate/Propagation" "NESTED" "Lcom/example/demarcate/demarcate/Propagation;" (.ref a_NESTED)) ∧ (Exa Z Z.heap a_NESTED "com/example/demarcate/demarcate/Propagation") ∧ (Sta Z Z.heap "java/util/OptionalInt" "EMPTY" "Ljava/util/OptionalInt;" (.ref a_EMPTY)) ∧ (Exa Z Z.heap a_EMPTY "java/util/OptionalInt") ∧ (Fld Z Z.heap a_EMPTY "java/util/OptionalInt" "isPresent" "Z" (.int (0 : Int32))) ∧ (Fld Z Z.heap a_EMPTY "java/util/OptionalInt" "value" "I" (.int (0 : Int32)))
def own_max (a b : Int32) : Int32 := if a < b then b else a
theorem own_max1 (y : Int32) : ¬ (own_max 1 y < (1 : Int32)) := by
  unfold own_max
  split
  · rename_i h
    rw [Int32.lt_iff_toInt_lt] at h ⊢
    omega
  · decide
theorem ef_P (m : MethodId) (x0 : Int32) : entryFrame m #[(.int x0)] 1 = mkF m 0 #[.val (.int x0)] [] := by first | (simp [entryFrame, mkF, argsToLocals, Value.category]; done) | rfl
def QP (Z : State) (k : Int32) (a_REQUIRED : Addr) (a_REPEATABLE_READ : Addr) (a_DEFAULT : Addr) (a_NEVER : Addr) (a_MANDATORY : Addr) (a_SERIALIZABLE : Addr) (a_SUPPORTS : Addr) (a_REQUIRES_NEW : Addr) (a_READ_UNCOMMITTED : Addr) (a_READ_COMMITTED : Addr) (a_NOT_SUPPORTED : Addr) (a_NESTED : Addr) (a_EMPTY : Addr) (h0 : Heap) (n0 : Nat) (v : Option Value) (h : Heap) (L : List Loc) : Prop := ∃ a : Addr, v = some (.ref a) ∧ Fr n0 L ∧ h = h0 ∧ Exa Z Z.heap a "com/example/demarcate/demarcate/Propagation"
set_option maxRecDepth 65536 in
set_option maxHeartbeats 40000000 in
theorem rmP (l : Launch) (Z : State) (a0 : Array Value) (hw : ∀ d ∈ tables_1, d.before a0 Z = true) (ws : List Jvm.Cond) (k : Int32) (a_REQUIRED : Addr) (a_REPEATABLE_READ : Addr) (a_DEFAULT : Addr) (a_NEVER : Addr) (a_MANDATORY : Addr) (a_SERIALIZABLE : Addr) (a_SUPPORTS : Addr) (a_REQUIRES_NEW : Addr) (a_READ_UNCOMMITTED : Addr) (a_READ_COMMITTED : Addr) (a_NOT_SUPPORTED : Addr) (a_NESTED : Addr) (a_EMPTY : Addr) (h0 : Heap) (n0 : Nat) (O0 : Old Z n0 h0) (hS : OwnS Z a_REQUIRED a_REPEATABLE_READ a_DEFAULT a_NEVER a_MANDATORY a_SERIALIZABLE a_SUPPORTS a_REQUIRES_NEW a_READ_UNCOMMITTED a_READ_COMMITTED a_NOT_SUPPORTED a_NESTED a_EMPTY) :
    MetFree l (⟨"com/example/demarcate/demarcate/TransactionDefinitionWithReadOnlyPinLaw", "prop", "(I)Lcom/example/demarcate/demarcate/Propagation;"⟩ : MethodName) (head1 (Jvm.Cond.code (⟨"com/example/demarcate/demarcate/TransactionDefinitionWithReadOnlyPinLaw", "prop", "(I)Lcom/example/demarcate/demarcate/Propagation;"⟩ : MethodName) method_2_code 1 (some (.object "com/example/demarcate/demarcate/Propagation")) :: ws) ({ frames := 0, cells := 0, slots := 0, locals := 0 } : Room)) (fun aa_ UU_ => aa_ = #[(.int k)] ∧ Z.Warmed39 UU_.vm ∧ UU_.heap = h0) (fun _ _ _ _ _ => True) (fun _ UU_ oo_ UV_ => ∃ vv_ LL_, oo_ = .returned vv_ ∧ QP Z k a_REQUIRED a_REPEATABLE_READ a_DEFAULT a_NEVER a_MANDATORY a_SERIALIZABLE a_SUPPORTS a_REQUIRES_NEW a_READ_UNCOMMITTED a_READ_COMMITTED a_NOT_SUPPORTED a_NESTED a_EMPTY h0 n0 vv_ UV_.heap LL_ ∧ FrameEnd UU_ oo_ UV_ LL_ ({ frames := 0, cells := 0, slots := 0, locals := 0 } : Room).cells ({ frames := 0, cells := 0, slots := 0, locals := 0 } : Room).slots) := by
  refine MetFree.of_bodySF (plainFor_of_name pn_0) hisR ?_
  intro p e s m args below meth c s₁ Bd hml0 hP hK
  obtain ⟨rfl, hZ, hh⟩ := hP
  have hx := Bd.exec
  have hby := Bd.bytes
  have hlk := BodyLoose.notSynchronized Bd
  have hml : c.maxLocals = 1 := hml0
  have hown : s.vm.findClass "com/example/demarcate/demarcate/TransactionDefinitionWithReadOnlyPinLaw" = some m.cls := findClass_of_methodNamed Bd.named
  have hnm := (name_of_methodNamed Bd.named Bd.method).1
  have X0 : Stand p l e ({ frames := 0, cells := 0, slots := 0, locals := 0 } : Room) s m #[(.int k)] below meth c s₁ [] 0 0 := Stand.of_body Bd
  have e0 : s₁.heap = h0 := by rw [← hh, Bd.state]; rfl
  have N0 := Fr.nil n0
  suffices hOW : OW p e below s (QP Z k a_REQUIRED a_REPEATABLE_READ a_DEFAULT a_NEVER a_MANDATORY a_SERIALIZABLE a_SUPPORTS a_REQUIRES_NEW a_READ_UNCOMMITTED a_READ_COMMITTED a_NOT_SUPPORTED a_NESTED a_EMPTY h0 n0) 0 0 (s₁.setTop (mkF m 0 #[.val (.int k)] [])) by
    obtain ⟨q1, q2, q3, q4⟩ := hOW
    exact ⟨q1, q2, castTop (ef_P m k) q3, q4⟩
  have hS' := hS
  obtain ⟨Sa_REQUIRED, Ea_REQUIRED, Sa_REPEATABLE_READ, Ea_REPEATABLE_READ, Sa_DEFAULT, Ea_DEFAULT, Sa_NEVER, Ea_NEVER, Sa_MANDATORY, Ea_MANDATORY, Sa_SERIALIZABLE, Ea_SERIALIZABLE, Sa_SUPPORTS, Ea_SUPPORTS, Sa_REQUIRES_NEW, Ea_REQUIRES_NEW, Sa_READ_UNCOMMITTED, Ea_READ_UNCOMMITTED, Sa_READ_COMMITTED, Ea_READ_COMMITTED, Sa_NOT_SUPPORTED, Ea_NOT_SUPPORTED, Sa_NESTED, Ea_NESTED, Sa_EMPTY, Ea_EMPTY, Fa_EMPTY_isPresent, Fa_EMPTY_value⟩ := hS'
  refine OW.st (B := s₁.setTop (mkF m 1 #[.val (.int k)] [(.int k)])) (fun _ kk_ => XS.iloadN X0.here hx rfl (hb hby d1_0) rfl kk_) ?_
  by_cases hc23 : k = (0 : Int32)
  · refine OW.st (B := s₁.setTop (mkF m 4 #[.val (.int k)] [])) (fun _ kk_ => XS.ifNo X0.here hx rfl (hb hby d1_1) rfl ((if0 _ _).trans (teq hc23).2) kk_) ?_
    obtain ⟨T24, X24, e24, st24⟩ := getS2 X0 hx hZ hown (host := "") (Or.inl (w_5 hw)) Via.refl e0 (Sa_REQUIRED.ext O0.2) (g := (mkF m 4 #[.val (.int k)] [])) rfl (hb hby d1_4)
    refine OW.st (B := T24.setTop (mkF m 7 #[.val (.int k)] [(.ref a_REQUIRED)])) (st24) ?_
    exact OW.ret X24 hx hlk (i := .areturn) Bd.returns rfl (Or.inr (Or.inr (Or.inr (Or.inr ⟨rfl, rfl, rfl⟩)))) (hb hby d1_7) e24 (by decide) (by decide) ⟨_, rfl, N0, rfl, Ea_REQUIRED⟩
  · refine OW.st (B := s₁.setTop (mkF m 8 #[.val (.int k)] [])) (fun _ kk_ => XS.ifYes X0.here hx rfl (pc0 := 1) (pc' := 8) rfl (hb hby d1_1) rfl ((if0 _ _).trans (feq hc23).2) (by decide) (by decide) kk_) ?_
    refine OW.st (B := s₁.setTop (mkF m 9 #[.val (.int k)] [(.int k)])) (fun _ kk_ => XS.iloadN X0.here hx rfl (hb hby d1_8) rfl kk_) ?_
    refine OW.st (B := s₁.setTop (mkF m 10 #[.val (.int k)] [(.int (1 : Int32)), (.int k)])) (fun _ kk_ => XS.iconst X0.here hx rfl (hb hby d1_9) kk_) ?_
    by_cases hc25 : k = (1 : Int32)
    · refine OW.st (B := s₁.setTop (mkF m 13 #[.val (.int k)] [])) (fun _ kk_ => XS.icmpNo X0.here hx rfl (hb hby d1_10) rfl (teq hc25).2 kk_) ?_
      obtain ⟨T26, X26, e26, st26⟩ := getS2 X0 hx hZ hown (host := "") (Or.inl (w_101 hw)) Via.refl e0 (Sa_SUPPORTS.ext O0.2) (g := (mkF m 13 #[.val (.int k)] [])) rfl (hb hby d1_13)
      refine OW.st (B := T26.setTop (mkF m 16 #[.val (.int k)] [(.ref a_SUPPORTS)])) (st26) ?_
      exact OW.ret X26 hx hlk (i := .areturn) Bd.returns rfl (Or.inr (Or.inr (Or.inr (Or.inr ⟨rfl, rfl, rfl⟩)))) (hb hby d1_16) e26 (by decide) (by decide) ⟨_, rfl, N0, rfl, Ea_SUPPORTS⟩
    · refine OW.st (B := s₁.setTop (mkF m 17 #[.val (.int k)] [])) (fun _ kk_ => XS.icmpYes X0.here hx rfl (pc0 := 10) (pc' := 17) rfl (hb hby d1_10) rfl (feq hc25).2 (by decide) (by decide) kk_) ?_
      refine OW.st (B := s₁.setTop (mkF m 18 #[.val (.int k)] [(.int k)])) (fun _ kk_ => XS.iloadN X0.here hx rfl (hb hby d1_17) rfl kk_) ?_
      refine OW.st (B := s₁.setTop (mkF m 19 #[.val (.int k)] [(.int (2 : Int32)), (.int k)])) (fun _ kk_ => XS.iconst X0.here hx rfl (hb hby d1_18) kk_) ?_
      by_cases hc27 : k = (2 : Int32)
      · refine OW.st (B := s₁.setTop (mkF m 22 #[.val (.int k)] [])) (fun _ kk_ => XS.icmpNo X0.here hx rfl (hb hby d1_19) rfl (teq hc27).2 kk_) ?_
        obtain ⟨T28, X28, e28, st28⟩ := getS2 X0 hx hZ hown (host := "") (Or.inl (w_97 hw)) Via.refl e0 (Sa_MANDATORY.ext O0.2) (g := (mkF m 22 #[.val (.int k)] [])) rfl (hb hby d1_22)
        refine OW.st (B := T28.setTop (mkF m 25 #[.val (.int k)] [(.ref a_MANDATORY)])) (st28) ?_
        exact OW.ret X28 hx hlk (i := .areturn) Bd.returns rfl (Or.inr (Or.inr (Or.inr (Or.inr ⟨rfl, rfl, rfl⟩)))) (hb hby d1_25) e28 (by decide) (by decide) ⟨_, rfl, N0, rfl, Ea_MANDATORY⟩
      · refine OW.st (B := s₁.setTop (mkF m 26 #[.val (.int k)] [])) (fun _ kk_ => XS.icmpYes X0.here hx rfl (pc0 := 19) (pc' := 26) rfl (hb hby d1_19) rfl (feq hc27).2 (by decide) (by decide) kk_) ?_
        refine OW.st (B := s₁.setTop (mkF m 27 #[.val (.int k)] [(.int k)])) (fun _ kk_ => XS.iloadN X0.here hx rfl (hb hby d1_26) rfl kk_) ?_
        refine OW.st (B := s₁.setTop (mkF m 28 #[.val (.int k)] [(.int (3 : Int32)), (.int k)])) (fun _ kk_ => XS.iconst X0.here hx rfl (hb hby d1_27) kk_) ?_
        by_cases hc29 : k = (3 : Int32)
        · refine OW.st (B := s₁.setTop (mkF m 31 #[.val (.int k)] [])) (fun _ kk_ => XS.icmpNo X0.here hx rfl (hb hby d1_28) rfl (teq hc29).2 kk_) ?_
          obtain ⟨T30, X30, e30, st30⟩ := getS2 X0 hx hZ hown (host := "") (Or.inl (w_127 hw)) Via.refl e0 (Sa_REQUIRES_NEW.ext O0.2) (g := (mkF m 31 #[.val (.int k)] [])) rfl (hb hby d1_31)
          refine OW.st (B := T30.setTop (mkF m 34 #[.val (.int k)] [(.ref a_REQUIRES_NEW)])) (st30) ?_
          exact OW.ret X30 hx hlk (i := .areturn) Bd.returns rfl (Or.inr (Or.inr (Or.inr (Or.inr ⟨rfl, rfl, rfl⟩)))) (hb hby d1_34) e30 (by decide) (by decide) ⟨_, rfl, N0, rfl, Ea_REQUIRES_NEW⟩
        · refine OW.st (B := s₁.setTop (mkF m 35 #[.val (.int k)] [])) (fun _ kk_ => XS.icmpYes X0.here hx rfl (pc0 := 28) (pc' := 35) rfl (hb hby d1_28) rfl (feq hc29).2 (by decide) (by decide) kk_) ?_
          refine OW.st (B := s₁.setTop (mkF m 36 #[.val (.int k)] [(.int k)])) (fun _ kk_ => XS.iloadN X0.here hx rfl (hb hby d1_35) rfl kk_) ?_
          refine OW.st (B := s₁.setTop (mkF m 37 #[.val (.int k)] [(.int (4 : Int32)), (.int k)])) (fun _ kk_ => XS.iconst X0.here hx rfl (hb hby d1_36) kk_) ?_
          by_cases hc31 : k = (4 : Int32)
          · refine OW.st (B := s₁.setTop (mkF m 40 #[.val (.int k)] [])) (fun _ kk_ => XS.icmpNo X0.here hx rfl (hb hby d1_37) rfl (teq hc31).2 kk_) ?_
            obtain ⟨T32, X32, e32, st32⟩ := getS2 X0 hx hZ hown (host := "") (Or.inl (w_133 hw)) Via.refl e0 (Sa_NOT_SUPPORTED.ext O0.2) (g := (mkF m 40 #[.val (.int k)] [])) rfl (hb hby d1_40)
            refine OW.st (B := T32.setTop (mkF m 43 #[.val (.int k)] [(.ref a_NOT_SUPPORTED)])) (st32) ?_
            exact OW.ret X32 hx hlk (i := .areturn) Bd.returns rfl (Or.inr (Or.inr (Or.inr (Or.inr ⟨rfl, rfl, rfl⟩)))) (hb hby d1_43) e32 (by decide) (by decide) ⟨_, rfl, N0, rfl, Ea_NOT_SUPPORTED⟩
          · refine OW.st (B := s₁.setTop (mkF m 44 #[.val (.int k)] [])) (fun _ kk_ => XS.icmpYes X0.here hx rfl (pc0 := 37) (pc' := 44) rfl (hb hby d1_37) rfl (feq hc31).2 (by decide) (by decide) kk_) ?_
            refine OW.st (B := s₁.setTop (mkF m 45 #[.val (.int k)] [(.int k)])) (fun _ kk_ => XS.iloadN X0.here hx rfl (hb hby d1_44) rfl kk_) ?_
            refine OW.st (B := s₁.setTop (mkF m 46 #[.val (.int k)] [(.int (5 : Int32)), (.int k)])) (fun _ kk_ => XS.iconst X0.here hx rfl (hb hby d1_45) kk_) ?_
            by_cases hc33 : k = (5 : Int32)
            · refine OW.st (B := s₁.setTop (mkF m 49 #[.val (.int k)] [])) (fun _ kk_ => XS.icmpNo X0.here hx rfl (hb hby d1_46) rfl (teq hc33).2 kk_) ?_
              obtain ⟨T34, X34, e34, st34⟩ := getS2 X0 hx hZ hown (host := "") (Or.inl (w_95 hw)) Via.refl e0 (Sa_NEVER.ext O0.2) (g := (mkF m 49 #[.val (.int k)] [])) rfl (hb hby d1_49)
              refine OW.st (B := T34.setTop (mkF m 52 #[.val (.int k)] [(.ref a_NEVER)])) (st34) ?_
              exact OW.ret X34 hx hlk (i := .areturn) Bd.returns rfl (Or.inr (Or.inr (Or.inr (Or.inr ⟨rfl, rfl, rfl⟩)))) (hb hby d1_52) e34 (by decide) (by decide) ⟨_, rfl, N0, rfl, Ea_NEVER⟩
            · refine OW.st (B := s₁.setTop (mkF m 53 #[.val (.int k)] [])) (fun _ kk_ => XS.icmpYes X0.here hx rfl (pc0 := 46) (pc' := 53) rfl (hb hby d1_46) rfl (feq hc33).2 (by decide) (by decide) kk_) ?_
              obtain ⟨T35, X35, e35, st35⟩ := getS2 X0 hx hZ hown (host := "") (Or.inl (w_135 hw)) Via.refl e0 (Sa_NESTED.ext O0.2) (g := (mkF m 53 #[.val (.int k)] [])) rfl (hb hby d1_53)
              refine OW.st (B := T35.setTop (mkF m 56 #[.val (.int k)] [(.ref a_NESTED)])) (st35) ?_
              exact OW.ret X35 hx hlk (i := .areturn) Bd.returns rfl (Or.inr (Or.inr (Or.inr (Or.inr ⟨rfl, rfl, rfl⟩)))) (hb hby d1_56) e35 (by decide) (by decide) ⟨_, rfl, N0, rfl, Ea_NESTED⟩
theorem ef_I (m : MethodId) (x0 : Int32) : entryFrame m #[(.int x0)] 1 = mkF m 0 #[.val (.int x0)] [] := by first | (simp [entryFrame, mkF, argsToLocals, Value.category]; done) | rfl
def QI (Z : State) (k : Int32) (a_REQUIRED : Addr) (a_REPEATABLE_READ : Addr) (a_DEFAULT : Addr) (a_NEVER : Addr) (a_MANDATORY : Addr) (a_SERIALIZABLE : Addr) (a_SUPPORTS : Addr) (a_REQUIRES_NEW : Addr) (a_READ_UNCOMMITTED : Addr) (a_READ_COMMITTED : Addr) (a_NOT_SUPPORTED : Addr) (a_NESTED : Addr) (a_EMPTY : Addr) (h0 : Heap) (n0 : Nat) (v : Option Value) (h : Heap) (L : List Loc) : Prop := ∃ a : Addr, v = some (.ref a) ∧ Fr n0 L ∧ h = h0 ∧ Exa Z Z.heap a "com/example/demarcate/demarcate/Isolation"
set_option maxRecDepth 65536 in
set_option maxHeartbeats 40000000 in
theorem rmI (l : Launch) (Z : State) (a0 : Array Value) (hw : ∀ d ∈ tables_1, d.before a0 Z = true) (ws : List Jvm.Cond) (k : Int32) (a_REQUIRED : Addr) (a_REPEATABLE_READ : Addr) (a_DEFAULT : Addr) (a_NEVER : Addr) (a_MANDATORY : Addr) (a_SERIALIZABLE : Addr) (a_SUPPORTS : Addr) (a_REQUIRES_NEW : Addr) (a_READ_UNCOMMITTED : Addr) (a_READ_COMMITTED : Addr) (a_NOT_SUPPORTED : Addr) (a_NESTED : Addr) (a_EMPTY : Addr) (h0 : Heap) (n0 : Nat) (O0 : Old Z n0 h0) (hS : OwnS Z a_REQUIRED a_REPEATABLE_READ a_DEFAULT a_NEVER a_MANDATORY a_SERIALIZABLE a_SUPPORTS a_REQUIRES_NEW a_READ_UNCOMMITTED a_READ_COMMITTED a_NOT_SUPPORTED a_NESTED a_EMPTY) :
    MetFree l (⟨"com/example/demarcate/demarcate/TransactionDefinitionWithReadOnlyPinLaw", "iso", "(I)Lcom/example/demarcate/demarcate/Isolation;"⟩ : MethodName) (head1 (Jvm.Cond.code (⟨"com/example/demarcate/demarcate/TransactionDefinitionWithReadOnlyPinLaw", "iso", "(I)Lcom/example/demarcate/demarcate/Isolation;"⟩ : MethodName) method_3_code 1 (some (.object "com/example/demarcate/demarcate/Isolation")) :: ws) ({ frames := 0, cells := 0, slots := 0, locals := 0 } : Room)) (fun aa_ UU_ => aa_ = #[(.int k)] ∧ Z.Warmed39 UU_.vm ∧ UU_.heap = h0) (fun _ _ _ _ _ => True) (fun _ UU_ oo_ UV_ => ∃ vv_ LL_, oo_ = .returned vv_ ∧ QI Z k a_REQUIRED a_REPEATABLE_READ a_DEFAULT a_NEVER a_MANDATORY a_SERIALIZABLE a_SUPPORTS a_REQUIRES_NEW a_READ_UNCOMMITTED a_READ_COMMITTED a_NOT_SUPPORTED a_NESTED a_EMPTY h0 n0 vv_ UV_.heap LL_ ∧ FrameEnd UU_ oo_ UV_ LL_ ({ frames := 0, cells := 0, slots := 0, locals := 0 } : Room).cells ({ frames := 0, cells := 0, slots := 0, locals := 0 } : Room).slots) := by
  refine MetFree.of_bodySF (plainFor_of_name pn_0) hisR ?_
  intro p e s m args below meth c s₁ Bd hml0 hP hK
  obtain ⟨rfl, hZ, hh⟩ := hP
  have hx := Bd.exec
  have hby := Bd.bytes
  have hlk := BodyLoose.notSynchronized Bd
  have hml : c.maxLocals = 1 := hml0
  have hown : s.vm.findClass "com/example/demarcate/demarcate/TransactionDefinitionWithReadOnlyPinLaw" = some m.cls := findClass_of_methodNamed Bd.named
  have hnm := (name_of_methodNamed Bd.named Bd.method).1
  have X0 : Stand p l e ({ frames := 0, cells := 0, slots := 0, locals := 0 } : Room) s m #[(.int k)] below meth c s₁ [] 0 0 := Stand.of_body Bd
  have e0 : s₁.heap = h0 := by rw [← hh, Bd.state]; rfl
  have N0 := Fr.nil n0
  suffices hOW : OW p e below s (QI Z k a_REQUIRED a_REPEATABLE_READ a_DEFAULT a_NEVER a_MANDATORY a_SERIALIZABLE a_SUPPORTS a_REQUIRES_NEW a_READ_UNCOMMITTED a_READ_COMMITTED a_NOT_SUPPORTED a_NESTED a_EMPTY h0 n0) 0 0 (s₁.setTop (mkF m 0 #[.val (.int k)] [])) by
    obtain ⟨q1, q2, q3, q4⟩ := hOW
    exact ⟨q1, q2, castTop (ef_I m k) q3, q4⟩
  have hS' := hS
  obtain ⟨Sa_REQUIRED, Ea_REQUIRED, Sa_REPEATABLE_READ, Ea_REPEATABLE_READ, Sa_DEFAULT, Ea_DEFAULT, Sa_NEVER, Ea_NEVER, Sa_MANDATORY, Ea_MANDATORY, Sa_SERIALIZABLE, Ea_SERIALIZABLE, Sa_SUPPORTS, Ea_SUPPORTS, Sa_REQUIRES_NEW, Ea_REQUIRES_NEW, Sa_READ_UNCOMMITTED, Ea_READ_UNCOMMITTED, Sa_READ_COMMITTED, Ea_READ_COMMITTED, Sa_NOT_SUPPORTED, Ea_NOT_SUPPORTED, Sa_NESTED, Ea_NESTED, Sa_EMPTY, Ea_EMPTY, Fa_EMPTY_isPresent, Fa_EMPTY_value⟩ := hS'
  refine OW.st (B := s₁.setTop (mkF m 1 #[.val (.int k)] [(.int k)])) (fun _ kk_ => XS.iloadN X0.here hx rfl (hb hby d2_0) rfl kk_) ?_
  by_cases hc36 : k = (0 : Int32)
  · refine OW.st (B := s₁.setTop (mkF m 4 #[.val (.int k)] [])) (fun _ kk_ => XS.ifNo X0.here hx rfl (hb hby d2_1) rfl ((if0 _ _).trans (teq hc36).2) kk_) ?_
    obtain ⟨T37, X37, e37, st37⟩ := getS2 X0 hx hZ hown (host := "") (Or.inl (w_103 hw)) Via.refl e0 (Sa_DEFAULT.ext O0.2) (g := (mkF m 4 #[.val (.int k)] [])) rfl (hb hby d2_4)
    refine OW.st (B := T37.setTop (mkF m 7 #[.val (.int k)] [(.ref a_DEFAULT)])) (st37) ?_
    exact OW.ret X37 hx hlk (i := .areturn) Bd.returns rfl (Or.inr (Or.inr (Or.inr (Or.inr ⟨rfl, rfl, rfl⟩)))) (hb hby d2_7) e37 (by decide) (by decide) ⟨_, rfl, N0, rfl, Ea_DEFAULT⟩
  · refine OW.st (B := s₁.setTop (mkF m 8 #[.val (.int k)] [])) (fun _ kk_ => XS.ifYes X0.here hx rfl (pc0 := 1) (pc' := 8) rfl (hb hby d2_1) rfl ((if0 _ _).trans (feq hc36).2) (by decide) (by decide) kk_) ?_
    refine OW.st (B := s₁.setTop (mkF m 9 #[.val (.int k)] [(.int k)])) (fun _ kk_ => XS.iloadN X0.here hx rfl (hb hby d2_8) rfl kk_) ?_
    refine OW.st (B := s₁.setTop (mkF m 10 #[.val (.int k)] [(.int (1 : Int32)), (.int k)])) (fun _ kk_ => XS.iconst X0.here hx rfl (hb hby d2_9) kk_) ?_
    by_cases hc38 : k = (1 : Int32)
    · refine OW.st (B := s₁.setTop (mkF m 13 #[.val (.int k)] [])) (fun _ kk_ => XS.icmpNo X0.here hx rfl (hb hby d2_10) rfl (teq hc38).2 kk_) ?_
      obtain ⟨T39, X39, e39, st39⟩ := getS2 X0 hx hZ hown (host := "") (Or.inl (w_129 hw)) Via.refl e0 (Sa_READ_UNCOMMITTED.ext O0.2) (g := (mkF m 13 #[.val (.int k)] [])) rfl (hb hby d2_13)
      refine OW.st (B := T39.setTop (mkF m 16 #[.val (.int k)] [(.ref a_READ_UNCOMMITTED)])) (st39) ?_
      exact OW.ret X39 hx hlk (i := .areturn) Bd.returns rfl (Or.inr (Or.inr (Or.inr (Or.inr ⟨rfl, rfl, rfl⟩)))) (hb hby d2_16) e39 (by decide) (by decide) ⟨_, rfl, N0, rfl, Ea_READ_UNCOMMITTED⟩
    · refine OW.st (B := s₁.setTop (mkF m 17 #[.val (.int k)] [])) (fun _ kk_ => XS.icmpYes X0.here hx rfl (pc0 := 10) (pc' := 17) rfl (hb hby d2_10) rfl (feq hc38).2 (by decide) (by decide) kk_) ?_
      refine OW.st (B := s₁.setTop (mkF m 18 #[.val (.int k)] [(.int k)])) (fun _ kk_ => XS.iloadN X0.here hx rfl (hb hby d2_17) rfl kk_) ?_
      refine OW.st (B := s₁.setTop (mkF m 19 #[.val (.int k)] [(.int (2 : Int32)), (.int k)])) (fun _ kk_ => XS.iconst X0.here hx rfl (hb hby d2_18) kk_) ?_
      by_cases hc40 : k = (2 : Int32)
      · refine OW.st (B := s₁.setTop (mkF m 22 #[.val (.int k)] [])) (fun _ kk_ => XS.icmpNo X0.here hx rfl (hb hby d2_19) rfl (teq hc40).2 kk_) ?_
        obtain ⟨T41, X41, e41, st41⟩ := getS2 X0 hx hZ hown (host := "") (Or.inl (w_131 hw)) Via.refl e0 (Sa_READ_COMMITTED.ext O0.2) (g := (mkF m 22 #[.val (.int k)] [])) rfl (hb hby d2_22)
        refine OW.st (B := T41.setTop (mkF m 25 #[.val (.int k)] [(.ref a_READ_COMMITTED)])) (st41) ?_
        exact OW.ret X41 hx hlk (i := .areturn) Bd.returns rfl (Or.inr (Or.inr (Or.inr (Or.inr ⟨rfl, rfl, rfl⟩)))) (hb hby d2_25) e41 (by decide) (by decide) ⟨_, rfl, N0, rfl, Ea_READ_COMMITTED⟩
      · refine OW.st (B := s₁.setTop (mkF m 26 #[.val (.int k)] [])) (fun _ kk_ => XS.icmpYes X0.here hx rfl (pc0 := 19) (pc' := 26) rfl (hb hby d2_19) rfl (feq hc40).2 (by decide) (by decide) kk_) ?_
        refine OW.st (B := s₁.setTop (mkF m 27 #[.val (.int k)] [(.int k)])) (fun _ kk_ => XS.iloadN X0.here hx rfl (hb hby d2_26) rfl kk_) ?_
        refine OW.st (B := s₁.setTop (mkF m 28 #[.val (.int k)] [(.int (3 : Int32)), (.int k)])) (fun _ kk_ => XS.iconst X0.here hx rfl (hb hby d2_27) kk_) ?_
        by_cases hc42 : k = (3 : Int32)
        · refine OW.st (B := s₁.setTop (mkF m 31 #[.val (.int k)] [])) (fun _ kk_ => XS.icmpNo X0.here hx rfl (hb hby d2_28) rfl (teq hc42).2 kk_) ?_
          obtain ⟨T43, X43, e43, st43⟩ := getS2 X0 hx hZ hown (host := "") (Or.inl (w_11 hw)) Via.refl e0 (Sa_REPEATABLE_READ.ext O0.2) (g := (mkF m 31 #[.val (.int k)] [])) rfl (hb hby d2_31)
          refine OW.st (B := T43.setTop (mkF m 34 #[.val (.int k)] [(.ref a_REPEATABLE_READ)])) (st43) ?_
          exact OW.ret X43 hx hlk (i := .areturn) Bd.returns rfl (Or.inr (Or.inr (Or.inr (Or.inr ⟨rfl, rfl, rfl⟩)))) (hb hby d2_34) e43 (by decide) (by decide) ⟨_, rfl, N0, rfl, Ea_REPEATABLE_READ⟩
        · refine OW.st (B := s₁.setTop (mkF m 35 #[.val (.int k)] [])) (fun _ kk_ => XS.icmpYes X0.here hx rfl (pc0 := 28) (pc' := 35) rfl (hb hby d2_28) rfl (feq hc42).2 (by decide) (by decide) kk_) ?_
          obtain ⟨T44, X44, e44, st44⟩ := getS2 X0 hx hZ hown (host := "") (Or.inl (w_99 hw)) Via.refl e0 (Sa_SERIALIZABLE.ext O0.2) (g := (mkF m 35 #[.val (.int k)] [])) rfl (hb hby d2_35)
          refine OW.st (B := T44.setTop (mkF m 38 #[.val (.int k)] [(.ref a_SERIALIZABLE)])) (st44) ?_
          exact OW.ret X44 hx hlk (i := .areturn) Bd.returns rfl (Or.inr (Or.inr (Or.inr (Or.inr ⟨rfl, rfl, rfl⟩)))) (hb hby d2_38) e44 (by decide) (by decide) ⟨_, rfl, N0, rfl, Ea_SERIALIZABLE⟩
theorem ef_OE (m : MethodId)  : entryFrame m #[] 0 = mkF m 0 #[] [] := by first | (simp [entryFrame, mkF, argsToLocals, Value.category]; done) | rfl
def QOE (Z : State) (a_REQUIRED : Addr) (a_REPEATABLE_READ : Addr) (a_DEFAULT : Addr) (a_NEVER : Addr) (a_MANDATORY : Addr) (a_SERIALIZABLE : Addr) (a_SUPPORTS : Addr) (a_REQUIRES_NEW : Addr) (a_READ_UNCOMMITTED : Addr) (a_READ_COMMITTED : Addr) (a_NOT_SUPPORTED : Addr) (a_NESTED : Addr) (a_EMPTY : Addr) (h0 : Heap) (n0 : Nat) (v : Option Value) (h : Heap) (L : List Loc) : Prop := v = some (.ref a_EMPTY) ∧ Fr n0 L ∧ h = h0
set_option maxRecDepth 65536 in
set_option maxHeartbeats 40000000 in
theorem rmOE (l : Launch) (Z : State) (a0 : Array Value) (hw : ∀ d ∈ tables_1, d.before a0 Z = true) (ws : List Jvm.Cond) (a_REQUIRED : Addr) (a_REPEATABLE_READ : Addr) (a_DEFAULT : Addr) (a_NEVER : Addr) (a_MANDATORY : Addr) (a_SERIALIZABLE : Addr) (a_SUPPORTS : Addr) (a_REQUIRES_NEW : Addr) (a_READ_UNCOMMITTED : Addr) (a_READ_COMMITTED : Addr) (a_NOT_SUPPORTED : Addr) (a_NESTED : Addr) (a_EMPTY : Addr) (h0 : Heap) (n0 : Nat) (O0 : Old Z n0 h0) (hS : OwnS Z a_REQUIRED a_REPEATABLE_READ a_DEFAULT a_NEVER a_MANDATORY a_SERIALIZABLE a_SUPPORTS a_REQUIRES_NEW a_READ_UNCOMMITTED a_READ_COMMITTED a_NOT_SUPPORTED a_NESTED a_EMPTY) :
    MetFree l (⟨"java/util/OptionalInt", "empty", "()Ljava/util/OptionalInt;"⟩ : MethodName) (head1 (Jvm.Cond.code (⟨"java/util/OptionalInt", "empty", "()Ljava/util/OptionalInt;"⟩ : MethodName) jdk_2649_method_2_code 0 (some (.object "java/util/OptionalInt")) :: ws) ({ frames := 0, cells := 0, slots := 0, locals := 0 } : Room)) (fun aa_ UU_ => aa_ = #[] ∧ Z.Warmed39 UU_.vm ∧ UU_.heap = h0) (fun _ _ _ _ _ => True) (fun _ UU_ oo_ UV_ => ∃ vv_ LL_, oo_ = .returned vv_ ∧ QOE Z a_REQUIRED a_REPEATABLE_READ a_DEFAULT a_NEVER a_MANDATORY a_SERIALIZABLE a_SUPPORTS a_REQUIRES_NEW a_READ_UNCOMMITTED a_READ_COMMITTED a_NOT_SUPPORTED a_NESTED a_EMPTY h0 n0 vv_ UV_.heap LL_ ∧ FrameEnd UU_ oo_ UV_ LL_ ({ frames := 0, cells := 0, slots := 0, locals := 0 } : Room).cells ({ frames := 0, cells := 0, slots := 0, locals := 0 } : Room).slots) := by
  refine MetFree.of_bodySF (plainFor_of_name pn_1) hisR ?_
  intro p e s m args below meth c s₁ Bd hml0 hP hK
  obtain ⟨rfl, hZ, hh⟩ := hP
  have hx := Bd.exec
  have hby := Bd.bytes
  have hlk := BodyLoose.notSynchronized Bd
  have hml : c.maxLocals = 0 := hml0
  have hown : s.vm.findClass "java/util/OptionalInt" = some m.cls := findClass_of_methodNamed Bd.named
  have hnm := (name_of_methodNamed Bd.named Bd.method).1
  have X0 : Stand p l e ({ frames := 0, cells := 0, slots := 0, locals := 0 } : Room) s m #[] below meth c s₁ [] 0 0 := Stand.of_body Bd
  have e0 : s₁.heap = h0 := by rw [← hh, Bd.state]; rfl
  have N0 := Fr.nil n0
  suffices hOW : OW p e below s (QOE Z a_REQUIRED a_REPEATABLE_READ a_DEFAULT a_NEVER a_MANDATORY a_SERIALIZABLE a_SUPPORTS a_REQUIRES_NEW a_READ_UNCOMMITTED a_READ_COMMITTED a_NOT_SUPPORTED a_NESTED a_EMPTY h0 n0) 0 0 (s₁.setTop (mkF m 0 #[] [])) by
    obtain ⟨q1, q2, q3, q4⟩ := hOW
    exact ⟨q1, q2, castTop (ef_OE m ) q3, q4⟩
  have hS' := hS
  obtain ⟨Sa_REQUIRED, Ea_REQUIRED, Sa_REPEATABLE_READ, Ea_REPEATABLE_READ, Sa_DEFAULT, Ea_DEFAULT, Sa_NEVER, Ea_NEVER, Sa_MANDATORY, Ea_MANDATORY, Sa_SERIALIZABLE, Ea_SERIALIZABLE, Sa_SUPPORTS, Ea_SUPPORTS, Sa_REQUIRES_NEW, Ea_REQUIRES_NEW, Sa_READ_UNCOMMITTED, Ea_READ_UNCOMMITTED, Sa_READ_COMMITTED, Ea_READ_COMMITTED, Sa_NOT_SUPPORTED, Ea_NOT_SUPPORTED, Sa_NESTED, Ea_NESTED, Sa_EMPTY, Ea_EMPTY, Fa_EMPTY_isPresent, Fa_EMPTY_value⟩ := hS'
  obtain ⟨T45, X45, e45, st45⟩ := getS2 X0 hx hZ hown (host := "") (Or.inl (w_27 hw)) Via.refl e0 (Sa_EMPTY.ext O0.2) (g := (mkF m 0 #[] [])) rfl (hb hby d4_0)
  refine OW.st (B := T45.setTop (mkF m 3 #[] [(.ref a_EMPTY)])) (st45) ?_
  exact OW.ret X45 hx hlk (i := .areturn) Bd.returns rfl (Or.inr (Or.inr (Or.inr (Or.inr ⟨rfl, rfl, rfl⟩)))) (hb hby d4_3) e45 (by decide) (by decide) ⟨rfl, N0, rfl⟩
theorem ef_NN (m : MethodId) (x0 : Addr) (x1 : Addr) : entryFrame m #[(.ref x0), (.ref x1)] 2 = mkF m 0 #[.val (.ref x0), .val (.ref x1)] [] := by first | (simp [entryFrame, mkF, argsToLocals, Value.category]; done) | rfl
def QNN (Z : State) (a : Addr) (b : Addr) (h0 : Heap) (n0 : Nat) (v : Option Value) (h : Heap) (L : List Loc) : Prop := v = some (.ref a) ∧ Fr n0 L ∧ h = h0
set_option maxRecDepth 65536 in
set_option maxHeartbeats 40000000 in
theorem rmNN (l : Launch) (Z : State) (a0 : Array Value) (hw : ∀ d ∈ tables_1, d.before a0 Z = true) (ws : List Jvm.Cond) (a : Addr) (b : Addr) (h0 : Heap) (n0 : Nat) (O0 : Old Z n0 h0) :
    MetFree l (⟨"java/util/Objects", "requireNonNull", "(Ljava/lang/Object;Ljava/lang/String;)Ljava/lang/Object;"⟩ : MethodName) (head1 (Jvm.Cond.code (⟨"java/util/Objects", "requireNonNull", "(Ljava/lang/Object;Ljava/lang/String;)Ljava/lang/Object;"⟩ : MethodName) jdk_31_method_11_code 2 (some (.object "java/lang/Object")) :: ws) ({ frames := 0, cells := 0, slots := 0, locals := 0 } : Room)) (fun aa_ UU_ => aa_ = #[(.ref a), (.ref b)] ∧ Z.Warmed39 UU_.vm ∧ UU_.heap = h0) (fun _ _ _ _ _ => True) (fun _ UU_ oo_ UV_ => ∃ vv_ LL_, oo_ = .returned vv_ ∧ QNN Z a b h0 n0 vv_ UV_.heap LL_ ∧ FrameEnd UU_ oo_ UV_ LL_ ({ frames := 0, cells := 0, slots := 0, locals := 0 } : Room).cells ({ frames := 0, cells := 0, slots := 0, locals := 0 } : Room).slots) := by
  refine MetFree.of_bodySF (plainFor_of_name pn_2) hisR ?_
  intro p e s m args below meth c s₁ Bd hml0 hP hK
  obtain ⟨rfl, hZ, hh⟩ := hP
  have hx := Bd.exec
  have hby := Bd.bytes
  have hlk := BodyLoose.notSynchronized Bd
  have hml : c.maxLocals = 2 := hml0
  have hown : s.vm.findClass "java/util/Objects" = some m.cls := findClass_of_methodNamed Bd.named
  have hnm := (name_of_methodNamed Bd.named Bd.method).1
  have X0 : Stand p l e ({ frames := 0, cells := 0, slots := 0, locals := 0 } : Room) s m #[(.ref a), (.ref b)] below meth c s₁ [] 0 0 := Stand.of_body Bd
  have e0 : s₁.heap = h0 := by rw [← hh, Bd.state]; rfl
  have N0 := Fr.nil n0
  suffices hOW : OW p e below s (QNN Z a b h0 n0) 0 0 (s₁.setTop (mkF m 0 #[.val (.ref a), .val (.ref b)] [])) by
    obtain ⟨q1, q2, q3, q4⟩ := hOW
    exact ⟨q1, q2, castTop (ef_NN m a b) q3, q4⟩
  refine OW.st (B := s₁.setTop (mkF m 1 #[.val (.ref a), .val (.ref b)] [(.ref a)])) (fun _ kk_ => XS.aloadN X0.here hx rfl (hb hby d8_0) rfl rfl kk_) ?_
  refine OW.st (B := s₁.setTop (mkF m 13 #[.val (.ref a), .val (.ref b)] [])) (fun _ kk_ => XS.ifnonnullYes X0.here hx rfl (pc0 := 1) (pc' := 13) rfl (hb hby d8_1) rfl (by decide) (by decide) kk_) ?_
  refine OW.st (B := s₁.setTop (mkF m 14 #[.val (.ref a), .val (.ref b)] [(.ref a)])) (fun _ kk_ => XS.aloadN X0.here hx rfl (hb hby d8_13) rfl rfl kk_) ?_
  exact OW.ret X0 hx hlk (i := .areturn) Bd.returns rfl (Or.inr (Or.inr (Or.inr (Or.inr ⟨rfl, rfl, rfl⟩)))) (hb hby d8_14) e0 (by decide) (by decide) ⟨rfl, N0, rfl⟩
theorem ef_T4 (m : MethodId) (x0 : Addr) (x1 : Addr) (x2 : Addr) (x3 : Int32) (x4 : Addr) : entryFrame m #[(.ref x0), (.ref x1), (.ref x2), (.int x3), (.ref x4)] 5 = mkF m 0 #[.val (.ref x0), .val (.ref x1), .val (.ref x2), .val (.int x3), .val (.ref x4)] [] := by first | (simp [entryFrame, mkF, argsToLocals, Value.category]; done) | rfl
def QT4 (Z : State) (b : Addr) (p1 : Addr) (i1 : Addr) (r1 : Int32) (t1 : Addr) (h0 : Heap) (n0 : Nat) (v : Option Value) (h : Heap) (L : List Loc) : Prop := v = none ∧ Fr n0 L ∧ Keep h0 h [b] ∧ Exa Z h b "com/example/demarcate/demarcate/TransactionDefinition" ∧ Fld Z h b "com/example/demarcate/demarcate/TransactionDefinition" "propagation" "Lcom/example/demarcate/demarcate/Propagation;" (.ref p1) ∧ Fld Z h b "com/example/demarcate/demarcate/TransactionDefinition" "isolation" "Lcom/example/demarcate/demarcate/Isolation;" (.ref i1) ∧ Fld Z h b "com/example/demarcate/demarcate/TransactionDefinition" "readOnly" "Z" (.int r1) ∧ Fld Z h b "com/example/demarcate/demarcate/TransactionDefinition" "timeout" "Ljava/util/OptionalInt;" (.ref t1)
set_option maxRecDepth 65536 in
set_option maxHeartbeats 40000000 in
theorem rmT4 (l : Launch) (Z : State) (a0 : Array Value) (hw : ∀ d ∈ tables_1, d.before a0 Z = true) (ws : List Jvm.Cond) (b : Addr) (p1 : Addr) (i1 : Addr) (r1 : Int32) (t1 : Addr) (h0 : Heap) (n0 : Nat) (O0 : Old Z n0 h0) (E : Exa Z h0 b "com/example/demarcate/demarcate/TransactionDefinition") (F0 : Fld Z h0 b "com/example/demarcate/demarcate/TransactionDefinition" "propagation" "Lcom/example/demarcate/demarcate/Propagation;" .null) (F1 : Fld Z h0 b "com/example/demarcate/demarcate/TransactionDefinition" "isolation" "Lcom/example/demarcate/demarcate/Isolation;" .null) (F2 : Fld Z h0 b "com/example/demarcate/demarcate/TransactionDefinition" "readOnly" "Z" (.int (0 : Int32))) (F3 : Fld Z h0 b "com/example/demarcate/demarcate/TransactionDefinition" "timeout" "Ljava/util/OptionalInt;" .null) (g : n0 ≤ b) (hr : r1 = 0 ∨ r1 = 1) :
    MetFree l (⟨"com/example/demarcate/demarcate/TransactionDefinition", "<init>", "(Lcom/example/demarcate/demarcate/Propagation;Lcom/example/demarcate/demarcate/Isolation;ZLjava/util/OptionalInt;)V"⟩ : MethodName) (head1 (Jvm.Cond.code (⟨"com/example/demarcate/demarcate/TransactionDefinition", "<init>", "(Lcom/example/demarcate/demarcate/Propagation;Lcom/example/demarcate/demarcate/Isolation;ZLjava/util/OptionalInt;)V"⟩ : MethodName) prog_19_method_2_code 5 none :: ws) ({ frames := 1, cells := 0, slots := 0, locals := 12 } : Room)) (fun aa_ UU_ => aa_ = #[(.ref b), (.ref p1), (.ref i1), (.int r1), (.ref t1)] ∧ Z.Warmed39 UU_.vm ∧ UU_.heap = h0) (fun _ _ _ _ _ => True) (fun _ UU_ oo_ UV_ => ∃ vv_ LL_, oo_ = .returned vv_ ∧ QT4 Z b p1 i1 r1 t1 h0 n0 vv_ UV_.heap LL_ ∧ FrameEnd UU_ oo_ UV_ LL_ ({ frames := 1, cells := 0, slots := 0, locals := 12 } : Room).cells ({ frames := 1, cells := 0, slots := 0, locals := 12 } : Room).slots) := by
  refine MetFree.of_bodySF (plainFor_of_name pn_3) hisR ?_
  intro p e s m args below meth c s₁ Bd hml0 hP hK
  obtain ⟨rfl, hZ, hh⟩ := hP
  have hx := Bd.exec
  have hby := Bd.bytes
  have hlk := BodyLoose.notSynchronized Bd
  have hml : c.maxLocals = 5 := hml0
  have hown : s.vm.findClass "com/example/demarcate/demarcate/TransactionDefinition" = some m.cls := findClass_of_methodNamed Bd.named
  have hnm := (name_of_methodNamed Bd.named Bd.method).1
  have X0 : Stand p l e ({ frames := 1, cells := 0, slots := 0, locals := 12 } : Room) s m #[(.ref b), (.ref p1), (.ref i1), (.int r1), (.ref t1)] below meth c s₁ [] 0 0 := Stand.of_body Bd
  have e0 : s₁.heap = h0 := by rw [← hh, Bd.state]; rfl
  have N0 := Fr.nil n0
  have KC0 : Keep h0 h0 [b] := Keep.refl _ _
  suffices hOW : OW p e below s (QT4 Z b p1 i1 r1 t1 h0 n0) 0 0 (s₁.setTop (mkF m 0 #[.val (.ref b), .val (.ref p1), .val (.ref i1), .val (.int r1), .val (.ref t1)] [])) by
    obtain ⟨q1, q2, q3, q4⟩ := hOW
    exact ⟨q1, q2, castTop (ef_T4 m b p1 i1 r1 t1) q3, q4⟩
  refine OW.st (B := s₁.setTop (mkF m 1 #[.val (.ref b), .val (.ref p1), .val (.ref i1), .val (.int r1), .val (.ref t1)] [(.ref b)])) (fun _ kk_ => XS.aloadN X0.here hx rfl (hb hby d5_0) rfl rfl kk_) ?_
  obtain ⟨T46, X46, e46, st46⟩ := initO X0 hx hZ hown (w_31 hw) (w_32 hw) (w_33 hw) e0 (g := (mkF m 1 #[.val (.ref b), .val (.ref p1), .val (.ref i1), .val (.int r1), .val (.ref t1)] [(.ref b)])) rfl (by rw [hml]; rfl) rfl (hb hby d5_1) (by decide) (W := 0) (by show 2 * 0 + _ ≤ _; exact Nat.le_of_eq rfl) (by decide)
  refine OW.st (B := T46.setTop (mkF m 4 #[.val (.ref b), .val (.ref p1), .val (.ref i1), .val (.int r1), .val (.ref t1)] [])) (st46) ?_
  refine OW.st (B := T46.setTop (mkF m 5 #[.val (.ref b), .val (.ref p1), .val (.ref i1), .val (.int r1), .val (.ref t1)] [(.ref b)])) (fun _ kk_ => XS.aloadN X46.here hx rfl (hb hby d5_4) rfl rfl kk_) ?_
  refine OW.st (B := T46.setTop (mkF m 6 #[.val (.ref b), .val (.ref p1), .val (.ref i1), .val (.int r1), .val (.ref t1)] [(.ref p1), (.ref b)])) (fun _ kk_ => XS.aloadN X46.here hx rfl (hb hby d5_5) rfl rfl kk_) ?_
  obtain ⟨T47, h47, X47, e47, W47, st47⟩ := putF X46 hx hZ hown (host := "") (Or.inl (w_34 hw)) Via.refl e46 F0 E (Or.inr ⟨(w_35 hw), rfl, hnm⟩) (w_15 hw) (ty := (.object "com/example/demarcate/demarcate/Propagation")) (by decide) rfl rfl (g := (mkF m 6 #[.val (.ref b), .val (.ref p1), .val (.ref i1), .val (.int r1), .val (.ref t1)] [(.ref p1), (.ref b)])) rfl rfl (hb hby d5_6)
  have N47 := Fr.snoc X47 N0 g
  have O47 : Old Z n0 h47 := O0.wr W47 g
  have KC47 : Keep h0 h47 [b] := KC0.wr W47 (Or.inl (List.mem_of_getElem? (i := 0) rfl))
  have F47 : Fld Z h47 b "com/example/demarcate/demarcate/TransactionDefinition" "propagation" "Lcom/example/demarcate/demarcate/Propagation;" (.ref p1) := Fld.same W47 F0
  refine OW.st (B := T47.setTop (mkF m 9 #[.val (.ref b), .val (.ref p1), .val (.ref i1), .val (.int r1), .val (.ref t1)] [])) (st47) ?_
  refine OW.st (B := T47.setTop (mkF m 10 #[.val (.ref b), .val (.ref p1), .val (.ref i1), .val (.int r1), .val (.ref t1)] [(.ref b)])) (fun _ kk_ => XS.aloadN X47.here hx rfl (hb hby d5_9) rfl rfl kk_) ?_
  refine OW.st (B := T47.setTop (mkF m 11 #[.val (.ref b), .val (.ref p1), .val (.ref i1), .val (.int r1), .val (.ref t1)] [(.ref i1), (.ref b)])) (fun _ kk_ => XS.aloadN X47.here hx rfl (hb hby d5_10) rfl rfl kk_) ?_
  obtain ⟨T48, h48, X48, e48, W48, st48⟩ := putF X47 hx hZ hown (host := "") (Or.inl (w_36 hw)) Via.refl e47 (F1.other W47 (Or.inr (slot_ne (Or.inr (w_37 hw)) (Or.inr (w_35 hw)) (by decide) (t := (.object "com/example/demarcate/demarcate/Isolation")) (t' := (.object "com/example/demarcate/demarcate/Propagation")) (by decide) (by decide)))) (E.wr W47) (Or.inr ⟨(w_37 hw), rfl, hnm⟩) (w_15 hw) (ty := (.object "com/example/demarcate/demarcate/Isolation")) (by decide) rfl rfl (g := (mkF m 11 #[.val (.ref b), .val (.ref p1), .val (.ref i1), .val (.int r1), .val (.ref t1)] [(.ref i1), (.ref b)])) rfl rfl (hb hby d5_11)
  have N48 := Fr.snoc X48 N47 g
  have O48 : Old Z n0 h48 := O47.wr W48 g
  have KC48 : Keep h0 h48 [b] := KC47.wr W48 (Or.inl (List.mem_of_getElem? (i := 0) rfl))
  have F48 : Fld Z h48 b "com/example/demarcate/demarcate/TransactionDefinition" "isolation" "Lcom/example/demarcate/demarcate/Isolation;" (.ref i1) := Fld.same W48 (F1.other W47 (Or.inr (slot_ne (Or.inr (w_37 hw)) (Or.inr (w_35 hw)) (by decide) (t := (.object "com/example/demarcate/demarcate/Isolation")) (t' := (.object "com/example/demarcate/demarcate/Propagation")) (by decide) (by decide))))
  refine OW.st (B := T48.setTop (mkF m 14 #[.val (.ref b), .val (.ref p1), .val (.ref i1), .val (.int r1), .val (.ref t1)] [])) (st48) ?_
  refine OW.st (B := T48.setTop (mkF m 15 #[.val (.ref b), .val (.ref p1), .val (.ref i1), .val (.int r1), .val (.ref t1)] [(.ref b)])) (fun _ kk_ => XS.aloadN X48.here hx rfl (hb hby d5_14) rfl rfl kk_) ?_
  refine OW.st (B := T48.setTop (mkF m 16 #[.val (.ref b), .val (.ref p1), .val (.ref i1), .val (.int r1), .val (.ref t1)] [(.int r1), (.ref b)])) (fun _ kk_ => XS.iloadN X48.here hx rfl (hb hby d5_15) rfl kk_) ?_
  obtain ⟨T49, h49, X49, e49, W49, st49⟩ := putFN X48 hx hZ hown (w_38 hw) Via.refl e48 ((F2.other W47 (Or.inr (slot_ne (Or.inr (w_39 hw)) (Or.inr (w_35 hw)) (by decide) (t := .boolean) (t' := (.object "com/example/demarcate/demarcate/Propagation")) (by decide) (by decide)))).other W48 (Or.inr (slot_ne (Or.inr (w_39 hw)) (Or.inr (w_37 hw)) (by decide) (t := .boolean) (t' := (.object "com/example/demarcate/demarcate/Isolation")) (by decide) (by decide)))) ((E.wr W47).wr W48) (Or.inr ⟨(w_39 hw), rfl, hnm⟩) (w_15 hw) (ty := .boolean) (v' := (.int r1)) (by decide) (own_nz hr) (own_fz hr) (g := (mkF m 16 #[.val (.ref b), .val (.ref p1), .val (.ref i1), .val (.int r1), .val (.ref t1)] [(.int r1), (.ref b)])) rfl rfl (hb hby d5_16)
  have N49 := Fr.snoc X49 N48 g
  have O49 : Old Z n0 h49 := O48.wr W49 g
  have KC49 : Keep h0 h49 [b] := KC48.wr W49 (Or.inl (List.mem_of_getElem? (i := 0) rfl))
  have F49 : Fld Z h49 b "com/example/demarcate/demarcate/TransactionDefinition" "readOnly" "Z" (.int r1) := Fld.same W49 ((F2.other W47 (Or.inr (slot_ne (Or.inr (w_39 hw)) (Or.inr (w_35 hw)) (by decide) (t := .boolean) (t' := (.object "com/example/demarcate/demarcate/Propagation")) (by decide) (by decide)))).other W48 (Or.inr (slot_ne (Or.inr (w_39 hw)) (Or.inr (w_37 hw)) (by decide) (t := .boolean) (t' := (.object "com/example/demarcate/demarcate/Isolation")) (by decide) (by decide))))
  refine OW.st (B := T49.setTop (mkF m 19 #[.val (.ref b), .val (.ref p1), .val (.ref i1), .val (.int r1), .val (.ref t1)] [])) (st49) ?_
  refine OW.st (B := T49.setTop (mkF m 20 #[.val (.ref b), .val (.ref p1), .val (.ref i1), .val (.int r1), .val (.ref t1)] [(.ref b)])) (fun _ kk_ => XS.aloadN X49.here hx rfl (hb hby d5_19) rfl rfl kk_) ?_
  refine OW.st (B := T49.setTop (mkF m 22 #[.val (.ref b), .val (.ref p1), .val (.ref i1), .val (.int r1), .val (.ref t1)] [(.ref t1), (.ref b)])) (fun _ kk_ => XS.aload X49.here hx rfl (hb hby d5_20) rfl rfl kk_) ?_
  obtain ⟨T50, h50, X50, e50, W50, st50⟩ := putF X49 hx hZ hown (host := "") (Or.inl (w_40 hw)) Via.refl e49 (((F3.other W47 (Or.inr (slot_ne (Or.inr (w_41 hw)) (Or.inr (w_35 hw)) (by decide) (t := (.object "java/util/OptionalInt")) (t' := (.object "com/example/demarcate/demarcate/Propagation")) (by decide) (by decide)))).other W48 (Or.inr (slot_ne (Or.inr (w_41 hw)) (Or.inr (w_37 hw)) (by decide) (t := (.object "java/util/OptionalInt")) (t' := (.object "com/example/demarcate/demarcate/Isolation")) (by decide) (by decide)))).other W49 (Or.inr (slot_ne (Or.inr (w_41 hw)) (Or.inr (w_39 hw)) (by decide) (t := (.object "java/util/OptionalInt")) (t' := .boolean) (by decide) (by decide)))) (((E.wr W47).wr W48).wr W49) (Or.inr ⟨(w_41 hw), rfl, hnm⟩) (w_15 hw) (ty := (.object "java/util/OptionalInt")) (by decide) rfl rfl (g := (mkF m 22 #[.val (.ref b), .val (.ref p1), .val (.ref i1), .val (.int r1), .val (.ref t1)] [(.ref t1), (.ref b)])) rfl rfl (hb hby d5_22)
  have N50 := Fr.snoc X50 N49 g
  have O50 : Old Z n0 h50 := O49.wr W50 g
  have KC50 : Keep h0 h50 [b] := KC49.wr W50 (Or.inl (List.mem_of_getElem? (i := 0) rfl))
  have F50 : Fld Z h50 b "com/example/demarcate/demarcate/TransactionDefinition" "timeout" "Ljava/util/OptionalInt;" (.ref t1) := Fld.same W50 (((F3.other W47 (Or.inr (slot_ne (Or.inr (w_41 hw)) (Or.inr (w_35 hw)) (by decide) (t := (.object "java/util/OptionalInt")) (t' := (.object "com/example/demarcate/demarcate/Propagation")) (by decide) (by decide)))).other W48 (Or.inr (slot_ne (Or.inr (w_41 hw)) (Or.inr (w_37 hw)) (by decide) (t := (.object "java/util/OptionalInt")) (t' := (.object "com/example/demarcate/demarcate/Isolation")) (by decide) (by decide)))).other W49 (Or.inr (slot_ne (Or.inr (w_41 hw)) (Or.inr (w_39 hw)) (by decide) (t := (.object "java/util/OptionalInt")) (t' := .boolean) (by decide) (by decide))))
  refine OW.st (B := T50.setTop (mkF m 25 #[.val (.ref b), .val (.ref p1), .val (.ref i1), .val (.int r1), .val (.ref t1)] [])) (st50) ?_
  exact OW.retV X50 hx hlk Bd.returns (hb hby d5_25) e50 (by decide) (by decide) ⟨rfl, N50, KC50, ((((E.wr W47).wr W48).wr W49).wr W50), (((F47.other W48 (Or.inr (slot_ne (Or.inr (w_35 hw)) (Or.inr (w_37 hw)) (by decide) (t := (.object "com/example/demarcate/demarcate/Propagation")) (t' := (.object "com/example/demarcate/demarcate/Isolation")) (by decide) (by decide)))).other W49 (Or.inr (slot_ne (Or.inr (w_35 hw)) (Or.inr (w_39 hw)) (by decide) (t := (.object "com/example/demarcate/demarcate/Propagation")) (t' := .boolean) (by decide) (by decide)))).other W50 (Or.inr (slot_ne (Or.inr (w_35 hw)) (Or.inr (w_41 hw)) (by decide) (t := (.object "com/example/demarcate/demarcate/Propagation")) (t' := (.object "java/util/OptionalInt")) (by decide) (by decide)))), ((F48.other W49 (Or.inr (slot_ne (Or.inr (w_37 hw)) (Or.inr (w_39 hw)) (by decide) (t := (.object "com/example/demarcate/demarcate/Isolation")) (t' := .boolean) (by decide) (by decide)))).other W50 (Or.inr (slot_ne (Or.inr (w_37 hw)) (Or.inr (w_41 hw)) (by decide) (t := (.object "com/example/demarcate/demarcate/Isolation")) (t' := (.object "java/util/OptionalInt")) (by decide) (by decide)))), (F49.other W50 (Or.inr (slot_ne (Or.inr (w_39 hw)) (Or.inr (w_41 hw)) (by decide) (t := .boolean) (t' := (.object "java/util/OptionalInt")) (by decide) (by decide)))), F50⟩
theorem ef_T0 (m : MethodId) (x0 : Addr) : entryFrame m #[(.ref x0)] 1 = mkF m 0 #[.val (.ref x0)] [] := by first | (simp [entryFrame, mkF, argsToLocals, Value.category]; done) | rfl
def QT0 (Z : State) (b : Addr) (a_REQUIRED : Addr) (a_REPEATABLE_READ : Addr) (a_DEFAULT : Addr) (a_NEVER : Addr) (a_MANDATORY : Addr) (a_SERIALIZABLE : Addr) (a_SUPPORTS : Addr) (a_REQUIRES_NEW : Addr) (a_READ_UNCOMMITTED : Addr) (a_READ_COMMITTED : Addr) (a_NOT_SUPPORTED : Addr) (a_NESTED : Addr) (a_EMPTY : Addr) (h0 : Heap) (n0 : Nat) (v : Option Value) (h : Heap) (L : List Loc) : Prop := v = none ∧ Fr n0 L ∧ Keep h0 h [b] ∧ Exa Z h b "com/example/demarcate/demarcate/TransactionDefinition" ∧ Fld Z h b "com/example/demarcate/demarcate/TransactionDefinition" "propagation" "Lcom/example/demarcate/demarcate/Propagation;" (.ref a_REQUIRED) ∧ Fld Z h b "com/example/demarcate/demarcate/TransactionDefinition" "isolation" "Lcom/example/demarcate/demarcate/Isolation;" (.ref a_DEFAULT) ∧ Fld Z h b "com/example/demarcate/demarcate/TransactionDefinition" "readOnly" "Z" (.int (0 : Int32)) ∧ Fld Z h b "com/example/demarcate/demarcate/TransactionDefinition" "timeout" "Ljava/util/OptionalInt;" (.ref a_EMPTY)
set_option maxRecDepth 65536 in
set_option maxHeartbeats 40000000 in
theorem rmT0 (l : Launch) (Z : State) (a0 : Array Value) (hw : ∀ d ∈ tables_1, d.before a0 Z = true) (ws : List Jvm.Cond) (b : Addr) (a_REQUIRED : Addr) (a_REPEATABLE_READ : Addr) (a_DEFAULT : Addr) (a_NEVER : Addr) (a_MANDATORY : Addr) (a_SERIALIZABLE : Addr) (a_SUPPORTS : Addr) (a_REQUIRES_NEW : Addr) (a_READ_UNCOMMITTED : Addr) (a_READ_COMMITTED : Addr) (a_NOT_SUPPORTED : Addr) (a_NESTED : Addr) (a_EMPTY : Addr) (h0 : Heap) (n0 : Nat) (O0 : Old Z n0 h0) (E : Exa Z h0 b "com/example/demarcate/demarcate/TransactionDefinition") (F0 : Fld Z h0 b "com/example/demarcate/demarcate/TransactionDefinition" "propagation" "Lcom/example/demarcate/demarcate/Propagation;" .null) (F1 : Fld Z h0 b "com/example/demarcate/demarcate/TransactionDefinition" "isolation" "Lcom/example/demarcate/demarcate/Isolation;" .null) (F2 : Fld Z h0 b "com/example/demarcate/demarcate/TransactionDefinition" "readOnly" "Z" (.int (0 : Int32))) (F3 : Fld Z h0 b "com/example/demarcate/demarcate/TransactionDefinition" "timeout" "Ljava/util/OptionalInt;" .null) (g : n0 ≤ b) (hS : OwnS Z a_REQUIRED a_REPEATABLE_READ a_DEFAULT a_NEVER a_MANDATORY a_SERIALIZABLE a_SUPPORTS a_REQUIRES_NEW a_READ_UNCOMMITTED a_READ_COMMITTED a_NOT_SUPPORTED a_NESTED a_EMPTY) :
    MetFree l (⟨"com/example/demarcate/demarcate/TransactionDefinition", "<init>", "()V"⟩ : MethodName) (head1 (Jvm.Cond.code (⟨"com/example/demarcate/demarcate/TransactionDefinition", "<init>", "()V"⟩ : MethodName) prog_19_method_1_code 1 none :: ws) ({ frames := 2, cells := 0, slots := 0, locals := 28 } : Room)) (fun aa_ UU_ => aa_ = #[(.ref b)] ∧ Z.Warmed39 UU_.vm ∧ UU_.heap = h0) (fun _ _ _ _ _ => True) (fun _ UU_ oo_ UV_ => ∃ vv_ LL_, oo_ = .returned vv_ ∧ QT0 Z b a_REQUIRED a_REPEATABLE_READ a_DEFAULT a_NEVER a_MANDATORY a_SERIALIZABLE a_SUPPORTS a_REQUIRES_NEW a_READ_UNCOMMITTED a_READ_COMMITTED a_NOT_SUPPORTED a_NESTED a_EMPTY h0 n0 vv_ UV_.heap LL_ ∧ FrameEnd UU_ oo_ UV_ LL_ ({ frames := 2, cells := 0, slots := 0, locals := 28 } : Room).cells ({ frames := 2, cells := 0, slots := 0, locals := 28 } : Room).slots) := by
  refine MetFree.of_bodySF (plainFor_of_name pn_3) hisR ?_
  intro p e s m args below meth c s₁ Bd hml0 hP hK
  obtain ⟨rfl, hZ, hh⟩ := hP
  have hx := Bd.exec
  have hby := Bd.bytes
  have hlk := BodyLoose.notSynchronized Bd
  have hml : c.maxLocals = 1 := hml0
  have hown : s.vm.findClass "com/example/demarcate/demarcate/TransactionDefinition" = some m.cls := findClass_of_methodNamed Bd.named
  have hnm := (name_of_methodNamed Bd.named Bd.method).1
  have X0 : Stand p l e ({ frames := 2, cells := 0, slots := 0, locals := 28 } : Room) s m #[(.ref b)] below meth c s₁ [] 0 0 := Stand.of_body Bd
  have e0 : s₁.heap = h0 := by rw [← hh, Bd.state]; rfl
  have N0 := Fr.nil n0
  have KC0 : Keep h0 h0 [b] := Keep.refl _ _
  suffices hOW : OW p e below s (QT0 Z b a_REQUIRED a_REPEATABLE_READ a_DEFAULT a_NEVER a_MANDATORY a_SERIALIZABLE a_SUPPORTS a_REQUIRES_NEW a_READ_UNCOMMITTED a_READ_COMMITTED a_NOT_SUPPORTED a_NESTED a_EMPTY h0 n0) 0 0 (s₁.setTop (mkF m 0 #[.val (.ref b)] [])) by
    obtain ⟨q1, q2, q3, q4⟩ := hOW
    exact ⟨q1, q2, castTop (ef_T0 m b) q3, q4⟩
  have hS' := hS
  obtain ⟨Sa_REQUIRED, Ea_REQUIRED, Sa_REPEATABLE_READ, Ea_REPEATABLE_READ, Sa_DEFAULT, Ea_DEFAULT, Sa_NEVER, Ea_NEVER, Sa_MANDATORY, Ea_MANDATORY, Sa_SERIALIZABLE, Ea_SERIALIZABLE, Sa_SUPPORTS, Ea_SUPPORTS, Sa_REQUIRES_NEW, Ea_REQUIRES_NEW, Sa_READ_UNCOMMITTED, Ea_READ_UNCOMMITTED, Sa_READ_COMMITTED, Ea_READ_COMMITTED, Sa_NOT_SUPPORTED, Ea_NOT_SUPPORTED, Sa_NESTED, Ea_NESTED, Sa_EMPTY, Ea_EMPTY, Fa_EMPTY_isPresent, Fa_EMPTY_value⟩ := hS'
  refine OW.st (B := s₁.setTop (mkF m 1 #[.val (.ref b)] [(.ref b)])) (fun _ kk_ => XS.aloadN X0.here hx rfl (hb hby d3_0) rfl rfl kk_) ?_
  obtain ⟨T51, X51, e51, st51⟩ := getS2 X0 hx hZ hown (host := "") (Or.inl (w_20 hw)) Via.refl e0 (Sa_REQUIRED.ext O0.2) (g := (mkF m 1 #[.val (.ref b)] [(.ref b)])) rfl (hb hby d3_1)
  refine OW.st (B := T51.setTop (mkF m 4 #[.val (.ref b)] [(.ref a_REQUIRED), (.ref b)])) (st51) ?_
  obtain ⟨T52, X52, e52, st52⟩ := getS2 X51 hx hZ hown (host := "") (Or.inl (w_21 hw)) Via.refl e51 (Sa_DEFAULT.ext O0.2) (g := (mkF m 4 #[.val (.ref b)] [(.ref a_REQUIRED), (.ref b)])) rfl (hb hby d3_4)
  refine OW.st (B := T52.setTop (mkF m 7 #[.val (.ref b)] [(.ref a_DEFAULT), (.ref a_REQUIRED), (.ref b)])) (st52) ?_
  refine OW.st (B := T52.setTop (mkF m 8 #[.val (.ref b)] [(.int (0 : Int32)), (.ref a_DEFAULT), (.ref a_REQUIRED), (.ref b)])) (fun _ kk_ => XS.iconst X52.here hx rfl (hb hby d3_7) kk_) ?_
  obtain ⟨_, _, ⟨T53, L53, k53, n53⟩, -, X53, ⟨Lc53, hQ53, l53, y53, z53⟩, st53⟩ := Jvm.LawKit.callS X52 hx (y := (⟨"java/util/OptionalInt", "empty", "()Ljava/util/OptionalInt;"⟩ : MethodName)) hown (mvT hZ (w_23 hw)) (mvT hZ (w_24 hw)) (mvT hZ (w_25 hw)) (mvT hZ (w_26 hw)) (by decide) (backOf (W := 4) (rmOE l Z a0 hw [] a_REQUIRED a_REPEATABLE_READ a_DEFAULT a_NEVER a_MANDATORY a_SERIALIZABLE a_SUPPORTS a_REQUIRES_NEW a_READ_UNCOMMITTED a_READ_COMMITTED a_NOT_SUPPORTED a_NESTED a_EMPTY h0 n0 O0 hS) hZ (w_26 hw) (w_25 hw) (by decide) (by decide)) (g := (mkF m 8 #[.val (.ref b)] [(.int (0 : Int32)), (.ref a_DEFAULT), (.ref a_REQUIRED), (.ref b)])) rfl (by rw [hml]; rfl) (argsL := []) (rest := [(.int (0 : Int32)), (.ref a_DEFAULT), (.ref a_REQUIRED), (.ref b)]) (lenOf pd_0 rfl) rfl (by show 2 * 0 + _ ≤ _; exact Nat.le_of_eq rfl) (hb hby d3_8) (fun _ _ => ⟨rfl, e52, (by decide : 0 + 0 ≤ _), (by decide : 0 + 0 ≤ _)⟩)
  dsimp only [Pt.U, Pt.locs, Pt.cells, Pt.slots] at X53 l53 y53 z53 st53 hQ53
  subst l53 y53 z53
  obtain ⟨rfl, Nq53, e53⟩ := hQ53
  have N53 := Fr.app N0 Nq53
  refine OW.st (B := T53.setTop (mkF m 11 #[.val (.ref b)] [(.ref a_EMPTY), (.int (0 : Int32)), (.ref a_DEFAULT), (.ref a_REQUIRED), (.ref b)])) (st53) ?_
  obtain ⟨_, _, ⟨T54, L54, k54, n54⟩, -, X54, ⟨Lc54, hQ54, l54, y54, z54⟩, st54⟩ := X53.specialBack hx (y := (⟨"com/example/demarcate/demarcate/TransactionDefinition", "<init>", "(Lcom/example/demarcate/demarcate/Propagation;Lcom/example/demarcate/demarcate/Isolation;ZLjava/util/OptionalInt;)V"⟩ : MethodName)) rfl hown (mvT hZ (w_28 hw)) (mvT hZ (w_29 hw)) (mvT hZ (w_30 hw)) (by decide) (backOf (W := 0) (rmT4 l Z a0 hw [] b a_REQUIRED a_DEFAULT (0 : Int32) a_EMPTY h0 n0 O0 E F0 F1 F2 F3 g (by decide)) hZ (w_30 hw) (w_16 hw) (by decide) (by decide)) (g := (mkF m 11 #[.val (.ref b)] [(.ref a_EMPTY), (.int (0 : Int32)), (.ref a_DEFAULT), (.ref a_REQUIRED), (.ref b)])) rfl (by rw [hml]; rfl) (Steps.refl _) (a := b) (argsL := [(.ref a_REQUIRED), (.ref a_DEFAULT), (.int (0 : Int32)), (.ref a_EMPTY)]) (rest := []) (lenOf pd_1 rfl) rfl (by show 2 * 0 + _ ≤ _; exact Nat.le_of_eq rfl) (hb hby d3_11) (fun _ _ => ⟨rfl, e53, (by decide : 0 + 0 ≤ _), (by decide : 0 + 0 ≤ _)⟩)
  dsimp only [Pt.U, Pt.locs, Pt.cells, Pt.slots] at X54 l54 y54 z54 st54 hQ54
  subst l54 y54 z54
  obtain ⟨rfl, Nq54, K54, Ei54, Fi54_0, Fi54_1, Fi54_2, Fi54_3⟩ := hQ54
  have N54 := Fr.app N53 Nq54
  have O54 : Old Z n0 T54.heap := O0.keep K54 (allS g all0)
  have KC54 : Keep h0 T54.heap [b] := KC0.trans K54 (allS (Or.inl (List.mem_of_getElem? (i := 0) rfl)) all0)
  refine OW.tr (B := T54.setTop (mkF m 14 #[.val (.ref b)] [])) (st54) ?_
  exact OW.retV X54 hx hlk Bd.returns (hb hby d3_14) rfl (by decide) (by decide) ⟨rfl, N54, KC54, Ei54, Fi54_0, Fi54_1, Fi54_2, Fi54_3⟩
theorem ef_OI (m : MethodId) (x0 : Addr) (x1 : Int32) : entryFrame m #[(.ref x0), (.int x1)] 2 = mkF m 0 #[.val (.ref x0), .val (.int x1)] [] := by first | (simp [entryFrame, mkF, argsToLocals, Value.category]; done) | rfl
def QOI (Z : State) (b : Addr) (n : Int32) (h0 : Heap) (n0 : Nat) (v : Option Value) (h : Heap) (L : List Loc) : Prop := v = none ∧ Fr n0 L ∧ Keep h0 h [b] ∧ Exa Z h b "java/util/OptionalInt" ∧ Fld Z h b "java/util/OptionalInt" "isPresent" "Z" (.int (1 : Int32)) ∧ Fld Z h b "java/util/OptionalInt" "value" "I" (.int n)
set_option maxRecDepth 65536 in
set_option maxHeartbeats 40000000 in
theorem rmOI (l : Launch) (Z : State) (a0 : Array Value) (hw : ∀ d ∈ tables_1, d.before a0 Z = true) (ws : List Jvm.Cond) (b : Addr) (n : Int32) (h0 : Heap) (n0 : Nat) (O0 : Old Z n0 h0) (E : Exa Z h0 b "java/util/OptionalInt") (F1 : Fld Z h0 b "java/util/OptionalInt" "isPresent" "Z" (.int (0 : Int32))) (F2 : Fld Z h0 b "java/util/OptionalInt" "value" "I" (.int (0 : Int32))) (g : n0 ≤ b) :
    MetFree l (⟨"java/util/OptionalInt", "<init>", "(I)V"⟩ : MethodName) (head1 (Jvm.Cond.code (⟨"java/util/OptionalInt", "<init>", "(I)V"⟩ : MethodName) jdk_2649_method_3_code 2 none :: ws) ({ frames := 1, cells := 0, slots := 0, locals := 12 } : Room)) (fun aa_ UU_ => aa_ = #[(.ref b), (.int n)] ∧ Z.Warmed39 UU_.vm ∧ UU_.heap = h0) (fun _ _ _ _ _ => True) (fun _ UU_ oo_ UV_ => ∃ vv_ LL_, oo_ = .returned vv_ ∧ QOI Z b n h0 n0 vv_ UV_.heap LL_ ∧ FrameEnd UU_ oo_ UV_ LL_ ({ frames := 1, cells := 0, slots := 0, locals := 12 } : Room).cells ({ frames := 1, cells := 0, slots := 0, locals := 12 } : Room).slots) := by
  refine MetFree.of_bodySF (plainFor_of_name pn_1) hisR ?_
  intro p e s m args below meth c s₁ Bd hml0 hP hK
  obtain ⟨rfl, hZ, hh⟩ := hP
  have hx := Bd.exec
  have hby := Bd.bytes
  have hlk := BodyLoose.notSynchronized Bd
  have hml : c.maxLocals = 2 := hml0
  have hown : s.vm.findClass "java/util/OptionalInt" = some m.cls := findClass_of_methodNamed Bd.named
  have hnm := (name_of_methodNamed Bd.named Bd.method).1
  have X0 : Stand p l e ({ frames := 1, cells := 0, slots := 0, locals := 12 } : Room) s m #[(.ref b), (.int n)] below meth c s₁ [] 0 0 := Stand.of_body Bd
  have e0 : s₁.heap = h0 := by rw [← hh, Bd.state]; rfl
  have N0 := Fr.nil n0
  have KC0 : Keep h0 h0 [b] := Keep.refl _ _
  suffices hOW : OW p e below s (QOI Z b n h0 n0) 0 0 (s₁.setTop (mkF m 0 #[.val (.ref b), .val (.int n)] [])) by
    obtain ⟨q1, q2, q3, q4⟩ := hOW
    exact ⟨q1, q2, castTop (ef_OI m b n) q3, q4⟩
  refine OW.st (B := s₁.setTop (mkF m 1 #[.val (.ref b), .val (.int n)] [(.ref b)])) (fun _ kk_ => XS.aloadN X0.here hx rfl (hb hby d18_0) rfl rfl kk_) ?_
  obtain ⟨T55, X55, e55, st55⟩ := initO X0 hx hZ hown (w_122 hw) (w_32 hw) (w_33 hw) e0 (g := (mkF m 1 #[.val (.ref b), .val (.int n)] [(.ref b)])) rfl (by rw [hml]; rfl) rfl (hb hby d18_1) (by decide) (W := 0) (by show 2 * 0 + _ ≤ _; exact Nat.le_of_eq rfl) (by decide)
  refine OW.st (B := T55.setTop (mkF m 4 #[.val (.ref b), .val (.int n)] [])) (st55) ?_
  refine OW.st (B := T55.setTop (mkF m 5 #[.val (.ref b), .val (.int n)] [(.ref b)])) (fun _ kk_ => XS.aloadN X55.here hx rfl (hb hby d18_4) rfl rfl kk_) ?_
  refine OW.st (B := T55.setTop (mkF m 6 #[.val (.ref b), .val (.int n)] [(.int (1 : Int32)), (.ref b)])) (fun _ kk_ => XS.iconst X55.here hx rfl (hb hby d18_5) kk_) ?_
  obtain ⟨T56, h56, X56, e56, W56, st56⟩ := putFN X55 hx hZ hown (w_123 hw) Via.refl e55 F1 E (Or.inr ⟨(w_124 hw), rfl, hnm⟩) (w_117 hw) (ty := .boolean) (v' := (.int (1 : Int32))) (by decide) rfl rfl (g := (mkF m 6 #[.val (.ref b), .val (.int n)] [(.int (1 : Int32)), (.ref b)])) rfl rfl (hb hby d18_6)
  have N56 := Fr.snoc X56 N0 g
  have O56 : Old Z n0 h56 := O0.wr W56 g
  have KC56 : Keep h0 h56 [b] := KC0.wr W56 (Or.inl (List.mem_of_getElem? (i := 0) rfl))
  have F56 : Fld Z h56 b "java/util/OptionalInt" "isPresent" "Z" (.int (1 : Int32)) := Fld.same W56 F1
  refine OW.st (B := T56.setTop (mkF m 9 #[.val (.ref b), .val (.int n)] [])) (st56) ?_
  refine OW.st (B := T56.setTop (mkF m 10 #[.val (.ref b), .val (.int n)] [(.ref b)])) (fun _ kk_ => XS.aloadN X56.here hx rfl (hb hby d18_9) rfl rfl kk_) ?_
  refine OW.st (B := T56.setTop (mkF m 11 #[.val (.ref b), .val (.int n)] [(.int n), (.ref b)])) (fun _ kk_ => XS.iloadN X56.here hx rfl (hb hby d18_10) rfl kk_) ?_
  obtain ⟨T57, h57, X57, e57, W57, st57⟩ := putF X56 hx hZ hown (host := "") (Or.inl (w_125 hw)) Via.refl e56 (F2.other W56 (Or.inr (slot_ne (Or.inr (w_126 hw)) (Or.inr (w_124 hw)) (by decide) (t := .int) (t' := .boolean) (by decide) (by decide)))) (E.wr W56) (Or.inr ⟨(w_126 hw), rfl, hnm⟩) (w_117 hw) (ty := .int) (by decide) rfl rfl (g := (mkF m 11 #[.val (.ref b), .val (.int n)] [(.int n), (.ref b)])) rfl rfl (hb hby d18_11)
  have N57 := Fr.snoc X57 N56 g
  have O57 : Old Z n0 h57 := O56.wr W57 g
  have KC57 : Keep h0 h57 [b] := KC56.wr W57 (Or.inl (List.mem_of_getElem? (i := 0) rfl))
  have F57 : Fld Z h57 b "java/util/OptionalInt" "value" "I" (.int n) := Fld.same W57 (F2.other W56 (Or.inr (slot_ne (Or.inr (w_126 hw)) (Or.inr (w_124 hw)) (by decide) (t := .int) (t' := .boolean) (by decide) (by decide))))
  refine OW.st (B := T57.setTop (mkF m 14 #[.val (.ref b), .val (.int n)] [])) (st57) ?_
  exact OW.retV X57 hx hlk Bd.returns (hb hby d18_14) e57 (by decide) (by decide) ⟨rfl, N57, KC57, ((E.wr W56).wr W57), (F56.other W57 (Or.inr (slot_ne (Or.inr (w_124 hw)) (Or.inr (w_126 hw)) (by decide) (t := .boolean) (t' := .int) (by decide) (by decide)))), F57⟩
theorem ef_OF (m : MethodId) (x0 : Int32) : entryFrame m #[(.int x0)] 1 = mkF m 0 #[.val (.int x0)] [] := by first | (simp [entryFrame, mkF, argsToLocals, Value.category]; done) | rfl
def QOF (Z : State) (n : Int32) (h0 : Heap) (n0 : Nat) (v : Option Value) (h : Heap) (L : List Loc) : Prop := ∃ b : Addr, v = some (.ref b) ∧ Fr n0 L ∧ Keep h0 h [] ∧ n0 ≤ b ∧ h0.size ≤ b ∧ Exa Z h b "java/util/OptionalInt" ∧ Fld Z h b "java/util/OptionalInt" "isPresent" "Z" (.int (1 : Int32)) ∧ Fld Z h b "java/util/OptionalInt" "value" "I" (.int n)
set_option maxRecDepth 65536 in
set_option maxHeartbeats 40000000 in
theorem rmOF (l : Launch) (Z : State) (a0 : Array Value) (hw : ∀ d ∈ tables_1, d.before a0 Z = true) (ws : List Jvm.Cond) (n : Int32) (h0 : Heap) (n0 : Nat) (O0 : Old Z n0 h0) :
    MetFree l (⟨"java/util/OptionalInt", "of", "(I)Ljava/util/OptionalInt;"⟩ : MethodName) (head1 (Jvm.Cond.code (⟨"java/util/OptionalInt", "of", "(I)Ljava/util/OptionalInt;"⟩ : MethodName) jdk_2649_method_4_code 1 (some (.object "java/util/OptionalInt")) :: ws) ({ frames := 2, cells := 1, slots := 2, locals := 26 } : Room)) (fun aa_ UU_ => aa_ = #[(.int n)] ∧ Z.Warmed39 UU_.vm ∧ UU_.heap = h0) (fun _ _ _ _ _ => True) (fun _ UU_ oo_ UV_ => ∃ vv_ LL_, oo_ = .returned vv_ ∧ QOF Z n h0 n0 vv_ UV_.heap LL_ ∧ FrameEnd UU_ oo_ UV_ LL_ ({ frames := 2, cells := 1, slots := 2, locals := 26 } : Room).cells ({ frames := 2, cells := 1, slots := 2, locals := 26 } : Room).slots) := by
  refine MetFree.of_bodySF (plainFor_of_name pn_1) hisR ?_
  intro p e s m args below meth c s₁ Bd hml0 hP hK
  obtain ⟨rfl, hZ, hh⟩ := hP
  have hx := Bd.exec
  have hby := Bd.bytes
  have hlk := BodyLoose.notSynchronized Bd
  have hml : c.maxLocals = 1 := hml0
  have hown : s.vm.findClass "java/util/OptionalInt" = some m.cls := findClass_of_methodNamed Bd.named
  have hnm := (name_of_methodNamed Bd.named Bd.method).1
  have X0 : Stand p l e ({ frames := 2, cells := 1, slots := 2, locals := 26 } : Room) s m #[(.int n)] below meth c s₁ [] 0 0 := Stand.of_body Bd
  have e0 : s₁.heap = h0 := by rw [← hh, Bd.state]; rfl
  have N0 := Fr.nil n0
  have KC0 : Keep h0 h0 [] := Keep.refl _ _
  suffices hOW : OW p e below s (QOF Z n h0 n0) 1 2 (s₁.setTop (mkF m 0 #[.val (.int n)] [])) by
    obtain ⟨q1, q2, q3, q4⟩ := hOW
    exact ⟨q1, q2, castTop (ef_OF m n) q3, q4⟩
  obtain ⟨T58, h58, X58, e58, E58, A58, D58, -, st58⟩ := newO X0 hx hZ hown (w_116 hw) (w_117 hw) (w_25 hw) e0 (g := (mkF m 0 #[.val (.int n)] [])) rfl (hb hby d17_0) (by decide) (by decide)
  obtain ⟨b58, g58⟩ : ∃ z, z = h0.size := ⟨_, rfl⟩
  rw [← g58] at A58 D58 st58
  have n_b58 : n0 ≤ b58 := Nat.le_trans (own_oldle O0) (Nat.le_of_eq g58.symm)
  have O58 : Old Z n0 h58 := O0.ext E58
  have sz_b58 : h0.size ≤ b58 := Nat.le_trans KC0.1 (Nat.le_of_eq g58.symm)
  have KC58 : Keep h0 h58 [] := KC0.ext E58
  have F58_124 : Fld Z h58 b58 "java/util/OptionalInt" "isPresent" "Z" (.int (0 : Int32)) := D58 (Or.inr (w_124 hw)) (ty := .boolean) (by decide)
  have F58_126 : Fld Z h58 b58 "java/util/OptionalInt" "value" "I" (.int (0 : Int32)) := D58 (Or.inr (w_126 hw)) (ty := .int) (by decide)
  refine OW.st (B := T58.setTop (mkF m 3 #[.val (.int n)] [(.ref b58)])) (st58) ?_
  refine OW.st (B := T58.setTop (mkF m 4 #[.val (.int n)] [(.ref b58), (.ref b58)])) (fun _ kk_ => XS.dup X58.here hx rfl (hb hby d17_3) rfl rfl kk_) ?_
  refine OW.st (B := T58.setTop (mkF m 5 #[.val (.int n)] [(.int n), (.ref b58), (.ref b58)])) (fun _ kk_ => XS.iloadN X58.here hx rfl (hb hby d17_4) rfl kk_) ?_
  obtain ⟨_, _, ⟨T59, L59, k59, n59⟩, -, X59, ⟨Lc59, hQ59, l59, y59, z59⟩, st59⟩ := X58.specialBack hx (y := (⟨"java/util/OptionalInt", "<init>", "(I)V"⟩ : MethodName)) rfl hown (mvT hZ (w_118 hw)) (mvT hZ (w_119 hw)) (mvT hZ (w_121 hw)) (by decide) (backOf (W := 1) (rmOI l Z a0 hw [] b58 n h58 n0 O58 A58 F58_124 F58_126 n_b58) hZ (w_121 hw) (w_25 hw) (by decide) (by decide)) (g := (mkF m 5 #[.val (.int n)] [(.int n), (.ref b58), (.ref b58)])) rfl (by rw [hml]; rfl) (Steps.refl _) (a := b58) (argsL := [(.int n)]) (rest := [(.ref b58)]) (lenOf pd_2 rfl) rfl (by show 2 * 0 + _ ≤ _; exact Nat.le_of_eq rfl) (hb hby d17_5) (fun _ _ => ⟨rfl, e58, (by decide : 1 + 0 ≤ _), (by decide : 2 + 0 ≤ _)⟩)
  dsimp only [Pt.U, Pt.locs, Pt.cells, Pt.slots] at X59 l59 y59 z59 st59 hQ59
  subst l59 y59 z59
  obtain ⟨rfl, Nq59, K59, Ei59, Fp59, Fv59⟩ := hQ59
  have N59 := Fr.app N0 Nq59
  have O59 : Old Z n0 T59.heap := O58.keep K59 (allS n_b58 all0)
  have KC59 : Keep h0 T59.heap [] := KC58.trans K59 (allS (Or.inr sz_b58) all0)
  refine OW.tr (B := T59.setTop (mkF m 8 #[.val (.int n)] [(.ref b58)])) (st59) ?_
  exact OW.ret X59 hx hlk (i := .areturn) Bd.returns rfl (Or.inr (Or.inr (Or.inr (Or.inr ⟨rfl, rfl, rfl⟩)))) (hb hby d17_8) rfl (by decide) (by decide) ⟨b58, rfl, N59, KC59, n_b58, sz_b58, Ei59, Fp59, Fv59⟩
theorem ef_WP (m : MethodId) (x0 : Addr) (x1 : Addr) : entryFrame m #[(.ref x0), (.ref x1)] 2 = mkF m 0 #[.val (.ref x0), .val (.ref x1)] [] := by first | (simp [entryFrame, mkF, argsToLocals, Value.category]; done) | rfl
def QWP (Z : State) (b : Addr) (p1 : Addr) (i1 : Addr) (r1 : Int32) (t1 : Addr) (x1 : Addr) (h0 : Heap) (n0 : Nat) (v : Option Value) (h : Heap) (L : List Loc) : Prop := ∃ c : Addr, v = some (.ref c) ∧ Fr n0 L ∧ Keep h0 h [] ∧ n0 ≤ c ∧ h0.size ≤ c ∧ Exa Z h c "com/example/demarcate/demarcate/TransactionDefinition" ∧ Fld Z h c "com/example/demarcate/demarcate/TransactionDefinition" "propagation" "Lcom/example/demarcate/demarcate/Propagation;" (.ref x1) ∧ Fld Z h c "com/example/demarcate/demarcate/TransactionDefinition" "isolation" "Lcom/example/demarcate/demarcate/Isolation;" (.ref i1) ∧ Fld Z h c "com/example/demarcate/demarcate/TransactionDefinition" "readOnly" "Z" (.int r1) ∧ Fld Z h c "com/example/demarcate/demarcate/TransactionDefinition" "timeout" "Ljava/util/OptionalInt;" (.ref t1)
set_option maxRecDepth 65536 in
set_option maxHeartbeats 40000000 in
theorem rmWP (l : Launch) (Z : State) (a0 : Array Value) (hw : ∀ d ∈ tables_1, d.before a0 Z = true) (ws : List Jvm.Cond) (b : Addr) (p1 : Addr) (i1 : Addr) (r1 : Int32) (t1 : Addr) (x1 : Addr) (h0 : Heap) (n0 : Nat) (O0 : Old Z n0 h0) (F0 : Fld Z h0 b "com/example/demarcate/demarcate/TransactionDefinition" "propagation" "Lcom/example/demarcate/demarcate/Propagation;" (.ref p1)) (F1 : Fld Z h0 b "com/example/demarcate/demarcate/TransactionDefinition" "isolation" "Lcom/example/demarcate/demarcate/Isolation;" (.ref i1)) (F2 : Fld Z h0 b "com/example/demarcate/demarcate/TransactionDefinition" "readOnly" "Z" (.int r1)) (F3 : Fld Z h0 b "com/example/demarcate/demarcate/TransactionDefinition" "timeout" "Ljava/util/OptionalInt;" (.ref t1)) (hr : r1 = 0 ∨ r1 = 1) (EA : Exa Z h0 x1 "com/example/demarcate/demarcate/Propagation") :
    MetFree l (⟨"com/example/demarcate/demarcate/TransactionDefinition", "withPropagation", "(Lcom/example/demarcate/demarcate/Propagation;)Lcom/example/demarcate/demarcate/TransactionDefinition;"⟩ : MethodName) (head1 (Jvm.Cond.code (⟨"com/example/demarcate/demarcate/TransactionDefinition", "withPropagation", "(Lcom/example/demarcate/demarcate/Propagation;)Lcom/example/demarcate/demarcate/TransactionDefinition;"⟩ : MethodName) prog_19_method_3_code 2 (some (.object "com/example/demarcate/demarcate/TransactionDefinition")) :: ws) ({ frames := 2, cells := 3, slots := 52, locals := 29 } : Room)) (fun aa_ UU_ => aa_ = #[(.ref b), (.ref x1)] ∧ Z.Warmed39 UU_.vm ∧ UU_.heap = h0) (fun _ _ _ _ _ => True) (fun _ UU_ oo_ UV_ => ∃ vv_ LL_, oo_ = .returned vv_ ∧ QWP Z b p1 i1 r1 t1 x1 h0 n0 vv_ UV_.heap LL_ ∧ ReturnedEndW UU_ oo_ UV_ LL_ ({ frames := 2, cells := 3, slots := 52, locals := 29 } : Room).cells ({ frames := 2, cells := 3, slots := 52, locals := 29 } : Room).slots) := by
  refine MetFree.of_bodySF (plainFor_of_name pn_3) hisR ?_
  intro p e s m args below meth c s₁ Bd hml0 hP hK
  obtain ⟨rfl, hZ, hh⟩ := hP
  have hx := Bd.exec
  have hby := Bd.bytes
  have hlk := BodyLoose.notSynchronized Bd
  have hml : c.maxLocals = 2 := hml0
  have hown : s.vm.findClass "com/example/demarcate/demarcate/TransactionDefinition" = some m.cls := findClass_of_methodNamed Bd.named
  have hnm := (name_of_methodNamed Bd.named Bd.method).1
  have X0 : Stand p l e ({ frames := 2, cells := 3, slots := 52, locals := 29 } : Room) s m #[(.ref b), (.ref x1)] below meth c s₁ [] 0 0 := Stand.of_body Bd
  have e0 : s₁.heap = h0 := by rw [← hh, Bd.state]; rfl
  have N0 := Fr.nil n0
  have hS0 : s.Since s.vm 0 := (State.WarmedH.refl s).since 0
  have hk0 : 0 ≤ h0.size := Nat.zero_le _
  have KC0 : Keep h0 h0 [] := Keep.refl _ _
  suffices hOW : OWW p e below s (QWP Z b p1 i1 r1 t1 x1 h0 n0) 3 52 (s₁.setTop (mkF m 0 #[.val (.ref b), .val (.ref x1)] [])) by
    obtain ⟨q1, q2, q3, q4⟩ := hOW
    exact ⟨q1, q2, castTop (ef_WP m b x1) q3, q4⟩
  obtain ⟨T60, h60, X60, e60, E60, A60, D60, -, st60⟩ := newO X0 hx hZ hown (w_47 hw) (w_15 hw) (w_16 hw) e0 (g := (mkF m 0 #[.val (.ref b), .val (.ref x1)] [])) rfl (hb hby d7_0) (by decide) (by decide)
  obtain ⟨b60, g60⟩ : ∃ z, z = h0.size := ⟨_, rfl⟩
  rw [← g60] at A60 D60 st60
  have n_b60 : n0 ≤ b60 := Nat.le_trans (own_oldle O0) (Nat.le_of_eq g60.symm)
  have O60 : Old Z n0 h60 := O0.ext E60
  have sz_b60 : h0.size ≤ b60 := Nat.le_trans KC0.1 (Nat.le_of_eq g60.symm)
  have KC60 : Keep h0 h60 [] := KC0.ext E60
  have F60_35 : Fld Z h60 b60 "com/example/demarcate/demarcate/TransactionDefinition" "propagation" "Lcom/example/demarcate/demarcate/Propagation;" .null := D60 (Or.inr (w_35 hw)) (ty := (.object "com/example/demarcate/demarcate/Propagation")) (by decide)
  have F60_37 : Fld Z h60 b60 "com/example/demarcate/demarcate/TransactionDefinition" "isolation" "Lcom/example/demarcate/demarcate/Isolation;" .null := D60 (Or.inr (w_37 hw)) (ty := (.object "com/example/demarcate/demarcate/Isolation")) (by decide)
  have F60_39 : Fld Z h60 b60 "com/example/demarcate/demarcate/TransactionDefinition" "readOnly" "Z" (.int (0 : Int32)) := D60 (Or.inr (w_39 hw)) (ty := .boolean) (by decide)
  have F60_41 : Fld Z h60 b60 "com/example/demarcate/demarcate/TransactionDefinition" "timeout" "Ljava/util/OptionalInt;" .null := D60 (Or.inr (w_41 hw)) (ty := (.object "java/util/OptionalInt")) (by decide)
  refine OWW.st (B := T60.setTop (mkF m 3 #[.val (.ref b), .val (.ref x1)] [(.ref b60)])) (st60) ?_
  refine OWW.st (B := T60.setTop (mkF m 4 #[.val (.ref b), .val (.ref x1)] [(.ref b60), (.ref b60)])) (fun _ kk_ => XS.dup X60.here hx rfl (hb hby d7_3) rfl rfl kk_) ?_
  refine OWW.st (B := T60.setTop (mkF m 5 #[.val (.ref b), .val (.ref x1)] [(.ref x1), (.ref b60), (.ref b60)])) (fun _ kk_ => XS.aloadN X60.here hx rfl (hb hby d7_4) rfl rfl kk_) ?_
  obtain ⟨a61, T61, h61, k61, X61, e61, E61, hS61, hk61, hZ61, hown61, st61⟩ := ldcS (s := s) (vm0 := s.vm) X60 hx hZ hown (w_48 hw) (own_wS hw) e60 hS0 (Nat.le_trans hk0 E60.1) (g := (mkF m 5 #[.val (.ref b), .val (.ref x1)] [(.ref x1), (.ref b60), (.ref b60)])) rfl (hb hby d7_5) (n := 44) (by decide) (by decide) (by decide) (by decide)
  have O61 : Old Z n0 h61 := O60.ext E61
  have KC61 : Keep h0 h61 [] := KC60.ext E61
  refine OWW.st (B := T61.setTop (mkF m 7 #[.val (.ref b), .val (.ref x1)] [(.ref a61), (.ref x1), (.ref b60), (.ref b60)])) (st61) ?_
  obtain ⟨_, _, ⟨T62, L62, k62, n62⟩, -, X62, ⟨Lc62, hQ62, l62, y62, z62⟩, st62⟩ := Jvm.LawKit.callS X61 hx (y := (⟨"java/util/Objects", "requireNonNull", "(Ljava/lang/Object;Ljava/lang/String;)Ljava/lang/Object;"⟩ : MethodName)) hown61 (mvT hZ61 (w_56 hw)) (mvT hZ61 (w_57 hw)) (mvT hZ61 (w_58 hw)) (mvT hZ61 (w_59 hw)) (by decide) (backOf (W := 2) (rmNN l Z a0 hw [] x1 a61 h61 n0 O61 ) hZ61 (w_59 hw) (w_58 hw) (by decide) (by decide)) (g := (mkF m 7 #[.val (.ref b), .val (.ref x1)] [(.ref a61), (.ref x1), (.ref b60), (.ref b60)])) rfl (by rw [hml]; rfl) (argsL := [(.ref x1), (.ref a61)]) (rest := [(.ref b60), (.ref b60)]) (lenOf pd_3 rfl) rfl (by show 2 * 0 + _ ≤ _; exact Nat.le_of_eq rfl) (hb hby d7_7) (fun _ _ => ⟨rfl, e61, (by decide : 3 + 0 ≤ _), (by decide : 52 + 0 ≤ _)⟩)
  dsimp only [Pt.U, Pt.locs, Pt.cells, Pt.slots] at X62 l62 y62 z62 st62 hQ62
  subst l62 y62 z62
  obtain ⟨rfl, Nq62, e62⟩ := hQ62
  have N62 := Fr.app N0 Nq62
  refine OWW.st (B := T62.setTop (mkF m 10 #[.val (.ref b), .val (.ref x1)] [(.ref x1), (.ref b60), (.ref b60)])) (st62) ?_
  obtain ⟨T63, X63, e63, st63⟩ := castY X62 hx hZ61 hown61 (w_60 hw) e62 (Ins.self ((EA.ext E60).ext E61)) (g := (mkF m 10 #[.val (.ref b), .val (.ref x1)] [(.ref x1), (.ref b60), (.ref b60)])) rfl rfl (hb hby d7_10)
  refine OWW.st (B := T63.setTop (mkF m 13 #[.val (.ref b), .val (.ref x1)] [(.ref x1), (.ref b60), (.ref b60)])) (st63) ?_
  refine OWW.st (B := T63.setTop (mkF m 14 #[.val (.ref b), .val (.ref x1)] [(.ref b), (.ref x1), (.ref b60), (.ref b60)])) (fun _ kk_ => XS.aloadN X63.here hx rfl (hb hby d7_13) rfl rfl kk_) ?_
  obtain ⟨T64, X64, e64, st64⟩ := getF X63 hx hZ61 hown61 (host := "") (Or.inl (w_36 hw)) Via.refl e63 ((F1.ext E60).ext E61) (g := (mkF m 14 #[.val (.ref b), .val (.ref x1)] [(.ref b), (.ref x1), (.ref b60), (.ref b60)])) rfl rfl (hb hby d7_14)
  refine OWW.st (B := T64.setTop (mkF m 17 #[.val (.ref b), .val (.ref x1)] [(.ref i1), (.ref x1), (.ref b60), (.ref b60)])) (st64) ?_
  refine OWW.st (B := T64.setTop (mkF m 18 #[.val (.ref b), .val (.ref x1)] [(.ref b), (.ref i1), (.ref x1), (.ref b60), (.ref b60)])) (fun _ kk_ => XS.aloadN X64.here hx rfl (hb hby d7_17) rfl rfl kk_) ?_
  obtain ⟨T65, X65, e65, st65⟩ := getF X64 hx hZ61 hown61 (host := "") (Or.inl (w_38 hw)) Via.refl e64 ((F2.ext E60).ext E61) (g := (mkF m 18 #[.val (.ref b), .val (.ref x1)] [(.ref b), (.ref i1), (.ref x1), (.ref b60), (.ref b60)])) rfl rfl (hb hby d7_18)
  refine OWW.st (B := T65.setTop (mkF m 21 #[.val (.ref b), .val (.ref x1)] [(.int r1), (.ref i1), (.ref x1), (.ref b60), (.ref b60)])) (st65) ?_
  refine OWW.st (B := T65.setTop (mkF m 22 #[.val (.ref b), .val (.ref x1)] [(.ref b), (.int r1), (.ref i1), (.ref x1), (.ref b60), (.ref b60)])) (fun _ kk_ => XS.aloadN X65.here hx rfl (hb hby d7_21) rfl rfl kk_) ?_
  obtain ⟨T66, X66, e66, st66⟩ := getF X65 hx hZ61 hown61 (host := "") (Or.inl (w_40 hw)) Via.refl e65 ((F3.ext E60).ext E61) (g := (mkF m 22 #[.val (.ref b), .val (.ref x1)] [(.ref b), (.int r1), (.ref i1), (.ref x1), (.ref b60), (.ref b60)])) rfl rfl (hb hby d7_22)
  refine OWW.st (B := T66.setTop (mkF m 25 #[.val (.ref b), .val (.ref x1)] [(.ref t1), (.int r1), (.ref i1), (.ref x1), (.ref b60), (.ref b60)])) (st66) ?_
  obtain ⟨_, _, ⟨T67, L67, k67, n67⟩, -, X67, ⟨Lc67, hQ67, l67, y67, z67⟩, st67⟩ := X66.specialBack hx (y := (⟨"com/example/demarcate/demarcate/TransactionDefinition", "<init>", "(Lcom/example/demarcate/demarcate/Propagation;Lcom/example/demarcate/demarcate/Isolation;ZLjava/util/OptionalInt;)V"⟩ : MethodName)) rfl hown61 (mvT hZ61 (w_28 hw)) (mvT hZ61 (w_29 hw)) (mvT hZ61 (w_30 hw)) (by decide) (backOf (W := 1) (rmT4 l Z a0 hw [] b60 x1 i1 r1 t1 h61 n0 O61 (A60.ext E61) (F60_35.ext E61) (F60_37.ext E61) (F60_39.ext E61) (F60_41.ext E61) n_b60 hr) hZ61 (w_30 hw) (w_16 hw) (by decide) (by decide)) (g := (mkF m 25 #[.val (.ref b), .val (.ref x1)] [(.ref t1), (.int r1), (.ref i1), (.ref x1), (.ref b60), (.ref b60)])) rfl (by rw [hml]; rfl) (Steps.refl _) (a := b60) (argsL := [(.ref x1), (.ref i1), (.int r1), (.ref t1)]) (rest := [(.ref b60)]) (lenOf pd_1 rfl) rfl (by show 2 * 0 + _ ≤ _; exact Nat.le_of_eq rfl) (hb hby d7_25) (fun _ _ => ⟨rfl, e66, (by decide : 3 + 0 ≤ _), (by decide : 52 + 0 ≤ _)⟩)
  dsimp only [Pt.U, Pt.locs, Pt.cells, Pt.slots] at X67 l67 y67 z67 st67 hQ67
  subst l67 y67 z67
  obtain ⟨rfl, Nq67, K67, Ei67, Fi67_0, Fi67_1, Fi67_2, Fi67_3⟩ := hQ67
  have N67 := Fr.app N62 Nq67
  have O67 : Old Z n0 T67.heap := O61.keep K67 (allS n_b60 all0)
  have KC67 : Keep h0 T67.heap [] := KC61.trans K67 (allS (Or.inr sz_b60) all0)
  refine OWW.tr (B := T67.setTop (mkF m 28 #[.val (.ref b), .val (.ref x1)] [(.ref b60)])) (st67) ?_
  exact OWW.ret X67 hS61 (Nat.le_trans hk61 K67.1) hx hlk (i := .areturn) Bd.returns rfl (Or.inr (Or.inr (Or.inr (Or.inr ⟨rfl, rfl, rfl⟩)))) (hb hby d7_28) rfl (by decide) (by decide) ⟨b60, rfl, N67, KC67, n_b60, sz_b60, Ei67, Fi67_0, Fi67_1, Fi67_2, Fi67_3⟩
theorem ef_WI (m : MethodId) (x0 : Addr) (x1 : Addr) : entryFrame m #[(.ref x0), (.ref x1)] 2 = mkF m 0 #[.val (.ref x0), .val (.ref x1)] [] := by first | (simp [entryFrame, mkF, argsToLocals, Value.category]; done) | rfl
def QWI (Z : State) (b : Addr) (p1 : Addr) (i1 : Addr) (r1 : Int32) (t1 : Addr) (x1 : Addr) (h0 : Heap) (n0 : Nat) (v : Option Value) (h : Heap) (L : List Loc) : Prop := ∃ c : Addr, v = some (.ref c) ∧ Fr n0 L ∧ Keep h0 h [] ∧ n0 ≤ c ∧ h0.size ≤ c ∧ Exa Z h c "com/example/demarcate/demarcate/TransactionDefinition" ∧ Fld Z h c "com/example/demarcate/demarcate/TransactionDefinition" "propagation" "Lcom/example/demarcate/demarcate/Propagation;" (.ref p1) ∧ Fld Z h c "com/example/demarcate/demarcate/TransactionDefinition" "isolation" "Lcom/example/demarcate/demarcate/Isolation;" (.ref x1) ∧ Fld Z h c "com/example/demarcate/demarcate/TransactionDefinition" "readOnly" "Z" (.int r1) ∧ Fld Z h c "com/example/demarcate/demarcate/TransactionDefinition" "timeout" "Ljava/util/OptionalInt;" (.ref t1)
set_option maxRecDepth 65536 in
set_option maxHeartbeats 40000000 in
theorem rmWI (l : Launch) (Z : State) (a0 : Array Value) (hw : ∀ d ∈ tables_1, d.before a0 Z = true) (ws : List Jvm.Cond) (b : Addr) (p1 : Addr) (i1 : Addr) (r1 : Int32) (t1 : Addr) (x1 : Addr) (h0 : Heap) (n0 : Nat) (O0 : Old Z n0 h0) (F0 : Fld Z h0 b "com/example/demarcate/demarcate/TransactionDefinition" "propagation" "Lcom/example/demarcate/demarcate/Propagation;" (.ref p1)) (F1 : Fld Z h0 b "com/example/demarcate/demarcate/TransactionDefinition" "isolation" "Lcom/example/demarcate/demarcate/Isolation;" (.ref i1)) (F2 : Fld Z h0 b "com/example/demarcate/demarcate/TransactionDefinition" "readOnly" "Z" (.int r1)) (F3 : Fld Z h0 b "com/example/demarcate/demarcate/TransactionDefinition" "timeout" "Ljava/util/OptionalInt;" (.ref t1)) (hr : r1 = 0 ∨ r1 = 1) (EA : Exa Z h0 x1 "com/example/demarcate/demarcate/Isolation") :
    MetFree l (⟨"com/example/demarcate/demarcate/TransactionDefinition", "withIsolation", "(Lcom/example/demarcate/demarcate/Isolation;)Lcom/example/demarcate/demarcate/TransactionDefinition;"⟩ : MethodName) (head1 (Jvm.Cond.code (⟨"com/example/demarcate/demarcate/TransactionDefinition", "withIsolation", "(Lcom/example/demarcate/demarcate/Isolation;)Lcom/example/demarcate/demarcate/TransactionDefinition;"⟩ : MethodName) prog_19_method_4_code 2 (some (.object "com/example/demarcate/demarcate/TransactionDefinition")) :: ws) ({ frames := 2, cells := 3, slots := 44, locals := 29 } : Room)) (fun aa_ UU_ => aa_ = #[(.ref b), (.ref x1)] ∧ Z.Warmed39 UU_.vm ∧ UU_.heap = h0) (fun _ _ _ _ _ => True) (fun _ UU_ oo_ UV_ => ∃ vv_ LL_, oo_ = .returned vv_ ∧ QWI Z b p1 i1 r1 t1 x1 h0 n0 vv_ UV_.heap LL_ ∧ ReturnedEndW UU_ oo_ UV_ LL_ ({ frames := 2, cells := 3, slots := 44, locals := 29 } : Room).cells ({ frames := 2, cells := 3, slots := 44, locals := 29 } : Room).slots) := by
  refine MetFree.of_bodySF (plainFor_of_name pn_3) hisR ?_
  intro p e s m args below meth c s₁ Bd hml0 hP hK
  obtain ⟨rfl, hZ, hh⟩ := hP
  have hx := Bd.exec
  have hby := Bd.bytes
  have hlk := BodyLoose.notSynchronized Bd
  have hml : c.maxLocals = 2 := hml0
  have hown : s.vm.findClass "com/example/demarcate/demarcate/TransactionDefinition" = some m.cls := findClass_of_methodNamed Bd.named
  have hnm := (name_of_methodNamed Bd.named Bd.method).1
  have X0 : Stand p l e ({ frames := 2, cells := 3, slots := 44, locals := 29 } : Room) s m #[(.ref b), (.ref x1)] below meth c s₁ [] 0 0 := Stand.of_body Bd
  have e0 : s₁.heap = h0 := by rw [← hh, Bd.state]; rfl
  have N0 := Fr.nil n0
  have hS0 : s.Since s.vm 0 := (State.WarmedH.refl s).since 0
  have hk0 : 0 ≤ h0.size := Nat.zero_le _
  have KC0 : Keep h0 h0 [] := Keep.refl _ _
  suffices hOW : OWW p e below s (QWI Z b p1 i1 r1 t1 x1 h0 n0) 3 44 (s₁.setTop (mkF m 0 #[.val (.ref b), .val (.ref x1)] [])) by
    obtain ⟨q1, q2, q3, q4⟩ := hOW
    exact ⟨q1, q2, castTop (ef_WI m b x1) q3, q4⟩
  obtain ⟨T68, h68, X68, e68, E68, A68, D68, -, st68⟩ := newO X0 hx hZ hown (w_47 hw) (w_15 hw) (w_16 hw) e0 (g := (mkF m 0 #[.val (.ref b), .val (.ref x1)] [])) rfl (hb hby d9_0) (by decide) (by decide)
  obtain ⟨b68, g68⟩ : ∃ z, z = h0.size := ⟨_, rfl⟩
  rw [← g68] at A68 D68 st68
  have n_b68 : n0 ≤ b68 := Nat.le_trans (own_oldle O0) (Nat.le_of_eq g68.symm)
  have O68 : Old Z n0 h68 := O0.ext E68
  have sz_b68 : h0.size ≤ b68 := Nat.le_trans KC0.1 (Nat.le_of_eq g68.symm)
  have KC68 : Keep h0 h68 [] := KC0.ext E68
  have F68_35 : Fld Z h68 b68 "com/example/demarcate/demarcate/TransactionDefinition" "propagation" "Lcom/example/demarcate/demarcate/Propagation;" .null := D68 (Or.inr (w_35 hw)) (ty := (.object "com/example/demarcate/demarcate/Propagation")) (by decide)
  have F68_37 : Fld Z h68 b68 "com/example/demarcate/demarcate/TransactionDefinition" "isolation" "Lcom/example/demarcate/demarcate/Isolation;" .null := D68 (Or.inr (w_37 hw)) (ty := (.object "com/example/demarcate/demarcate/Isolation")) (by decide)
  have F68_39 : Fld Z h68 b68 "com/example/demarcate/demarcate/TransactionDefinition" "readOnly" "Z" (.int (0 : Int32)) := D68 (Or.inr (w_39 hw)) (ty := .boolean) (by decide)
  have F68_41 : Fld Z h68 b68 "com/example/demarcate/demarcate/TransactionDefinition" "timeout" "Ljava/util/OptionalInt;" .null := D68 (Or.inr (w_41 hw)) (ty := (.object "java/util/OptionalInt")) (by decide)
  refine OWW.st (B := T68.setTop (mkF m 3 #[.val (.ref b), .val (.ref x1)] [(.ref b68)])) (st68) ?_
  refine OWW.st (B := T68.setTop (mkF m 4 #[.val (.ref b), .val (.ref x1)] [(.ref b68), (.ref b68)])) (fun _ kk_ => XS.dup X68.here hx rfl (hb hby d9_3) rfl rfl kk_) ?_
  refine OWW.st (B := T68.setTop (mkF m 5 #[.val (.ref b), .val (.ref x1)] [(.ref b), (.ref b68), (.ref b68)])) (fun _ kk_ => XS.aloadN X68.here hx rfl (hb hby d9_4) rfl rfl kk_) ?_
  obtain ⟨T69, X69, e69, st69⟩ := getF X68 hx hZ hown (host := "") (Or.inl (w_34 hw)) Via.refl e68 (F0.ext E68) (g := (mkF m 5 #[.val (.ref b), .val (.ref x1)] [(.ref b), (.ref b68), (.ref b68)])) rfl rfl (hb hby d9_5)
  refine OWW.st (B := T69.setTop (mkF m 8 #[.val (.ref b), .val (.ref x1)] [(.ref p1), (.ref b68), (.ref b68)])) (st69) ?_
  refine OWW.st (B := T69.setTop (mkF m 9 #[.val (.ref b), .val (.ref x1)] [(.ref x1), (.ref p1), (.ref b68), (.ref b68)])) (fun _ kk_ => XS.aloadN X69.here hx rfl (hb hby d9_8) rfl rfl kk_) ?_
  obtain ⟨a70, T70, h70, k70, X70, e70, E70, hS70, hk70, hZ70, hown70, st70⟩ := ldcS (s := s) (vm0 := s.vm) X69 hx hZ hown (w_67 hw) (own_wS hw) e69 hS0 (Nat.le_trans hk0 E68.1) (g := (mkF m 9 #[.val (.ref b), .val (.ref x1)] [(.ref x1), (.ref p1), (.ref b68), (.ref b68)])) rfl (hb hby d9_9) (n := 36) (by decide) (by decide) (by decide) (by decide)
  have O70 : Old Z n0 h70 := O68.ext E70
  have KC70 : Keep h0 h70 [] := KC68.ext E70
  refine OWW.st (B := T70.setTop (mkF m 11 #[.val (.ref b), .val (.ref x1)] [(.ref a70), (.ref x1), (.ref p1), (.ref b68), (.ref b68)])) (st70) ?_
  obtain ⟨_, _, ⟨T71, L71, k71, n71⟩, -, X71, ⟨Lc71, hQ71, l71, y71, z71⟩, st71⟩ := Jvm.LawKit.callS X70 hx (y := (⟨"java/util/Objects", "requireNonNull", "(Ljava/lang/Object;Ljava/lang/String;)Ljava/lang/Object;"⟩ : MethodName)) hown70 (mvT hZ70 (w_56 hw)) (mvT hZ70 (w_57 hw)) (mvT hZ70 (w_58 hw)) (mvT hZ70 (w_59 hw)) (by decide) (backOf (W := 3) (rmNN l Z a0 hw [] x1 a70 h70 n0 O70 ) hZ70 (w_59 hw) (w_58 hw) (by decide) (by decide)) (g := (mkF m 11 #[.val (.ref b), .val (.ref x1)] [(.ref a70), (.ref x1), (.ref p1), (.ref b68), (.ref b68)])) rfl (by rw [hml]; rfl) (argsL := [(.ref x1), (.ref a70)]) (rest := [(.ref p1), (.ref b68), (.ref b68)]) (lenOf pd_3 rfl) rfl (by show 2 * 0 + _ ≤ _; exact Nat.le_of_eq rfl) (hb hby d9_11) (fun _ _ => ⟨rfl, e70, (by decide : 3 + 0 ≤ _), (by decide : 44 + 0 ≤ _)⟩)
  dsimp only [Pt.U, Pt.locs, Pt.cells, Pt.slots] at X71 l71 y71 z71 st71 hQ71
  subst l71 y71 z71
  obtain ⟨rfl, Nq71, e71⟩ := hQ71
  have N71 := Fr.app N0 Nq71
  refine OWW.st (B := T71.setTop (mkF m 14 #[.val (.ref b), .val (.ref x1)] [(.ref x1), (.ref p1), (.ref b68), (.ref b68)])) (st71) ?_
  obtain ⟨T72, X72, e72, st72⟩ := castY X71 hx hZ70 hown70 (w_68 hw) e71 (Ins.self ((EA.ext E68).ext E70)) (g := (mkF m 14 #[.val (.ref b), .val (.ref x1)] [(.ref x1), (.ref p1), (.ref b68), (.ref b68)])) rfl rfl (hb hby d9_14)
  refine OWW.st (B := T72.setTop (mkF m 17 #[.val (.ref b), .val (.ref x1)] [(.ref x1), (.ref p1), (.ref b68), (.ref b68)])) (st72) ?_
  refine OWW.st (B := T72.setTop (mkF m 18 #[.val (.ref b), .val (.ref x1)] [(.ref b), (.ref x1), (.ref p1), (.ref b68), (.ref b68)])) (fun _ kk_ => XS.aloadN X72.here hx rfl (hb hby d9_17) rfl rfl kk_) ?_
  obtain ⟨T73, X73, e73, st73⟩ := getF X72 hx hZ70 hown70 (host := "") (Or.inl (w_38 hw)) Via.refl e72 ((F2.ext E68).ext E70) (g := (mkF m 18 #[.val (.ref b), .val (.ref x1)] [(.ref b), (.ref x1), (.ref p1), (.ref b68), (.ref b68)])) rfl rfl (hb hby d9_18)
  refine OWW.st (B := T73.setTop (mkF m 21 #[.val (.ref b), .val (.ref x1)] [(.int r1), (.ref x1), (.ref p1), (.ref b68), (.ref b68)])) (st73) ?_
  refine OWW.st (B := T73.setTop (mkF m 22 #[.val (.ref b), .val (.ref x1)] [(.ref b), (.int r1), (.ref x1), (.ref p1), (.ref b68), (.ref b68)])) (fun _ kk_ => XS.aloadN X73.here hx rfl (hb hby d9_21) rfl rfl kk_) ?_
  obtain ⟨T74, X74, e74, st74⟩ := getF X73 hx hZ70 hown70 (host := "") (Or.inl (w_40 hw)) Via.refl e73 ((F3.ext E68).ext E70) (g := (mkF m 22 #[.val (.ref b), .val (.ref x1)] [(.ref b), (.int r1), (.ref x1), (.ref p1), (.ref b68), (.ref b68)])) rfl rfl (hb hby d9_22)
  refine OWW.st (B := T74.setTop (mkF m 25 #[.val (.ref b), .val (.ref x1)] [(.ref t1), (.int r1), (.ref x1), (.ref p1), (.ref b68), (.ref b68)])) (st74) ?_
  obtain ⟨_, _, ⟨T75, L75, k75, n75⟩, -, X75, ⟨Lc75, hQ75, l75, y75, z75⟩, st75⟩ := X74.specialBack hx (y := (⟨"com/example/demarcate/demarcate/TransactionDefinition", "<init>", "(Lcom/example/demarcate/demarcate/Propagation;Lcom/example/demarcate/demarcate/Isolation;ZLjava/util/OptionalInt;)V"⟩ : MethodName)) rfl hown70 (mvT hZ70 (w_28 hw)) (mvT hZ70 (w_29 hw)) (mvT hZ70 (w_30 hw)) (by decide) (backOf (W := 1) (rmT4 l Z a0 hw [] b68 p1 x1 r1 t1 h70 n0 O70 (A68.ext E70) (F68_35.ext E70) (F68_37.ext E70) (F68_39.ext E70) (F68_41.ext E70) n_b68 hr) hZ70 (w_30 hw) (w_16 hw) (by decide) (by decide)) (g := (mkF m 25 #[.val (.ref b), .val (.ref x1)] [(.ref t1), (.int r1), (.ref x1), (.ref p1), (.ref b68), (.ref b68)])) rfl (by rw [hml]; rfl) (Steps.refl _) (a := b68) (argsL := [(.ref p1), (.ref x1), (.int r1), (.ref t1)]) (rest := [(.ref b68)]) (lenOf pd_1 rfl) rfl (by show 2 * 0 + _ ≤ _; exact Nat.le_of_eq rfl) (hb hby d9_25) (fun _ _ => ⟨rfl, e74, (by decide : 3 + 0 ≤ _), (by decide : 44 + 0 ≤ _)⟩)
  dsimp only [Pt.U, Pt.locs, Pt.cells, Pt.slots] at X75 l75 y75 z75 st75 hQ75
  subst l75 y75 z75
  obtain ⟨rfl, Nq75, K75, Ei75, Fi75_0, Fi75_1, Fi75_2, Fi75_3⟩ := hQ75
  have N75 := Fr.app N71 Nq75
  have O75 : Old Z n0 T75.heap := O70.keep K75 (allS n_b68 all0)
  have KC75 : Keep h0 T75.heap [] := KC70.trans K75 (allS (Or.inr sz_b68) all0)
  refine OWW.tr (B := T75.setTop (mkF m 28 #[.val (.ref b), .val (.ref x1)] [(.ref b68)])) (st75) ?_
  exact OWW.ret X75 hS70 (Nat.le_trans hk70 K75.1) hx hlk (i := .areturn) Bd.returns rfl (Or.inr (Or.inr (Or.inr (Or.inr ⟨rfl, rfl, rfl⟩)))) (hb hby d9_28) rfl (by decide) (by decide) ⟨b68, rfl, N75, KC75, n_b68, sz_b68, Ei75, Fi75_0, Fi75_1, Fi75_2, Fi75_3⟩
theorem ef_WR (m : MethodId) (x0 : Addr) (x1 : Int32) : entryFrame m #[(.ref x0), (.int x1)] 2 = mkF m 0 #[.val (.ref x0), .val (.int x1)] [] := by first | (simp [entryFrame, mkF, argsToLocals, Value.category]; done) | rfl
def QWR (Z : State) (b : Addr) (p1 : Addr) (i1 : Addr) (r1 : Int32) (t1 : Addr) (x1 : Int32) (h0 : Heap) (n0 : Nat) (v : Option Value) (h : Heap) (L : List Loc) : Prop := ∃ c : Addr, v = some (.ref c) ∧ Fr n0 L ∧ Keep h0 h [] ∧ n0 ≤ c ∧ h0.size ≤ c ∧ Exa Z h c "com/example/demarcate/demarcate/TransactionDefinition" ∧ Fld Z h c "com/example/demarcate/demarcate/TransactionDefinition" "propagation" "Lcom/example/demarcate/demarcate/Propagation;" (.ref p1) ∧ Fld Z h c "com/example/demarcate/demarcate/TransactionDefinition" "isolation" "Lcom/example/demarcate/demarcate/Isolation;" (.ref i1) ∧ Fld Z h c "com/example/demarcate/demarcate/TransactionDefinition" "readOnly" "Z" (.int x1) ∧ Fld Z h c "com/example/demarcate/demarcate/TransactionDefinition" "timeout" "Ljava/util/OptionalInt;" (.ref t1)
set_option maxRecDepth 65536 in
set_option maxHeartbeats 40000000 in
theorem rmWR (l : Launch) (Z : State) (a0 : Array Value) (hw : ∀ d ∈ tables_1, d.before a0 Z = true) (ws : List Jvm.Cond) (b : Addr) (p1 : Addr) (i1 : Addr) (r1 : Int32) (t1 : Addr) (x1 : Int32) (h0 : Heap) (n0 : Nat) (O0 : Old Z n0 h0) (F0 : Fld Z h0 b "com/example/demarcate/demarcate/TransactionDefinition" "propagation" "Lcom/example/demarcate/demarcate/Propagation;" (.ref p1)) (F1 : Fld Z h0 b "com/example/demarcate/demarcate/TransactionDefinition" "isolation" "Lcom/example/demarcate/demarcate/Isolation;" (.ref i1)) (F2 : Fld Z h0 b "com/example/demarcate/demarcate/TransactionDefinition" "readOnly" "Z" (.int r1)) (F3 : Fld Z h0 b "com/example/demarcate/demarcate/TransactionDefinition" "timeout" "Ljava/util/OptionalInt;" (.ref t1)) (hr : r1 = 0 ∨ r1 = 1) (hx1 : x1 = 0 ∨ x1 = 1) :
    MetFree l (⟨"com/example/demarcate/demarcate/TransactionDefinition", "withReadOnly", "(Z)Lcom/example/demarcate/demarcate/TransactionDefinition;"⟩ : MethodName) (head1 (Jvm.Cond.code (⟨"com/example/demarcate/demarcate/TransactionDefinition", "withReadOnly", "(Z)Lcom/example/demarcate/demarcate/TransactionDefinition;"⟩ : MethodName) prog_19_method_5_code 2 (some (.object "com/example/demarcate/demarcate/TransactionDefinition")) :: ws) ({ frames := 2, cells := 1, slots := 4, locals := 29 } : Room)) (fun aa_ UU_ => aa_ = #[(.ref b), (.int x1)] ∧ Z.Warmed39 UU_.vm ∧ UU_.heap = h0) (fun _ _ _ _ _ => True) (fun _ UU_ oo_ UV_ => ∃ vv_ LL_, oo_ = .returned vv_ ∧ QWR Z b p1 i1 r1 t1 x1 h0 n0 vv_ UV_.heap LL_ ∧ FrameEnd UU_ oo_ UV_ LL_ ({ frames := 2, cells := 1, slots := 4, locals := 29 } : Room).cells ({ frames := 2, cells := 1, slots := 4, locals := 29 } : Room).slots) := by
  refine MetFree.of_bodySF (plainFor_of_name pn_3) hisR ?_
  intro p e s m args below meth c s₁ Bd hml0 hP hK
  obtain ⟨rfl, hZ, hh⟩ := hP
  have hx := Bd.exec
  have hby := Bd.bytes
  have hlk := BodyLoose.notSynchronized Bd
  have hml : c.maxLocals = 2 := hml0
  have hown : s.vm.findClass "com/example/demarcate/demarcate/TransactionDefinition" = some m.cls := findClass_of_methodNamed Bd.named
  have hnm := (name_of_methodNamed Bd.named Bd.method).1
  have X0 : Stand p l e ({ frames := 2, cells := 1, slots := 4, locals := 29 } : Room) s m #[(.ref b), (.int x1)] below meth c s₁ [] 0 0 := Stand.of_body Bd
  have e0 : s₁.heap = h0 := by rw [← hh, Bd.state]; rfl
  have N0 := Fr.nil n0
  have KC0 : Keep h0 h0 [] := Keep.refl _ _
  suffices hOW : OW p e below s (QWR Z b p1 i1 r1 t1 x1 h0 n0) 1 4 (s₁.setTop (mkF m 0 #[.val (.ref b), .val (.int x1)] [])) by
    obtain ⟨q1, q2, q3, q4⟩ := hOW
    exact ⟨q1, q2, castTop (ef_WR m b x1) q3, q4⟩
  obtain ⟨T76, h76, X76, e76, E76, A76, D76, -, st76⟩ := newO X0 hx hZ hown (w_47 hw) (w_15 hw) (w_16 hw) e0 (g := (mkF m 0 #[.val (.ref b), .val (.int x1)] [])) rfl (hb hby d10_0) (by decide) (by decide)
  obtain ⟨b76, g76⟩ : ∃ z, z = h0.size := ⟨_, rfl⟩
  rw [← g76] at A76 D76 st76
  have n_b76 : n0 ≤ b76 := Nat.le_trans (own_oldle O0) (Nat.le_of_eq g76.symm)
  have O76 : Old Z n0 h76 := O0.ext E76
  have sz_b76 : h0.size ≤ b76 := Nat.le_trans KC0.1 (Nat.le_of_eq g76.symm)
  have KC76 : Keep h0 h76 [] := KC0.ext E76
  have F76_35 : Fld Z h76 b76 "com/example/demarcate/demarcate/TransactionDefinition" "propagation" "Lcom/example/demarcate/demarcate/Propagation;" .null := D76 (Or.inr (w_35 hw)) (ty := (.object "com/example/demarcate/demarcate/Propagation")) (by decide)
  have F76_37 : Fld Z h76 b76 "com/example/demarcate/demarcate/TransactionDefinition" "isolation" "Lcom/example/demarcate/demarcate/Isolation;" .null := D76 (Or.inr (w_37 hw)) (ty := (.object "com/example/demarcate/demarcate/Isolation")) (by decide)
  have F76_39 : Fld Z h76 b76 "com/example/demarcate/demarcate/TransactionDefinition" "readOnly" "Z" (.int (0 : Int32)) := D76 (Or.inr (w_39 hw)) (ty := .boolean) (by decide)
  have F76_41 : Fld Z h76 b76 "com/example/demarcate/demarcate/TransactionDefinition" "timeout" "Ljava/util/OptionalInt;" .null := D76 (Or.inr (w_41 hw)) (ty := (.object "java/util/OptionalInt")) (by decide)
  refine OW.st (B := T76.setTop (mkF m 3 #[.val (.ref b), .val (.int x1)] [(.ref b76)])) (st76) ?_
  refine OW.st (B := T76.setTop (mkF m 4 #[.val (.ref b), .val (.int x1)] [(.ref b76), (.ref b76)])) (fun _ kk_ => XS.dup X76.here hx rfl (hb hby d10_3) rfl rfl kk_) ?_
  refine OW.st (B := T76.setTop (mkF m 5 #[.val (.ref b), .val (.int x1)] [(.ref b), (.ref b76), (.ref b76)])) (fun _ kk_ => XS.aloadN X76.here hx rfl (hb hby d10_4) rfl rfl kk_) ?_
  obtain ⟨T77, X77, e77, st77⟩ := getF X76 hx hZ hown (host := "") (Or.inl (w_34 hw)) Via.refl e76 (F0.ext E76) (g := (mkF m 5 #[.val (.ref b), .val (.int x1)] [(.ref b), (.ref b76), (.ref b76)])) rfl rfl (hb hby d10_5)
  refine OW.st (B := T77.setTop (mkF m 8 #[.val (.ref b), .val (.int x1)] [(.ref p1), (.ref b76), (.ref b76)])) (st77) ?_
  refine OW.st (B := T77.setTop (mkF m 9 #[.val (.ref b), .val (.int x1)] [(.ref b), (.ref p1), (.ref b76), (.ref b76)])) (fun _ kk_ => XS.aloadN X77.here hx rfl (hb hby d10_8) rfl rfl kk_) ?_
  obtain ⟨T78, X78, e78, st78⟩ := getF X77 hx hZ hown (host := "") (Or.inl (w_36 hw)) Via.refl e77 (F1.ext E76) (g := (mkF m 9 #[.val (.ref b), .val (.int x1)] [(.ref b), (.ref p1), (.ref b76), (.ref b76)])) rfl rfl (hb hby d10_9)
  refine OW.st (B := T78.setTop (mkF m 12 #[.val (.ref b), .val (.int x1)] [(.ref i1), (.ref p1), (.ref b76), (.ref b76)])) (st78) ?_
  refine OW.st (B := T78.setTop (mkF m 13 #[.val (.ref b), .val (.int x1)] [(.int x1), (.ref i1), (.ref p1), (.ref b76), (.ref b76)])) (fun _ kk_ => XS.iloadN X78.here hx rfl (hb hby d10_12) rfl kk_) ?_
  refine OW.st (B := T78.setTop (mkF m 14 #[.val (.ref b), .val (.int x1)] [(.ref b), (.int x1), (.ref i1), (.ref p1), (.ref b76), (.ref b76)])) (fun _ kk_ => XS.aloadN X78.here hx rfl (hb hby d10_13) rfl rfl kk_) ?_
  obtain ⟨T79, X79, e79, st79⟩ := getF X78 hx hZ hown (host := "") (Or.inl (w_40 hw)) Via.refl e78 (F3.ext E76) (g := (mkF m 14 #[.val (.ref b), .val (.int x1)] [(.ref b), (.int x1), (.ref i1), (.ref p1), (.ref b76), (.ref b76)])) rfl rfl (hb hby d10_14)
  refine OW.st (B := T79.setTop (mkF m 17 #[.val (.ref b), .val (.int x1)] [(.ref t1), (.int x1), (.ref i1), (.ref p1), (.ref b76), (.ref b76)])) (st79) ?_
  obtain ⟨_, _, ⟨T80, L80, k80, n80⟩, -, X80, ⟨Lc80, hQ80, l80, y80, z80⟩, st80⟩ := X79.specialBack hx (y := (⟨"com/example/demarcate/demarcate/TransactionDefinition", "<init>", "(Lcom/example/demarcate/demarcate/Propagation;Lcom/example/demarcate/demarcate/Isolation;ZLjava/util/OptionalInt;)V"⟩ : MethodName)) rfl hown (mvT hZ (w_28 hw)) (mvT hZ (w_29 hw)) (mvT hZ (w_30 hw)) (by decide) (backOf (W := 1) (rmT4 l Z a0 hw [] b76 p1 i1 x1 t1 h76 n0 O76 A76 F76_35 F76_37 F76_39 F76_41 n_b76 hx1) hZ (w_30 hw) (w_16 hw) (by decide) (by decide)) (g := (mkF m 17 #[.val (.ref b), .val (.int x1)] [(.ref t1), (.int x1), (.ref i1), (.ref p1), (.ref b76), (.ref b76)])) rfl (by rw [hml]; rfl) (Steps.refl _) (a := b76) (argsL := [(.ref p1), (.ref i1), (.int x1), (.ref t1)]) (rest := [(.ref b76)]) (lenOf pd_1 rfl) rfl (by show 2 * 0 + _ ≤ _; exact Nat.le_of_eq rfl) (hb hby d10_17) (fun _ _ => ⟨rfl, e79, (by decide : 1 + 0 ≤ _), (by decide : 4 + 0 ≤ _)⟩)
  dsimp only [Pt.U, Pt.locs, Pt.cells, Pt.slots] at X80 l80 y80 z80 st80 hQ80
  subst l80 y80 z80
  obtain ⟨rfl, Nq80, K80, Ei80, Fi80_0, Fi80_1, Fi80_2, Fi80_3⟩ := hQ80
  have N80 := Fr.app N0 Nq80
  have O80 : Old Z n0 T80.heap := O76.keep K80 (allS n_b76 all0)
  have KC80 : Keep h0 T80.heap [] := KC76.trans K80 (allS (Or.inr sz_b76) all0)
  refine OW.tr (B := T80.setTop (mkF m 20 #[.val (.ref b), .val (.int x1)] [(.ref b76)])) (st80) ?_
  exact OW.ret X80 hx hlk (i := .areturn) Bd.returns rfl (Or.inr (Or.inr (Or.inr (Or.inr ⟨rfl, rfl, rfl⟩)))) (hb hby d10_20) rfl (by decide) (by decide) ⟨b76, rfl, N80, KC80, n_b76, sz_b76, Ei80, Fi80_0, Fi80_1, Fi80_2, Fi80_3⟩
theorem ef_WT (m : MethodId) (x0 : Addr) (x1 : Int32) : entryFrame m #[(.ref x0), (.int x1)] 2 = mkF m 0 #[.val (.ref x0), .val (.int x1)] [] := by first | (simp [entryFrame, mkF, argsToLocals, Value.category]; done) | rfl
def QWT (Z : State) (b : Addr) (p1 : Addr) (i1 : Addr) (r1 : Int32) (t1 : Addr) (x1 : Int32) (h0 : Heap) (n0 : Nat) (v : Option Value) (h : Heap) (L : List Loc) : Prop := ∃ c tw : Addr, v = some (.ref c) ∧ Fr n0 L ∧ Keep h0 h [] ∧ n0 ≤ c ∧ h0.size ≤ c ∧ Exa Z h c "com/example/demarcate/demarcate/TransactionDefinition" ∧ Fld Z h c "com/example/demarcate/demarcate/TransactionDefinition" "propagation" "Lcom/example/demarcate/demarcate/Propagation;" (.ref p1) ∧ Fld Z h c "com/example/demarcate/demarcate/TransactionDefinition" "isolation" "Lcom/example/demarcate/demarcate/Isolation;" (.ref i1) ∧ Fld Z h c "com/example/demarcate/demarcate/TransactionDefinition" "readOnly" "Z" (.int r1) ∧ Fld Z h c "com/example/demarcate/demarcate/TransactionDefinition" "timeout" "Ljava/util/OptionalInt;" (.ref tw) ∧ Exa Z h tw "java/util/OptionalInt"
set_option maxRecDepth 65536 in
set_option maxHeartbeats 40000000 in
theorem rmWT (l : Launch) (Z : State) (a0 : Array Value) (hw : ∀ d ∈ tables_1, d.before a0 Z = true) (ws : List Jvm.Cond) (b : Addr) (p1 : Addr) (i1 : Addr) (r1 : Int32) (t1 : Addr) (x1 : Int32) (h0 : Heap) (n0 : Nat) (O0 : Old Z n0 h0) (F0 : Fld Z h0 b "com/example/demarcate/demarcate/TransactionDefinition" "propagation" "Lcom/example/demarcate/demarcate/Propagation;" (.ref p1)) (F1 : Fld Z h0 b "com/example/demarcate/demarcate/TransactionDefinition" "isolation" "Lcom/example/demarcate/demarcate/Isolation;" (.ref i1)) (F2 : Fld Z h0 b "com/example/demarcate/demarcate/TransactionDefinition" "readOnly" "Z" (.int r1)) (F3 : Fld Z h0 b "com/example/demarcate/demarcate/TransactionDefinition" "timeout" "Ljava/util/OptionalInt;" (.ref t1)) (hr : r1 = 0 ∨ r1 = 1) (hx1 : ¬ (x1 < (1 : Int32))) :
    MetFree l (⟨"com/example/demarcate/demarcate/TransactionDefinition", "withTimeout", "(I)Lcom/example/demarcate/demarcate/TransactionDefinition;"⟩ : MethodName) (head1 (Jvm.Cond.code (⟨"com/example/demarcate/demarcate/TransactionDefinition", "withTimeout", "(I)Lcom/example/demarcate/demarcate/TransactionDefinition;"⟩ : MethodName) prog_19_method_6_code 2 (some (.object "com/example/demarcate/demarcate/TransactionDefinition")) :: ws) ({ frames := 3, cells := 2, slots := 6, locals := 43 } : Room)) (fun aa_ UU_ => aa_ = #[(.ref b), (.int x1)] ∧ Z.Warmed39 UU_.vm ∧ UU_.heap = h0) (fun _ _ _ _ _ => True) (fun _ UU_ oo_ UV_ => ∃ vv_ LL_, oo_ = .returned vv_ ∧ QWT Z b p1 i1 r1 t1 x1 h0 n0 vv_ UV_.heap LL_ ∧ FrameEnd UU_ oo_ UV_ LL_ ({ frames := 3, cells := 2, slots := 6, locals := 43 } : Room).cells ({ frames := 3, cells := 2, slots := 6, locals := 43 } : Room).slots) := by
  refine MetFree.of_bodySF (plainFor_of_name pn_3) hisR ?_
  intro p e s m args below meth c s₁ Bd hml0 hP hK
  obtain ⟨rfl, hZ, hh⟩ := hP
  have hx := Bd.exec
  have hby := Bd.bytes
  have hlk := BodyLoose.notSynchronized Bd
  have hml : c.maxLocals = 2 := hml0
  have hown : s.vm.findClass "com/example/demarcate/demarcate/TransactionDefinition" = some m.cls := findClass_of_methodNamed Bd.named
  have hnm := (name_of_methodNamed Bd.named Bd.method).1
  have X0 : Stand p l e ({ frames := 3, cells := 2, slots := 6, locals := 43 } : Room) s m #[(.ref b), (.int x1)] below meth c s₁ [] 0 0 := Stand.of_body Bd
  have e0 : s₁.heap = h0 := by rw [← hh, Bd.state]; rfl
  have N0 := Fr.nil n0
  have KC0 : Keep h0 h0 [] := Keep.refl _ _
  suffices hOW : OW p e below s (QWT Z b p1 i1 r1 t1 x1 h0 n0) 2 6 (s₁.setTop (mkF m 0 #[.val (.ref b), .val (.int x1)] [])) by
    obtain ⟨q1, q2, q3, q4⟩ := hOW
    exact ⟨q1, q2, castTop (ef_WT m b x1) q3, q4⟩
  refine OW.st (B := s₁.setTop (mkF m 1 #[.val (.ref b), .val (.int x1)] [(.int x1)])) (fun _ kk_ => XS.iloadN X0.here hx rfl (hb hby d16_0) rfl kk_) ?_
  refine OW.st (B := s₁.setTop (mkF m 2 #[.val (.ref b), .val (.int x1)] [(.int (1 : Int32)), (.int x1)])) (fun _ kk_ => XS.iconst X0.here hx rfl (hb hby d16_1) kk_) ?_
  refine OW.st (B := s₁.setTop (mkF m 19 #[.val (.ref b), .val (.int x1)] [])) (fun _ kk_ => XS.icmpYes X0.here hx rfl (pc0 := 2) (pc' := 19) rfl (hb hby d16_2) rfl (flt hx1).2.1 (by decide) (by decide) kk_) ?_
  obtain ⟨T81, h81, X81, e81, E81, A81, D81, -, st81⟩ := newO X0 hx hZ hown (w_47 hw) (w_15 hw) (w_16 hw) e0 (g := (mkF m 19 #[.val (.ref b), .val (.int x1)] [])) rfl (hb hby d16_19) (by decide) (by decide)
  obtain ⟨b81, g81⟩ : ∃ z, z = h0.size := ⟨_, rfl⟩
  rw [← g81] at A81 D81 st81
  have n_b81 : n0 ≤ b81 := Nat.le_trans (own_oldle O0) (Nat.le_of_eq g81.symm)
  have O81 : Old Z n0 h81 := O0.ext E81
  have sz_b81 : h0.size ≤ b81 := Nat.le_trans KC0.1 (Nat.le_of_eq g81.symm)
  have KC81 : Keep h0 h81 [] := KC0.ext E81
  have F81_35 : Fld Z h81 b81 "com/example/demarcate/demarcate/TransactionDefinition" "propagation" "Lcom/example/demarcate/demarcate/Propagation;" .null := D81 (Or.inr (w_35 hw)) (ty := (.object "com/example/demarcate/demarcate/Propagation")) (by decide)
  have F81_37 : Fld Z h81 b81 "com/example/demarcate/demarcate/TransactionDefinition" "isolation" "Lcom/example/demarcate/demarcate/Isolation;" .null := D81 (Or.inr (w_37 hw)) (ty := (.object "com/example/demarcate/demarcate/Isolation")) (by decide)
  have F81_39 : Fld Z h81 b81 "com/example/demarcate/demarcate/TransactionDefinition" "readOnly" "Z" (.int (0 : Int32)) := D81 (Or.inr (w_39 hw)) (ty := .boolean) (by decide)
  have F81_41 : Fld Z h81 b81 "com/example/demarcate/demarcate/TransactionDefinition" "timeout" "Ljava/util/OptionalInt;" .null := D81 (Or.inr (w_41 hw)) (ty := (.object "java/util/OptionalInt")) (by decide)
  refine OW.st (B := T81.setTop (mkF m 22 #[.val (.ref b), .val (.int x1)] [(.ref b81)])) (st81) ?_
  refine OW.st (B := T81.setTop (mkF m 23 #[.val (.ref b), .val (.int x1)] [(.ref b81), (.ref b81)])) (fun _ kk_ => XS.dup X81.here hx rfl (hb hby d16_22) rfl rfl kk_) ?_
  refine OW.st (B := T81.setTop (mkF m 24 #[.val (.ref b), .val (.int x1)] [(.ref b), (.ref b81), (.ref b81)])) (fun _ kk_ => XS.aloadN X81.here hx rfl (hb hby d16_23) rfl rfl kk_) ?_
  obtain ⟨T82, X82, e82, st82⟩ := getF X81 hx hZ hown (host := "") (Or.inl (w_34 hw)) Via.refl e81 (F0.ext E81) (g := (mkF m 24 #[.val (.ref b), .val (.int x1)] [(.ref b), (.ref b81), (.ref b81)])) rfl rfl (hb hby d16_24)
  refine OW.st (B := T82.setTop (mkF m 27 #[.val (.ref b), .val (.int x1)] [(.ref p1), (.ref b81), (.ref b81)])) (st82) ?_
  refine OW.st (B := T82.setTop (mkF m 28 #[.val (.ref b), .val (.int x1)] [(.ref b), (.ref p1), (.ref b81), (.ref b81)])) (fun _ kk_ => XS.aloadN X82.here hx rfl (hb hby d16_27) rfl rfl kk_) ?_
  obtain ⟨T83, X83, e83, st83⟩ := getF X82 hx hZ hown (host := "") (Or.inl (w_36 hw)) Via.refl e82 (F1.ext E81) (g := (mkF m 28 #[.val (.ref b), .val (.int x1)] [(.ref b), (.ref p1), (.ref b81), (.ref b81)])) rfl rfl (hb hby d16_28)
  refine OW.st (B := T83.setTop (mkF m 31 #[.val (.ref b), .val (.int x1)] [(.ref i1), (.ref p1), (.ref b81), (.ref b81)])) (st83) ?_
  refine OW.st (B := T83.setTop (mkF m 32 #[.val (.ref b), .val (.int x1)] [(.ref b), (.ref i1), (.ref p1), (.ref b81), (.ref b81)])) (fun _ kk_ => XS.aloadN X83.here hx rfl (hb hby d16_31) rfl rfl kk_) ?_
  obtain ⟨T84, X84, e84, st84⟩ := getF X83 hx hZ hown (host := "") (Or.inl (w_38 hw)) Via.refl e83 (F2.ext E81) (g := (mkF m 32 #[.val (.ref b), .val (.int x1)] [(.ref b), (.ref i1), (.ref p1), (.ref b81), (.ref b81)])) rfl rfl (hb hby d16_32)
  refine OW.st (B := T84.setTop (mkF m 35 #[.val (.ref b), .val (.int x1)] [(.int r1), (.ref i1), (.ref p1), (.ref b81), (.ref b81)])) (st84) ?_
  refine OW.st (B := T84.setTop (mkF m 36 #[.val (.ref b), .val (.int x1)] [(.int x1), (.int r1), (.ref i1), (.ref p1), (.ref b81), (.ref b81)])) (fun _ kk_ => XS.iloadN X84.here hx rfl (hb hby d16_35) rfl kk_) ?_
  obtain ⟨_, _, ⟨T85, L85, k85, n85⟩, -, X85, ⟨Lc85, hQ85, l85, y85, z85⟩, st85⟩ := Jvm.LawKit.callS X84 hx (y := (⟨"java/util/OptionalInt", "of", "(I)Ljava/util/OptionalInt;"⟩ : MethodName)) hown (mvT hZ (w_113 hw)) (mvT hZ (w_114 hw)) (mvT hZ (w_25 hw)) (mvT hZ (w_115 hw)) (by decide) (backOf (W := 5) (rmOF l Z a0 hw [] x1 h81 n0 O81 ) hZ (w_115 hw) (w_25 hw) (by decide) (by decide)) (g := (mkF m 36 #[.val (.ref b), .val (.int x1)] [(.int x1), (.int r1), (.ref i1), (.ref p1), (.ref b81), (.ref b81)])) rfl (by rw [hml]; rfl) (argsL := [(.int x1)]) (rest := [(.int r1), (.ref i1), (.ref p1), (.ref b81), (.ref b81)]) (lenOf pd_4 rfl) rfl (by show 2 * 0 + _ ≤ _; exact Nat.le_of_eq rfl) (hb hby d16_36) (fun _ _ => ⟨rfl, e84, (by decide : 1 + 1 ≤ _), (by decide : 4 + 2 ≤ _)⟩)
  dsimp only [Pt.U, Pt.locs, Pt.cells, Pt.slots] at X85 l85 y85 z85 st85 hQ85
  subst l85 y85 z85
  obtain ⟨b85, rfl, Nq85, K85, gb85, zb85, Eo85, Fp85, Fv85⟩ := hQ85
  have N85 := Fr.app N0 Nq85
  have O85 : Old Z n0 T85.heap := O81.keep K85 all0
  have KC85 : Keep h0 T85.heap [] := KC81.trans K85 all0
  refine OW.st (B := T85.setTop (mkF m 39 #[.val (.ref b), .val (.int x1)] [(.ref b85), (.int r1), (.ref i1), (.ref p1), (.ref b81), (.ref b81)])) (st85) ?_
  obtain ⟨_, _, ⟨T86, L86, k86, n86⟩, -, X86, ⟨Lc86, hQ86, l86, y86, z86⟩, st86⟩ := X85.specialBack hx (y := (⟨"com/example/demarcate/demarcate/TransactionDefinition", "<init>", "(Lcom/example/demarcate/demarcate/Propagation;Lcom/example/demarcate/demarcate/Isolation;ZLjava/util/OptionalInt;)V"⟩ : MethodName)) rfl hown (mvT hZ (w_28 hw)) (mvT hZ (w_29 hw)) (mvT hZ (w_30 hw)) (by decide) (backOf (W := 1) (rmT4 l Z a0 hw [] b81 p1 i1 r1 b85 T85.heap n0 O85 (A81.keep K85) (F81_35.keep K85 nin0) (F81_37.keep K85 nin0) (F81_39.keep K85 nin0) (F81_41.keep K85 nin0) n_b81 hr) hZ (w_30 hw) (w_16 hw) (by decide) (by decide)) (g := (mkF m 39 #[.val (.ref b), .val (.int x1)] [(.ref b85), (.int r1), (.ref i1), (.ref p1), (.ref b81), (.ref b81)])) rfl (by rw [hml]; rfl) (Steps.refl _) (a := b81) (argsL := [(.ref p1), (.ref i1), (.int r1), (.ref b85)]) (rest := [(.ref b81)]) (lenOf pd_1 rfl) rfl (by show 2 * 0 + _ ≤ _; exact Nat.le_of_eq rfl) (hb hby d16_39) (fun _ _ => ⟨rfl, rfl, (by decide : 2 + 0 ≤ _), (by decide : 6 + 0 ≤ _)⟩)
  dsimp only [Pt.U, Pt.locs, Pt.cells, Pt.slots] at X86 l86 y86 z86 st86 hQ86
  subst l86 y86 z86
  obtain ⟨rfl, Nq86, K86, Ei86, Fi86_0, Fi86_1, Fi86_2, Fi86_3⟩ := hQ86
  have N86 := Fr.app N85 Nq86
  have O86 : Old Z n0 T86.heap := O85.keep K86 (allS n_b81 all0)
  have KC86 : Keep h0 T86.heap [] := KC85.trans K86 (allS (Or.inr sz_b81) all0)
  refine OW.tr (B := T86.setTop (mkF m 42 #[.val (.ref b), .val (.int x1)] [(.ref b81)])) (st86) ?_
  exact OW.ret X86 hx hlk (i := .areturn) Bd.returns rfl (Or.inr (Or.inr (Or.inr (Or.inr ⟨rfl, rfl, rfl⟩)))) (hb hby d16_42) rfl (by decide) (by decide) ⟨b81, b85, rfl, N86, KC86, n_b81, sz_b81, Ei86, Fi86_0, Fi86_1, Fi86_2, Fi86_3, (Eo85.keep K86)⟩
theorem ef_GP (m : MethodId) (x0 : Addr) : entryFrame m #[(.ref x0)] 1 = mkF m 0 #[.val (.ref x0)] [] := by first | (simp [entryFrame, mkF, argsToLocals, Value.category]; done) | rfl
def QGP (Z : State) (a : Addr) (x1 : Addr) (h0 : Heap) (n0 : Nat) (v : Option Value) (h : Heap) (L : List Loc) : Prop := v = some (.ref x1) ∧ Fr n0 L ∧ h = h0
set_option maxRecDepth 65536 in
set_option maxHeartbeats 40000000 in
theorem rmGP (l : Launch) (Z : State) (a0 : Array Value) (hw : ∀ d ∈ tables_1, d.before a0 Z = true) (ws : List Jvm.Cond) (a : Addr) (x1 : Addr) (h0 : Heap) (n0 : Nat) (O0 : Old Z n0 h0) (F : Fld Z h0 a "com/example/demarcate/demarcate/TransactionDefinition" "propagation" "Lcom/example/demarcate/demarcate/Propagation;" (.ref x1)) :
    MetFree l (⟨"com/example/demarcate/demarcate/TransactionDefinition", "propagation", "()Lcom/example/demarcate/demarcate/Propagation;"⟩ : MethodName) (head1 (Jvm.Cond.code (⟨"com/example/demarcate/demarcate/TransactionDefinition", "propagation", "()Lcom/example/demarcate/demarcate/Propagation;"⟩ : MethodName) prog_19_method_7_code 1 (some (.object "com/example/demarcate/demarcate/Propagation")) :: ws) ({ frames := 0, cells := 0, slots := 0, locals := 0 } : Room)) (fun aa_ UU_ => aa_ = #[(.ref a)] ∧ Z.Warmed39 UU_.vm ∧ UU_.heap = h0) (fun _ _ _ _ _ => True) (fun _ UU_ oo_ UV_ => ∃ vv_ LL_, oo_ = .returned vv_ ∧ QGP Z a x1 h0 n0 vv_ UV_.heap LL_ ∧ FrameEnd UU_ oo_ UV_ LL_ ({ frames := 0, cells := 0, slots := 0, locals := 0 } : Room).cells ({ frames := 0, cells := 0, slots := 0, locals := 0 } : Room).slots) := by
  refine MetFree.of_bodySF (plainFor_of_name pn_3) hisR ?_
  intro p e s m args below meth c s₁ Bd hml0 hP hK
  obtain ⟨rfl, hZ, hh⟩ := hP
  have hx := Bd.exec
  have hby := Bd.bytes
  have hlk := BodyLoose.notSynchronized Bd
  have hml : c.maxLocals = 1 := hml0
  have hown : s.vm.findClass "com/example/demarcate/demarcate/TransactionDefinition" = some m.cls := findClass_of_methodNamed Bd.named
  have hnm := (name_of_methodNamed Bd.named Bd.method).1
  have X0 : Stand p l e ({ frames := 0, cells := 0, slots := 0, locals := 0 } : Room) s m #[(.ref a)] below meth c s₁ [] 0 0 := Stand.of_body Bd
  have e0 : s₁.heap = h0 := by rw [← hh, Bd.state]; rfl
  have N0 := Fr.nil n0
  suffices hOW : OW p e below s (QGP Z a x1 h0 n0) 0 0 (s₁.setTop (mkF m 0 #[.val (.ref a)] [])) by
    obtain ⟨q1, q2, q3, q4⟩ := hOW
    exact ⟨q1, q2, castTop (ef_GP m a) q3, q4⟩
  refine OW.st (B := s₁.setTop (mkF m 1 #[.val (.ref a)] [(.ref a)])) (fun _ kk_ => XS.aloadN X0.here hx rfl (hb hby d12_0) rfl rfl kk_) ?_
  obtain ⟨T87, X87, e87, st87⟩ := getF X0 hx hZ hown (host := "") (Or.inl (w_34 hw)) Via.refl e0 F (g := (mkF m 1 #[.val (.ref a)] [(.ref a)])) rfl rfl (hb hby d12_1)
  refine OW.st (B := T87.setTop (mkF m 4 #[.val (.ref a)] [(.ref x1)])) (st87) ?_
  exact OW.ret X87 hx hlk (i := .areturn) Bd.returns rfl (Or.inr (Or.inr (Or.inr (Or.inr ⟨rfl, rfl, rfl⟩)))) (hb hby d12_4) e87 (by decide) (by decide) ⟨rfl, N0, rfl⟩
theorem ef_GI (m : MethodId) (x0 : Addr) : entryFrame m #[(.ref x0)] 1 = mkF m 0 #[.val (.ref x0)] [] := by first | (simp [entryFrame, mkF, argsToLocals, Value.category]; done) | rfl
def QGI (Z : State) (a : Addr) (x1 : Addr) (h0 : Heap) (n0 : Nat) (v : Option Value) (h : Heap) (L : List Loc) : Prop := v = some (.ref x1) ∧ Fr n0 L ∧ h = h0
set_option maxRecDepth 65536 in
set_option maxHeartbeats 40000000 in
theorem rmGI (l : Launch) (Z : State) (a0 : Array Value) (hw : ∀ d ∈ tables_1, d.before a0 Z = true) (ws : List Jvm.Cond) (a : Addr) (x1 : Addr) (h0 : Heap) (n0 : Nat) (O0 : Old Z n0 h0) (F : Fld Z h0 a "com/example/demarcate/demarcate/TransactionDefinition" "isolation" "Lcom/example/demarcate/demarcate/Isolation;" (.ref x1)) :
    MetFree l (⟨"com/example/demarcate/demarcate/TransactionDefinition", "isolation", "()Lcom/example/demarcate/demarcate/Isolation;"⟩ : MethodName) (head1 (Jvm.Cond.code (⟨"com/example/demarcate/demarcate/TransactionDefinition", "isolation", "()Lcom/example/demarcate/demarcate/Isolation;"⟩ : MethodName) prog_19_method_8_code 1 (some (.object "com/example/demarcate/demarcate/Isolation")) :: ws) ({ frames := 0, cells := 0, slots := 0, locals := 0 } : Room)) (fun aa_ UU_ => aa_ = #[(.ref a)] ∧ Z.Warmed39 UU_.vm ∧ UU_.heap = h0) (fun _ _ _ _ _ => True) (fun _ UU_ oo_ UV_ => ∃ vv_ LL_, oo_ = .returned vv_ ∧ QGI Z a x1 h0 n0 vv_ UV_.heap LL_ ∧ FrameEnd UU_ oo_ UV_ LL_ ({ frames := 0, cells := 0, slots := 0, locals := 0 } : Room).cells ({ frames := 0, cells := 0, slots := 0, locals := 0 } : Room).slots) := by
  refine MetFree.of_bodySF (plainFor_of_name pn_3) hisR ?_
  intro p e s m args below meth c s₁ Bd hml0 hP hK
  obtain ⟨rfl, hZ, hh⟩ := hP
  have hx := Bd.exec
  have hby := Bd.bytes
  have hlk := BodyLoose.notSynchronized Bd
  have hml : c.maxLocals = 1 := hml0
  have hown : s.vm.findClass "com/example/demarcate/demarcate/TransactionDefinition" = some m.cls := findClass_of_methodNamed Bd.named
  have hnm := (name_of_methodNamed Bd.named Bd.method).1
  have X0 : Stand p l e ({ frames := 0, cells := 0, slots := 0, locals := 0 } : Room) s m #[(.ref a)] below meth c s₁ [] 0 0 := Stand.of_body Bd
  have e0 : s₁.heap = h0 := by rw [← hh, Bd.state]; rfl
  have N0 := Fr.nil n0
  suffices hOW : OW p e below s (QGI Z a x1 h0 n0) 0 0 (s₁.setTop (mkF m 0 #[.val (.ref a)] [])) by
    obtain ⟨q1, q2, q3, q4⟩ := hOW
    exact ⟨q1, q2, castTop (ef_GI m a) q3, q4⟩
  refine OW.st (B := s₁.setTop (mkF m 1 #[.val (.ref a)] [(.ref a)])) (fun _ kk_ => XS.aloadN X0.here hx rfl (hb hby d13_0) rfl rfl kk_) ?_
  obtain ⟨T88, X88, e88, st88⟩ := getF X0 hx hZ hown (host := "") (Or.inl (w_36 hw)) Via.refl e0 F (g := (mkF m 1 #[.val (.ref a)] [(.ref a)])) rfl rfl (hb hby d13_1)
  refine OW.st (B := T88.setTop (mkF m 4 #[.val (.ref a)] [(.ref x1)])) (st88) ?_
  exact OW.ret X88 hx hlk (i := .areturn) Bd.returns rfl (Or.inr (Or.inr (Or.inr (Or.inr ⟨rfl, rfl, rfl⟩)))) (hb hby d13_4) e88 (by decide) (by decide) ⟨rfl, N0, rfl⟩
theorem ef_GT (m : MethodId) (x0 : Addr) : entryFrame m #[(.ref x0)] 1 = mkF m 0 #[.val (.ref x0)] [] := by first | (simp [entryFrame, mkF, argsToLocals, Value.category]; done) | rfl
def QGT (Z : State) (a : Addr) (x1 : Addr) (h0 : Heap) (n0 : Nat) (v : Option Value) (h : Heap) (L : List Loc) : Prop := v = some (.ref x1) ∧ Fr n0 L ∧ h = h0
set_option maxRecDepth 65536 in
set_option maxHeartbeats 40000000 in
theorem rmGT (l : Launch) (Z : State) (a0 : Array Value) (hw : ∀ d ∈ tables_1, d.before a0 Z = true) (ws : List Jvm.Cond) (a : Addr) (x1 : Addr) (h0 : Heap) (n0 : Nat) (O0 : Old Z n0 h0) (F : Fld Z h0 a "com/example/demarcate/demarcate/TransactionDefinition" "timeout" "Ljava/util/OptionalInt;" (.ref x1)) :
    MetFree l (⟨"com/example/demarcate/demarcate/TransactionDefinition", "timeout", "()Ljava/util/OptionalInt;"⟩ : MethodName) (head1 (Jvm.Cond.code (⟨"com/example/demarcate/demarcate/TransactionDefinition", "timeout", "()Ljava/util/OptionalInt;"⟩ : MethodName) prog_19_method_10_code 1 (some (.object "java/util/OptionalInt")) :: ws) ({ frames := 0, cells := 0, slots := 0, locals := 0 } : Room)) (fun aa_ UU_ => aa_ = #[(.ref a)] ∧ Z.Warmed39 UU_.vm ∧ UU_.heap = h0) (fun _ _ _ _ _ => True) (fun _ UU_ oo_ UV_ => ∃ vv_ LL_, oo_ = .returned vv_ ∧ QGT Z a x1 h0 n0 vv_ UV_.heap LL_ ∧ FrameEnd UU_ oo_ UV_ LL_ ({ frames := 0, cells := 0, slots := 0, locals := 0 } : Room).cells ({ frames := 0, cells := 0, slots := 0, locals := 0 } : Room).slots) := by
  refine MetFree.of_bodySF (plainFor_of_name pn_3) hisR ?_
  intro p e s m args below meth c s₁ Bd hml0 hP hK
  obtain ⟨rfl, hZ, hh⟩ := hP
  have hx := Bd.exec
  have hby := Bd.bytes
  have hlk := BodyLoose.notSynchronized Bd
  have hml : c.maxLocals = 1 := hml0
  have hown : s.vm.findClass "com/example/demarcate/demarcate/TransactionDefinition" = some m.cls := findClass_of_methodNamed Bd.named
  have hnm := (name_of_methodNamed Bd.named Bd.method).1
  have X0 : Stand p l e ({ frames := 0, cells := 0, slots := 0, locals := 0 } : Room) s m #[(.ref a)] below meth c s₁ [] 0 0 := Stand.of_body Bd
  have e0 : s₁.heap = h0 := by rw [← hh, Bd.state]; rfl
  have N0 := Fr.nil n0
  suffices hOW : OW p e below s (QGT Z a x1 h0 n0) 0 0 (s₁.setTop (mkF m 0 #[.val (.ref a)] [])) by
    obtain ⟨q1, q2, q3, q4⟩ := hOW
    exact ⟨q1, q2, castTop (ef_GT m a) q3, q4⟩
  refine OW.st (B := s₁.setTop (mkF m 1 #[.val (.ref a)] [(.ref a)])) (fun _ kk_ => XS.aloadN X0.here hx rfl (hb hby d14_0) rfl rfl kk_) ?_
  obtain ⟨T89, X89, e89, st89⟩ := getF X0 hx hZ hown (host := "") (Or.inl (w_40 hw)) Via.refl e0 F (g := (mkF m 1 #[.val (.ref a)] [(.ref a)])) rfl rfl (hb hby d14_1)
  refine OW.st (B := T89.setTop (mkF m 4 #[.val (.ref a)] [(.ref x1)])) (st89) ?_
  exact OW.ret X89 hx hlk (i := .areturn) Bd.returns rfl (Or.inr (Or.inr (Or.inr (Or.inr ⟨rfl, rfl, rfl⟩)))) (hb hby d14_4) e89 (by decide) (by decide) ⟨rfl, N0, rfl⟩
theorem ef_GR (m : MethodId) (x0 : Addr) : entryFrame m #[(.ref x0)] 1 = mkF m 0 #[.val (.ref x0)] [] := by first | (simp [entryFrame, mkF, argsToLocals, Value.category]; done) | rfl
def QGR (Z : State) (a : Addr) (x1 : Int32) (h0 : Heap) (n0 : Nat) (v : Option Value) (h : Heap) (L : List Loc) : Prop := v = some (.int x1) ∧ Fr n0 L ∧ h = h0
set_option maxRecDepth 65536 in
set_option maxHeartbeats 40000000 in
theorem rmGR (l : Launch) (Z : State) (a0 : Array Value) (hw : ∀ d ∈ tables_1, d.before a0 Z = true) (ws : List Jvm.Cond) (a : Addr) (x1 : Int32) (h0 : Heap) (n0 : Nat) (O0 : Old Z n0 h0) (F : Fld Z h0 a "com/example/demarcate/demarcate/TransactionDefinition" "readOnly" "Z" (.int x1)) (hx1 : narrow .boolean (.int x1) = .int x1) :
    MetFree l (⟨"com/example/demarcate/demarcate/TransactionDefinition", "isReadOnly", "()Z"⟩ : MethodName) (head1 (Jvm.Cond.code (⟨"com/example/demarcate/demarcate/TransactionDefinition", "isReadOnly", "()Z"⟩ : MethodName) prog_19_method_9_code 1 (some .boolean) :: ws) ({ frames := 0, cells := 0, slots := 0, locals := 0 } : Room)) (fun aa_ UU_ => aa_ = #[(.ref a)] ∧ Z.Warmed39 UU_.vm ∧ UU_.heap = h0) (fun _ _ _ _ _ => True) (fun _ UU_ oo_ UV_ => ∃ vv_ LL_, oo_ = .returned vv_ ∧ QGR Z a x1 h0 n0 vv_ UV_.heap LL_ ∧ FrameEnd UU_ oo_ UV_ LL_ ({ frames := 0, cells := 0, slots := 0, locals := 0 } : Room).cells ({ frames := 0, cells := 0, slots := 0, locals := 0 } : Room).slots) := by
  refine MetFree.of_bodySF (plainFor_of_name pn_3) hisR ?_
  intro p e s m args below meth c s₁ Bd hml0 hP hK
  obtain ⟨rfl, hZ, hh⟩ := hP
  have hx := Bd.exec
  have hby := Bd.bytes
  have hlk := BodyLoose.notSynchronized Bd
  have hml : c.maxLocals = 1 := hml0
  have hown : s.vm.findClass "com/example/demarcate/demarcate/TransactionDefinition" = some m.cls := findClass_of_methodNamed Bd.named
  have hnm := (name_of_methodNamed Bd.named Bd.method).1
  have X0 : Stand p l e ({ frames := 0, cells := 0, slots := 0, locals := 0 } : Room) s m #[(.ref a)] below meth c s₁ [] 0 0 := Stand.of_body Bd
  have e0 : s₁.heap = h0 := by rw [← hh, Bd.state]; rfl
  have N0 := Fr.nil n0
  suffices hOW : OW p e below s (QGR Z a x1 h0 n0) 0 0 (s₁.setTop (mkF m 0 #[.val (.ref a)] [])) by
    obtain ⟨q1, q2, q3, q4⟩ := hOW
    exact ⟨q1, q2, castTop (ef_GR m a) q3, q4⟩
  refine OW.st (B := s₁.setTop (mkF m 1 #[.val (.ref a)] [(.ref a)])) (fun _ kk_ => XS.aloadN X0.here hx rfl (hb hby d11_0) rfl rfl kk_) ?_
  obtain ⟨T90, X90, e90, st90⟩ := getF X0 hx hZ hown (host := "") (Or.inl (w_38 hw)) Via.refl e0 F (g := (mkF m 1 #[.val (.ref a)] [(.ref a)])) rfl rfl (hb hby d11_1)
  refine OW.st (B := T90.setTop (mkF m 4 #[.val (.ref a)] [(.int x1)])) (st90) ?_
  exact OW.ret X90 hx hlk (i := .ireturn) Bd.returns hx1 (Or.inl ⟨rfl, Or.inr (Or.inl rfl), _, rfl⟩) (hb hby d11_4) e90 (by decide) (by decide) ⟨rfl, N0, rfl⟩
theorem ef_MX (m : MethodId) (x0 : Int32) (x1 : Int32) : entryFrame m #[(.int x0), (.int x1)] 2 = mkF m 0 #[.val (.int x0), .val (.int x1)] [] := by first | (simp [entryFrame, mkF, argsToLocals, Value.category]; done) | rfl
def QMX (Z : State) (a : Int32) (b : Int32) (h0 : Heap) (n0 : Nat) (v : Option Value) (h : Heap) (L : List Loc) : Prop := v = some (.int (own_max a b)) ∧ Fr n0 L ∧ h = h0
set_option maxRecDepth 65536 in
set_option maxHeartbeats 40000000 in
theorem rmMX (l : Launch) (Z : State) (a0 : Array Value) (hw : ∀ d ∈ tables_1, d.before a0 Z = true) (ws : List Jvm.Cond) (a : Int32) (b : Int32) (h0 : Heap) (n0 : Nat) (O0 : Old Z n0 h0) :
    MetFree l (⟨"java/lang/Math", "max", "(II)I"⟩ : MethodName) (head1 (Jvm.Cond.code (⟨"java/lang/Math", "max", "(II)I"⟩ : MethodName) jdk_29_method_65_code 2 (some .int) :: ws) ({ frames := 0, cells := 0, slots := 0, locals := 0 } : Room)) (fun aa_ UU_ => aa_ = #[(.int a), (.int b)] ∧ Z.Warmed39 UU_.vm ∧ UU_.heap = h0) (fun _ _ _ _ _ => True) (fun _ UU_ oo_ UV_ => ∃ vv_ LL_, oo_ = .returned vv_ ∧ QMX Z a b h0 n0 vv_ UV_.heap LL_ ∧ FrameEnd UU_ oo_ UV_ LL_ ({ frames := 0, cells := 0, slots := 0, locals := 0 } : Room).cells ({ frames := 0, cells := 0, slots := 0, locals := 0 } : Room).slots) := by
  refine MetFree.of_bodySF (Jvm.Free.JP.mathPlain rfl (by decide +kernel)) hisR ?_
  intro p e s m args below meth c s₁ Bd hml0 hP hK
  obtain ⟨rfl, hZ, hh⟩ := hP
  have hx := Bd.exec
  have hby := Bd.bytes
  have hlk := BodyLoose.notSynchronized Bd
  have hml : c.maxLocals = 2 := hml0
  have hown : s.vm.findClass "java/lang/Math" = some m.cls := findClass_of_methodNamed Bd.named
  have hnm := (name_of_methodNamed Bd.named Bd.method).1
  have X0 : Stand p l e ({ frames := 0, cells := 0, slots := 0, locals := 0 } : Room) s m #[(.int a), (.int b)] below meth c s₁ [] 0 0 := Stand.of_body Bd
  have e0 : s₁.heap = h0 := by rw [← hh, Bd.state]; rfl
  have N0 := Fr.nil n0
  suffices hOW : OW p e below s (QMX Z a b h0 n0) 0 0 (s₁.setTop (mkF m 0 #[.val (.int a), .val (.int b)] [])) by
    obtain ⟨q1, q2, q3, q4⟩ := hOW
    exact ⟨q1, q2, castTop (ef_MX m a b) q3, q4⟩
  refine OW.st (B := s₁.setTop (mkF m 1 #[.val (.int a), .val (.int b)] [(.int a)])) (fun _ kk_ => XS.iloadN X0.here hx rfl (hb hby d15_0) rfl kk_) ?_
  refine OW.st (B := s₁.setTop (mkF m 2 #[.val (.int a), .val (.int b)] [(.int b), (.int a)])) (fun _ kk_ => XS.iloadN X0.here hx rfl (hb hby d15_1) rfl kk_) ?_
  by_cases hc91 : a < b
  · refine OW.st (B := s₁.setTop (mkF m 9 #[.val (.int a), .val (.int b)] [])) (fun _ kk_ => XS.icmpYes X0.here hx rfl (pc0 := 2) (pc' := 9) rfl (hb hby d15_2) rfl (tlt hc91).1 (by decide) (by decide) kk_) ?_
    refine OW.st (B := s₁.setTop (mkF m 10 #[.val (.int a), .val (.int b)] [(.int b)])) (fun _ kk_ => XS.iloadN X0.here hx rfl (hb hby d15_9) rfl kk_) ?_
    exact OW.ret X0 hx hlk (i := .ireturn) Bd.returns rfl (Or.inl ⟨rfl, Or.inl rfl, _, rfl⟩) (hb hby d15_10) e0 (by decide) (by decide) ⟨by simp [own_max, hc91], N0, rfl⟩
  · refine OW.st (B := s₁.setTop (mkF m 5 #[.val (.int a), .val (.int b)] [])) (fun _ kk_ => XS.icmpNo X0.here hx rfl (hb hby d15_2) rfl (flt hc91).1 kk_) ?_
    refine OW.st (B := s₁.setTop (mkF m 6 #[.val (.int a), .val (.int b)] [(.int a)])) (fun _ kk_ => XS.iloadN X0.here hx rfl (hb hby d15_5) rfl kk_) ?_
    refine OW.st (B := s₁.setTop (mkF m 10 #[.val (.int a), .val (.int b)] [(.int a)])) (fun _ kk_ => XS.goto X0.here hx rfl (pc0 := 6) (pc' := 10) rfl (hb hby d15_6) (by decide) (by decide) kk_) ?_
    exact OW.ret X0 hx hlk (i := .ireturn) Bd.returns rfl (Or.inl ⟨rfl, Or.inl rfl, _, rfl⟩) (hb hby d15_10) e0 (by decide) (by decide) ⟨by simp [own_max, hc91], N0, rfl⟩
theorem ef_0 (m : MethodId) (x0 : Int32) (x1 : Int32) (x2 : Int32) (x3 : Int32) : entryFrame m #[(.int x0), (.int x1), (.int x2), (.int x3)] maxLocals = mkF m 0 #[.val (.int x0), .val (.int x1), .val (.int x2), .val (.int x3), .unset, .unset, .unset, .unset, .unset, .unset, .unset] [] := by first | (simp [entryFrame, mkF, argsToLocals, Value.category, maxLocals]; done) | rfl
def Q0 (Z : State) (n1 : Int32) (n2 : Int32) (n3 : Int32) (n4 : Int32) (a_REQUIRED : Addr) (a_REPEATABLE_READ : Addr) (a_DEFAULT : Addr) (a_NEVER : Addr) (a_MANDATORY : Addr) (a_SERIALIZABLE : Addr) (a_SUPPORTS : Addr) (a_REQUIRES_NEW : Addr) (a_READ_UNCOMMITTED : Addr) (a_READ_COMMITTED : Addr) (a_NOT_SUPPORTED : Addr) (a_NESTED : Addr) (a_EMPTY : Addr) (h0 : Heap) (n0 : Nat) (v : Option Value) (h : Heap) (L : List Loc) : Prop := v = some (.int 1) ∧ Fr n0 L
set_option maxRecDepth 65536 in
set_option maxHeartbeats 40000000 in
theorem rm0 (l : Launch) (Z : State) (a0 : Array Value) (hw : ∀ d ∈ tables_1, d.before a0 Z = true) (ws : List Jvm.Cond) (n1 : Int32) (n2 : Int32) (n3 : Int32) (n4 : Int32) (a_REQUIRED : Addr) (a_REPEATABLE_READ : Addr) (a_DEFAULT : Addr) (a_NEVER : Addr) (a_MANDATORY : Addr) (a_SERIALIZABLE : Addr) (a_SUPPORTS : Addr) (a_REQUIRES_NEW : Addr) (a_READ_UNCOMMITTED : Addr) (a_READ_COMMITTED : Addr) (a_NOT_SUPPORTED : Addr) (a_NESTED : Addr) (a_EMPTY : Addr) (h0 : Heap) (n0 : Nat) (O0 : Old Z n0 h0) (hS : OwnS Z a_REQUIRED a_REPEATABLE_READ a_DEFAULT a_NEVER a_MANDATORY a_SERIALIZABLE a_SUPPORTS a_REQUIRES_NEW a_READ_UNCOMMITTED a_READ_COMMITTED a_NOT_SUPPORTED a_NESTED a_EMPTY) :
    MetFree l x (head1 (Jvm.Cond.code x code maxLocals ret :: ws) room_1) (fun aa_ UU_ => aa_ = #[(.int n1), (.int n2), (.int n3), (.int n4)] ∧ Z.Warmed39 UU_.vm ∧ UU_.heap = h0) (fun _ _ _ _ _ => True) (fun _ UU_ oo_ UV_ => ∃ vv_ LL_, oo_ = .returned vv_ ∧ Q0 Z n1 n2 n3 n4 a_REQUIRED a_REPEATABLE_READ a_DEFAULT a_NEVER a_MANDATORY a_SERIALIZABLE a_SUPPORTS a_REQUIRES_NEW a_READ_UNCOMMITTED a_READ_COMMITTED a_NOT_SUPPORTED a_NESTED a_EMPTY h0 n0 vv_ UV_.heap LL_ ∧ ReturnedEndW UU_ oo_ UV_ LL_ 11 114) := by
  refine MetFree.of_bodySF (plainFor_of_name pn_0) hisR ?_
  intro p e s m args below meth c s₁ Bd hml0 hP hK
  obtain ⟨rfl, hZ, hh⟩ := hP
  have hx := Bd.exec
  have hby := Bd.bytes
  have hlk := BodyLoose.notSynchronized Bd
  have hml : c.maxLocals = 11 := hml0
  have hown : s.vm.findClass "com/example/demarcate/demarcate/TransactionDefinitionWithReadOnlyPinLaw" = some m.cls := findClass_of_methodNamed Bd.named
  have hnm := (name_of_methodNamed Bd.named Bd.method).1
  have X0 : Stand p l e room_1 s m #[(.int n1), (.int n2), (.int n3), (.int n4)] below meth c s₁ [] 0 0 := Stand.of_body Bd
  have e0 : s₁.heap = h0 := by rw [← hh, Bd.state]; rfl
  have N0 := Fr.nil n0
  have hS0 : s.Since s.vm 0 := (State.WarmedH.refl s).since 0
  have hk0 : 0 ≤ h0.size := Nat.zero_le _
  suffices hOW : OWW p e below s (Q0 Z n1 n2 n3 n4 a_REQUIRED a_REPEATABLE_READ a_DEFAULT a_NEVER a_MANDATORY a_SERIALIZABLE a_SUPPORTS a_REQUIRES_NEW a_READ_UNCOMMITTED a_READ_COMMITTED a_NOT_SUPPORTED a_NESTED a_EMPTY h0 n0) 11 114 (s₁.setTop (mkF m 0 #[.val (.int n1), .val (.int n2), .val (.int n3), .val (.int n4), .unset, .unset, .unset, .unset, .unset, .unset, .unset] [])) by
    obtain ⟨q1, q2, q3, q4⟩ := hOW
    exact ⟨q1, q2, castTop (ef_0 m n1 n2 n3 n4) q3, q4⟩
  have hS' := hS
  obtain ⟨Sa_REQUIRED, Ea_REQUIRED, Sa_REPEATABLE_READ, Ea_REPEATABLE_READ, Sa_DEFAULT, Ea_DEFAULT, Sa_NEVER, Ea_NEVER, Sa_MANDATORY, Ea_MANDATORY, Sa_SERIALIZABLE, Ea_SERIALIZABLE, Sa_SUPPORTS, Ea_SUPPORTS, Sa_REQUIRES_NEW, Ea_REQUIRES_NEW, Sa_READ_UNCOMMITTED, Ea_READ_UNCOMMITTED, Sa_READ_COMMITTED, Ea_READ_COMMITTED, Sa_NOT_SUPPORTED, Ea_NOT_SUPPORTED, Sa_NESTED, Ea_NESTED, Sa_EMPTY, Ea_EMPTY, Fa_EMPTY_isPresent, Fa_EMPTY_value⟩ := hS'
  have J92 : ∀ (T92 : State) (L92 : List Loc) (X92 : Stand p l e room_1 s m #[(.int n1), (.int n2), (.int n3), (.int n4)] below meth c T92 L92 0 0) (N92 : Fr n0 L92) (e92 : T92.heap = h0) (f0 : Int32), ((f0 = 0 ∨ f0 = 1)) → OWW p e below s (Q0 Z n1 n2 n3 n4 a_REQUIRED a_REPEATABLE_READ a_DEFAULT a_NEVER a_MANDATORY a_SERIALIZABLE a_SUPPORTS a_REQUIRES_NEW a_READ_UNCOMMITTED a_READ_COMMITTED a_NOT_SUPPORTED a_NESTED a_EMPTY h0 n0) 11 114 (T92.setTop (mkF m 11 #[.val (.int n1), .val (.int n2), .val (.int n3), .val (.int n4), .unset, .unset, .unset, .unset, .unset, .unset, .unset] [(.int f0)])) := by
    intro T92 L92 X92 N92 e92 f0 hf0
    refine OWW.st (B := T92.setTop (mkF m 13 #[.val (.int n1), .val (.int n2), .val (.int n3), .val (.int n4), .val (.int f0), .unset, .unset, .unset, .unset, .unset, .unset] [])) (fun _ kk_ => XS.istore X92.here hx rfl (hb hby at_11) rfl (l' := #[.val (.int n1), .val (.int n2), .val (.int n3), .val (.int n4), .val (.int f0), .unset, .unset, .unset, .unset, .unset, .unset]) rfl kk_) ?_
    have J93 : ∀ (T93 : State) (L93 : List Loc) (X93 : Stand p l e room_1 s m #[(.int n1), (.int n2), (.int n3), (.int n4)] below meth c T93 L93 0 0) (N93 : Fr n0 L93) (e93 : T93.heap = h0) (f1 : Int32), ((f1 = 0 ∨ f1 = 1)) → OWW p e below s (Q0 Z n1 n2 n3 n4 a_REQUIRED a_REPEATABLE_READ a_DEFAULT a_NEVER a_MANDATORY a_SERIALIZABLE a_SUPPORTS a_REQUIRES_NEW a_READ_UNCOMMITTED a_READ_COMMITTED a_NOT_SUPPORTED a_NESTED a_EMPTY h0 n0) 11 114 (T93.setTop (mkF m 24 #[.val (.int n1), .val (.int n2), .val (.int n3), .val (.int n4), .val (.int f0), .unset, .unset, .unset, .unset, .unset, .unset] [(.int f1)])) := by
      intro T93 L93 X93 N93 e93 f1 hf1
      refine OWW.st (B := T93.setTop (mkF m 26 #[.val (.int n1), .val (.int n2), .val (.int n3), .val (.int n4), .val (.int f0), .val (.int f1), .unset, .unset, .unset, .unset, .unset] [])) (fun _ kk_ => XS.istore X93.here hx rfl (hb hby at_24) rfl (l' := #[.val (.int n1), .val (.int n2), .val (.int n3), .val (.int n4), .val (.int f0), .val (.int f1), .unset, .unset, .unset, .unset, .unset]) rfl kk_) ?_
      have J94 : ∀ (T94 : State) (L94 : List Loc) (X94 : Stand p l e room_1 s m #[(.int n1), (.int n2), (.int n3), (.int n4)] below meth c T94 L94 0 0) (N94 : Fr n0 L94) (e94 : T94.heap = h0) (f2 : Int32), ((f2 = 0 ∨ f2 = 1)) → OWW p e below s (Q0 Z n1 n2 n3 n4 a_REQUIRED a_REPEATABLE_READ a_DEFAULT a_NEVER a_MANDATORY a_SERIALIZABLE a_SUPPORTS a_REQUIRES_NEW a_READ_UNCOMMITTED a_READ_COMMITTED a_NOT_SUPPORTED a_NESTED a_EMPTY h0 n0) 11 114 (T94.setTop (mkF m 37 #[.val (.int n1), .val (.int n2), .val (.int n3), .val (.int n4), .val (.int f0), .val (.int f1), .unset, .unset, .unset, .unset, .unset] [(.int f2)])) := by
        intro T94 L94 X94 N94 e94 f2 hf2
        refine OWW.st (B := T94.setTop (mkF m 39 #[.val (.int n1), .val (.int n2), .val (.int n3), .val (.int n4), .val (.int f0), .val (.int f1), .val (.int f2), .unset, .unset, .unset, .unset] [])) (fun _ kk_ => XS.istore X94.here hx rfl (hb hby at_37) rfl (l' := #[.val (.int n1), .val (.int n2), .val (.int n3), .val (.int n4), .val (.int f0), .val (.int f1), .val (.int f2), .unset, .unset, .unset, .unset]) rfl kk_) ?_
        refine OWW.st (B := T94.setTop (mkF m 40 #[.val (.int n1), .val (.int n2), .val (.int n3), .val (.int n4), .val (.int f0), .val (.int f1), .val (.int f2), .unset, .unset, .unset, .unset] [(.int n1)])) (fun _ kk_ => XS.iloadN X94.here hx rfl (hb hby at_39) rfl kk_) ?_
        refine OWW.st (B := T94.setTop (mkF m 42 #[.val (.int n1), .val (.int n2), .val (.int n3), .val (.int n4), .val (.int f0), .val (.int f1), .val (.int f2), .unset, .unset, .unset, .unset] [(.int (2147483647 : Int32)), (.int n1)])) (X94.ldcInt hx hown (mvT hZ (w_0 hw)) (g := (mkF m 40 #[.val (.int n1), .val (.int n2), .val (.int n3), .val (.int n4), .val (.int f0), .val (.int f1), .val (.int f2), .unset, .unset, .unset, .unset] [(.int n1)])) rfl (hb hby at_40)) ?_
        refine OWW.st (B := T94.setTop (mkF m 43 #[.val (.int n1), .val (.int n2), .val (.int n3), .val (.int n4), .val (.int f0), .val (.int f1), .val (.int f2), .unset, .unset, .unset, .unset] [(.int (n1 &&& (2147483647 : Int32)))])) (fun _ kk_ => XS.iand X94.here hx rfl (hb hby at_42) rfl kk_) ?_
        refine OWW.st (B := T94.setTop (mkF m 45 #[.val (.int n1), .val (.int n2), .val (.int n3), .val (.int n4), .val (.int f0), .val (.int f1), .val (.int f2), .unset, .unset, .unset, .unset] [(.int (7 : Int32)), (.int (n1 &&& (2147483647 : Int32)))])) (fun _ kk_ => XS.bipush X94.here hx rfl (hb hby at_43) kk_) ?_
        refine OWW.st (B := T94.setTop (mkF m 46 #[.val (.int n1), .val (.int n2), .val (.int n3), .val (.int n4), .val (.int f0), .val (.int f1), .val (.int f2), .unset, .unset, .unset, .unset] [(.int ((n1 &&& (2147483647 : Int32)) % (7 : Int32)))])) (fun _ kk_ => iremM X94 hx rfl (hb hby at_45) rfl (by decide) kk_) ?_
        obtain ⟨_, _, ⟨T95, L95, k95, n95⟩, -, X95, ⟨Lc95, hQ95, l95, y95, z95⟩, st95⟩ := Jvm.LawKit.callS X94 hx (y := (⟨"com/example/demarcate/demarcate/TransactionDefinitionWithReadOnlyPinLaw", "prop", "(I)Lcom/example/demarcate/demarcate/Propagation;"⟩ : MethodName)) hown (mvT hZ (w_1 hw)) (mvT hZ (w_2 hw)) (mvT hZ (w_3 hw)) (mvT hZ (w_4 hw)) (by decide) (backOf (W := 0) (rmP l Z a0 hw [] ((n1 &&& (2147483647 : Int32)) % (7 : Int32)) a_REQUIRED a_REPEATABLE_READ a_DEFAULT a_NEVER a_MANDATORY a_SERIALIZABLE a_SUPPORTS a_REQUIRES_NEW a_READ_UNCOMMITTED a_READ_COMMITTED a_NOT_SUPPORTED a_NESTED a_EMPTY h0 n0 O0 hS) hZ (w_4 hw) (w_3 hw) (by decide) (by decide)) (g := (mkF m 46 #[.val (.int n1), .val (.int n2), .val (.int n3), .val (.int n4), .val (.int f0), .val (.int f1), .val (.int f2), .unset, .unset, .unset, .unset] [(.int ((n1 &&& (2147483647 : Int32)) % (7 : Int32)))])) rfl (by rw [hml]; rfl) (argsL := [(.int ((n1 &&& (2147483647 : Int32)) % (7 : Int32)))]) (rest := []) (lenOf pd_5 rfl) rfl (by show 2 * 0 + _ ≤ _; exact Nat.le_of_eq rfl) (hb hby at_46) (fun _ _ => ⟨rfl, e94, (by decide : 0 + 0 ≤ _), (by decide : 0 + 0 ≤ _)⟩)
        dsimp only [Pt.U, Pt.locs, Pt.cells, Pt.slots] at X95 l95 y95 z95 st95 hQ95
        subst l95 y95 z95
        obtain ⟨a95, rfl, Nq95, e95, Ea95⟩ := hQ95
        have N95 := Fr.app N94 Nq95
        refine OWW.st (B := T95.setTop (mkF m 49 #[.val (.int n1), .val (.int n2), .val (.int n3), .val (.int n4), .val (.int f0), .val (.int f1), .val (.int f2), .unset, .unset, .unset, .unset] [(.ref a95)])) (st95) ?_
        refine OWW.st (B := T95.setTop (mkF m 51 #[.val (.int n1), .val (.int n2), .val (.int n3), .val (.int n4), .val (.int f0), .val (.int f1), .val (.int f2), .val (.ref a95), .unset, .unset, .unset] [])) (fun _ kk_ => XS.astore X95.here hx rfl (hb hby at_49) rfl rfl (l' := #[.val (.int n1), .val (.int n2), .val (.int n3), .val (.int n4), .val (.int f0), .val (.int f1), .val (.int f2), .val (.ref a95), .unset, .unset, .unset]) rfl kk_) ?_
        refine OWW.st (B := T95.setTop (mkF m 52 #[.val (.int n1), .val (.int n2), .val (.int n3), .val (.int n4), .val (.int f0), .val (.int f1), .val (.int f2), .val (.ref a95), .unset, .unset, .unset] [(.int n2)])) (fun _ kk_ => XS.iloadN X95.here hx rfl (hb hby at_51) rfl kk_) ?_
        refine OWW.st (B := T95.setTop (mkF m 54 #[.val (.int n1), .val (.int n2), .val (.int n3), .val (.int n4), .val (.int f0), .val (.int f1), .val (.int f2), .val (.ref a95), .unset, .unset, .unset] [(.int (2147483647 : Int32)), (.int n2)])) (X95.ldcInt hx hown (mvT hZ (w_0 hw)) (g := (mkF m 52 #[.val (.int n1), .val (.int n2), .val (.int n3), .val (.int n4), .val (.int f0), .val (.int f1), .val (.int f2), .val (.ref a95), .unset, .unset, .unset] [(.int n2)])) rfl (hb hby at_52)) ?_
        refine OWW.st (B := T95.setTop (mkF m 55 #[.val (.int n1), .val (.int n2), .val (.int n3), .val (.int n4), .val (.int f0), .val (.int f1), .val (.int f2), .val (.ref a95), .unset, .unset, .unset] [(.int (n2 &&& (2147483647 : Int32)))])) (fun _ kk_ => XS.iand X95.here hx rfl (hb hby at_54) rfl kk_) ?_
        refine OWW.st (B := T95.setTop (mkF m 56 #[.val (.int n1), .val (.int n2), .val (.int n3), .val (.int n4), .val (.int f0), .val (.int f1), .val (.int f2), .val (.ref a95), .unset, .unset, .unset] [(.int (5 : Int32)), (.int (n2 &&& (2147483647 : Int32)))])) (fun _ kk_ => XS.iconst X95.here hx rfl (hb hby at_55) kk_) ?_
        refine OWW.st (B := T95.setTop (mkF m 57 #[.val (.int n1), .val (.int n2), .val (.int n3), .val (.int n4), .val (.int f0), .val (.int f1), .val (.int f2), .val (.ref a95), .unset, .unset, .unset] [(.int ((n2 &&& (2147483647 : Int32)) % (5 : Int32)))])) (fun _ kk_ => iremM X95 hx rfl (hb hby at_56) rfl (by decide) kk_) ?_
        obtain ⟨_, _, ⟨T96, L96, k96, n96⟩, -, X96, ⟨Lc96, hQ96, l96, y96, z96⟩, st96⟩ := Jvm.LawKit.callS X95 hx (y := (⟨"com/example/demarcate/demarcate/TransactionDefinitionWithReadOnlyPinLaw", "iso", "(I)Lcom/example/demarcate/demarcate/Isolation;"⟩ : MethodName)) hown (mvT hZ (w_8 hw)) (mvT hZ (w_9 hw)) (mvT hZ (w_3 hw)) (mvT hZ (w_10 hw)) (by decide) (backOf (W := 0) (rmI l Z a0 hw [] ((n2 &&& (2147483647 : Int32)) % (5 : Int32)) a_REQUIRED a_REPEATABLE_READ a_DEFAULT a_NEVER a_MANDATORY a_SERIALIZABLE a_SUPPORTS a_REQUIRES_NEW a_READ_UNCOMMITTED a_READ_COMMITTED a_NOT_SUPPORTED a_NESTED a_EMPTY h0 n0 O0 hS) hZ (w_10 hw) (w_3 hw) (by decide) (by decide)) (g := (mkF m 57 #[.val (.int n1), .val (.int n2), .val (.int n3), .val (.int n4), .val (.int f0), .val (.int f1), .val (.int f2), .val (.ref a95), .unset, .unset, .unset] [(.int ((n2 &&& (2147483647 : Int32)) % (5 : Int32)))])) rfl (by rw [hml]; rfl) (argsL := [(.int ((n2 &&& (2147483647 : Int32)) % (5 : Int32)))]) (rest := []) (lenOf pd_6 rfl) rfl (by show 2 * 0 + _ ≤ _; exact Nat.le_of_eq rfl) (hb hby at_57) (fun _ _ => ⟨rfl, e95, (by decide : 0 + 0 ≤ _), (by decide : 0 + 0 ≤ _)⟩)
        dsimp only [Pt.U, Pt.locs, Pt.cells, Pt.slots] at X96 l96 y96 z96 st96 hQ96
        subst l96 y96 z96
        obtain ⟨a96, rfl, Nq96, e96, Ea96⟩ := hQ96
        have N96 := Fr.app N95 Nq96
        refine OWW.st (B := T96.setTop (mkF m 60 #[.val (.int n1), .val (.int n2), .val (.int n3), .val (.int n4), .val (.int f0), .val (.int f1), .val (.int f2), .val (.ref a95), .unset, .unset, .unset] [(.ref a96)])) (st96) ?_
        refine OWW.st (B := T96.setTop (mkF m 62 #[.val (.int n1), .val (.int n2), .val (.int n3), .val (.int n4), .val (.int f0), .val (.int f1), .val (.int f2), .val (.ref a95), .val (.ref a96), .unset, .unset] [])) (fun _ kk_ => XS.astore X96.here hx rfl (hb hby at_60) rfl rfl (l' := #[.val (.int n1), .val (.int n2), .val (.int n3), .val (.int n4), .val (.int f0), .val (.int f1), .val (.int f2), .val (.ref a95), .val (.ref a96), .unset, .unset]) rfl kk_) ?_
        obtain ⟨T97, h97, X97, e97, E97, A97, D97, -, st97⟩ := newO X96 hx hZ hown (w_14 hw) (w_15 hw) (w_16 hw) e96 (g := (mkF m 62 #[.val (.int n1), .val (.int n2), .val (.int n3), .val (.int n4), .val (.int f0), .val (.int f1), .val (.int f2), .val (.ref a95), .val (.ref a96), .unset, .unset] [])) rfl (hb hby at_62) (by decide) (by decide)
        obtain ⟨b97, g97⟩ : ∃ z, z = h0.size := ⟨_, rfl⟩
        rw [← g97] at A97 D97 st97
        have n_b97 : n0 ≤ b97 := Nat.le_trans (own_oldle O0) (Nat.le_of_eq g97.symm)
        have O97 : Old Z n0 h97 := O0.ext E97
        have F97_35 : Fld Z h97 b97 "com/example/demarcate/demarcate/TransactionDefinition" "propagation" "Lcom/example/demarcate/demarcate/Propagation;" .null := D97 (Or.inr (w_35 hw)) (ty := (.object "com/example/demarcate/demarcate/Propagation")) (by decide)
        have F97_37 : Fld Z h97 b97 "com/example/demarcate/demarcate/TransactionDefinition" "isolation" "Lcom/example/demarcate/demarcate/Isolation;" .null := D97 (Or.inr (w_37 hw)) (ty := (.object "com/example/demarcate/demarcate/Isolation")) (by decide)
        have F97_39 : Fld Z h97 b97 "com/example/demarcate/demarcate/TransactionDefinition" "readOnly" "Z" (.int (0 : Int32)) := D97 (Or.inr (w_39 hw)) (ty := .boolean) (by decide)
        have F97_41 : Fld Z h97 b97 "com/example/demarcate/demarcate/TransactionDefinition" "timeout" "Ljava/util/OptionalInt;" .null := D97 (Or.inr (w_41 hw)) (ty := (.object "java/util/OptionalInt")) (by decide)
        refine OWW.st (B := T97.setTop (mkF m 65 #[.val (.int n1), .val (.int n2), .val (.int n3), .val (.int n4), .val (.int f0), .val (.int f1), .val (.int f2), .val (.ref a95), .val (.ref a96), .unset, .unset] [(.ref b97)])) (st97) ?_
        refine OWW.st (B := T97.setTop (mkF m 66 #[.val (.int n1), .val (.int n2), .val (.int n3), .val (.int n4), .val (.int f0), .val (.int f1), .val (.int f2), .val (.ref a95), .val (.ref a96), .unset, .unset] [(.ref b97), (.ref b97)])) (fun _ kk_ => XS.dup X97.here hx rfl (hb hby at_65) rfl rfl kk_) ?_
        obtain ⟨_, _, ⟨T98, L98, k98, n98⟩, -, X98, ⟨Lc98, hQ98, l98, y98, z98⟩, st98⟩ := X97.specialBack hx (y := (⟨"com/example/demarcate/demarcate/TransactionDefinition", "<init>", "()V"⟩ : MethodName)) rfl hown (mvT hZ (w_17 hw)) (mvT hZ (w_18 hw)) (mvT hZ (w_19 hw)) (by decide) (backOf (W := 1) (rmT0 l Z a0 hw [] b97 a_REQUIRED a_REPEATABLE_READ a_DEFAULT a_NEVER a_MANDATORY a_SERIALIZABLE a_SUPPORTS a_REQUIRES_NEW a_READ_UNCOMMITTED a_READ_COMMITTED a_NOT_SUPPORTED a_NESTED a_EMPTY h97 n0 O97 A97 F97_35 F97_37 F97_39 F97_41 n_b97 hS) hZ (w_19 hw) (w_16 hw) (by decide) (by decide)) (g := (mkF m 66 #[.val (.int n1), .val (.int n2), .val (.int n3), .val (.int n4), .val (.int f0), .val (.int f1), .val (.int f2), .val (.ref a95), .val (.ref a96), .unset, .unset] [(.ref b97), (.ref b97)])) rfl (by rw [hml]; rfl) (Steps.refl _) (a := b97) (argsL := []) (rest := [(.ref b97)]) (lenOf pd_7 rfl) rfl (by show 2 * 0 + _ ≤ _; exact Nat.le_of_eq rfl) (hb hby at_66) (fun _ _ => ⟨rfl, e97, (by decide : 1 + 0 ≤ _), (by decide : 4 + 0 ≤ _)⟩)
        dsimp only [Pt.U, Pt.locs, Pt.cells, Pt.slots] at X98 l98 y98 z98 st98 hQ98
        subst l98 y98 z98
        obtain ⟨rfl, Nq98, K98, Ei98, Fi98_0, Fi98_1, Fi98_2, Fi98_3⟩ := hQ98
        have N98 := Fr.app N96 Nq98
        have O98 : Old Z n0 T98.heap := O97.keep K98 (allS n_b97 all0)
        refine OWW.tr (B := T98.setTop (mkF m 69 #[.val (.int n1), .val (.int n2), .val (.int n3), .val (.int n4), .val (.int f0), .val (.int f1), .val (.int f2), .val (.ref a95), .val (.ref a96), .unset, .unset] [(.ref b97)])) (st98) ?_
        refine OWW.st (B := T98.setTop (mkF m 71 #[.val (.int n1), .val (.int n2), .val (.int n3), .val (.int n4), .val (.int f0), .val (.int f1), .val (.int f2), .val (.ref a95), .val (.ref a96), .unset, .unset] [(.ref a95), (.ref b97)])) (fun _ kk_ => XS.aload X98.here hx rfl (hb hby at_69) rfl rfl kk_) ?_
        obtain ⟨cq99, kq99, q99a, q99b, q99c⟩ := isOf hZ rfl Ei98
        obtain ⟨_, _, ⟨T99, L99, k99, n99⟩, -, X99, hs99, hsz99, ⟨Lc99, hQ99, l99, y99, z99⟩, st99⟩ := X98.virtualBackS hx (y := (⟨"com/example/demarcate/demarcate/TransactionDefinition", "withPropagation", "(Lcom/example/demarcate/demarcate/Propagation;)Lcom/example/demarcate/demarcate/TransactionDefinition;"⟩ : MethodName)) (z := (⟨"com/example/demarcate/demarcate/TransactionDefinition", "withPropagation", "(Lcom/example/demarcate/demarcate/Propagation;)Lcom/example/demarcate/demarcate/TransactionDefinition;"⟩ : MethodName)) hown (mvT hZ (w_42 hw)) (mvT hZ (w_43 hw)) (notFace_of_selects (args := #[]) (mvT hZ (w_45 hw))) (mvT hZ (w_45 hw)) (mvT hZ (w_44 hw)) (by decide) (backOfS (W := 0) (rmWP l Z a0 hw [] b97 a_REQUIRED a_DEFAULT (0 : Int32) a_EMPTY a95 T98.heap n0 O98 Fi98_0 Fi98_1 Fi98_2 Fi98_3 (by decide) (Ea95.ext O98.2)) hZ (w_46 hw) (w_16 hw) (by decide) (by decide)) q99a q99c (g := (mkF m 71 #[.val (.int n1), .val (.int n2), .val (.int n3), .val (.int n4), .val (.int f0), .val (.int f1), .val (.int f2), .val (.ref a95), .val (.ref a96), .unset, .unset] [(.ref a95), (.ref b97)])) rfl (by rw [hml]; rfl) (Steps.refl _) (argsL := [(.ref a95)]) (rest := []) (lenOf pd_8 rfl) rfl (by show 2 * 0 + _ ≤ _; exact Nat.le_of_eq rfl) (hb hby at_71) (fun _ _ => ⟨rfl, rfl, (by decide : 1 + 3 ≤ _), (by decide : 4 + 52 ≤ _)⟩)
        dsimp only [Pt.U, Pt.locs, Pt.cells, Pt.slots] at hs99 hsz99
        have hS99 := foldS hS0 (Nat.le_trans (Nat.le_trans hk0 E97.1) K98.1) hs99 hsz99
        have hZ99 : Z.Warmed39 (s.setVm T99.vm).vm := State.Warmed39.trans (t := s) hZ hs99.1
        have hown99 : (s.setVm T99.vm).vm.findClass "com/example/demarcate/demarcate/TransactionDefinitionWithReadOnlyPinLaw" = some m.cls := by rw [show (s.setVm T99.vm).vm = T99.vm from rfl, hs99.1.alike.findClass]; exact hown
        dsimp only [Pt.U, Pt.locs, Pt.cells, Pt.slots] at X99 l99 y99 z99 st99 hQ99
        subst l99 y99 z99
        obtain ⟨c99, rfl, Nq99, K99, gw99, zw99, Ew99, Fw99_0, Fw99_1, Fw99_2, Fw99_3⟩ := hQ99
        have N99 := Fr.app N98 Nq99
        have O99 : Old Z n0 T99.heap := O98.keep K99 all0
        have hk99 : T99.heap.size ≤ T99.heap.size := Nat.le_of_eq (by rfl)
        refine OWW.tr (B := T99.setTop (mkF m 74 #[.val (.int n1), .val (.int n2), .val (.int n3), .val (.int n4), .val (.int f0), .val (.int f1), .val (.int f2), .val (.ref a95), .val (.ref a96), .unset, .unset] [(.ref c99)])) (st99) ?_
        refine OWW.st (B := T99.setTop (mkF m 76 #[.val (.int n1), .val (.int n2), .val (.int n3), .val (.int n4), .val (.int f0), .val (.int f1), .val (.int f2), .val (.ref a95), .val (.ref a96), .unset, .unset] [(.ref a96), (.ref c99)])) (fun _ kk_ => XS.aload X99.here hx rfl (hb hby at_74) rfl rfl kk_) ?_
        obtain ⟨cq100, kq100, q100a, q100b, q100c⟩ := isOf hZ99 rfl Ew99
        obtain ⟨_, _, ⟨T100, L100, k100, n100⟩, -, X100, hs100, hsz100, ⟨Lc100, hQ100, l100, y100, z100⟩, st100⟩ := X99.virtualBackS hx (y := (⟨"com/example/demarcate/demarcate/TransactionDefinition", "withIsolation", "(Lcom/example/demarcate/demarcate/Isolation;)Lcom/example/demarcate/demarcate/TransactionDefinition;"⟩ : MethodName)) (z := (⟨"com/example/demarcate/demarcate/TransactionDefinition", "withIsolation", "(Lcom/example/demarcate/demarcate/Isolation;)Lcom/example/demarcate/demarcate/TransactionDefinition;"⟩ : MethodName)) hown99 (mvT hZ99 (w_62 hw)) (mvT hZ99 (w_63 hw)) (notFace_of_selects (args := #[]) (mvT hZ99 (w_65 hw))) (mvT hZ99 (w_65 hw)) (mvT hZ99 (w_64 hw)) (by decide) (backOfS (W := 0) (rmWI l Z a0 hw [] c99 a95 a_DEFAULT (0 : Int32) a_EMPTY a96 T99.heap n0 O99 Fw99_0 Fw99_1 Fw99_2 Fw99_3 (by decide) (Ea96.ext O99.2)) hZ99 (w_66 hw) (w_16 hw) (by decide) (by decide)) q100a q100c (g := (mkF m 76 #[.val (.int n1), .val (.int n2), .val (.int n3), .val (.int n4), .val (.int f0), .val (.int f1), .val (.int f2), .val (.ref a95), .val (.ref a96), .unset, .unset] [(.ref a96), (.ref c99)])) rfl (by rw [hml]; rfl) (Steps.refl _) (argsL := [(.ref a96)]) (rest := []) (lenOf pd_9 rfl) rfl (by show 2 * 0 + _ ≤ _; exact Nat.le_of_eq rfl) (hb hby at_76) (fun _ _ => ⟨rfl, rfl, (by decide : 4 + 3 ≤ _), (by decide : 56 + 44 ≤ _)⟩)
        dsimp only [Pt.U, Pt.locs, Pt.cells, Pt.slots] at hs100 hsz100
        have hS100 := foldS hS99 hk99 hs100 hsz100
        have hZ100 : Z.Warmed39 (s.setVm T100.vm).vm := State.Warmed39.trans (t := (s.setVm T99.vm)) hZ99 hs100.1
        have hown100 : (s.setVm T100.vm).vm.findClass "com/example/demarcate/demarcate/TransactionDefinitionWithReadOnlyPinLaw" = some m.cls := by rw [show (s.setVm T100.vm).vm = T100.vm from rfl, hs100.1.alike.findClass]; exact hown99
        dsimp only [Pt.U, Pt.locs, Pt.cells, Pt.slots] at X100 l100 y100 z100 st100 hQ100
        subst l100 y100 z100
        obtain ⟨c100, rfl, Nq100, K100, gw100, zw100, Ew100, Fw100_0, Fw100_1, Fw100_2, Fw100_3⟩ := hQ100
        have N100 := Fr.app N99 Nq100
        have O100 : Old Z n0 T100.heap := O99.keep K100 all0
        have hk100 : T100.heap.size ≤ T100.heap.size := Nat.le_of_eq (by rfl)
        refine OWW.tr (B := T100.setTop (mkF m 79 #[.val (.int n1), .val (.int n2), .val (.int n3), .val (.int n4), .val (.int f0), .val (.int f1), .val (.int f2), .val (.ref a95), .val (.ref a96), .unset, .unset] [(.ref c100)])) (st100) ?_
        refine OWW.st (B := T100.setTop (mkF m 81 #[.val (.int n1), .val (.int n2), .val (.int n3), .val (.int n4), .val (.int f0), .val (.int f1), .val (.int f2), .val (.ref a95), .val (.ref a96), .unset, .unset] [(.int f0), (.ref c100)])) (fun _ kk_ => XS.iload X100.here hx rfl (hb hby at_79) rfl kk_) ?_
        obtain ⟨cq101, kq101, q101a, q101b, q101c⟩ := isOf hZ100 rfl Ew100
        obtain ⟨_, _, ⟨T101, L101, k101, n101⟩, -, X101, ⟨Lc101, hQ101, l101, y101, z101⟩, st101⟩ := X100.virtualBack hx (y := (⟨"com/example/demarcate/demarcate/TransactionDefinition", "withReadOnly", "(Z)Lcom/example/demarcate/demarcate/TransactionDefinition;"⟩ : MethodName)) (z := (⟨"com/example/demarcate/demarcate/TransactionDefinition", "withReadOnly", "(Z)Lcom/example/demarcate/demarcate/TransactionDefinition;"⟩ : MethodName)) hown100 (mvT hZ100 (w_70 hw)) (mvT hZ100 (w_71 hw)) (notFace_of_selects (args := #[]) (mvT hZ100 (w_73 hw))) (mvT hZ100 (w_73 hw)) (mvT hZ100 (w_72 hw)) (by decide) (backOf (W := 0) (rmWR l Z a0 hw [] c100 a95 a96 (0 : Int32) a_EMPTY f0 T100.heap n0 O100 Fw100_0 Fw100_1 Fw100_2 Fw100_3 (by decide) hf0) hZ100 (w_74 hw) (w_16 hw) (by decide) (by decide)) q101a q101c (g := (mkF m 81 #[.val (.int n1), .val (.int n2), .val (.int n3), .val (.int n4), .val (.int f0), .val (.int f1), .val (.int f2), .val (.ref a95), .val (.ref a96), .unset, .unset] [(.int f0), (.ref c100)])) rfl (by rw [hml]; rfl) (Steps.refl _) (argsL := [(.int f0)]) (rest := []) (lenOf pd_10 rfl) rfl (by show 2 * 0 + _ ≤ _; exact Nat.le_of_eq rfl) (hb hby at_81) (fun _ _ => ⟨rfl, rfl, (by decide : 7 + 1 ≤ _), (by decide : 100 + 4 ≤ _)⟩)
        dsimp only [Pt.U, Pt.locs, Pt.cells, Pt.slots] at X101 l101 y101 z101 st101 hQ101
        subst l101 y101 z101
        obtain ⟨c101, rfl, Nq101, K101, gw101, zw101, Ew101, Fw101_0, Fw101_1, Fw101_2, Fw101_3⟩ := hQ101
        have N101 := Fr.app N100 Nq101
        have O101 : Old Z n0 T101.heap := O100.keep K101 all0
        refine OWW.tr (B := T101.setTop (mkF m 84 #[.val (.int n1), .val (.int n2), .val (.int n3), .val (.int n4), .val (.int f0), .val (.int f1), .val (.int f2), .val (.ref a95), .val (.ref a96), .unset, .unset] [(.ref c101)])) (st101) ?_
        refine OWW.st (B := T101.setTop (mkF m 86 #[.val (.int n1), .val (.int n2), .val (.int n3), .val (.int n4), .val (.int f0), .val (.int f1), .val (.int f2), .val (.ref a95), .val (.ref a96), .val (.ref c101), .unset] [])) (fun _ kk_ => XS.astore X101.here hx rfl (hb hby at_84) rfl rfl (l' := #[.val (.int n1), .val (.int n2), .val (.int n3), .val (.int n4), .val (.int f0), .val (.int f1), .val (.int f2), .val (.ref a95), .val (.ref a96), .val (.ref c101), .unset]) rfl kk_) ?_
        refine OWW.st (B := T101.setTop (mkF m 88 #[.val (.int n1), .val (.int n2), .val (.int n3), .val (.int n4), .val (.int f0), .val (.int f1), .val (.int f2), .val (.ref a95), .val (.ref a96), .val (.ref c101), .unset] [(.int f2)])) (fun _ kk_ => XS.iload X101.here hx rfl (hb hby at_86) rfl kk_) ?_
        have J102 : ∀ (T102 : State) (L102 : List Loc) (h102 : Heap) (vm102 : Vm) (k102 : Nat) (X102 : Stand p l e room_1 (s.setVm vm102) m #[(.int n1), (.int n2), (.int n3), (.int n4)] below meth c T102 L102 10 110) (N102 : Fr n0 L102) (e102 : T102.heap = h102) (O102 : Old Z n0 h102) (hS102 : s.Since vm102 k102) (hk102 : k102 ≤ h102.size) (hZ102 : Z.Warmed39 (s.setVm vm102).vm) (hown102 : (s.setVm vm102).vm.findClass "com/example/demarcate/demarcate/TransactionDefinitionWithReadOnlyPinLaw" = some m.cls) (bb : Addr) (tt : Addr), (Exa Z h102 bb "com/example/demarcate/demarcate/TransactionDefinition") → (n0 ≤ bb) → (Fld Z h102 bb "com/example/demarcate/demarcate/TransactionDefinition" "propagation" "Lcom/example/demarcate/demarcate/Propagation;" (.ref a95)) → (Fld Z h102 bb "com/example/demarcate/demarcate/TransactionDefinition" "isolation" "Lcom/example/demarcate/demarcate/Isolation;" (.ref a96)) → (Fld Z h102 bb "com/example/demarcate/demarcate/TransactionDefinition" "readOnly" "Z" (.int f0)) → (Fld Z h102 bb "com/example/demarcate/demarcate/TransactionDefinition" "timeout" "Ljava/util/OptionalInt;" (.ref tt)) → OWW p e below s (Q0 Z n1 n2 n3 n4 a_REQUIRED a_REPEATABLE_READ a_DEFAULT a_NEVER a_MANDATORY a_SERIALIZABLE a_SUPPORTS a_REQUIRES_NEW a_READ_UNCOMMITTED a_READ_COMMITTED a_NOT_SUPPORTED a_NESTED a_EMPTY h0 n0) 11 114 (T102.setTop (mkF m 106 #[.val (.int n1), .val (.int n2), .val (.int n3), .val (.int n4), .val (.int f0), .val (.int f1), .val (.int f2), .val (.ref a95), .val (.ref a96), .val (.ref bb), .unset] [])) := by
          intro T102 L102 h102 vm102 k102 X102 N102 e102 O102 hS102 hk102 hZ102 hown102 bb tt Ge Gg Ga Gb Gc Gd
          refine OWW.st (B := T102.setTop (mkF m 108 #[.val (.int n1), .val (.int n2), .val (.int n3), .val (.int n4), .val (.int f0), .val (.int f1), .val (.int f2), .val (.ref a95), .val (.ref a96), .val (.ref bb), .unset] [(.ref bb)])) (fun _ kk_ => XS.aload X102.here hx rfl (hb hby at_106) rfl rfl kk_) ?_
          refine OWW.st (B := T102.setTop (mkF m 110 #[.val (.int n1), .val (.int n2), .val (.int n3), .val (.int n4), .val (.int f0), .val (.int f1), .val (.int f2), .val (.ref a95), .val (.ref a96), .val (.ref bb), .unset] [(.int f1), (.ref bb)])) (fun _ kk_ => XS.iload X102.here hx rfl (hb hby at_108) rfl kk_) ?_
          obtain ⟨cq103, kq103, q103a, q103b, q103c⟩ := isOf hZ102 e102 Ge
          obtain ⟨_, _, ⟨T103, L103, k103, n103⟩, -, X103, ⟨Lc103, hQ103, l103, y103, z103⟩, st103⟩ := X102.virtualBack hx (y := (⟨"com/example/demarcate/demarcate/TransactionDefinition", "withReadOnly", "(Z)Lcom/example/demarcate/demarcate/TransactionDefinition;"⟩ : MethodName)) (z := (⟨"com/example/demarcate/demarcate/TransactionDefinition", "withReadOnly", "(Z)Lcom/example/demarcate/demarcate/TransactionDefinition;"⟩ : MethodName)) hown102 (mvT hZ102 (w_70 hw)) (mvT hZ102 (w_71 hw)) (notFace_of_selects (args := #[]) (mvT hZ102 (w_73 hw))) (mvT hZ102 (w_73 hw)) (mvT hZ102 (w_72 hw)) (by decide) (backOf (W := 0) (rmWR l Z a0 hw [] bb a95 a96 f0 tt f1 h102 n0 O102 Ga Gb Gc Gd hf0 hf1) hZ102 (w_74 hw) (w_16 hw) (by decide) (by decide)) q103a q103c (g := (mkF m 110 #[.val (.int n1), .val (.int n2), .val (.int n3), .val (.int n4), .val (.int f0), .val (.int f1), .val (.int f2), .val (.ref a95), .val (.ref a96), .val (.ref bb), .unset] [(.int f1), (.ref bb)])) rfl (by rw [hml]; rfl) (Steps.refl _) (argsL := [(.int f1)]) (rest := []) (lenOf pd_10 rfl) rfl (by show 2 * 0 + _ ≤ _; exact Nat.le_of_eq rfl) (hb hby at_110) (fun _ _ => ⟨rfl, e102, (by decide : 10 + 1 ≤ _), (by decide : 110 + 4 ≤ _)⟩)
          dsimp only [Pt.U, Pt.locs, Pt.cells, Pt.slots] at X103 l103 y103 z103 st103 hQ103
          subst l103 y103 z103
          obtain ⟨c103, rfl, Nq103, K103, gw103, zw103, Ew103, Fw103_0, Fw103_1, Fw103_2, Fw103_3⟩ := hQ103
          have N103 := Fr.app N102 Nq103
          have O103 : Old Z n0 T103.heap := O102.keep K103 all0
          refine OWW.tr (B := T103.setTop (mkF m 113 #[.val (.int n1), .val (.int n2), .val (.int n3), .val (.int n4), .val (.int f0), .val (.int f1), .val (.int f2), .val (.ref a95), .val (.ref a96), .val (.ref bb), .unset] [(.ref c103)])) (st103) ?_
          refine OWW.st (B := T103.setTop (mkF m 115 #[.val (.int n1), .val (.int n2), .val (.int n3), .val (.int n4), .val (.int f0), .val (.int f1), .val (.int f2), .val (.ref a95), .val (.ref a96), .val (.ref bb), .val (.ref c103)] [])) (fun _ kk_ => XS.astore X103.here hx rfl (hb hby at_113) rfl rfl (l' := #[.val (.int n1), .val (.int n2), .val (.int n3), .val (.int n4), .val (.int f0), .val (.int f1), .val (.int f2), .val (.ref a95), .val (.ref a96), .val (.ref bb), .val (.ref c103)]) rfl kk_) ?_
          refine OWW.st (B := T103.setTop (mkF m 117 #[.val (.int n1), .val (.int n2), .val (.int n3), .val (.int n4), .val (.int f0), .val (.int f1), .val (.int f2), .val (.ref a95), .val (.ref a96), .val (.ref bb), .val (.ref c103)] [(.ref c103)])) (fun _ kk_ => XS.aload X103.here hx rfl (hb hby at_115) rfl rfl kk_) ?_
          refine OWW.st (B := T103.setTop (mkF m 120 #[.val (.int n1), .val (.int n2), .val (.int n3), .val (.int n4), .val (.int f0), .val (.int f1), .val (.int f2), .val (.ref a95), .val (.ref a96), .val (.ref bb), .val (.ref c103)] [])) (fun _ kk_ => XS.ifnullNo X103.here hx rfl (hb hby at_117) rfl kk_) ?_
          refine OWW.st (B := T103.setTop (mkF m 122 #[.val (.int n1), .val (.int n2), .val (.int n3), .val (.int n4), .val (.int f0), .val (.int f1), .val (.int f2), .val (.ref a95), .val (.ref a96), .val (.ref bb), .val (.ref c103)] [(.ref c103)])) (fun _ kk_ => XS.aload X103.here hx rfl (hb hby at_120) rfl rfl kk_) ?_
          refine OWW.st (B := T103.setTop (mkF m 124 #[.val (.int n1), .val (.int n2), .val (.int n3), .val (.int n4), .val (.int f0), .val (.int f1), .val (.int f2), .val (.ref a95), .val (.ref a96), .val (.ref bb), .val (.ref c103)] [(.ref bb), (.ref c103)])) (fun _ kk_ => XS.aload X103.here hx rfl (hb hby at_122) rfl rfl kk_) ?_
          refine OWW.st (B := T103.setTop (mkF m 129 #[.val (.int n1), .val (.int n2), .val (.int n3), .val (.int n4), .val (.int f0), .val (.int f1), .val (.int f2), .val (.ref a95), .val (.ref a96), .val (.ref bb), .val (.ref c103)] [])) (fun _ kk_ => Jvm.RoadKit.acmp (g := (mkF m 124 #[.val (.int n1), .val (.int n2), .val (.int n3), .val (.int n4), .val (.int f0), .val (.int f1), .val (.int f2), .val (.ref a95), .val (.ref a96), .val (.ref bb), .val (.ref c103)] [(.ref bb), (.ref c103)])) X103 hx rfl rfl rfl (pc0 := 124) (pc' := 129) (same := false) rfl (hb hby at_124) rfl (decide_eq_false fun q => (Ne.symm (Nat.ne_of_lt (Nat.lt_of_lt_of_le Ge.lt zw103))) (Value.ref.inj q)) (by decide) (by decide) kk_) ?_
          refine OWW.st (B := T103.setTop (mkF m 131 #[.val (.int n1), .val (.int n2), .val (.int n3), .val (.int n4), .val (.int f0), .val (.int f1), .val (.int f2), .val (.ref a95), .val (.ref a96), .val (.ref bb), .val (.ref c103)] [(.ref c103)])) (fun _ kk_ => XS.aload X103.here hx rfl (hb hby at_129) rfl rfl kk_) ?_
          obtain ⟨cq104, kq104, q104a, q104b, q104c⟩ := isOf hZ102 rfl Ew103
          obtain ⟨_, _, ⟨T104, L104, k104, n104⟩, -, X104, ⟨Lc104, hQ104, l104, y104, z104⟩, st104⟩ := X103.virtualBack hx (y := (⟨"com/example/demarcate/demarcate/TransactionDefinition", "isReadOnly", "()Z"⟩ : MethodName)) (z := (⟨"com/example/demarcate/demarcate/TransactionDefinition", "isReadOnly", "()Z"⟩ : MethodName)) hown102 (mvT hZ102 (w_75 hw)) (mvT hZ102 (w_76 hw)) (notFace_of_selects (args := #[]) (mvT hZ102 (w_78 hw))) (mvT hZ102 (w_78 hw)) (mvT hZ102 (w_77 hw)) (by decide) (backOf (W := 0) (rmGR l Z a0 hw [] c103 f1 T103.heap n0 O103 Fw103_2 (own_nz hf1)) hZ102 (w_79 hw) (w_16 hw) (by decide) (by decide)) q104a q104c (g := (mkF m 131 #[.val (.int n1), .val (.int n2), .val (.int n3), .val (.int n4), .val (.int f0), .val (.int f1), .val (.int f2), .val (.ref a95), .val (.ref a96), .val (.ref bb), .val (.ref c103)] [(.ref c103)])) rfl (by rw [hml]; rfl) (Steps.refl _) (argsL := []) (rest := []) (lenOf pd_11 rfl) rfl (by show 2 * 0 + _ ≤ _; exact Nat.le_of_eq rfl) (hb hby at_131) (fun _ _ => ⟨rfl, rfl, (by decide : 11 + 0 ≤ _), (by decide : 114 + 0 ≤ _)⟩)
          dsimp only [Pt.U, Pt.locs, Pt.cells, Pt.slots] at X104 l104 y104 z104 st104 hQ104
          subst l104 y104 z104
          obtain ⟨rfl, Nq104, e104⟩ := hQ104
          have N104 := Fr.app N103 Nq104
          refine OWW.tr (B := T104.setTop (mkF m 134 #[.val (.int n1), .val (.int n2), .val (.int n3), .val (.int n4), .val (.int f0), .val (.int f1), .val (.int f2), .val (.ref a95), .val (.ref a96), .val (.ref bb), .val (.ref c103)] [(.int f1)])) (st104) ?_
          refine OWW.st (B := T104.setTop (mkF m 136 #[.val (.int n1), .val (.int n2), .val (.int n3), .val (.int n4), .val (.int f0), .val (.int f1), .val (.int f2), .val (.ref a95), .val (.ref a96), .val (.ref bb), .val (.ref c103)] [(.int f1), (.int f1)])) (fun _ kk_ => XS.iload X104.here hx rfl (hb hby at_134) rfl kk_) ?_
          refine OWW.st (B := T104.setTop (mkF m 139 #[.val (.int n1), .val (.int n2), .val (.int n3), .val (.int n4), .val (.int f0), .val (.int f1), .val (.int f2), .val (.ref a95), .val (.ref a96), .val (.ref bb), .val (.ref c103)] [])) (fun _ kk_ => XS.icmpNo X104.here hx rfl (hb hby at_136) rfl (teq rfl).2 kk_) ?_
          refine OWW.st (B := T104.setTop (mkF m 141 #[.val (.int n1), .val (.int n2), .val (.int n3), .val (.int n4), .val (.int f0), .val (.int f1), .val (.int f2), .val (.ref a95), .val (.ref a96), .val (.ref bb), .val (.ref c103)] [(.ref c103)])) (fun _ kk_ => XS.aload X104.here hx rfl (hb hby at_139) rfl rfl kk_) ?_
          obtain ⟨cq105, kq105, q105a, q105b, q105c⟩ := isOf hZ102 e104 Ew103
          obtain ⟨_, _, ⟨T105, L105, k105, n105⟩, -, X105, ⟨Lc105, hQ105, l105, y105, z105⟩, st105⟩ := X104.virtualBack hx (y := (⟨"com/example/demarcate/demarcate/TransactionDefinition", "propagation", "()Lcom/example/demarcate/demarcate/Propagation;"⟩ : MethodName)) (z := (⟨"com/example/demarcate/demarcate/TransactionDefinition", "propagation", "()Lcom/example/demarcate/demarcate/Propagation;"⟩ : MethodName)) hown102 (mvT hZ102 (w_80 hw)) (mvT hZ102 (w_81 hw)) (notFace_of_selects (args := #[]) (mvT hZ102 (w_83 hw))) (mvT hZ102 (w_83 hw)) (mvT hZ102 (w_82 hw)) (by decide) (backOf (W := 0) (rmGP l Z a0 hw [] c103 a95 T103.heap n0 O103 Fw103_0) hZ102 (w_84 hw) (w_16 hw) (by decide) (by decide)) q105a q105c (g := (mkF m 141 #[.val (.int n1), .val (.int n2), .val (.int n3), .val (.int n4), .val (.int f0), .val (.int f1), .val (.int f2), .val (.ref a95), .val (.ref a96), .val (.ref bb), .val (.ref c103)] [(.ref c103)])) rfl (by rw [hml]; rfl) (Steps.refl _) (argsL := []) (rest := []) (lenOf pd_12 rfl) rfl (by show 2 * 0 + _ ≤ _; exact Nat.le_of_eq rfl) (hb hby at_141) (fun _ _ => ⟨rfl, e104, (by decide : 11 + 0 ≤ _), (by decide : 114 + 0 ≤ _)⟩)
          dsimp only [Pt.U, Pt.locs, Pt.cells, Pt.slots] at X105 l105 y105 z105 st105 hQ105
          subst l105 y105 z105
          obtain ⟨rfl, Nq105, e105⟩ := hQ105
          have N105 := Fr.app N104 Nq105
          refine OWW.tr (B := T105.setTop (mkF m 144 #[.val (.int n1), .val (.int n2), .val (.int n3), .val (.int n4), .val (.int f0), .val (.int f1), .val (.int f2), .val (.ref a95), .val (.ref a96), .val (.ref bb), .val (.ref c103)] [(.ref a95)])) (st105) ?_
          refine OWW.st (B := T105.setTop (mkF m 146 #[.val (.int n1), .val (.int n2), .val (.int n3), .val (.int n4), .val (.int f0), .val (.int f1), .val (.int f2), .val (.ref a95), .val (.ref a96), .val (.ref bb), .val (.ref c103)] [(.ref a95), (.ref a95)])) (fun _ kk_ => XS.aload X105.here hx rfl (hb hby at_144) rfl rfl kk_) ?_
          refine OWW.st (B := T105.setTop (mkF m 149 #[.val (.int n1), .val (.int n2), .val (.int n3), .val (.int n4), .val (.int f0), .val (.int f1), .val (.int f2), .val (.ref a95), .val (.ref a96), .val (.ref bb), .val (.ref c103)] [])) (fun _ kk_ => Jvm.RoadKit.acmp (g := (mkF m 146 #[.val (.int n1), .val (.int n2), .val (.int n3), .val (.int n4), .val (.int f0), .val (.int f1), .val (.int f2), .val (.ref a95), .val (.ref a96), .val (.ref bb), .val (.ref c103)] [(.ref a95), (.ref a95)])) X105 hx rfl rfl rfl (pc0 := 146) (pc' := 149) (same := true) rfl (hb hby at_146) rfl (decide_eq_true rfl) (by decide) (by decide) kk_) ?_
          refine OWW.st (B := T105.setTop (mkF m 151 #[.val (.int n1), .val (.int n2), .val (.int n3), .val (.int n4), .val (.int f0), .val (.int f1), .val (.int f2), .val (.ref a95), .val (.ref a96), .val (.ref bb), .val (.ref c103)] [(.ref c103)])) (fun _ kk_ => XS.aload X105.here hx rfl (hb hby at_149) rfl rfl kk_) ?_
          obtain ⟨cq106, kq106, q106a, q106b, q106c⟩ := isOf hZ102 e105 Ew103
          obtain ⟨_, _, ⟨T106, L106, k106, n106⟩, -, X106, ⟨Lc106, hQ106, l106, y106, z106⟩, st106⟩ := X105.virtualBack hx (y := (⟨"com/example/demarcate/demarcate/TransactionDefinition", "isolation", "()Lcom/example/demarcate/demarcate/Isolation;"⟩ : MethodName)) (z := (⟨"com/example/demarcate/demarcate/TransactionDefinition", "isolation", "()Lcom/example/demarcate/demarcate/Isolation;"⟩ : MethodName)) hown102 (mvT hZ102 (w_85 hw)) (mvT hZ102 (w_86 hw)) (notFace_of_selects (args := #[]) (mvT hZ102 (w_88 hw))) (mvT hZ102 (w_88 hw)) (mvT hZ102 (w_87 hw)) (by decide) (backOf (W := 0) (rmGI l Z a0 hw [] c103 a96 T103.heap n0 O103 Fw103_1) hZ102 (w_89 hw) (w_16 hw) (by decide) (by decide)) q106a q106c (g := (mkF m 151 #[.val (.int n1), .val (.int n2), .val (.int n3), .val (.int n4), .val (.int f0), .val (.int f1), .val (.int f2), .val (.ref a95), .val (.ref a96), .val (.ref bb), .val (.ref c103)] [(.ref c103)])) rfl (by rw [hml]; rfl) (Steps.refl _) (argsL := []) (rest := []) (lenOf pd_13 rfl) rfl (by show 2 * 0 + _ ≤ _; exact Nat.le_of_eq rfl) (hb hby at_151) (fun _ _ => ⟨rfl, e105, (by decide : 11 + 0 ≤ _), (by decide : 114 + 0 ≤ _)⟩)
          dsimp only [Pt.U, Pt.locs, Pt.cells, Pt.slots] at X106 l106 y106 z106 st106 hQ106
          subst l106 y106 z106
          obtain ⟨rfl, Nq106, e106⟩ := hQ106
          have N106 := Fr.app N105 Nq106
          refine OWW.tr (B := T106.setTop (mkF m 154 #[.val (.int n1), .val (.int n2), .val (.int n3), .val (.int n4), .val (.int f0), .val (.int f1), .val (.int f2), .val (.ref a95), .val (.ref a96), .val (.ref bb), .val (.ref c103)] [(.ref a96)])) (st106) ?_
          refine OWW.st (B := T106.setTop (mkF m 156 #[.val (.int n1), .val (.int n2), .val (.int n3), .val (.int n4), .val (.int f0), .val (.int f1), .val (.int f2), .val (.ref a95), .val (.ref a96), .val (.ref bb), .val (.ref c103)] [(.ref a96), (.ref a96)])) (fun _ kk_ => XS.aload X106.here hx rfl (hb hby at_154) rfl rfl kk_) ?_
          refine OWW.st (B := T106.setTop (mkF m 159 #[.val (.int n1), .val (.int n2), .val (.int n3), .val (.int n4), .val (.int f0), .val (.int f1), .val (.int f2), .val (.ref a95), .val (.ref a96), .val (.ref bb), .val (.ref c103)] [])) (fun _ kk_ => Jvm.RoadKit.acmp (g := (mkF m 156 #[.val (.int n1), .val (.int n2), .val (.int n3), .val (.int n4), .val (.int f0), .val (.int f1), .val (.int f2), .val (.ref a95), .val (.ref a96), .val (.ref bb), .val (.ref c103)] [(.ref a96), (.ref a96)])) X106 hx rfl rfl rfl (pc0 := 156) (pc' := 159) (same := true) rfl (hb hby at_156) rfl (decide_eq_true rfl) (by decide) (by decide) kk_) ?_
          refine OWW.st (B := T106.setTop (mkF m 161 #[.val (.int n1), .val (.int n2), .val (.int n3), .val (.int n4), .val (.int f0), .val (.int f1), .val (.int f2), .val (.ref a95), .val (.ref a96), .val (.ref bb), .val (.ref c103)] [(.ref c103)])) (fun _ kk_ => XS.aload X106.here hx rfl (hb hby at_159) rfl rfl kk_) ?_
          obtain ⟨cq107, kq107, q107a, q107b, q107c⟩ := isOf hZ102 e106 Ew103
          obtain ⟨_, _, ⟨T107, L107, k107, n107⟩, -, X107, ⟨Lc107, hQ107, l107, y107, z107⟩, st107⟩ := X106.virtualBack hx (y := (⟨"com/example/demarcate/demarcate/TransactionDefinition", "timeout", "()Ljava/util/OptionalInt;"⟩ : MethodName)) (z := (⟨"com/example/demarcate/demarcate/TransactionDefinition", "timeout", "()Ljava/util/OptionalInt;"⟩ : MethodName)) hown102 (mvT hZ102 (w_90 hw)) (mvT hZ102 (w_91 hw)) (notFace_of_selects (args := #[]) (mvT hZ102 (w_93 hw))) (mvT hZ102 (w_93 hw)) (mvT hZ102 (w_92 hw)) (by decide) (backOf (W := 0) (rmGT l Z a0 hw [] c103 tt T103.heap n0 O103 Fw103_3) hZ102 (w_94 hw) (w_16 hw) (by decide) (by decide)) q107a q107c (g := (mkF m 161 #[.val (.int n1), .val (.int n2), .val (.int n3), .val (.int n4), .val (.int f0), .val (.int f1), .val (.int f2), .val (.ref a95), .val (.ref a96), .val (.ref bb), .val (.ref c103)] [(.ref c103)])) rfl (by rw [hml]; rfl) (Steps.refl _) (argsL := []) (rest := []) (lenOf pd_0 rfl) rfl (by show 2 * 0 + _ ≤ _; exact Nat.le_of_eq rfl) (hb hby at_161) (fun _ _ => ⟨rfl, e106, (by decide : 11 + 0 ≤ _), (by decide : 114 + 0 ≤ _)⟩)
          dsimp only [Pt.U, Pt.locs, Pt.cells, Pt.slots] at X107 l107 y107 z107 st107 hQ107
          subst l107 y107 z107
          obtain ⟨rfl, Nq107, e107⟩ := hQ107
          have N107 := Fr.app N106 Nq107
          refine OWW.tr (B := T107.setTop (mkF m 164 #[.val (.int n1), .val (.int n2), .val (.int n3), .val (.int n4), .val (.int f0), .val (.int f1), .val (.int f2), .val (.ref a95), .val (.ref a96), .val (.ref bb), .val (.ref c103)] [(.ref tt)])) (st107) ?_
          refine OWW.st (B := T107.setTop (mkF m 166 #[.val (.int n1), .val (.int n2), .val (.int n3), .val (.int n4), .val (.int f0), .val (.int f1), .val (.int f2), .val (.ref a95), .val (.ref a96), .val (.ref bb), .val (.ref c103)] [(.ref bb), (.ref tt)])) (fun _ kk_ => XS.aload X107.here hx rfl (hb hby at_164) rfl rfl kk_) ?_
          obtain ⟨cq108, kq108, q108a, q108b, q108c⟩ := isOf hZ102 e107 (Ge.keep K103)
          obtain ⟨_, _, ⟨T108, L108, k108, n108⟩, -, X108, ⟨Lc108, hQ108, l108, y108, z108⟩, st108⟩ := X107.virtualBack hx (y := (⟨"com/example/demarcate/demarcate/TransactionDefinition", "timeout", "()Ljava/util/OptionalInt;"⟩ : MethodName)) (z := (⟨"com/example/demarcate/demarcate/TransactionDefinition", "timeout", "()Ljava/util/OptionalInt;"⟩ : MethodName)) hown102 (mvT hZ102 (w_90 hw)) (mvT hZ102 (w_91 hw)) (notFace_of_selects (args := #[]) (mvT hZ102 (w_93 hw))) (mvT hZ102 (w_93 hw)) (mvT hZ102 (w_92 hw)) (by decide) (backOf (W := 1) (rmGT l Z a0 hw [] bb tt T103.heap n0 O103 (Gd.keep K103 nin0)) hZ102 (w_94 hw) (w_16 hw) (by decide) (by decide)) q108a q108c (g := (mkF m 166 #[.val (.int n1), .val (.int n2), .val (.int n3), .val (.int n4), .val (.int f0), .val (.int f1), .val (.int f2), .val (.ref a95), .val (.ref a96), .val (.ref bb), .val (.ref c103)] [(.ref bb), (.ref tt)])) rfl (by rw [hml]; rfl) (Steps.refl _) (argsL := []) (rest := [(.ref tt)]) (lenOf pd_0 rfl) rfl (by show 2 * 0 + _ ≤ _; exact Nat.le_of_eq rfl) (hb hby at_166) (fun _ _ => ⟨rfl, e107, (by decide : 11 + 0 ≤ _), (by decide : 114 + 0 ≤ _)⟩)
          dsimp only [Pt.U, Pt.locs, Pt.cells, Pt.slots] at X108 l108 y108 z108 st108 hQ108
          subst l108 y108 z108
          obtain ⟨rfl, Nq108, e108⟩ := hQ108
          have N108 := Fr.app N107 Nq108
          refine OWW.tr (B := T108.setTop (mkF m 169 #[.val (.int n1), .val (.int n2), .val (.int n3), .val (.int n4), .val (.int f0), .val (.int f1), .val (.int f2), .val (.ref a95), .val (.ref a96), .val (.ref bb), .val (.ref c103)] [(.ref tt), (.ref tt)])) (st108) ?_
          refine OWW.st (B := T108.setTop (mkF m 172 #[.val (.int n1), .val (.int n2), .val (.int n3), .val (.int n4), .val (.int f0), .val (.int f1), .val (.int f2), .val (.ref a95), .val (.ref a96), .val (.ref bb), .val (.ref c103)] [])) (fun _ kk_ => Jvm.RoadKit.acmp (g := (mkF m 169 #[.val (.int n1), .val (.int n2), .val (.int n3), .val (.int n4), .val (.int f0), .val (.int f1), .val (.int f2), .val (.ref a95), .val (.ref a96), .val (.ref bb), .val (.ref c103)] [(.ref tt), (.ref tt)])) X108 hx rfl rfl rfl (pc0 := 169) (pc' := 172) (same := true) rfl (hb hby at_169) rfl (decide_eq_true rfl) (by decide) (by decide) kk_) ?_
          refine OWW.st (B := T108.setTop (mkF m 174 #[.val (.int n1), .val (.int n2), .val (.int n3), .val (.int n4), .val (.int f0), .val (.int f1), .val (.int f2), .val (.ref a95), .val (.ref a96), .val (.ref bb), .val (.ref c103)] [(.ref bb)])) (fun _ kk_ => XS.aload X108.here hx rfl (hb hby at_172) rfl rfl kk_) ?_
          obtain ⟨cq109, kq109, q109a, q109b, q109c⟩ := isOf hZ102 e108 (Ge.keep K103)
          obtain ⟨_, _, ⟨T109, L109, k109, n109⟩, -, X109, ⟨Lc109, hQ109, l109, y109, z109⟩, st109⟩ := X108.virtualBack hx (y := (⟨"com/example/demarcate/demarcate/TransactionDefinition", "isReadOnly", "()Z"⟩ : MethodName)) (z := (⟨"com/example/demarcate/demarcate/TransactionDefinition", "isReadOnly", "()Z"⟩ : MethodName)) hown102 (mvT hZ102 (w_75 hw)) (mvT hZ102 (w_76 hw)) (notFace_of_selects (args := #[]) (mvT hZ102 (w_78 hw))) (mvT hZ102 (w_78 hw)) (mvT hZ102 (w_77 hw)) (by decide) (backOf (W := 0) (rmGR l Z a0 hw [] bb f0 T103.heap n0 O103 (Gc.keep K103 nin0) (own_nz hf0)) hZ102 (w_79 hw) (w_16 hw) (by decide) (by decide)) q109a q109c (g := (mkF m 174 #[.val (.int n1), .val (.int n2), .val (.int n3), .val (.int n4), .val (.int f0), .val (.int f1), .val (.int f2), .val (.ref a95), .val (.ref a96), .val (.ref bb), .val (.ref c103)] [(.ref bb)])) rfl (by rw [hml]; rfl) (Steps.refl _) (argsL := []) (rest := []) (lenOf pd_11 rfl) rfl (by show 2 * 0 + _ ≤ _; exact Nat.le_of_eq rfl) (hb hby at_174) (fun _ _ => ⟨rfl, e108, (by decide : 11 + 0 ≤ _), (by decide : 114 + 0 ≤ _)⟩)
          dsimp only [Pt.U, Pt.locs, Pt.cells, Pt.slots] at X109 l109 y109 z109 st109 hQ109
          subst l109 y109 z109
          obtain ⟨rfl, Nq109, e109⟩ := hQ109
          have N109 := Fr.app N108 Nq109
          refine OWW.tr (B := T109.setTop (mkF m 177 #[.val (.int n1), .val (.int n2), .val (.int n3), .val (.int n4), .val (.int f0), .val (.int f1), .val (.int f2), .val (.ref a95), .val (.ref a96), .val (.ref bb), .val (.ref c103)] [(.int f0)])) (st109) ?_
          refine OWW.st (B := T109.setTop (mkF m 179 #[.val (.int n1), .val (.int n2), .val (.int n3), .val (.int n4), .val (.int f0), .val (.int f1), .val (.int f2), .val (.ref a95), .val (.ref a96), .val (.ref bb), .val (.ref c103)] [(.int f0), (.int f0)])) (fun _ kk_ => XS.iload X109.here hx rfl (hb hby at_177) rfl kk_) ?_
          refine OWW.st (B := T109.setTop (mkF m 182 #[.val (.int n1), .val (.int n2), .val (.int n3), .val (.int n4), .val (.int f0), .val (.int f1), .val (.int f2), .val (.ref a95), .val (.ref a96), .val (.ref bb), .val (.ref c103)] [])) (fun _ kk_ => XS.icmpNo X109.here hx rfl (hb hby at_179) rfl (teq rfl).2 kk_) ?_
          refine OWW.st (B := T109.setTop (mkF m 184 #[.val (.int n1), .val (.int n2), .val (.int n3), .val (.int n4), .val (.int f0), .val (.int f1), .val (.int f2), .val (.ref a95), .val (.ref a96), .val (.ref bb), .val (.ref c103)] [(.ref bb)])) (fun _ kk_ => XS.aload X109.here hx rfl (hb hby at_182) rfl rfl kk_) ?_
          obtain ⟨cq110, kq110, q110a, q110b, q110c⟩ := isOf hZ102 e109 (Ge.keep K103)
          obtain ⟨_, _, ⟨T110, L110, k110, n110⟩, -, X110, ⟨Lc110, hQ110, l110, y110, z110⟩, st110⟩ := X109.virtualBack hx (y := (⟨"com/example/demarcate/demarcate/TransactionDefinition", "propagation", "()Lcom/example/demarcate/demarcate/Propagation;"⟩ : MethodName)) (z := (⟨"com/example/demarcate/demarcate/TransactionDefinition", "propagation", "()Lcom/example/demarcate/demarcate/Propagation;"⟩ : MethodName)) hown102 (mvT hZ102 (w_80 hw)) (mvT hZ102 (w_81 hw)) (notFace_of_selects (args := #[]) (mvT hZ102 (w_83 hw))) (mvT hZ102 (w_83 hw)) (mvT hZ102 (w_82 hw)) (by decide) (backOf (W := 0) (rmGP l Z a0 hw [] bb a95 T103.heap n0 O103 (Ga.keep K103 nin0)) hZ102 (w_84 hw) (w_16 hw) (by decide) (by decide)) q110a q110c (g := (mkF m 184 #[.val (.int n1), .val (.int n2), .val (.int n3), .val (.int n4), .val (.int f0), .val (.int f1), .val (.int f2), .val (.ref a95), .val (.ref a96), .val (.ref bb), .val (.ref c103)] [(.ref bb)])) rfl (by rw [hml]; rfl) (Steps.refl _) (argsL := []) (rest := []) (lenOf pd_12 rfl) rfl (by show 2 * 0 + _ ≤ _; exact Nat.le_of_eq rfl) (hb hby at_184) (fun _ _ => ⟨rfl, e109, (by decide : 11 + 0 ≤ _), (by decide : 114 + 0 ≤ _)⟩)
          dsimp only [Pt.U, Pt.locs, Pt.cells, Pt.slots] at X110 l110 y110 z110 st110 hQ110
          subst l110 y110 z110
          obtain ⟨rfl, Nq110, e110⟩ := hQ110
          have N110 := Fr.app N109 Nq110
          refine OWW.tr (B := T110.setTop (mkF m 187 #[.val (.int n1), .val (.int n2), .val (.int n3), .val (.int n4), .val (.int f0), .val (.int f1), .val (.int f2), .val (.ref a95), .val (.ref a96), .val (.ref bb), .val (.ref c103)] [(.ref a95)])) (st110) ?_
          refine OWW.st (B := T110.setTop (mkF m 189 #[.val (.int n1), .val (.int n2), .val (.int n3), .val (.int n4), .val (.int f0), .val (.int f1), .val (.int f2), .val (.ref a95), .val (.ref a96), .val (.ref bb), .val (.ref c103)] [(.ref a95), (.ref a95)])) (fun _ kk_ => XS.aload X110.here hx rfl (hb hby at_187) rfl rfl kk_) ?_
          refine OWW.st (B := T110.setTop (mkF m 192 #[.val (.int n1), .val (.int n2), .val (.int n3), .val (.int n4), .val (.int f0), .val (.int f1), .val (.int f2), .val (.ref a95), .val (.ref a96), .val (.ref bb), .val (.ref c103)] [])) (fun _ kk_ => Jvm.RoadKit.acmp (g := (mkF m 189 #[.val (.int n1), .val (.int n2), .val (.int n3), .val (.int n4), .val (.int f0), .val (.int f1), .val (.int f2), .val (.ref a95), .val (.ref a96), .val (.ref bb), .val (.ref c103)] [(.ref a95), (.ref a95)])) X110 hx rfl rfl rfl (pc0 := 189) (pc' := 192) (same := true) rfl (hb hby at_189) rfl (decide_eq_true rfl) (by decide) (by decide) kk_) ?_
          refine OWW.st (B := T110.setTop (mkF m 194 #[.val (.int n1), .val (.int n2), .val (.int n3), .val (.int n4), .val (.int f0), .val (.int f1), .val (.int f2), .val (.ref a95), .val (.ref a96), .val (.ref bb), .val (.ref c103)] [(.ref bb)])) (fun _ kk_ => XS.aload X110.here hx rfl (hb hby at_192) rfl rfl kk_) ?_
          obtain ⟨cq111, kq111, q111a, q111b, q111c⟩ := isOf hZ102 e110 (Ge.keep K103)
          obtain ⟨_, _, ⟨T111, L111, k111, n111⟩, -, X111, ⟨Lc111, hQ111, l111, y111, z111⟩, st111⟩ := X110.virtualBack hx (y := (⟨"com/example/demarcate/demarcate/TransactionDefinition", "isolation", "()Lcom/example/demarcate/demarcate/Isolation;"⟩ : MethodName)) (z := (⟨"com/example/demarcate/demarcate/TransactionDefinition", "isolation", "()Lcom/example/demarcate/demarcate/Isolation;"⟩ : MethodName)) hown102 (mvT hZ102 (w_85 hw)) (mvT hZ102 (w_86 hw)) (notFace_of_selects (args := #[]) (mvT hZ102 (w_88 hw))) (mvT hZ102 (w_88 hw)) (mvT hZ102 (w_87 hw)) (by decide) (backOf (W := 0) (rmGI l Z a0 hw [] bb a96 T103.heap n0 O103 (Gb.keep K103 nin0)) hZ102 (w_89 hw) (w_16 hw) (by decide) (by decide)) q111a q111c (g := (mkF m 194 #[.val (.int n1), .val (.int n2), .val (.int n3), .val (.int n4), .val (.int f0), .val (.int f1), .val (.int f2), .val (.ref a95), .val (.ref a96), .val (.ref bb), .val (.ref c103)] [(.ref bb)])) rfl (by rw [hml]; rfl) (Steps.refl _) (argsL := []) (rest := []) (lenOf pd_13 rfl) rfl (by show 2 * 0 + _ ≤ _; exact Nat.le_of_eq rfl) (hb hby at_194) (fun _ _ => ⟨rfl, e110, (by decide : 11 + 0 ≤ _), (by decide : 114 + 0 ≤ _)⟩)
          dsimp only [Pt.U, Pt.locs, Pt.cells, Pt.slots] at X111 l111 y111 z111 st111 hQ111
          subst l111 y111 z111
          obtain ⟨rfl, Nq111, e111⟩ := hQ111
          have N111 := Fr.app N110 Nq111
          refine OWW.tr (B := T111.setTop (mkF m 197 #[.val (.int n1), .val (.int n2), .val (.int n3), .val (.int n4), .val (.int f0), .val (.int f1), .val (.int f2), .val (.ref a95), .val (.ref a96), .val (.ref bb), .val (.ref c103)] [(.ref a96)])) (st111) ?_
          refine OWW.st (B := T111.setTop (mkF m 199 #[.val (.int n1), .val (.int n2), .val (.int n3), .val (.int n4), .val (.int f0), .val (.int f1), .val (.int f2), .val (.ref a95), .val (.ref a96), .val (.ref bb), .val (.ref c103)] [(.ref a96), (.ref a96)])) (fun _ kk_ => XS.aload X111.here hx rfl (hb hby at_197) rfl rfl kk_) ?_
          refine OWW.st (B := T111.setTop (mkF m 202 #[.val (.int n1), .val (.int n2), .val (.int n3), .val (.int n4), .val (.int f0), .val (.int f1), .val (.int f2), .val (.ref a95), .val (.ref a96), .val (.ref bb), .val (.ref c103)] [])) (fun _ kk_ => Jvm.RoadKit.acmp (g := (mkF m 199 #[.val (.int n1), .val (.int n2), .val (.int n3), .val (.int n4), .val (.int f0), .val (.int f1), .val (.int f2), .val (.ref a95), .val (.ref a96), .val (.ref bb), .val (.ref c103)] [(.ref a96), (.ref a96)])) X111 hx rfl rfl rfl (pc0 := 199) (pc' := 202) (same := true) rfl (hb hby at_199) rfl (decide_eq_true rfl) (by decide) (by decide) kk_) ?_
          refine OWW.st (B := T111.setTop (mkF m 203 #[.val (.int n1), .val (.int n2), .val (.int n3), .val (.int n4), .val (.int f0), .val (.int f1), .val (.int f2), .val (.ref a95), .val (.ref a96), .val (.ref bb), .val (.ref c103)] [(.int (1 : Int32))])) (fun _ kk_ => XS.iconst X111.here hx rfl (hb hby at_202) kk_) ?_
          refine OWW.st (B := T111.setTop (mkF m 207 #[.val (.int n1), .val (.int n2), .val (.int n3), .val (.int n4), .val (.int f0), .val (.int f1), .val (.int f2), .val (.ref a95), .val (.ref a96), .val (.ref bb), .val (.ref c103)] [(.int (1 : Int32))])) (fun _ kk_ => XS.goto X111.here hx rfl (pc0 := 203) (pc' := 207) rfl (hb hby at_203) (by decide) (by decide) kk_) ?_
          exact OWW.ret X111 hS102 (Nat.le_trans hk102 K103.1) hx hlk (i := .ireturn) Bd.returns rfl (Or.inl ⟨rfl, Or.inr (Or.inl rfl), _, rfl⟩) (hb hby at_207) e111 (by decide) (by decide) ⟨rfl, N111⟩
        by_cases hc112 : f2 = (0 : Int32)
        · refine OWW.st (B := T101.setTop (mkF m 106 #[.val (.int n1), .val (.int n2), .val (.int n3), .val (.int n4), .val (.int f0), .val (.int f1), .val (.int f2), .val (.ref a95), .val (.ref a96), .val (.ref c101), .unset] [])) (fun _ kk_ => XS.ifYes X101.here hx rfl (pc0 := 88) (pc' := 106) rfl (hb hby at_88) rfl ((if0 _ _).trans (teq hc112).1) (by decide) (by decide) kk_) ?_
          exact J102 _ _ _ T100.vm _ (X101.more (by decide) (by decide)) N101 rfl O101 hS100 (Nat.le_trans hk100 K101.1) hZ100 hown100 _ _ Ew101 gw101 Fw101_0 Fw101_1 Fw101_2 Fw101_3
        · refine OWW.st (B := T101.setTop (mkF m 91 #[.val (.int n1), .val (.int n2), .val (.int n3), .val (.int n4), .val (.int f0), .val (.int f1), .val (.int f2), .val (.ref a95), .val (.ref a96), .val (.ref c101), .unset] [])) (fun _ kk_ => XS.ifNo X101.here hx rfl (hb hby at_88) rfl ((if0 _ _).trans (feq hc112).1) kk_) ?_
          refine OWW.st (B := T101.setTop (mkF m 93 #[.val (.int n1), .val (.int n2), .val (.int n3), .val (.int n4), .val (.int f0), .val (.int f1), .val (.int f2), .val (.ref a95), .val (.ref a96), .val (.ref c101), .unset] [(.ref c101)])) (fun _ kk_ => XS.aload X101.here hx rfl (hb hby at_91) rfl rfl kk_) ?_
          refine OWW.st (B := T101.setTop (mkF m 94 #[.val (.int n1), .val (.int n2), .val (.int n3), .val (.int n4), .val (.int f0), .val (.int f1), .val (.int f2), .val (.ref a95), .val (.ref a96), .val (.ref c101), .unset] [(.int (1 : Int32)), (.ref c101)])) (fun _ kk_ => XS.iconst X101.here hx rfl (hb hby at_93) kk_) ?_
          refine OWW.st (B := T101.setTop (mkF m 95 #[.val (.int n1), .val (.int n2), .val (.int n3), .val (.int n4), .val (.int f0), .val (.int f1), .val (.int f2), .val (.ref a95), .val (.ref a96), .val (.ref c101), .unset] [(.int n3), (.int (1 : Int32)), (.ref c101)])) (fun _ kk_ => XS.iloadN X101.here hx rfl (hb hby at_94) rfl kk_) ?_
          refine OWW.st (B := T101.setTop (mkF m 97 #[.val (.int n1), .val (.int n2), .val (.int n3), .val (.int n4), .val (.int f0), .val (.int f1), .val (.int f2), .val (.ref a95), .val (.ref a96), .val (.ref c101), .unset] [(.int (2147483647 : Int32)), (.int n3), (.int (1 : Int32)), (.ref c101)])) (X101.ldcInt hx hown100 (mvT hZ100 (w_0 hw)) (g := (mkF m 95 #[.val (.int n1), .val (.int n2), .val (.int n3), .val (.int n4), .val (.int f0), .val (.int f1), .val (.int f2), .val (.ref a95), .val (.ref a96), .val (.ref c101), .unset] [(.int n3), (.int (1 : Int32)), (.ref c101)])) rfl (hb hby at_95)) ?_
          refine OWW.st (B := T101.setTop (mkF m 98 #[.val (.int n1), .val (.int n2), .val (.int n3), .val (.int n4), .val (.int f0), .val (.int f1), .val (.int f2), .val (.ref a95), .val (.ref a96), .val (.ref c101), .unset] [(.int (n3 &&& (2147483647 : Int32))), (.int (1 : Int32)), (.ref c101)])) (fun _ kk_ => XS.iand X101.here hx rfl (hb hby at_97) rfl kk_) ?_
          obtain ⟨_, _, ⟨T113, L113, k113, n113⟩, -, X113, ⟨Lc113, hQ113, l113, y113, z113⟩, st113⟩ := Jvm.LawKit.callS X101 hx (y := (⟨"java/lang/Math", "max", "(II)I"⟩ : MethodName)) hown100 (mvT hZ100 (w_104 hw)) (mvT hZ100 (w_105 hw)) (mvT hZ100 (w_106 hw)) (mvT hZ100 (w_107 hw)) (by decide) (backOf (W := 1) (rmMX l Z a0 hw [] (1 : Int32) (n3 &&& (2147483647 : Int32)) T101.heap n0 O101 ) hZ100 (w_107 hw) (w_106 hw) (by decide) (by decide)) (g := (mkF m 98 #[.val (.int n1), .val (.int n2), .val (.int n3), .val (.int n4), .val (.int f0), .val (.int f1), .val (.int f2), .val (.ref a95), .val (.ref a96), .val (.ref c101), .unset] [(.int (n3 &&& (2147483647 : Int32))), (.int (1 : Int32)), (.ref c101)])) rfl (by rw [hml]; rfl) (argsL := [(.int (1 : Int32)), (.int (n3 &&& (2147483647 : Int32)))]) (rest := [(.ref c101)]) (lenOf pd_14 rfl) rfl (by show 2 * 0 + _ ≤ _; exact Nat.le_of_eq rfl) (hb hby at_98) (fun _ _ => ⟨rfl, rfl, (by decide : 8 + 0 ≤ _), (by decide : 104 + 0 ≤ _)⟩)
          dsimp only [Pt.U, Pt.locs, Pt.cells, Pt.slots] at X113 l113 y113 z113 st113 hQ113
          subst l113 y113 z113
          obtain ⟨rfl, Nq113, e113⟩ := hQ113
          have N113 := Fr.app N101 Nq113
          refine OWW.st (B := T113.setTop (mkF m 101 #[.val (.int n1), .val (.int n2), .val (.int n3), .val (.int n4), .val (.int f0), .val (.int f1), .val (.int f2), .val (.ref a95), .val (.ref a96), .val (.ref c101), .unset] [(.int (own_max (1 : Int32) (n3 &&& (2147483647 : Int32)))), (.ref c101)])) (st113) ?_
          have hmx : ¬ ((own_max (1 : Int32) (n3 &&& (2147483647 : Int32))) < (1 : Int32)) := own_max1 _
          obtain ⟨cq114, kq114, q114a, q114b, q114c⟩ := isOf hZ100 e113 Ew101
          obtain ⟨_, _, ⟨T114, L114, k114, n114⟩, -, X114, ⟨Lc114, hQ114, l114, y114, z114⟩, st114⟩ := X113.virtualBack hx (y := (⟨"com/example/demarcate/demarcate/TransactionDefinition", "withTimeout", "(I)Lcom/example/demarcate/demarcate/TransactionDefinition;"⟩ : MethodName)) (z := (⟨"com/example/demarcate/demarcate/TransactionDefinition", "withTimeout", "(I)Lcom/example/demarcate/demarcate/TransactionDefinition;"⟩ : MethodName)) hown100 (mvT hZ100 (w_108 hw)) (mvT hZ100 (w_109 hw)) (notFace_of_selects (args := #[]) (mvT hZ100 (w_111 hw))) (mvT hZ100 (w_111 hw)) (mvT hZ100 (w_110 hw)) (by decide) (backOf (W := 0) (rmWT l Z a0 hw [] c101 a95 a96 f0 a_EMPTY (own_max (1 : Int32) (n3 &&& (2147483647 : Int32))) T101.heap n0 O101 Fw101_0 Fw101_1 Fw101_2 Fw101_3 hf0 hmx) hZ100 (w_112 hw) (w_16 hw) (by decide) (by decide)) q114a q114c (g := (mkF m 101 #[.val (.int n1), .val (.int n2), .val (.int n3), .val (.int n4), .val (.int f0), .val (.int f1), .val (.int f2), .val (.ref a95), .val (.ref a96), .val (.ref c101), .unset] [(.int (own_max (1 : Int32) (n3 &&& (2147483647 : Int32)))), (.ref c101)])) rfl (by rw [hml]; rfl) (Steps.refl _) (argsL := [(.int (own_max (1 : Int32) (n3 &&& (2147483647 : Int32))))]) (rest := []) (lenOf pd_15 rfl) rfl (by show 2 * 0 + _ ≤ _; exact Nat.le_of_eq rfl) (hb hby at_101) (fun _ _ => ⟨rfl, e113, (by decide : 8 + 2 ≤ _), (by decide : 104 + 6 ≤ _)⟩)
          dsimp only [Pt.U, Pt.locs, Pt.cells, Pt.slots] at X114 l114 y114 z114 st114 hQ114
          subst l114 y114 z114
          obtain ⟨c114, tw114, rfl, Nq114, K114, gw114, zw114, Ew114, Fw114_0, Fw114_1, Fw114_2, Fw114_3, Et114⟩ := hQ114
          have N114 := Fr.app N113 Nq114
          have O114 : Old Z n0 T114.heap := O101.keep K114 all0
          refine OWW.tr (B := T114.setTop (mkF m 104 #[.val (.int n1), .val (.int n2), .val (.int n3), .val (.int n4), .val (.int f0), .val (.int f1), .val (.int f2), .val (.ref a95), .val (.ref a96), .val (.ref c101), .unset] [(.ref c114)])) (st114) ?_
          refine OWW.st (B := T114.setTop (mkF m 106 #[.val (.int n1), .val (.int n2), .val (.int n3), .val (.int n4), .val (.int f0), .val (.int f1), .val (.int f2), .val (.ref a95), .val (.ref a96), .val (.ref c114), .unset] [])) (fun _ kk_ => XS.astore X114.here hx rfl (hb hby at_104) rfl rfl (l' := #[.val (.int n1), .val (.int n2), .val (.int n3), .val (.int n4), .val (.int f0), .val (.int f1), .val (.int f2), .val (.ref a95), .val (.ref a96), .val (.ref c114), .unset]) rfl kk_) ?_
          exact J102 _ _ _ T100.vm _ X114 N114 rfl O114 hS100 (Nat.le_trans (Nat.le_trans hk100 K101.1) K114.1) hZ100 hown100 _ _ Ew114 gw114 Fw114_0 Fw114_1 Fw114_2 Fw114_3
      refine OWW.st (B := T93.setTop (mkF m 27 #[.val (.int n1), .val (.int n2), .val (.int n3), .val (.int n4), .val (.int f0), .val (.int f1), .unset, .unset, .unset, .unset, .unset] [(.int n4)])) (fun _ kk_ => XS.iloadN X93.here hx rfl (hb hby at_26) rfl kk_) ?_
      refine OWW.st (B := T93.setTop (mkF m 28 #[.val (.int n1), .val (.int n2), .val (.int n3), .val (.int n4), .val (.int f0), .val (.int f1), .unset, .unset, .unset, .unset, .unset] [(.int (4 : Int32)), (.int n4)])) (fun _ kk_ => XS.iconst X93.here hx rfl (hb hby at_27) kk_) ?_
      refine OWW.st (B := T93.setTop (mkF m 29 #[.val (.int n1), .val (.int n2), .val (.int n3), .val (.int n4), .val (.int f0), .val (.int f1), .unset, .unset, .unset, .unset, .unset] [(.int (n4 &&& (4 : Int32)))])) (fun _ kk_ => XS.iand X93.here hx rfl (hb hby at_28) rfl kk_) ?_
      by_cases hc115 : (n4 &&& (4 : Int32)) = (0 : Int32)
      · refine OWW.st (B := T93.setTop (mkF m 36 #[.val (.int n1), .val (.int n2), .val (.int n3), .val (.int n4), .val (.int f0), .val (.int f1), .unset, .unset, .unset, .unset, .unset] [])) (fun _ kk_ => XS.ifYes X93.here hx rfl (pc0 := 29) (pc' := 36) rfl (hb hby at_29) rfl ((if0 _ _).trans (teq hc115).1) (by decide) (by decide) kk_) ?_
        refine OWW.st (B := T93.setTop (mkF m 37 #[.val (.int n1), .val (.int n2), .val (.int n3), .val (.int n4), .val (.int f0), .val (.int f1), .unset, .unset, .unset, .unset, .unset] [(.int (0 : Int32))])) (fun _ kk_ => XS.iconst X93.here hx rfl (hb hby at_36) kk_) ?_
        exact J94 _ _ X93 N93 e93 _ (by decide)
      · refine OWW.st (B := T93.setTop (mkF m 32 #[.val (.int n1), .val (.int n2), .val (.int n3), .val (.int n4), .val (.int f0), .val (.int f1), .unset, .unset, .unset, .unset, .unset] [])) (fun _ kk_ => XS.ifNo X93.here hx rfl (hb hby at_29) rfl ((if0 _ _).trans (feq hc115).1) kk_) ?_
        refine OWW.st (B := T93.setTop (mkF m 33 #[.val (.int n1), .val (.int n2), .val (.int n3), .val (.int n4), .val (.int f0), .val (.int f1), .unset, .unset, .unset, .unset, .unset] [(.int (1 : Int32))])) (fun _ kk_ => XS.iconst X93.here hx rfl (hb hby at_32) kk_) ?_
        refine OWW.st (B := T93.setTop (mkF m 37 #[.val (.int n1), .val (.int n2), .val (.int n3), .val (.int n4), .val (.int f0), .val (.int f1), .unset, .unset, .unset, .unset, .unset] [(.int (1 : Int32))])) (fun _ kk_ => XS.goto X93.here hx rfl (pc0 := 33) (pc' := 37) rfl (hb hby at_33) (by decide) (by decide) kk_) ?_
        exact J94 _ _ X93 N93 e93 _ (by decide)
    refine OWW.st (B := T92.setTop (mkF m 14 #[.val (.int n1), .val (.int n2), .val (.int n3), .val (.int n4), .val (.int f0), .unset, .unset, .unset, .unset, .unset, .unset] [(.int n4)])) (fun _ kk_ => XS.iloadN X92.here hx rfl (hb hby at_13) rfl kk_) ?_
    refine OWW.st (B := T92.setTop (mkF m 15 #[.val (.int n1), .val (.int n2), .val (.int n3), .val (.int n4), .val (.int f0), .unset, .unset, .unset, .unset, .unset, .unset] [(.int (2 : Int32)), (.int n4)])) (fun _ kk_ => XS.iconst X92.here hx rfl (hb hby at_14) kk_) ?_
    refine OWW.st (B := T92.setTop (mkF m 16 #[.val (.int n1), .val (.int n2), .val (.int n3), .val (.int n4), .val (.int f0), .unset, .unset, .unset, .unset, .unset, .unset] [(.int (n4 &&& (2 : Int32)))])) (fun _ kk_ => XS.iand X92.here hx rfl (hb hby at_15) rfl kk_) ?_
    by_cases hc116 : (n4 &&& (2 : Int32)) = (0 : Int32)
    · refine OWW.st (B := T92.setTop (mkF m 23 #[.val (.int n1), .val (.int n2), .val (.int n3), .val (.int n4), .val (.int f0), .unset, .unset, .unset, .unset, .unset, .unset] [])) (fun _ kk_ => XS.ifYes X92.here hx rfl (pc0 := 16) (pc' := 23) rfl (hb hby at_16) rfl ((if0 _ _).trans (teq hc116).1) (by decide) (by decide) kk_) ?_
      refine OWW.st (B := T92.setTop (mkF m 24 #[.val (.int n1), .val (.int n2), .val (.int n3), .val (.int n4), .val (.int f0), .unset, .unset, .unset, .unset, .unset, .unset] [(.int (0 : Int32))])) (fun _ kk_ => XS.iconst X92.here hx rfl (hb hby at_23) kk_) ?_
      exact J93 _ _ X92 N92 e92 _ (by decide)
    · refine OWW.st (B := T92.setTop (mkF m 19 #[.val (.int n1), .val (.int n2), .val (.int n3), .val (.int n4), .val (.int f0), .unset, .unset, .unset, .unset, .unset, .unset] [])) (fun _ kk_ => XS.ifNo X92.here hx rfl (hb hby at_16) rfl ((if0 _ _).trans (feq hc116).1) kk_) ?_
      refine OWW.st (B := T92.setTop (mkF m 20 #[.val (.int n1), .val (.int n2), .val (.int n3), .val (.int n4), .val (.int f0), .unset, .unset, .unset, .unset, .unset, .unset] [(.int (1 : Int32))])) (fun _ kk_ => XS.iconst X92.here hx rfl (hb hby at_19) kk_) ?_
      refine OWW.st (B := T92.setTop (mkF m 24 #[.val (.int n1), .val (.int n2), .val (.int n3), .val (.int n4), .val (.int f0), .unset, .unset, .unset, .unset, .unset, .unset] [(.int (1 : Int32))])) (fun _ kk_ => XS.goto X92.here hx rfl (pc0 := 20) (pc' := 24) rfl (hb hby at_20) (by decide) (by decide) kk_) ?_
      exact J93 _ _ X92 N92 e92 _ (by decide)
  refine OWW.st (B := s₁.setTop (mkF m 1 #[.val (.int n1), .val (.int n2), .val (.int n3), .val (.int n4), .unset, .unset, .unset, .unset, .unset, .unset, .unset] [(.int n4)])) (fun _ kk_ => XS.iloadN X0.here hx rfl (hb hby at_0) rfl kk_) ?_
  refine OWW.st (B := s₁.setTop (mkF m 2 #[.val (.int n1), .val (.int n2), .val (.int n3), .val (.int n4), .unset, .unset, .unset, .unset, .unset, .unset, .unset] [(.int (1 : Int32)), (.int n4)])) (fun _ kk_ => XS.iconst X0.here hx rfl (hb hby at_1) kk_) ?_
  refine OWW.st (B := s₁.setTop (mkF m 3 #[.val (.int n1), .val (.int n2), .val (.int n3), .val (.int n4), .unset, .unset, .unset, .unset, .unset, .unset, .unset] [(.int (n4 &&& (1 : Int32)))])) (fun _ kk_ => XS.iand X0.here hx rfl (hb hby at_2) rfl kk_) ?_
  by_cases hc117 : (n4 &&& (1 : Int32)) = (0 : Int32)
  · refine OWW.st (B := s₁.setTop (mkF m 10 #[.val (.int n1), .val (.int n2), .val (.int n3), .val (.int n4), .unset, .unset, .unset, .unset, .unset, .unset, .unset] [])) (fun _ kk_ => XS.ifYes X0.here hx rfl (pc0 := 3) (pc' := 10) rfl (hb hby at_3) rfl ((if0 _ _).trans (teq hc117).1) (by decide) (by decide) kk_) ?_
    refine OWW.st (B := s₁.setTop (mkF m 11 #[.val (.int n1), .val (.int n2), .val (.int n3), .val (.int n4), .unset, .unset, .unset, .unset, .unset, .unset, .unset] [(.int (0 : Int32))])) (fun _ kk_ => XS.iconst X0.here hx rfl (hb hby at_10) kk_) ?_
    exact J92 _ _ X0 N0 e0 _ (by decide)
  · refine OWW.st (B := s₁.setTop (mkF m 6 #[.val (.int n1), .val (.int n2), .val (.int n3), .val (.int n4), .unset, .unset, .unset, .unset, .unset, .unset, .unset] [])) (fun _ kk_ => XS.ifNo X0.here hx rfl (hb hby at_3) rfl ((if0 _ _).trans (feq hc117).1) kk_) ?_
    refine OWW.st (B := s₁.setTop (mkF m 7 #[.val (.int n1), .val (.int n2), .val (.int n3), .val (.int n4), .unset, .unset, .unset, .unset, .unset, .unset, .unset] [(.int (1 : Int32))])) (fun _ kk_ => XS.iconst X0.here hx rfl (hb hby at_6) kk_) ?_
    refine OWW.st (B := s₁.setTop (mkF m 11 #[.val (.int n1), .val (.int n2), .val (.int n3), .val (.int n4), .unset, .unset, .unset, .unset, .unset, .unset, .unset] [(.int (1 : Int32))])) (fun _ kk_ => XS.goto X0.here hx rfl (pc0 := 7) (pc' := 11) rfl (hb hby at_7) (by decide) (by decide) kk_) ?_
    exact J92 _ _ X0 N0 e0 _ (by decide)
set_option maxRecDepth 65536 in
set_option maxHeartbeats 40000000 in
theorem comes_1 {Post : Tables → Env → Array Value → State → Outcome → State → Prop} (hpost : ∀ tb e args s v u, (limb_1_1.after args s (.returned v) u = true ∧ limb_1_2.after args s (.returned v) u = true ∧ True) → ReturnedEndW s (.returned v) u (Jvm.fieldLocs frame_1_writes args s ++ Jvm.arrayLocs frame_1_arrays args s ++ Jvm.staticLocs frame_1_statics s) 32 2176 → Post tb e args s (.returned v) u) :
    ArmFor flags0 classFile x code maxLocals ret World_1 tables_1 room_1 Calls_1 rest_1 Pre_1 Post := by
  intro l hfl _ _ p e ha hc hk s m args below hf hA hF happ hP
  obtain ⟨hcalls, hrest, hpre⟩ := hP
  obtain ⟨-, -, -, hnamed, -, -, -, hat⟩ := (Spec.applies_iff hf).mp happ
  obtain ⟨hg, hn⟩ := and_e (Cond.before_iff.mp (show (Jvm.Cond.and given_1 narrow_1).before args s = true from hpre))
  obtain ⟨k118, k119⟩ := and_e hg
  obtain ⟨k120, k121⟩ := and_e k119
  obtain ⟨k122, k123⟩ := and_e k121
  obtain ⟨k124, k125⟩ := and_e k123
  obtain ⟨w0, w1, w2, w3, rfl⟩ : ∃ w0 w1 w2 w3 : Value, args = #[w0, w1, w2, w3] := by
    have hs : args.size = 4 := by simpa [Cond.value, given_1] using k118
    obtain ⟨L⟩ := args
    match L, hs with
    | [w0, w1, w2, w3], _ => exact ⟨w0, w1, w2, w3, rfl⟩
  have hw := fun d (hd : d ∈ tables_1) => atoms_spec (ws := Jvm.Cond.code x code maxLocals ret :: tables_1) hat d (List.mem_cons_of_mem _ hd)
  have hfit : Fit s := fun {y c} hc i hi => by
    obtain ⟨ha, rfl⟩ := Array.getElem?_eq_some_iff.mp hc
    have q := List.all_eq_true.mp ((Array.all_eq_true_iff_forall_mem.mp hF) _ (Array.getElem_mem ha)) i (List.mem_range.mpr hi)
    simpa [Array.getElem?_eq_getElem hi] using q
  obtain ⟨i0, ei0⟩ := is_v k120
  obtain rfl : w0 = (.int i0) := Option.some.inj ei0
  obtain ⟨i1, ei1⟩ := is_v k122
  obtain rfl : w1 = (.int i1) := Option.some.inj ei1
  obtain ⟨i2, ei2⟩ := is_v k124
  obtain rfl : w2 = (.int i2) := Option.some.inj ei2
  obtain ⟨i3, ei3⟩ := is_v k125
  obtain rfl : w3 = (.int i3) := Option.some.inj ei3
  obtain ⟨hsets, hown0⟩ := atoms_of _ (rest_1_c_eq ▸ (show rest_1_c.before _ s = true from hrest))
  have hr0 := Cond.before_iff.mp hown0
  obtain ⟨k1, k2⟩ := and_e hn
  obtain ⟨k3, k4⟩ := and_e k2
  obtain ⟨k5, k6⟩ := and_e k4
  obtain ⟨k7, k8⟩ := and_e k6
  obtain ⟨k9, k10⟩ := and_e k8
  obtain ⟨k11, k12⟩ := and_e k10
  obtain ⟨k13, k14⟩ := and_e k12
  obtain ⟨k15, k16⟩ := and_e k14
  obtain ⟨k17, k18⟩ := and_e k16
  obtain ⟨k19, k20⟩ := and_e k18
  obtain ⟨k21, k22⟩ := and_e k20
  obtain ⟨a_REQUIRED, eva_REQUIRED⟩ := exa_v k1
  obtain ⟨a_REPEATABLE_READ, eva_REPEATABLE_READ⟩ := exa_v k3
  obtain ⟨a_DEFAULT, eva_DEFAULT⟩ := exa_v k5
  obtain ⟨a_NEVER, eva_NEVER⟩ := exa_v k7
  obtain ⟨a_MANDATORY, eva_MANDATORY⟩ := exa_v k9
  obtain ⟨a_SERIALIZABLE, eva_SERIALIZABLE⟩ := exa_v k11
  obtain ⟨a_SUPPORTS, eva_SUPPORTS⟩ := exa_v k13
  obtain ⟨a_REQUIRES_NEW, eva_REQUIRES_NEW⟩ := exa_v k15
  obtain ⟨a_READ_UNCOMMITTED, eva_READ_UNCOMMITTED⟩ := exa_v k17
  obtain ⟨a_READ_COMMITTED, eva_READ_COMMITTED⟩ := exa_v k19
  obtain ⟨a_NOT_SUPPORTED, eva_NOT_SUPPORTED⟩ := exa_v k21
  obtain ⟨a_NESTED, eva_NESTED⟩ := exa_v k22
  obtain ⟨a_EMPTY, eva_EMPTY⟩ := exa_v (Cond.before_iff.mp (hsets _ (List.mem_of_getElem? (i := 2) rfl)))
  have hS : OwnS s a_REQUIRED a_REPEATABLE_READ a_DEFAULT a_NEVER a_MANDATORY a_SERIALIZABLE a_SUPPORTS a_REQUIRES_NEW a_READ_UNCOMMITTED a_READ_COMMITTED a_NOT_SUPPORTED a_NESTED a_EMPTY := ⟨Sta.start eva_REQUIRED (Or.inr ⟨(w_6 hw), (w_7 hw)⟩), Exa.start eva_REQUIRED k1, Sta.start eva_REPEATABLE_READ (Or.inr ⟨(w_12 hw), (w_13 hw)⟩), Exa.start eva_REPEATABLE_READ k3, Sta.start eva_DEFAULT (Or.inr ⟨(w_12 hw), (w_22 hw)⟩), Exa.start eva_DEFAULT k5, Sta.start eva_NEVER (Or.inr ⟨(w_6 hw), (w_96 hw)⟩), Exa.start eva_NEVER k7, Sta.start eva_MANDATORY (Or.inr ⟨(w_6 hw), (w_98 hw)⟩), Exa.start eva_MANDATORY k9, Sta.start eva_SERIALIZABLE (Or.inr ⟨(w_12 hw), (w_100 hw)⟩), Exa.start eva_SERIALIZABLE k11, Sta.start eva_SUPPORTS (Or.inr ⟨(w_6 hw), (w_102 hw)⟩), Exa.start eva_SUPPORTS k13, Sta.start eva_REQUIRES_NEW (Or.inr ⟨(w_6 hw), (w_128 hw)⟩), Exa.start eva_REQUIRES_NEW k15, Sta.start eva_READ_UNCOMMITTED (Or.inr ⟨(w_12 hw), (w_130 hw)⟩), Exa.start eva_READ_UNCOMMITTED k17, Sta.start eva_READ_COMMITTED (Or.inr ⟨(w_12 hw), (w_132 hw)⟩), Exa.start eva_READ_COMMITTED k19, Sta.start eva_NOT_SUPPORTED (Or.inr ⟨(w_6 hw), (w_134 hw)⟩), Exa.start eva_NOT_SUPPORTED k21, Sta.start eva_NESTED (Or.inr ⟨(w_6 hw), (w_136 hw)⟩), Exa.start eva_NESTED k22, Sta.start eva_EMPTY (Or.inl (hsets _ (List.mem_of_getElem? (i := 1) rfl))), Exa.start eva_EMPTY (Cond.before_iff.mp (hsets _ (List.mem_of_getElem? (i := 2) rfl))), Fld.start ((fld_at eva_EMPTY).symm.trans (own_eq_int (Cond.before_iff.mp (hsets _ (List.mem_of_getElem? (i := 3) rfl))))), Fld.start ((fld_at eva_EMPTY).symm.trans (own_eq_int (Cond.before_iff.mp (hsets _ (List.mem_of_getElem? (i := 4) rfl)))))⟩
  obtain ⟨n, o, h1, h2, h3, _, L, rfl, ⟨rfl, N⟩, hq⟩ := rm0 l s _ hw tables_1 i0 i1 i2 i3 a_REQUIRED a_REPEATABLE_READ a_DEFAULT a_NEVER a_MANDATORY a_SERIALIZABLE a_SUPPORTS a_REQUIRES_NEW a_READ_UNCOMMITTED a_READ_COMMITTED a_NOT_SUPPORTED a_NESTED a_EMPTY s.heap s.heap.size (Old.start s) hS p e ha hc hk s m _ below hf ((Spec.applies_iff_loose hf).mp happ).1 ⟨rfl, State.Warmed39.refl s, rfl⟩ trivial
  refine ⟨n, _, h1, h2, h3, hpost _ _ _ _ _ _ ⟨Cond.after_iff.mpr rfl, Cond.after_iff.mpr (eq_i res_at (Term.int_eval (1)) rfl), trivial⟩ ⟨hq.1, hq.2.1, hq.2.2.1, (hq.2.2.2.sift fun y hy => Or.inr (N y hy)).mono (by decide) (by decide)⟩⟩
theorem main_1_1 : Claimed_1_1 := comes_1 fun _ _ _ _ _ _ h hF => ⟨h.1, hF⟩
theorem main_1_2 : Claimed_1_2 := comes_1 fun _ _ _ _ _ _ h hF => ⟨h.2.1, hF⟩
end Jvm.Pilot.@@N@@
namespace Jvm.Pilot.@@N@@
open Jvm Jvm.ClassFile Sem Op Lib Jvm.Free Jvm.Stand Jvm.Pilot.@@N@@.Jvm.D
/-! MADE BY PROGRAM (witnessworld.py) out of the Statement's table words and the real class files: 20 classes; the members and pool entries that the words name. The judged class is class 1, her method 3. -/
namespace start1
open Jvm.ClassFile
def u (s : String) : CpInfo := .utf8 (stringToUtf16 s)
/-- a pool by its gaps: so many unusable entries, then the entry; so many at the end -/
def gap : Nat → List CpInfo → List CpInfo
  | 0, r => r
  | n + 1, r => .unusable :: gap n r
def poolList (es : List (Nat × CpInfo)) (last : Nat) : List CpInfo := es.foldr (fun e r => gap e.1 (e.2 :: r)) (gap last [])
def pool (es : List (Nat × CpInfo)) (last : Nat) : Array CpInfo := ⟨poolList es last⟩
def fileOf (pool : Array CpInfo) (this : Nat) (attrs : Array Attribute := #[]) (ms : Array MethodInfo := #[]) (fl : Nat := 33) (sup : Nat := 0) (ifs : Array Nat := #[]) (fds : Array FieldInfo := #[]) : ClassFile where
  minorVersion := 0
  majorVersion := 65
  constantPool := pool
  accessFlags := fl
  thisClass := this
  superClass := sup
  interfaces := ifs
  fields := fds
  methods := ms
  attributes := attrs
def plain (name : String) (sup : Option ClassId) : Class where
  name := name
  kind := .ordinary
  loader := none
  accessFlags := 33
  super := sup
  interfaces := #[]
  cf := none
  fields := #[]
  methods := #[]
  instanceTypes := #[]
  staticTypes := #[]
  resolved := #[]
  callSites := []
  init := .initialized
  statics := none
  mirror := none

def pool0 : Array CpInfo := pool [(5, u "<init>"), (0, u "()V"), (1, .class_ 10), (1, u "java/lang/Object")] 113

def k0c0 : Code := { maxStack := 0, maxLocals := 1, code := object_method_1_code, exceptionTable := #[], attributes := #[] }
def k0m0 : Method := { name := "<init>", desc := "()V", sig := { parameters := [], returnType := none }, accessFlags := 1, code := some k0c0 }
/-- java/lang/Object -/
def k0 : Class := { plain "java/lang/Object" none with
  accessFlags := 33
  interfaces := #[]
  cf := some (fileOf pool0 8 #[] #[{ accessFlags := 1, nameIndex := 5, descriptorIndex := 6, attributes := #[] }] 33 0 #[] #[])
  fields := #[]
  methods := #[k0m0]
  instanceTypes := #[]
  staticTypes := #[]
  resolved := Array.replicate 124 none
  statics := none }

def pool1 : Array CpInfo := pool [(2, .class_ 4), (0, .nameAndType 5 6), (0, u "java/lang/Object"), (0, u "<init>"), (0, u "()V"), (0, .fieldref 8 9), (0, .class_ 10), (0, .nameAndType 11 12), (0, u "com/example/demarcate/demarcate/Propagation"), (0, u "REQUIRED"), (0, u "Lcom/example/demarcate/demarcate/Propagation;"), (0, .fieldref 8 14), (0, .nameAndType 15 12), (0, u "SUPPORTS"), (0, .fieldref 8 17), (0, .nameAndType 18 12), (0, u "MANDATORY"), (0, .fieldref 8 20), (0, .nameAndType 21 12), (0, u "REQUIRES_NEW"), (0, .fieldref 8 23), (0, .nameAndType 24 12), (0, u "NOT_SUPPORTED"), (0, .fieldref 8 26), (0, .nameAndType 27 12), (0, u "NEVER"), (0, .fieldref 8 29), (0, .nameAndType 30 12), (0, u "NESTED"), (0, .fieldref 32 33), (0, .class_ 34), (0, .nameAndType 35 36), (0, u "com/example/demarcate/demarcate/Isolation"), (0, u "DEFAULT"), (0, u "Lcom/example/demarcate/demarcate/Isolation;"), (0, .fieldref 32 38), (0, .nameAndType 39 36), (0, u "READ_UNCOMMITTED"), (0, .fieldref 32 41), (0, .nameAndType 42 36), (0, u "READ_COMMITTED"), (0, .fieldref 32 44), (0, .nameAndType 45 36), (0, u "REPEATABLE_READ"), (0, .fieldref 32 47), (0, .nameAndType 48 36), (0, u "SERIALIZABLE"), (0, .integer 2147483647), (0, .methodref 51 52), (0, .class_ 53), (0, .nameAndType 54 55), (0, u "com/example/demarcate/demarcate/TransactionDefinitionWithReadOnlyPinLaw"), (0, u "prop"), (0, u "(I)Lcom/example/demarcate/demarcate/Propagation;"), (0, .methodref 51 57), (0, .nameAndType 58 59), (0, u "iso"), (0, u "(I)Lcom/example/demarcate/demarcate/Isolation;"), (0, .class_ 61), (0, u "com/example/demarcate/demarcate/TransactionDefinition"), (0, .methodref 60 3), (0, .methodref 60 64), (0, .nameAndType 65 66), (0, u "withPropagation"), (0, u "(Lcom/example/demarcate/demarcate/Propagation;)Lcom/example/demarcate/demarcate/TransactionDefinition;"), (0, .methodref 60 68), (0, .nameAndType 69 70), (0, u "withIsolation"), (0, u "(Lcom/example/demarcate/demarcate/Isolation;)Lcom/example/demarcate/demarcate/TransactionDefinition;"), (0, .methodref 60 72), (0, .nameAndType 73 74), (0, u "withReadOnly"), (0, u "(Z)Lcom/example/demarcate/demarcate/TransactionDefinition;"), (0, .methodref 76 77), (0, .class_ 78), (0, .nameAndType 79 80), (0, u "java/lang/Math"), (0, u "max"), (0, u "(II)I"), (0, .methodref 60 82), (0, .nameAndType 83 84), (0, u "withTimeout"), (0, u "(I)Lcom/example/demarcate/demarcate/TransactionDefinition;"), (0, .methodref 60 86), (0, .nameAndType 87 88), (0, u "isReadOnly"), (0, u "()Z"), (0, .methodref 60 90), (0, .nameAndType 91 92), (0, u "propagation"), (0, u "()Lcom/example/demarcate/demarcate/Propagation;"), (0, .methodref 60 94), (0, .nameAndType 95 96), (0, u "isolation"), (0, u "()Lcom/example/demarcate/demarcate/Isolation;"), (0, .methodref 60 98), (0, .nameAndType 99 100), (0, u "timeout"), (0, u "()Ljava/util/OptionalInt;"), (3, u "law"), (0, u "(IIII)Z")] 2

def k1m0 : Method := { name := "<init>", desc := "()V", sig := { parameters := [], returnType := none }, accessFlags := 1, code := none }
def k1c1 : Code := { maxStack := 2, maxLocals := 1, code := method_2_code, exceptionTable := #[], attributes := #[] }
def k1m1 : Method := { name := "prop", desc := "(I)Lcom/example/demarcate/demarcate/Propagation;", sig := { parameters := [.int], returnType := some (.object "com/example/demarcate/demarcate/Propagation") }, accessFlags := 10, code := some k1c1 }
def k1c2 : Code := { maxStack := 2, maxLocals := 1, code := method_3_code, exceptionTable := #[], attributes := #[] }
def k1m2 : Method := { name := "iso", desc := "(I)Lcom/example/demarcate/demarcate/Isolation;", sig := { parameters := [.int], returnType := some (.object "com/example/demarcate/demarcate/Isolation") }, accessFlags := 10, code := some k1c2 }
def k1c3 : Code := { maxStack := 4, maxLocals := 11, code := code, exceptionTable := #[], attributes := #[] }
def k1m3 : Method := { name := "law", desc := "(IIII)Z", sig := { parameters := [.int, .int, .int, .int], returnType := some .boolean }, accessFlags := 9, code := some k1c3 }
/-- com/example/demarcate/demarcate/TransactionDefinitionWithReadOnlyPinLaw -/
def k1 : Class := { plain "com/example/demarcate/demarcate/TransactionDefinitionWithReadOnlyPinLaw" (some 0) with
  accessFlags := 49
  interfaces := #[]
  cf := some (fileOf pool1 51 #[] #[{ accessFlags := 1, nameIndex := 5, descriptorIndex := 6, attributes := #[] }, { accessFlags := 10, nameIndex := 54, descriptorIndex := 55, attributes := #[] }, { accessFlags := 10, nameIndex := 58, descriptorIndex := 59, attributes := #[] }, { accessFlags := 9, nameIndex := 104, descriptorIndex := 105, attributes := #[] }] 49 2 #[] #[])
  fields := #[]
  methods := #[k1m0, k1m1, k1m2, k1m3]
  instanceTypes := #[]
  staticTypes := #[]
  resolved := Array.replicate 108 none
  statics := none }

def pool2 : Array CpInfo := pool [(1, .class_ 2), (0, u "java/lang/constant/Constable"), (0, .class_ 4), (0, u "java/lang/Object")] 6

/-- java/lang/constant/Constable -/
def k2 : Class := { plain "java/lang/constant/Constable" (some 0) with
  accessFlags := 1537
  interfaces := #[]
  cf := some (fileOf pool2 1 #[] #[] 1537 3 #[] #[])
  fields := #[]
  methods := #[]
  instanceTypes := #[]
  staticTypes := #[]
  resolved := Array.replicate 11 none
  statics := none }

def pool3 : Array CpInfo := pool [(1, .class_ 2), (0, u "java/lang/Comparable"), (0, .class_ 4), (0, u "java/lang/Object")] 7

/-- java/lang/Comparable -/
def k3 : Class := { plain "java/lang/Comparable" (some 0) with
  accessFlags := 1537
  interfaces := #[]
  cf := some (fileOf pool3 1 #[] #[] 1537 3 #[] #[])
  fields := #[]
  methods := #[]
  instanceTypes := #[]
  staticTypes := #[]
  resolved := Array.replicate 12 none
  statics := none }

def pool4 : Array CpInfo := pool [(1, .class_ 2), (0, u "java/io/Serializable"), (0, .class_ 4), (0, u "java/lang/Object")] 2

/-- java/io/Serializable -/
def k4 : Class := { plain "java/io/Serializable" (some 0) with
  accessFlags := 1537
  interfaces := #[]
  cf := some (fileOf pool4 1 #[] #[] 1537 3 #[] #[])
  fields := #[]
  methods := #[]
  instanceTypes := #[]
  staticTypes := #[]
  resolved := Array.replicate 7 none
  statics := none }

def pool5 : Array CpInfo := pool [(2, .class_ 4), (1, u "java/lang/Enum"), (0, u "name"), (0, u "Ljava/lang/String;"), (2, u "ordinal"), (0, u "I"), (1, .class_ 14), (1, u "java/lang/Object"), (4, u "hash"), (86, .class_ 108), (1, u "java/lang/Enum$EnumDesc"), (2, .class_ 112), (0, u "java/lang/constant/Constable"), (0, .class_ 114), (0, u "java/lang/Comparable"), (0, .class_ 116), (0, u "java/io/Serializable")] 87

/-- java/lang/Enum -/
def k5 : Class := { plain "java/lang/Enum" (some 0) with
  accessFlags := 1057
  interfaces := #[2, 3, 4]
  cf := some (fileOf pool5 2 #[.nestMembers #[106]] #[] 1057 12 #[111, 113, 115] #[{ accessFlags := 18, nameIndex := 5, descriptorIndex := 6, attributes := #[] }, { accessFlags := 18, nameIndex := 9, descriptorIndex := 10, attributes := #[] }, { accessFlags := 2, nameIndex := 19, descriptorIndex := 10, attributes := #[] }])
  fields := #[{ name := "name", type := (.object "java/lang/String"), accessFlags := 18, slot := 0, constantValue := 0 }, { name := "ordinal", type := .int, accessFlags := 18, slot := 1, constantValue := 0 }, { name := "hash", type := .int, accessFlags := 2, slot := 2, constantValue := 0 }]
  methods := #[]
  instanceTypes := #[(.object "java/lang/String"), .int, .int]
  staticTypes := #[]
  resolved := Array.replicate 204 none
  statics := none }

def pool6 : Array CpInfo := pool [(1, .class_ 2), (0, u "com/example/demarcate/demarcate/Propagation"), (2, u "REQUIRED"), (0, u "Lcom/example/demarcate/demarcate/Propagation;"), (2, u "SUPPORTS"), (2, u "MANDATORY"), (2, u "REQUIRES_NEW"), (2, u "NOT_SUPPORTED"), (2, u "NEVER"), (2, u "NESTED"), (2, u "$VALUES"), (0, u "[Lcom/example/demarcate/demarcate/Propagation;"), (6, .class_ 37), (1, u "java/lang/Enum")] 29

/-- com/example/demarcate/demarcate/Propagation -/
def k6 : Class := { plain "com/example/demarcate/demarcate/Propagation" (some 5) with
  accessFlags := 16433
  interfaces := #[]
  cf := some (fileOf pool6 1 #[] #[] 16433 35 #[] #[{ accessFlags := 16409, nameIndex := 5, descriptorIndex := 6, attributes := #[] }, { accessFlags := 16409, nameIndex := 9, descriptorIndex := 6, attributes := #[] }, { accessFlags := 16409, nameIndex := 12, descriptorIndex := 6, attributes := #[] }, { accessFlags := 16409, nameIndex := 15, descriptorIndex := 6, attributes := #[] }, { accessFlags := 16409, nameIndex := 18, descriptorIndex := 6, attributes := #[] }, { accessFlags := 16409, nameIndex := 21, descriptorIndex := 6, attributes := #[] }, { accessFlags := 16409, nameIndex := 24, descriptorIndex := 6, attributes := #[] }, { accessFlags := 4122, nameIndex := 27, descriptorIndex := 28, attributes := #[] }])
  fields := #[{ name := "REQUIRED", type := (.object "com/example/demarcate/demarcate/Propagation"), accessFlags := 16409, slot := 0, constantValue := 0 }, { name := "SUPPORTS", type := (.object "com/example/demarcate/demarcate/Propagation"), accessFlags := 16409, slot := 1, constantValue := 0 }, { name := "MANDATORY", type := (.object "com/example/demarcate/demarcate/Propagation"), accessFlags := 16409, slot := 2, constantValue := 0 }, { name := "REQUIRES_NEW", type := (.object "com/example/demarcate/demarcate/Propagation"), accessFlags := 16409, slot := 3, constantValue := 0 }, { name := "NOT_SUPPORTED", type := (.object "com/example/demarcate/demarcate/Propagation"), accessFlags := 16409, slot := 4, constantValue := 0 }, { name := "NEVER", type := (.object "com/example/demarcate/demarcate/Propagation"), accessFlags := 16409, slot := 5, constantValue := 0 }, { name := "NESTED", type := (.object "com/example/demarcate/demarcate/Propagation"), accessFlags := 16409, slot := 6, constantValue := 0 }, { name := "$VALUES", type := (.array (.object "com/example/demarcate/demarcate/Propagation")), accessFlags := 4122, slot := 7, constantValue := 0 }]
  methods := #[]
  instanceTypes := #[(.object "java/lang/String"), .int, .int]
  staticTypes := #[(.object "com/example/demarcate/demarcate/Propagation"), (.object "com/example/demarcate/demarcate/Propagation"), (.object "com/example/demarcate/demarcate/Propagation"), (.object "com/example/demarcate/demarcate/Propagation"), (.object "com/example/demarcate/demarcate/Propagation"), (.object "com/example/demarcate/demarcate/Propagation"), (.object "com/example/demarcate/demarcate/Propagation"), (.array (.object "com/example/demarcate/demarcate/Propagation"))]
  resolved := Array.replicate 67 none
  statics := some 0 }

def pool7 : Array CpInfo := pool [(1, .class_ 2), (0, u "com/example/demarcate/demarcate/Isolation"), (2, u "DEFAULT"), (0, u "Lcom/example/demarcate/demarcate/Isolation;"), (2, u "READ_UNCOMMITTED"), (2, u "READ_COMMITTED"), (2, u "REPEATABLE_READ"), (2, u "SERIALIZABLE"), (2, u "$VALUES"), (0, u "[Lcom/example/demarcate/demarcate/Isolation;"), (6, .class_ 31), (1, u "java/lang/Enum"), (8, u "jdbcLevel"), (0, u "Ljava/util/OptionalInt;")] 36

/-- com/example/demarcate/demarcate/Isolation -/
def k7 : Class := { plain "com/example/demarcate/demarcate/Isolation" (some 5) with
  accessFlags := 16433
  interfaces := #[]
  cf := some (fileOf pool7 1 #[] #[] 16433 29 #[] #[{ accessFlags := 16409, nameIndex := 5, descriptorIndex := 6, attributes := #[] }, { accessFlags := 16409, nameIndex := 9, descriptorIndex := 6, attributes := #[] }, { accessFlags := 16409, nameIndex := 12, descriptorIndex := 6, attributes := #[] }, { accessFlags := 16409, nameIndex := 15, descriptorIndex := 6, attributes := #[] }, { accessFlags := 16409, nameIndex := 18, descriptorIndex := 6, attributes := #[] }, { accessFlags := 18, nameIndex := 40, descriptorIndex := 41, attributes := #[] }, { accessFlags := 4122, nameIndex := 21, descriptorIndex := 22, attributes := #[] }])
  fields := #[{ name := "DEFAULT", type := (.object "com/example/demarcate/demarcate/Isolation"), accessFlags := 16409, slot := 0, constantValue := 0 }, { name := "READ_UNCOMMITTED", type := (.object "com/example/demarcate/demarcate/Isolation"), accessFlags := 16409, slot := 1, constantValue := 0 }, { name := "READ_COMMITTED", type := (.object "com/example/demarcate/demarcate/Isolation"), accessFlags := 16409, slot := 2, constantValue := 0 }, { name := "REPEATABLE_READ", type := (.object "com/example/demarcate/demarcate/Isolation"), accessFlags := 16409, slot := 3, constantValue := 0 }, { name := "SERIALIZABLE", type := (.object "com/example/demarcate/demarcate/Isolation"), accessFlags := 16409, slot := 4, constantValue := 0 }, { name := "jdbcLevel", type := (.object "java/util/OptionalInt"), accessFlags := 18, slot := 3, constantValue := 0 }, { name := "$VALUES", type := (.array (.object "com/example/demarcate/demarcate/Isolation")), accessFlags := 4122, slot := 5, constantValue := 0 }]
  methods := #[]
  instanceTypes := #[(.object "java/lang/String"), .int, .int, (.object "java/util/OptionalInt")]
  staticTypes := #[(.object "com/example/demarcate/demarcate/Isolation"), (.object "com/example/demarcate/demarcate/Isolation"), (.object "com/example/demarcate/demarcate/Isolation"), (.object "com/example/demarcate/demarcate/Isolation"), (.object "com/example/demarcate/demarcate/Isolation"), (.array (.object "com/example/demarcate/demarcate/Isolation"))]
  resolved := Array.replicate 78 none
  statics := some 1 }

def pool8 : Array CpInfo := pool [(1, .fieldref 2 3), (0, .class_ 4), (0, .nameAndType 5 6), (0, u "com/example/demarcate/demarcate/Propagation"), (0, u "REQUIRED"), (0, u "Lcom/example/demarcate/demarcate/Propagation;"), (0, .fieldref 8 9), (0, .class_ 10), (0, .nameAndType 11 12), (0, u "com/example/demarcate/demarcate/Isolation"), (0, u "DEFAULT"), (0, u "Lcom/example/demarcate/demarcate/Isolation;"), (0, .methodref 14 15), (0, .class_ 16), (0, .nameAndType 17 18), (0, u "java/util/OptionalInt"), (0, u "empty"), (0, u "()Ljava/util/OptionalInt;"), (0, .methodref 20 21), (0, .class_ 22), (0, .nameAndType 23 24), (0, u "com/example/demarcate/demarcate/TransactionDefinition"), (0, u "<init>"), (0, u "(Lcom/example/demarcate/demarcate/Propagation;Lcom/example/demarcate/demarcate/Isolation;ZLjava/util/OptionalInt;)V"), (0, .methodref 26 27), (0, .class_ 28), (0, .nameAndType 23 29), (0, u "java/lang/Object"), (0, u "()V"), (0, .fieldref 20 31), (0, .nameAndType 32 6), (0, u "propagation"), (0, .fieldref 20 34), (0, .nameAndType 35 12), (0, u "isolation"), (0, .fieldref 20 37), (0, .nameAndType 38 39), (0, u "readOnly"), (0, u "Z"), (0, .fieldref 20 41), (0, .nameAndType 42 43), (0, u "timeout"), (0, u "Ljava/util/OptionalInt;"), (0, .string 32), (0, .methodref 46 47), (0, .class_ 48), (0, .nameAndType 49 50), (0, u "java/util/Objects"), (0, u "requireNonNull"), (0, u "(Ljava/lang/Object;Ljava/lang/String;)Ljava/lang/Object;"), (0, .string 35), (9, .methodref 14 62), (0, .nameAndType 63 64), (0, u "of"), (0, u "(I)Ljava/util/OptionalInt;"), (2, u "withPropagation"), (0, u "(Lcom/example/demarcate/demarcate/Propagation;)Lcom/example/demarcate/demarcate/TransactionDefinition;"), (0, u "withIsolation"), (0, u "(Lcom/example/demarcate/demarcate/Isolation;)Lcom/example/demarcate/demarcate/TransactionDefinition;"), (0, u "withReadOnly"), (0, u "(Z)Lcom/example/demarcate/demarcate/TransactionDefinition;"), (0, u "withTimeout"), (0, u "(I)Lcom/example/demarcate/demarcate/TransactionDefinition;"), (1, u "()Lcom/example/demarcate/demarcate/Propagation;"), (0, u "()Lcom/example/demarcate/demarcate/Isolation;"), (0, u "isReadOnly"), (0, u "()Z")] 17

def k8c0 : Code := { maxStack := 5, maxLocals := 1, code := prog_19_method_1_code, exceptionTable := #[], attributes := #[] }
def k8m0 : Method := { name := "<init>", desc := "()V", sig := { parameters := [], returnType := none }, accessFlags := 1, code := some k8c0 }
def k8c1 : Code := { maxStack := 2, maxLocals := 5, code := prog_19_method_2_code, exceptionTable := #[], attributes := #[] }
def k8m1 : Method := { name := "<init>", desc := "(Lcom/example/demarcate/demarcate/Propagation;Lcom/example/demarcate/demarcate/Isolation;ZLjava/util/OptionalInt;)V", sig := { parameters := [(.object "com/example/demarcate/demarcate/Propagation"), (.object "com/example/demarcate/demarcate/Isolation"), .boolean, (.object "java/util/OptionalInt")], returnType := none }, accessFlags := 2, code := some k8c1 }
def k8c2 : Code := { maxStack := 6, maxLocals := 2, code := prog_19_method_3_code, exceptionTable := #[], attributes := #[] }
def k8m2 : Method := { name := "withPropagation", desc := "(Lcom/example/demarcate/demarcate/Propagation;)Lcom/example/demarcate/demarcate/TransactionDefinition;", sig := { parameters := [(.object "com/example/demarcate/demarcate/Propagation")], returnType := some (.object "com/example/demarcate/demarcate/TransactionDefinition") }, accessFlags := 1, code := some k8c2 }
def k8c3 : Code := { maxStack := 6, maxLocals := 2, code := prog_19_method_4_code, exceptionTable := #[], attributes := #[] }
def k8m3 : Method := { name := "withIsolation", desc := "(Lcom/example/demarcate/demarcate/Isolation;)Lcom/example/demarcate/demarcate/TransactionDefinition;", sig := { parameters := [(.object "com/example/demarcate/demarcate/Isolation")], returnType := some (.object "com/example/demarcate/demarcate/TransactionDefinition") }, accessFlags := 1, code := some k8c3 }
def k8c4 : Code := { maxStack := 6, maxLocals := 2, code := prog_19_method_5_code, exceptionTable := #[], attributes := #[] }
def k8m4 : Method := { name := "withReadOnly", desc := "(Z)Lcom/example/demarcate/demarcate/TransactionDefinition;", sig := { parameters := [.boolean], returnType := some (.object "com/example/demarcate/demarcate/TransactionDefinition") }, accessFlags := 1, code := some k8c4 }
def k8c5 : Code := { maxStack := 6, maxLocals := 2, code := prog_19_method_6_code, exceptionTable := #[], attributes := #[] }
def k8m5 : Method := { name := "withTimeout", desc := "(I)Lcom/example/demarcate/demarcate/TransactionDefinition;", sig := { parameters := [.int], returnType := some (.object "com/example/demarcate/demarcate/TransactionDefinition") }, accessFlags := 1, code := some k8c5 }
def k8c6 : Code := { maxStack := 1, maxLocals := 1, code := prog_19_method_7_code, exceptionTable := #[], attributes := #[] }
def k8m6 : Method := { name := "propagation", desc := "()Lcom/example/demarcate/demarcate/Propagation;", sig := { parameters := [], returnType := some (.object "com/example/demarcate/demarcate/Propagation") }, accessFlags := 1, code := some k8c6 }
def k8c7 : Code := { maxStack := 1, maxLocals := 1, code := prog_19_method_8_code, exceptionTable := #[], attributes := #[] }
def k8m7 : Method := { name := "isolation", desc := "()Lcom/example/demarcate/demarcate/Isolation;", sig := { parameters := [], returnType := some (.object "com/example/demarcate/demarcate/Isolation") }, accessFlags := 1, code := some k8c7 }
def k8c8 : Code := { maxStack := 1, maxLocals := 1, code := prog_19_method_9_code, exceptionTable := #[], attributes := #[] }
def k8m8 : Method := { name := "isReadOnly", desc := "()Z", sig := { parameters := [], returnType := some .boolean }, accessFlags := 1, code := some k8c8 }
def k8c9 : Code := { maxStack := 1, maxLocals := 1, code := prog_19_method_10_code, exceptionTable := #[], attributes := #[] }
def k8m9 : Method := { name := "timeout", desc := "()Ljava/util/OptionalInt;", sig := { parameters := [], returnType := some (.object "java/util/OptionalInt") }, accessFlags := 1, code := some k8c9 }
/-- com/example/demarcate/demarcate/TransactionDefinition -/
def k8 : Class := { plain "com/example/demarcate/demarcate/TransactionDefinition" (some 0) with
  accessFlags := 33
  interfaces := #[]
  cf := some (fileOf pool8 20 #[] #[{ accessFlags := 1, nameIndex := 23, descriptorIndex := 29, attributes := #[] }, { accessFlags := 2, nameIndex := 23, descriptorIndex := 24, attributes := #[] }, { accessFlags := 1, nameIndex := 67, descriptorIndex := 68, attributes := #[] }, { accessFlags := 1, nameIndex := 69, descriptorIndex := 70, attributes := #[] }, { accessFlags := 1, nameIndex := 71, descriptorIndex := 72, attributes := #[] }, { accessFlags := 1, nameIndex := 73, descriptorIndex := 74, attributes := #[] }, { accessFlags := 1, nameIndex := 32, descriptorIndex := 76, attributes := #[] }, { accessFlags := 1, nameIndex := 35, descriptorIndex := 77, attributes := #[] }, { accessFlags := 1, nameIndex := 78, descriptorIndex := 79, attributes := #[] }, { accessFlags := 1, nameIndex := 42, descriptorIndex := 18, attributes := #[] }] 33 26 #[] #[{ accessFlags := 18, nameIndex := 32, descriptorIndex := 6, attributes := #[] }, { accessFlags := 18, nameIndex := 35, descriptorIndex := 12, attributes := #[] }, { accessFlags := 18, nameIndex := 38, descriptorIndex := 39, attributes := #[] }, { accessFlags := 18, nameIndex := 42, descriptorIndex := 43, attributes := #[] }])
  fields := #[{ name := "propagation", type := (.object "com/example/demarcate/demarcate/Propagation"), accessFlags := 18, slot := 0, constantValue := 0 }, { name := "isolation", type := (.object "com/example/demarcate/demarcate/Isolation"), accessFlags := 18, slot := 1, constantValue := 0 }, { name := "readOnly", type := .boolean, accessFlags := 18, slot := 2, constantValue := 0 }, { name := "timeout", type := (.object "java/util/OptionalInt"), accessFlags := 18, slot := 3, constantValue := 0 }]
  methods := #[k8m0, k8m1, k8m2, k8m3, k8m4, k8m5, k8m6, k8m7, k8m8, k8m9]
  instanceTypes := #[(.object "com/example/demarcate/demarcate/Propagation"), (.object "com/example/demarcate/demarcate/Isolation"), .boolean, (.object "java/util/OptionalInt")]
  staticTypes := #[]
  resolved := Array.replicate 97 none
  statics := none }

def pool9 : Array CpInfo := pool [(1, .methodref 2 3), (0, .class_ 4), (0, .nameAndType 5 6), (0, u "java/lang/Object"), (0, u "<init>"), (0, u "()V"), (0, .fieldref 8 9), (0, .class_ 10), (0, .nameAndType 11 12), (0, u "java/util/OptionalInt"), (0, u "isPresent"), (0, u "Z"), (0, .fieldref 8 14), (0, .nameAndType 15 16), (0, u "value"), (0, u "I"), (0, .fieldref 8 18), (0, .nameAndType 19 20), (0, u "EMPTY"), (0, u "Ljava/util/OptionalInt;"), (0, .methodref 8 22), (0, .nameAndType 5 23), (0, u "(I)V"), (21, u "of"), (3, u "empty"), (46, u "()Ljava/util/OptionalInt;"), (0, u "(I)Ljava/util/OptionalInt;")] 38

def k9m0 : Method := { name := "<init>", desc := "()V", sig := { parameters := [], returnType := none }, accessFlags := 2, code := none }
def k9c1 : Code := { maxStack := 1, maxLocals := 0, code := jdk_2649_method_2_code, exceptionTable := #[], attributes := #[] }
def k9m1 : Method := { name := "empty", desc := "()Ljava/util/OptionalInt;", sig := { parameters := [], returnType := some (.object "java/util/OptionalInt") }, accessFlags := 9, code := some k9c1 }
def k9c2 : Code := { maxStack := 2, maxLocals := 2, code := jdk_2649_method_3_code, exceptionTable := #[], attributes := #[] }
def k9m2 : Method := { name := "<init>", desc := "(I)V", sig := { parameters := [.int], returnType := none }, accessFlags := 2, code := some k9c2 }
def k9c3 : Code := { maxStack := 3, maxLocals := 1, code := jdk_2649_method_4_code, exceptionTable := #[], attributes := #[] }
def k9m3 : Method := { name := "of", desc := "(I)Ljava/util/OptionalInt;", sig := { parameters := [.int], returnType := some (.object "java/util/OptionalInt") }, accessFlags := 9, code := some k9c3 }
/-- java/util/OptionalInt -/
def k9 : Class := { plain "java/util/OptionalInt" (some 0) with
  accessFlags := 49
  interfaces := #[]
  cf := some (fileOf pool9 8 #[] #[{ accessFlags := 2, nameIndex := 5, descriptorIndex := 6, attributes := #[] }, { accessFlags := 9, nameIndex := 49, descriptorIndex := 96, attributes := #[] }, { accessFlags := 2, nameIndex := 5, descriptorIndex := 23, attributes := #[] }, { accessFlags := 9, nameIndex := 45, descriptorIndex := 97, attributes := #[] }] 49 2 #[] #[{ accessFlags := 26, nameIndex := 19, descriptorIndex := 20, attributes := #[] }, { accessFlags := 18, nameIndex := 11, descriptorIndex := 12, attributes := #[] }, { accessFlags := 18, nameIndex := 15, descriptorIndex := 16, attributes := #[] }])
  fields := #[{ name := "EMPTY", type := (.object "java/util/OptionalInt"), accessFlags := 26, slot := 0, constantValue := 0 }, { name := "isPresent", type := .boolean, accessFlags := 18, slot := 0, constantValue := 0 }, { name := "value", type := .int, accessFlags := 18, slot := 1, constantValue := 0 }]
  methods := #[k9m0, k9m1, k9m2, k9m3]
  instanceTypes := #[.boolean, .int]
  staticTypes := #[(.object "java/util/OptionalInt")]
  resolved := Array.replicate 136 none
  statics := some 2 }

def pool10 : Array CpInfo := pool [(2, .class_ 4), (1, u "java/lang/CharSequence"), (42, .class_ 48), (0, u "java/lang/CharSequence$1CodePointIterator"), (10, .class_ 60), (0, u "java/lang/CharSequence$1CharIterator"), (5, .class_ 67), (0, u "java/lang/Object")] 63

/-- java/lang/CharSequence -/
def k10 : Class := { plain "java/lang/CharSequence" (some 0) with
  accessFlags := 1537
  interfaces := #[]
  cf := some (fileOf pool10 2 #[.nestMembers #[47, 59]] #[] 1537 66 #[] #[])
  fields := #[]
  methods := #[]
  instanceTypes := #[]
  staticTypes := #[]
  resolved := Array.replicate 131 none
  statics := none }

def pool11 : Array CpInfo := pool [(1, .class_ 2), (0, u "java/lang/constant/ConstantDesc"), (0, .class_ 4), (0, u "java/lang/Object")] 32

/-- java/lang/constant/ConstantDesc -/
def k11 : Class := { plain "java/lang/constant/ConstantDesc" (some 0) with
  accessFlags := 1537
  interfaces := #[]
  cf := some (fileOf pool11 1 #[] #[] 1537 3 #[] #[])
  fields := #[]
  methods := #[]
  instanceTypes := #[]
  staticTypes := #[]
  resolved := Array.replicate 37 none
  statics := none }

def pool12 : Array CpInfo := pool [(2, .class_ 4), (1, u "java/lang/Object"), (0, u "<init>"), (0, u "()V"), (3, .class_ 12), (1, u "java/lang/String"), (0, u "value"), (0, u "[B"), (2, u "coder"), (0, u "B"), (2, u "hash"), (0, u "I"), (2, u "hashIsZero"), (0, u "Z"), (13, u "COMPACT_STRINGS"), (534, .class_ 576), (0, u "java/lang/CharSequence"), (22, u "CASE_INSENSITIVE_ORDER"), (0, u "Ljava/util/Comparator;"), (500, u "serialPersistentFields"), (0, u "[Ljava/io/ObjectStreamField;"), (0, .class_ 1104), (0, u "java/lang/String$CaseInsensitiveComparator"), (1, .class_ 1107), (0, u "java/io/Serializable"), (0, .class_ 1109), (0, u "java/lang/Comparable"), (0, .class_ 1111), (0, u "java/lang/constant/Constable"), (0, .class_ 1113), (0, u "java/lang/constant/ConstantDesc"), (2, u "serialVersionUID"), (0, u "J"), (3, u "REPL"), (0, u "C"), (2, u "LATIN1"), (1, u "UTF16")] 323

def k12m0 : Method := { name := "<init>", desc := "()V", sig := { parameters := [], returnType := none }, accessFlags := 1, code := none }
/-- java/lang/String -/
def k12 : Class := { plain "java/lang/String" (some 0) with
  accessFlags := 49
  interfaces := #[4, 3, 10, 2, 11]
  cf := some (fileOf pool12 10 #[.nestMembers #[1103]] #[{ accessFlags := 1, nameIndex := 5, descriptorIndex := 6, attributes := #[] }] 49 2 #[1106, 1108, 575, 1110, 1112] #[{ accessFlags := 18, nameIndex := 13, descriptorIndex := 14, attributes := #[] }, { accessFlags := 18, nameIndex := 17, descriptorIndex := 18, attributes := #[] }, { accessFlags := 2, nameIndex := 21, descriptorIndex := 22, attributes := #[] }, { accessFlags := 2, nameIndex := 25, descriptorIndex := 26, attributes := #[] }, { accessFlags := 26, nameIndex := 1116, descriptorIndex := 1117, attributes := #[] }, { accessFlags := 24, nameIndex := 40, descriptorIndex := 26, attributes := #[] }, { accessFlags := 26, nameIndex := 1101, descriptorIndex := 1102, attributes := #[] }, { accessFlags := 26, nameIndex := 1121, descriptorIndex := 1122, attributes := #[] }, { accessFlags := 25, nameIndex := 599, descriptorIndex := 600, attributes := #[] }, { accessFlags := 24, nameIndex := 1125, descriptorIndex := 18, attributes := #[] }, { accessFlags := 24, nameIndex := 1127, descriptorIndex := 18, attributes := #[] }])
  fields := #[{ name := "value", type := (.array .byte), accessFlags := 18, slot := 0, constantValue := 0 }, { name := "coder", type := .byte, accessFlags := 18, slot := 1, constantValue := 0 }, { name := "hash", type := .int, accessFlags := 2, slot := 2, constantValue := 0 }, { name := "hashIsZero", type := .boolean, accessFlags := 2, slot := 3, constantValue := 0 }, { name := "serialVersionUID", type := .long, accessFlags := 26, slot := 0, constantValue := 0 }, { name := "COMPACT_STRINGS", type := .boolean, accessFlags := 24, slot := 1, constantValue := 0 }, { name := "serialPersistentFields", type := (.array (.object "java/io/ObjectStreamField")), accessFlags := 26, slot := 2, constantValue := 0 }, { name := "REPL", type := .char, accessFlags := 26, slot := 3, constantValue := 0 }, { name := "CASE_INSENSITIVE_ORDER", type := (.object "java/util/Comparator"), accessFlags := 25, slot := 4, constantValue := 0 }, { name := "LATIN1", type := .byte, accessFlags := 24, slot := 5, constantValue := 0 }, { name := "UTF16", type := .byte, accessFlags := 24, slot := 6, constantValue := 0 }]
  methods := #[k12m0]
  instanceTypes := #[(.array .byte), .byte, .int, .boolean]
  staticTypes := #[.long, .boolean, (.array (.object "java/io/ObjectStreamField")), .char, (.object "java/util/Comparator"), .byte, .byte]
  resolved := Array.replicate 1451 none
  statics := none }

def pool13 : Array CpInfo := pool [(2, .class_ 4), (1, u "java/lang/Object"), (0, u "<init>"), (0, u "()V"), (35, .class_ 44), (1, u "java/util/Objects"), (0, u "requireNonNull"), (48, u "(Ljava/lang/Object;Ljava/lang/String;)Ljava/lang/Object;")] 89

def k13m0 : Method := { name := "<init>", desc := "()V", sig := { parameters := [], returnType := none }, accessFlags := 2, code := none }
def k13c1 : Code := { maxStack := 3, maxLocals := 2, code := jdk_31_method_11_code, exceptionTable := #[], attributes := #[] }
def k13m1 : Method := { name := "requireNonNull", desc := "(Ljava/lang/Object;Ljava/lang/String;)Ljava/lang/Object;", sig := { parameters := [(.object "java/lang/Object"), (.object "java/lang/String")], returnType := some (.object "java/lang/Object") }, accessFlags := 9, code := some k13c1 }
/-- java/util/Objects -/
def k13 : Class := { plain "java/util/Objects" (some 0) with
  accessFlags := 49
  interfaces := #[]
  cf := some (fileOf pool13 42 #[] #[{ accessFlags := 2, nameIndex := 5, descriptorIndex := 6, attributes := #[] }, { accessFlags := 9, nameIndex := 45, descriptorIndex := 94, attributes := #[] }] 49 2 #[] #[])
  fields := #[]
  methods := #[k13m0, k13m1]
  instanceTypes := #[]
  staticTypes := #[]
  resolved := Array.replicate 184 none
  statics := none }

def pool14 : Array CpInfo := pool [(1, .class_ 2), (0, u "java/lang/Math"), (1, .class_ 6), (1, u "java/lang/Object"), (0, u "<init>"), (0, u "()V"), (89, .class_ 100), (1, u "java/lang/Math$RandomNumberGeneratorHolder"), (71, u "negativeZeroFloatBits"), (0, u "J"), (2, u "negativeZeroDoubleBits"), (21, u "max"), (46, u "$assertionsDisabled"), (0, u "Z"), (88, u "(II)I"), (2, u "twoToTheDoubleScaleDown"), (0, u "D"), (4, u "twoToTheDoubleScaleUp"), (9, u "E"), (3, u "PI"), (2, u "TAU"), (2, u "DEGREES_TO_RADIANS"), (0, u "RADIANS_TO_DEGREES")] 94

def k14m0 : Method := { name := "<init>", desc := "()V", sig := { parameters := [], returnType := none }, accessFlags := 2, code := none }
def k14c1 : Code := { maxStack := 2, maxLocals := 2, code := jdk_29_method_65_code, exceptionTable := #[], attributes := #[] }
def k14m1 : Method := { name := "max", desc := "(II)I", sig := { parameters := [.int, .int], returnType := some .int }, accessFlags := 9, code := some k14c1 }
/-- java/lang/Math -/
def k14 : Class := { plain "java/lang/Math" (some 0) with
  accessFlags := 49
  interfaces := #[]
  cf := some (fileOf pool14 1 #[.nestMembers #[98]] #[{ accessFlags := 2, nameIndex := 7, descriptorIndex := 8, attributes := #[] }, { accessFlags := 9, nameIndex := 198, descriptorIndex := 335, attributes := #[] }] 49 4 #[] #[{ accessFlags := 25, nameIndex := 354, descriptorIndex := 339, attributes := #[] }, { accessFlags := 25, nameIndex := 358, descriptorIndex := 339, attributes := #[] }, { accessFlags := 25, nameIndex := 361, descriptorIndex := 339, attributes := #[] }, { accessFlags := 26, nameIndex := 364, descriptorIndex := 339, attributes := #[] }, { accessFlags := 26, nameIndex := 365, descriptorIndex := 339, attributes := #[] }, { accessFlags := 26, nameIndex := 172, descriptorIndex := 173, attributes := #[] }, { accessFlags := 26, nameIndex := 176, descriptorIndex := 173, attributes := #[] }, { accessFlags := 8, nameIndex := 344, descriptorIndex := 339, attributes := #[] }, { accessFlags := 8, nameIndex := 338, descriptorIndex := 339, attributes := #[] }, { accessFlags := 4120, nameIndex := 245, descriptorIndex := 246, attributes := #[] }])
  fields := #[{ name := "E", type := .double, accessFlags := 25, slot := 0, constantValue := 0 }, { name := "PI", type := .double, accessFlags := 25, slot := 1, constantValue := 0 }, { name := "TAU", type := .double, accessFlags := 25, slot := 2, constantValue := 0 }, { name := "DEGREES_TO_RADIANS", type := .double, accessFlags := 26, slot := 3, constantValue := 0 }, { name := "RADIANS_TO_DEGREES", type := .double, accessFlags := 26, slot := 4, constantValue := 0 }, { name := "negativeZeroFloatBits", type := .long, accessFlags := 26, slot := 5, constantValue := 0 }, { name := "negativeZeroDoubleBits", type := .long, accessFlags := 26, slot := 6, constantValue := 0 }, { name := "twoToTheDoubleScaleUp", type := .double, accessFlags := 8, slot := 7, constantValue := 0 }, { name := "twoToTheDoubleScaleDown", type := .double, accessFlags := 8, slot := 8, constantValue := 0 }, { name := "$assertionsDisabled", type := .boolean, accessFlags := 4120, slot := 9, constantValue := 0 }]
  methods := #[k14m0, k14m1]
  instanceTypes := #[]
  staticTypes := #[.double, .double, .double, .double, .double, .long, .long, .double, .double, .boolean]
  resolved := Array.replicate 460 none
  statics := none }

def pool15 : Array CpInfo := pool [(1, u "java/lang/Cloneable"), (0, .class_ 1), (0, u "java/lang/Object"), (0, .class_ 3)] 3

/-- java/lang/Cloneable -/
def k15 : Class := { plain "java/lang/Cloneable" (some 0) with
  accessFlags := 1537
  interfaces := #[]
  cf := some (fileOf pool15 2 #[] #[] 1537 4 #[] #[])
  fields := #[]
  methods := #[]
  instanceTypes := #[]
  staticTypes := #[]
  resolved := Array.replicate 8 none
  statics := none }

/-- the primitive byte -/
def k16 : Class := { plain "byte" none with kind := .primitive 'B', accessFlags := 0x411 }
/-- [B -/
def k17 : Class := { plain "[B" (some 0) with kind := .array 16 .byte, interfaces := #[15, 4], accessFlags := 1041 }

/-- the primitive int -/
def k18 : Class := { plain "int" none with kind := .primitive 'I', accessFlags := 0x411 }
/-- [I -/
def k19 : Class := { plain "[I" (some 0) with kind := .array 18 .int, interfaces := #[15, 4], accessFlags := 1041 }

def heap : Heap := #[{ cls := 6, slots := #[.ref 3, .ref 9, .ref 7, .ref 10, .ref 13, .ref 6, .ref 14, .null], vm := .statics 6 },
  { cls := 7, slots := #[.ref 5, .ref 11, .ref 12, .ref 4, .ref 8, .null], vm := .statics 7 },
  { cls := 9, slots := #[.ref 15], vm := .statics 9 },
  { cls := 6, slots := #[.null, .int 0, .int 0], vm := .none },
  { cls := 7, slots := #[.null, .int 0, .int 0, .null], vm := .none },
  { cls := 7, slots := #[.null, .int 0, .int 0, .null], vm := .none },
  { cls := 6, slots := #[.null, .int 0, .int 0], vm := .none },
  { cls := 6, slots := #[.null, .int 0, .int 0], vm := .none },
  { cls := 7, slots := #[.null, .int 0, .int 0, .null], vm := .none },
  { cls := 6, slots := #[.null, .int 0, .int 0], vm := .none },
  { cls := 6, slots := #[.null, .int 0, .int 0], vm := .none },
  { cls := 7, slots := #[.null, .int 0, .int 0, .null], vm := .none },
  { cls := 7, slots := #[.null, .int 0, .int 0, .null], vm := .none },
  { cls := 6, slots := #[.null, .int 0, .int 0], vm := .none },
  { cls := 6, slots := #[.null, .int 0, .int 0], vm := .none },
  { cls := 9, slots := #[.int 0, .int 0], vm := .none }]
def classes : Array Class := #[k0, k1, k2, k3, k4, k5, k6, k7, k8, k9, k10, k11, k12, k13, k14, k15, k16, k17, k18, k19]
def interned : List (Array UInt16 × Addr) := []
def slotsUsed : Nat := 58
def theMethod : MethodId := ⟨1, 3⟩
def args0 : Array Value := #[.int 5, .int 7, .int 1, .int 2]
def aboutOver (below : List Frame) : State where
  vm := { classes := classes, interned := interned.toArray }
  heap := heap
  slotsUsed := slotsUsed
  threads := #[{ frames := .invoking theMethod args0 :: below }]
def below0 : List Frame := [.native { method := ⟨0, 0⟩, args := #[] }]
def about1 : State := aboutOver below0
def p0 : Program := .bare "" "" ""
def e0 : Env := launch0.env 0 0 0
theorem w_frames : about1.frames = Frame.invoking theMethod args0 :: below0 := rfl
set_option maxRecDepth 65536 in
theorem w_args : argsFit about1.vm theMethod args0 = true := by decide +kernel
set_option maxRecDepth 65536 in
theorem w_heap : heapFits about1 = true := by decide +kernel
set_option maxRecDepth 65536 in
theorem w_runnable : about1.curStatus? = some .runnable := by decide +kernel
set_option maxRecDepth 65536 in
theorem w_alone : about1.alone = true := by decide +kernel
set_option maxRecDepth 65536 in
theorem w_named : about1.methodNamed? x = some theMethod := by decide +kernel
set_option maxRecDepth 65536 in
theorem w_hears : about1.hears theMethod below0 = true := by decide +kernel
set_option maxRecDepth 65536 in
theorem w_ripe : about1.ripe theMethod args0 below0 = true := by decide +kernel
theorem w_running : about1.status = .running := rfl
set_option maxRecDepth 65536 in
theorem w_room : about1.hasRoom e0.platform room_1 = true :=
  launch0.hasRoom_least _ room_1 (by decide +kernel) (by decide +kernel) (by decide +kernel) (by decide +kernel) (by decide +kernel) (by decide +kernel)
theorem allAtoms_all (ts : List Jvm.Cond) (a : Array Jvm.Value) (st : Jvm.State) : (allAtoms ts).before a st = ts.all (fun c => c.before a st) := by
  induction ts with
  | nil => rfl
  | cons c t ih =>
    show (Jvm.Cond.and c (allAtoms t)).before a st = _
    rw [Jvm.Cond.before_and, ih, List.all_cons]
def words1 : List Jvm.Cond := Jvm.Cond.code x code maxLocals ret :: tables_1
/-- a 'code' word, met by the world's own term for the bytes: nothing is compared byte by byte -/
theorem code_word {y : MethodName} {bytes : ByteArray} {mx : Nat} {rt : Option FieldType} {a : Array Value} {s : State} {m : MethodId} {meth : Method} {c : Code} (h1 : s.methodNamed? y = some m) (h2 : s.vm.method? m = some meth) (h3 : meth.code = some c) (h4 : c.code = bytes)
    (h5 : (c.maxLocals == mx && c.exceptionTable.isEmpty && decide (c.maxStack ≤ mostOperands) && decide (meth.sig.returnType = rt) && !meth.locks && decide (parseMethodDescriptor y.desc = some meth.sig)) = true) : (Jvm.Cond.code y bytes mx rt).before a s = true := by
  simp only [Bool.and_eq_true, beq_iff_eq, Bool.not_eq_true', decide_eq_true_eq] at h5
  obtain ⟨⟨⟨⟨⟨g1, g2⟩, g3⟩, g4⟩, g5⟩, g6⟩ := h5
  simp [Cond.before, Cond.holds, Cond.value, h1, h2, h3, h4, g1, g2, g3, g4, g5, g6]
def isCode : Jvm.Cond → Bool
  | .code _ _ _ _ => true
  | _ => false
theorem all_split {L : List Jvm.Cond} {P : Jvm.Cond → Bool} (h1 : L.all (fun c => isCode c || P c) = true) (h2 : ∀ c ∈ L.filter isCode, P c = true) : L.all P = true := by
  refine List.all_eq_true.mpr fun c hc => ?_
  have h := List.all_eq_true.mp h1 c hc
  rcases Bool.eq_false_or_eq_true (isCode c) with hi | hi
  · exact h2 c (List.mem_filter.mpr ⟨hc, hi⟩)
  · simpa [hi] using h
set_option maxRecDepth 65536 in
theorem w_c0 : (Jvm.Cond.code x code maxLocals ret).before args0 about1 = true := code_word (m := ⟨1, 3⟩) (meth := k1m3) (c := k1c3) (by decide +kernel) rfl rfl rfl (by decide +kernel)
set_option maxRecDepth 65536 in
theorem w_c1 : (Jvm.Cond.code ({ cls := "com/example/demarcate/demarcate/TransactionDefinitionWithReadOnlyPinLaw", name := "prop", desc := "(I)Lcom/example/demarcate/demarcate/Propagation;" } : Jvm.MethodName) method_2_code (1 : Nat) (Option.some (Jvm.ClassFile.FieldType.object "com/example/demarcate/demarcate/Propagation"))).before args0 about1 = true := code_word (m := ⟨1, 1⟩) (meth := k1m1) (c := k1c1) (by decide +kernel) rfl rfl rfl (by decide +kernel)
set_option maxRecDepth 65536 in
theorem w_c2 : (Jvm.Cond.code ({ cls := "com/example/demarcate/demarcate/TransactionDefinitionWithReadOnlyPinLaw", name := "iso", desc := "(I)Lcom/example/demarcate/demarcate/Isolation;" } : Jvm.MethodName) method_3_code (1 : Nat) (Option.some (Jvm.ClassFile.FieldType.object "com/example/demarcate/demarcate/Isolation"))).before args0 about1 = true := code_word (m := ⟨1, 2⟩) (meth := k1m2) (c := k1c2) (by decide +kernel) rfl rfl rfl (by decide +kernel)
set_option maxRecDepth 65536 in
theorem w_c3 : (Jvm.Cond.code ({ cls := "com/example/demarcate/demarcate/TransactionDefinition", name := "<init>", desc := "()V" } : Jvm.MethodName) prog_19_method_1_code (1 : Nat) (Option.none : Option Jvm.ClassFile.FieldType)).before args0 about1 = true := code_word (m := ⟨8, 0⟩) (meth := k8m0) (c := k8c0) (by decide +kernel) rfl rfl rfl (by decide +kernel)
set_option maxRecDepth 65536 in
theorem w_c4 : (Jvm.Cond.code ({ cls := "java/util/OptionalInt", name := "empty", desc := "()Ljava/util/OptionalInt;" } : Jvm.MethodName) jdk_2649_method_2_code (0 : Nat) (Option.some (Jvm.ClassFile.FieldType.object "java/util/OptionalInt"))).before args0 about1 = true := code_word (m := ⟨9, 1⟩) (meth := k9m1) (c := k9c1) (by decide +kernel) rfl rfl rfl (by decide +kernel)
set_option maxRecDepth 65536 in
theorem w_c5 : (Jvm.Cond.code ({ cls := "com/example/demarcate/demarcate/TransactionDefinition", name := "<init>", desc := "(Lcom/example/demarcate/demarcate/Propagation;Lcom/example/demarcate/demarcate/Isolation;ZLjava/util/OptionalInt;)V" } : Jvm.MethodName) prog_19_method_2_code (5 : Nat) (Option.none : Option Jvm.ClassFile.FieldType)).before args0 about1 = true := code_word (m := ⟨8, 1⟩) (meth := k8m1) (c := k8c1) (by decide +kernel) rfl rfl rfl (by decide +kernel)
set_option maxRecDepth 65536 in
theorem w_c6 : (Jvm.Cond.code ({ cls := "java/lang/Object", name := "<init>", desc := "()V" } : Jvm.MethodName) object_method_1_code (1 : Nat) (Option.none : Option Jvm.ClassFile.FieldType)).before args0 about1 = true := code_word (m := ⟨0, 0⟩) (meth := k0m0) (c := k0c0) (by decide +kernel) rfl rfl rfl (by decide +kernel)
set_option maxRecDepth 65536 in
theorem w_c7 : (Jvm.Cond.code ({ cls := "com/example/demarcate/demarcate/TransactionDefinition", name := "withPropagation", desc := "(Lcom/example/demarcate/demarcate/Propagation;)Lcom/example/demarcate/demarcate/TransactionDefinition;" } : Jvm.MethodName) prog_19_method_3_code (2 : Nat) (Option.some (Jvm.ClassFile.FieldType.object "com/example/demarcate/demarcate/TransactionDefinition"))).before args0 about1 = true := code_word (m := ⟨8, 2⟩) (meth := k8m2) (c := k8c2) (by decide +kernel) rfl rfl rfl (by decide +kernel)
set_option maxRecDepth 65536 in
theorem w_c8 : (Jvm.Cond.code ({ cls := "java/util/Objects", name := "requireNonNull", desc := "(Ljava/lang/Object;Ljava/lang/String;)Ljava/lang/Object;" } : Jvm.MethodName) jdk_31_method_11_code (2 : Nat) (Option.some (Jvm.ClassFile.FieldType.object "java/lang/Object"))).before args0 about1 = true := code_word (m := ⟨13, 1⟩) (meth := k13m1) (c := k13c1) (by decide +kernel) rfl rfl rfl (by decide +kernel)
set_option maxRecDepth 65536 in
theorem w_c9 : (Jvm.Cond.code ({ cls := "com/example/demarcate/demarcate/TransactionDefinition", name := "withIsolation", desc := "(Lcom/example/demarcate/demarcate/Isolation;)Lcom/example/demarcate/demarcate/TransactionDefinition;" } : Jvm.MethodName) prog_19_method_4_code (2 : Nat) (Option.some (Jvm.ClassFile.FieldType.object "com/example/demarcate/demarcate/TransactionDefinition"))).before args0 about1 = true := code_word (m := ⟨8, 3⟩) (meth := k8m3) (c := k8c3) (by decide +kernel) rfl rfl rfl (by decide +kernel)
set_option maxRecDepth 65536 in
theorem w_c10 : (Jvm.Cond.code ({ cls := "com/example/demarcate/demarcate/TransactionDefinition", name := "withReadOnly", desc := "(Z)Lcom/example/demarcate/demarcate/TransactionDefinition;" } : Jvm.MethodName) prog_19_method_5_code (2 : Nat) (Option.some (Jvm.ClassFile.FieldType.object "com/example/demarcate/demarcate/TransactionDefinition"))).before args0 about1 = true := code_word (m := ⟨8, 4⟩) (meth := k8m4) (c := k8c4) (by decide +kernel) rfl rfl rfl (by decide +kernel)
set_option maxRecDepth 65536 in
theorem w_c11 : (Jvm.Cond.code ({ cls := "com/example/demarcate/demarcate/TransactionDefinition", name := "isReadOnly", desc := "()Z" } : Jvm.MethodName) prog_19_method_9_code (1 : Nat) (Option.some Jvm.ClassFile.FieldType.boolean)).before args0 about1 = true := code_word (m := ⟨8, 8⟩) (meth := k8m8) (c := k8c8) (by decide +kernel) rfl rfl rfl (by decide +kernel)
set_option maxRecDepth 65536 in
theorem w_c12 : (Jvm.Cond.code ({ cls := "com/example/demarcate/demarcate/TransactionDefinition", name := "propagation", desc := "()Lcom/example/demarcate/demarcate/Propagation;" } : Jvm.MethodName) prog_19_method_7_code (1 : Nat) (Option.some (Jvm.ClassFile.FieldType.object "com/example/demarcate/demarcate/Propagation"))).before args0 about1 = true := code_word (m := ⟨8, 6⟩) (meth := k8m6) (c := k8c6) (by decide +kernel) rfl rfl rfl (by decide +kernel)
set_option maxRecDepth 65536 in
theorem w_c13 : (Jvm.Cond.code ({ cls := "com/example/demarcate/demarcate/TransactionDefinition", name := "isolation", desc := "()Lcom/example/demarcate/demarcate/Isolation;" } : Jvm.MethodName) prog_19_method_8_code (1 : Nat) (Option.some (Jvm.ClassFile.FieldType.object "com/example/demarcate/demarcate/Isolation"))).before args0 about1 = true := code_word (m := ⟨8, 7⟩) (meth := k8m7) (c := k8c7) (by decide +kernel) rfl rfl rfl (by decide +kernel)
set_option maxRecDepth 65536 in
theorem w_c14 : (Jvm.Cond.code ({ cls := "com/example/demarcate/demarcate/TransactionDefinition", name := "timeout", desc := "()Ljava/util/OptionalInt;" } : Jvm.MethodName) prog_19_method_10_code (1 : Nat) (Option.some (Jvm.ClassFile.FieldType.object "java/util/OptionalInt"))).before args0 about1 = true := code_word (m := ⟨8, 9⟩) (meth := k8m9) (c := k8c9) (by decide +kernel) rfl rfl rfl (by decide +kernel)
set_option maxRecDepth 65536 in
theorem w_c15 : (Jvm.Cond.code ({ cls := "java/lang/Math", name := "max", desc := "(II)I" } : Jvm.MethodName) jdk_29_method_65_code (2 : Nat) (Option.some Jvm.ClassFile.FieldType.int)).before args0 about1 = true := code_word (m := ⟨14, 1⟩) (meth := k14m1) (c := k14c1) (by decide +kernel) rfl rfl rfl (by decide +kernel)
set_option maxRecDepth 65536 in
theorem w_c16 : (Jvm.Cond.code ({ cls := "com/example/demarcate/demarcate/TransactionDefinition", name := "withTimeout", desc := "(I)Lcom/example/demarcate/demarcate/TransactionDefinition;" } : Jvm.MethodName) prog_19_method_6_code (2 : Nat) (Option.some (Jvm.ClassFile.FieldType.object "com/example/demarcate/demarcate/TransactionDefinition"))).before args0 about1 = true := code_word (m := ⟨8, 5⟩) (meth := k8m5) (c := k8c5) (by decide +kernel) rfl rfl rfl (by decide +kernel)
set_option maxRecDepth 65536 in
theorem w_c17 : (Jvm.Cond.code ({ cls := "java/util/OptionalInt", name := "of", desc := "(I)Ljava/util/OptionalInt;" } : Jvm.MethodName) jdk_2649_method_4_code (1 : Nat) (Option.some (Jvm.ClassFile.FieldType.object "java/util/OptionalInt"))).before args0 about1 = true := code_word (m := ⟨9, 3⟩) (meth := k9m3) (c := k9c3) (by decide +kernel) rfl rfl rfl (by decide +kernel)
set_option maxRecDepth 65536 in
theorem w_c18 : (Jvm.Cond.code ({ cls := "java/util/OptionalInt", name := "<init>", desc := "(I)V" } : Jvm.MethodName) jdk_2649_method_3_code (2 : Nat) (Option.none : Option Jvm.ClassFile.FieldType)).before args0 about1 = true := code_word (m := ⟨9, 2⟩) (meth := k9m2) (c := k9c2) (by decide +kernel) rfl rfl rfl (by decide +kernel)
def codes1 : List Jvm.Cond := [Jvm.Cond.code x code maxLocals ret, Jvm.Cond.code ({ cls := "com/example/demarcate/demarcate/TransactionDefinitionWithReadOnlyPinLaw", name := "prop", desc := "(I)Lcom/example/demarcate/demarcate/Propagation;" } : Jvm.MethodName) method_2_code (1 : Nat) (Option.some (Jvm.ClassFile.FieldType.object "com/example/demarcate/demarcate/Propagation")), Jvm.Cond.code ({ cls := "com/example/demarcate/demarcate/TransactionDefinitionWithReadOnlyPinLaw", name := "iso", desc := "(I)Lcom/example/demarcate/demarcate/Isolation;" } : Jvm.MethodName) method_3_code (1 : Nat) (Option.some (Jvm.ClassFile.FieldType.object "com/example/demarcate/demarcate/Isolation")), Jvm.Cond.code ({ cls := "com/example/demarcate/demarcate/TransactionDefinition", name := "<init>", desc := "()V" } : Jvm.MethodName) prog_19_method_1_code (1 : Nat) (Option.none : Option Jvm.ClassFile.FieldType), Jvm.Cond.code ({ cls := "java/util/OptionalInt", name := "empty", desc := "()Ljava/util/OptionalInt;" } : Jvm.MethodName) jdk_2649_method_2_code (0 : Nat) (Option.some (Jvm.ClassFile.FieldType.object "java/util/OptionalInt")), Jvm.Cond.code ({ cls := "com/example/demarcate/demarcate/TransactionDefinition", name := "<init>", desc := "(Lcom/example/demarcate/demarcate/Propagation;Lcom/example/demarcate/demarcate/Isolation;ZLjava/util/OptionalInt;)V" } : Jvm.MethodName) prog_19_method_2_code (5 : Nat) (Option.none : Option Jvm.ClassFile.FieldType), Jvm.Cond.code ({ cls := "java/lang/Object", name := "<init>", desc := "()V" } : Jvm.MethodName) object_method_1_code (1 : Nat) (Option.none : Option Jvm.ClassFile.FieldType), Jvm.Cond.code ({ cls := "com/example/demarcate/demarcate/TransactionDefinition", name := "withPropagation", desc := "(Lcom/example/demarcate/demarcate/Propagation;)Lcom/example/demarcate/demarcate/TransactionDefinition;" } : Jvm.MethodName) prog_19_method_3_code (2 : Nat) (Option.some (Jvm.ClassFile.FieldType.object "com/example/demarcate/demarcate/TransactionDefinition")), Jvm.Cond.code ({ cls := "java/util/Objects", name := "requireNonNull", desc := "(Ljava/lang/Object;Ljava/lang/String;)Ljava/lang/Object;" } : Jvm.MethodName) jdk_31_method_11_code (2 : Nat) (Option.some (Jvm.ClassFile.FieldType.object "java/lang/Object")), Jvm.Cond.code ({ cls := "com/example/demarcate/demarcate/TransactionDefinition", name := "withIsolation", desc := "(Lcom/example/demarcate/demarcate/Isolation;)Lcom/example/demarcate/demarcate/TransactionDefinition;" } : Jvm.MethodName) prog_19_method_4_code (2 : Nat) (Option.some (Jvm.ClassFile.FieldType.object "com/example/demarcate/demarcate/TransactionDefinition")), Jvm.Cond.code ({ cls := "com/example/demarcate/demarcate/TransactionDefinition", name := "withReadOnly", desc := "(Z)Lcom/example/demarcate/demarcate/TransactionDefinition;" } : Jvm.MethodName) prog_19_method_5_code (2 : Nat) (Option.some (Jvm.ClassFile.FieldType.object "com/example/demarcate/demarcate/TransactionDefinition")), Jvm.Cond.code ({ cls := "com/example/demarcate/demarcate/TransactionDefinition", name := "isReadOnly", desc := "()Z" } : Jvm.MethodName) prog_19_method_9_code (1 : Nat) (Option.some Jvm.ClassFile.FieldType.boolean), Jvm.Cond.code ({ cls := "com/example/demarcate/demarcate/TransactionDefinition", name := "propagation", desc := "()Lcom/example/demarcate/demarcate/Propagation;" } : Jvm.MethodName) prog_19_method_7_code (1 : Nat) (Option.some (Jvm.ClassFile.FieldType.object "com/example/demarcate/demarcate/Propagation")), Jvm.Cond.code ({ cls := "com/example/demarcate/demarcate/TransactionDefinition", name := "isolation", desc := "()Lcom/example/demarcate/demarcate/Isolation;" } : Jvm.MethodName) prog_19_method_8_code (1 : Nat) (Option.some (Jvm.ClassFile.FieldType.object "com/example/demarcate/demarcate/Isolation")), Jvm.Cond.code ({ cls := "com/example/demarcate/demarcate/TransactionDefinition", name := "timeout", desc := "()Ljava/util/OptionalInt;" } : Jvm.MethodName) prog_19_method_10_code (1 : Nat) (Option.some (Jvm.ClassFile.FieldType.object "java/util/OptionalInt")), Jvm.Cond.code ({ cls := "java/lang/Math", name := "max", desc := "(II)I" } : Jvm.MethodName) jdk_29_method_65_code (2 : Nat) (Option.some Jvm.ClassFile.FieldType.int), Jvm.Cond.code ({ cls := "com/example/demarcate/demarcate/TransactionDefinition", name := "withTimeout", desc := "(I)Lcom/example/demarcate/demarcate/TransactionDefinition;" } : Jvm.MethodName) prog_19_method_6_code (2 : Nat) (Option.some (Jvm.ClassFile.FieldType.object "com/example/demarcate/demarcate/TransactionDefinition")), Jvm.Cond.code ({ cls := "java/util/OptionalInt", name := "of", desc := "(I)Ljava/util/OptionalInt;" } : Jvm.MethodName) jdk_2649_method_4_code (1 : Nat) (Option.some (Jvm.ClassFile.FieldType.object "java/util/OptionalInt")), Jvm.Cond.code ({ cls := "java/util/OptionalInt", name := "<init>", desc := "(I)V" } : Jvm.MethodName) jdk_2649_method_3_code (2 : Nat) (Option.none : Option Jvm.ClassFile.FieldType)]
set_option maxRecDepth 65536 in
theorem codes_eq : words1.filter isCode = codes1 := rfl
theorem w_codes : ∀ c ∈ words1.filter isCode, c.before args0 about1 = true := by
  rw [codes_eq]
  intro c hc
  simp only [codes1, List.mem_cons, List.not_mem_nil, or_false] at hc
  rcases hc with rfl | rfl | rfl | rfl | rfl | rfl | rfl | rfl | rfl | rfl | rfl | rfl | rfl | rfl | rfl | rfl | rfl | rfl | rfl
  · exact w_c0
  · exact w_c1
  · exact w_c2
  · exact w_c3
  · exact w_c4
  · exact w_c5
  · exact w_c6
  · exact w_c7
  · exact w_c8
  · exact w_c9
  · exact w_c10
  · exact w_c11
  · exact w_c12
  · exact w_c13
  · exact w_c14
  · exact w_c15
  · exact w_c16
  · exact w_c17
  · exact w_c18
set_option maxRecDepth 65536 in
theorem w_t1 : (words1.take 24).all (fun c => isCode c || c.before args0 about1) = true := by decide +kernel
set_option maxRecDepth 65536 in
theorem w_t2 : ((words1.drop 24).take 24).all (fun c => isCode c || c.before args0 about1) = true := by decide +kernel
set_option maxRecDepth 65536 in
theorem w_t3 : (((words1.drop 24).drop 24).take 24).all (fun c => isCode c || c.before args0 about1) = true := by decide +kernel
set_option maxRecDepth 65536 in
theorem w_t4 : ((((words1.drop 24).drop 24).drop 24).take 24).all (fun c => isCode c || c.before args0 about1) = true := by decide +kernel
set_option maxRecDepth 65536 in
theorem w_t5 : (((((words1.drop 24).drop 24).drop 24).drop 24).take 24).all (fun c => isCode c || c.before args0 about1) = true := by decide +kernel
set_option maxRecDepth 65536 in
theorem w_t6 : (((((words1.drop 24).drop 24).drop 24).drop 24).drop 24).all (fun c => isCode c || c.before args0 about1) = true := by decide +kernel
theorem w_tables : (allAtoms (Jvm.Cond.code x code maxLocals ret :: tables_1)).before args0 about1 = true := by
  rw [allAtoms_all]
  show words1.all (fun c => c.before args0 about1) = true
  refine all_split ?_ w_codes
  rw [← List.take_append_drop 24 words1, List.all_append, w_t1, ← List.take_append_drop 24 (words1.drop 24), List.all_append, w_t2, ← List.take_append_drop 24 ((words1.drop 24).drop 24), List.all_append, w_t3, ← List.take_append_drop 24 (((words1.drop 24).drop 24).drop 24), List.all_append, w_t4, ← List.take_append_drop 24 ((((words1.drop 24).drop 24).drop 24).drop 24), List.all_append, w_t5, w_t6]
  rfl
set_option maxRecDepth 65536 in
theorem w_rest : rest_1_c.before args0 about1 = true := by decide +kernel
set_option maxRecDepth 65536 in
theorem w_case : (Jvm.Cond.and given_1 narrow_1).before args0 about1 = true := by decide +kernel
theorem w_applies : (headSpec (Jvm.Cond.code x code maxLocals ret :: tables_1) room_1).applies x e0.platform about1 = true :=
  (Spec.applies_iff w_frames).mpr ⟨w_running, w_runnable, w_alone, w_named, w_hears, w_ripe, w_room, w_tables⟩
theorem atStart : AtStart classFile x code maxLocals ret World_1 tables_1 room_1 Calls_1 rest_1 Pre_1 launch0 p0 e0 about1 theMethod args0 below0 :=
  ⟨lists_1, trivial, launch0.admits_env _ _ _, launch0.least_env, fairChoices_fair.cas, fairChoices_fair.clock, w_frames, w_args, w_heap, w_applies, trivial, w_rest, w_case⟩
end start1
theorem witness_1 : WitnessClaimed_1 := ⟨start1.p0, start1.e0, start1.about1, start1.theMethod, start1.args0, start1.below0, start1.atStart⟩
end Jvm.Pilot.@@N@@
