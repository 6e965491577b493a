import JvmDerived
import JvmDerived.Pilot.@@N@@Statement
import JvmDerived.Pilot.@@N@@Code
set_option linter.unusedVariables false
set_option linter.unusedSimpArgs false
namespace Jvm.Pilot.@@N@@
open Jvm Jvm.ClassFile Sem Op Lib Jvm.Free Jvm.Stand Jvm.LawKit Jvm.RoadKit Bundle Jvm.Pilot.@@N@@.Jvm.D
section OwnKit
variable {p : Program} {l : Launch} {e : Env} {R : Room} {s : State} {m : MethodId} {args : Array Value} {below : List Frame} {meth : Method} {c : Code} {T : State} {locs : List Loc} {cells slots kc ks : Nat} {Q : Option Value → Heap → List Loc → Prop} {A B : State}
/-- the rest of a walk: from the state A the run comes to a return that Q describes -/
def OW (p : Program) (e : Env) (below : List Frame) (s : State) (Q : Option Value → Heap → List Loc → Prop) (kc ks : Nat) (A : State) : Prop :=
  ∃ s₂ o, Steps p.tables e below A s₂ ∧ s₂.status = .running ∧ Ended s₂ below o ∧ ∃ v L, o = .returned v ∧ Q v s₂.heap L ∧ FrameEnd s o s₂ L kc ks
theorem OW.st (h : ∀ t, Steps p.tables e below B t → Steps p.tables e below A t) (k : OW p e below s Q kc ks B) : OW p e below s Q kc ks A := by
  obtain ⟨a, o, h1, h2⟩ := k; exact ⟨a, o, h _ h1, h2⟩
theorem OW.tr (h : Steps p.tables e below A B) (k : OW p e below s Q kc ks B) : OW p e below s Q kc ks A := by
  obtain ⟨a, o, h1, h2⟩ := k; exact ⟨a, o, h.trans h1, h2⟩
theorem OW.ret (X : Stand p l e R s m args below meth c T locs cells slots) (hx : p.tables.exec = Jvm.exec) (hlk : meth.locks = false) {pc : Nat} {Ls : Array Slot} {w : Value} {t : FieldType} {i : Instr} {rest : List Value} (hret : meth.sig.returnType = some t) (hn : narrow t w = w)
    (hi : (i = .ireturn ∧ (t = .int ∨ t = .boolean ∨ t = .byte ∨ t = .char ∨ t = .short) ∧ ∃ z, w = .int z) ∨ (i = .lreturn ∧ t = .long ∧ ∃ z, w = .long z) ∨ (i = .dreturn ∧ t = .double ∧ ∃ z, w = .double z) ∨ (i = .freturn ∧ t = .float ∧ ∃ z, w = .float z) ∨ (i = .areturn ∧ t.isReference = true ∧ w.isRef = true))
    (hd : decode c.code pc = .ok (i, 1)) {h : Heap} (eT : T.heap = h) (hc : cells ≤ kc) (hs : slots ≤ ks) (q : Q (some w) h locs) : OW p e below s Q kc ks (T.setTop (mkF m pc Ls (w :: rest))) := by
  obtain ⟨fs, hr, hrun, hended, hW, hsame⟩ := X.leave (v := some w) (fun h => by rw [hret] at h; cases h) hlk
  subst eT
  exact ⟨_, _, retOut X hx hret hn hi hd hr, hrun, hended, _, _, rfl, q, ⟨_, rfl⟩, hW, hsame.mono hc hs⟩
theorem OW.retV (X : Stand p l e R s m args below meth c T locs cells slots) (hx : p.tables.exec = Jvm.exec) (hlk : meth.locks = false) {pc : Nat} {Ls : Array Slot} (hret : meth.sig.returnType = none)
    (hd : decode c.code pc = .ok (.return_, 1)) {h : Heap} (eT : T.heap = h) (hc : cells ≤ kc) (hs : slots ≤ ks) (q : Q none h locs) : OW p e below s Q kc ks (T.setTop (mkF m pc Ls [])) := by
  obtain ⟨fs, hr, hrun, hended, hW, hsame⟩ := X.leave (v := none) (fun _ => rfl) hlk
  subst eT
  exact ⟨_, _, X.returnOut hx hret hd hr, hrun, hended, _, _, rfl, q, ⟨_, rfl⟩, hW, hsame.mono hc hs⟩
/-- the same for a walk that may intern: its Stand is over 's.setVm vm0' -/
def OWW (p : Program) (e : Env) (below : List Frame) (s : State) (Q : Option Value → Heap → List Loc → Prop) (kc ks : Nat) (A : State) : Prop :=
  ∃ s₂ o, Steps p.tables e below A s₂ ∧ s₂.status = .running ∧ Ended s₂ below o ∧ ∃ v L, o = .returned v ∧ Q v s₂.heap L ∧ ReturnedEndW s o s₂ L kc ks
theorem OWW.st (h : ∀ t, Steps p.tables e below B t → Steps p.tables e below A t) (k : OWW p e below s Q kc ks B) : OWW p e below s Q kc ks A := by
  obtain ⟨a, o, h1, h2⟩ := k; exact ⟨a, o, h _ h1, h2⟩
theorem OWW.tr (h : Steps p.tables e below A B) (k : OWW p e below s Q kc ks B) : OWW p e below s Q kc ks A := by
  obtain ⟨a, o, h1, h2⟩ := k; exact ⟨a, o, h.trans h1, h2⟩
theorem OWW.ret {vm0 : Vm} {k0 : Nat} (X : Stand p l e R (s.setVm vm0) m args below meth c T locs cells slots) {h : Heap} (hS : s.Since vm0 k0) (hk : k0 ≤ h.size) (hx : p.tables.exec = Jvm.exec) (hlk : meth.locks = false) {pc : Nat} {Ls : Array Slot} {w : Value} {t : FieldType} {i : Instr} {rest : List Value} (hret : meth.sig.returnType = some t) (hn : narrow t w = w)
    (hi : (i = .ireturn ∧ (t = .int ∨ t = .boolean ∨ t = .byte ∨ t = .char ∨ t = .short) ∧ ∃ z, w = .int z) ∨ (i = .lreturn ∧ t = .long ∧ ∃ z, w = .long z) ∨ (i = .dreturn ∧ t = .double ∧ ∃ z, w = .double z) ∨ (i = .freturn ∧ t = .float ∧ ∃ z, w = .float z) ∨ (i = .areturn ∧ t.isReference = true ∧ w.isRef = true))
    (hd : decode c.code pc = .ok (i, 1)) (eT : T.heap = h) (hc : cells ≤ kc) (hs : slots ≤ ks) (q : Q (some w) h locs) : OWW p e below s Q kc ks (T.setTop (mkF m pc Ls (w :: rest))) := by
  obtain ⟨fs, hr, hrun, hended, hW, hsame⟩ := X.leave (v := some w) (fun h => by rw [hret] at h; cases h) hlk
  subst eT
  obtain ⟨g1, g2, g3⟩ := hS.ended (U := T.setFrames fs) hW hk hsame
  exact ⟨_, _, retOut X hx hret hn hi hd hr, hrun, hended, _, _, rfl, q, ⟨_, rfl⟩, g1, g2, g3.mono hc hs⟩
theorem OWW.retV {vm0 : Vm} {k0 : Nat} (X : Stand p l e R (s.setVm vm0) m args below meth c T locs cells slots) {h : Heap} (hS : s.Since vm0 k0) (hk : k0 ≤ h.size) (hx : p.tables.exec = Jvm.exec) (hlk : meth.locks = false) {pc : Nat} {Ls : Array Slot} (hret : meth.sig.returnType = none)
    (hd : decode c.code pc = .ok (.return_, 1)) (eT : T.heap = h) (hc : cells ≤ kc) (hs : slots ≤ ks) (q : Q none h locs) : OWW p e below s Q kc ks (T.setTop (mkF m pc Ls [])) := by
  obtain ⟨fs, hr, hrun, hended, hW, hsame⟩ := X.leave (v := none) (fun _ => rfl) hlk
  subst eT
  obtain ⟨g1, g2, g3⟩ := hS.ended (U := T.setFrames fs) hW hk hsame
  exact ⟨_, _, X.returnOut hx hret hd hr, hrun, hended, _, _, rfl, q, ⟨_, rfl⟩, g1, g2, g3.mono hc hs⟩
end OwnKit
section OwnWords
variable {args : Array Value} {first s : State} {o : Option Outcome} {idx : List Nat} {t : Term}
theorem own_eq_int {k : Int32} (h : (Jvm.Cond.eq t (.int k)).value args first o s idx = some true) : t.eval args first o idx s = some (.int k) := by
  obtain ⟨x, y, h1, h2, k1, k2⟩ := cmp_v (Or.inl h)
  rw [Term.int_eval] at h2
  cases h2
  obtain ⟨z, rfl⟩ := k2
  rw [h1, gotT (Cond.eq_ints h1 (Term.int_eval k)) h]
theorem own_eq_ref {u : Term} {a : Addr} (h : (Jvm.Cond.eq t u).value args first o s idx = some true) (hu : u.eval args first o idx s = some (.ref a)) : t.eval args first o idx s = some (.ref a) := by
  obtain ⟨x, y, h1, h2, k1, k2⟩ := cmp_v (Or.inl h)
  cases hu.symm.trans h2
  have q := gotT (eq_R h1 hu k2.2 rfl) h
  rw [h1, q]
theorem own_arr {ty : FieldType} {a : Addr} {z : Int32} (ev : t.eval args s none [] s = some (.ref a)) (ha : (Jvm.Cond.arrayOf t ty).value args s none s [] = some true) (hl : (Term.length t).eval args s none [] s = some (.int z)) :
    ∃ cl : Cell, Arr s s.heap a cl ty ∧ cl.slots.size < 2 ^ 31 ∧ cl.slots.size.toInt32 = z ∧ ∀ j : Int32, ¬ j < 0 → ∀ v, (Term.elem t (.int j)).eval args s none [] s = some v → cl.slots[j.toNatClampNeg]? = some v := by
  obtain ⟨cl, A⟩ := Arr.start ev ha
  have hat := A.fin (Vm.Alike.refl _)
  have hlt : cl.slots.size < 2 ^ 31 := by
    refine Decidable.byContradiction fun q => ?_
    simp [Term.eval, ev, hat, q] at hl
  refine ⟨cl, A, hlt, ?_, fun j hj v hv => ?_⟩
  · rw [len_f ev hat hlt] at hl; exact Value.int.inj (Option.some.inj hl)
  · rw [elem_f ev (Term.int_eval j) hat hj] at hv; exact hv
end OwnWords
theorem own_oldle {Z : State} {n0 : Nat} {h : Heap} (X : Old Z n0 h) : n0 ≤ h.size := X.1 ▸ X.2.1
theorem own_cat {v : Value} (h : v.isRef = true) : v.category = 1 := by cases v <;> first | rfl | simp [Value.isRef] at h
theorem own_nar {v : Value} {t : FieldType} (h : v.isRef = true) (ht : t.isReference = true) : narrow t v = v := by cases t <;> first | (cases ht; done) | (cases v <;> first | rfl | simp [Value.isRef] at h)
theorem own_fit {v : Value} {t : FieldType} (h : v.isRef = true) (ht : t.isReference = true) : fits t v = true := by cases t <;> first | (cases ht; done) | (cases v <;> first | rfl | simp [Value.isRef] at h)

theorem own_nz {r : Int32} (h : r = 0 ∨ r = 1) : narrow .boolean (.int r) = .int r := by rcases h with rfl | rfl <;> rfl
theorem own_fz {r : Int32} (h : r = 0 ∨ r = 1) : fits .boolean (.int r) = true := by rcases h with rfl | rfl <;> rfl
theorem w_0 {a0 : Array Value} {Z : State} (hw : ∀ d ∈ tables_1, d.before a0 Z = true) : (Jvm.Cond.methodLink "com/example/demarcate/demarcate/TransactionDefinitionWithIsolationPinLaw" (50 : Nat) ({ cls := "com/example/demarcate/demarcate/TransactionDefinitionWithIsolationPinLaw", name := "iso", desc := "(I)Lcom/example/demarcate/demarcate/Isolation;" } : Jvm.MethodName)).before a0 Z = true := hw _ (List.mem_of_getElem? (i := 0) rfl)
theorem w_1 {a0 : Array Value} {Z : State} (hw : ∀ d ∈ tables_1, d.before a0 Z = true) : (Jvm.Cond.static ({ cls := "com/example/demarcate/demarcate/TransactionDefinitionWithIsolationPinLaw", name := "iso", desc := "(I)Lcom/example/demarcate/demarcate/Isolation;" } : Jvm.MethodName)).before a0 Z = true := hw _ (List.mem_of_getElem? (i := 1) rfl)
theorem w_2 {a0 : Array Value} {Z : State} (hw : ∀ d ∈ tables_1, d.before a0 Z = true) : (Jvm.Cond.initialized "com/example/demarcate/demarcate/TransactionDefinitionWithIsolationPinLaw").before a0 Z = true := hw _ (List.mem_of_getElem? (i := 2) rfl)
theorem w_3 {a0 : Array Value} {Z : State} (hw : ∀ d ∈ tables_1, d.before a0 Z = true) : (Jvm.Cond.code ({ cls := "com/example/demarcate/demarcate/TransactionDefinitionWithIsolationPinLaw", name := "iso", desc := "(I)Lcom/example/demarcate/demarcate/Isolation;" } : Jvm.MethodName) method_2_code (2 : Nat) (Option.some (Jvm.ClassFile.FieldType.object "com/example/demarcate/demarcate/Isolation"))).before a0 Z = true := hw _ (List.mem_of_getElem? (i := 3) rfl)
theorem w_4 {a0 : Array Value} {Z : State} (hw : ∀ d ∈ tables_1, d.before a0 Z = true) : (Jvm.Cond.constant "com/example/demarcate/demarcate/TransactionDefinitionWithIsolationPinLaw" (7 : Nat) (2147483647 : Int32)).before a0 Z = true := hw _ (List.mem_of_getElem? (i := 4) rfl)
theorem w_5 {a0 : Array Value} {Z : State} (hw : ∀ d ∈ tables_1, d.before a0 Z = true) : (Jvm.Cond.fieldLink "com/example/demarcate/demarcate/TransactionDefinitionWithIsolationPinLaw" (8 : Nat) "com/example/demarcate/demarcate/Isolation" "DEFAULT" "Lcom/example/demarcate/demarcate/Isolation;").before a0 Z = true := hw _ (List.mem_of_getElem? (i := 5) rfl)
theorem w_6 {a0 : Array Value} {Z : State} (hw : ∀ d ∈ tables_1, d.before a0 Z = true) : (Jvm.Cond.initialized "com/example/demarcate/demarcate/Isolation").before a0 Z = true := hw _ (List.mem_of_getElem? (i := 6) rfl)
theorem w_7 {a0 : Array Value} {Z : State} (hw : ∀ d ∈ tables_1, d.before a0 Z = true) : (Jvm.Cond.laysStatic "com/example/demarcate/demarcate/Isolation" "DEFAULT" "Lcom/example/demarcate/demarcate/Isolation;").before a0 Z = true := hw _ (List.mem_of_getElem? (i := 7) rfl)
theorem w_8 {a0 : Array Value} {Z : State} (hw : ∀ d ∈ tables_1, d.before a0 Z = true) : (Jvm.Cond.fieldLink "com/example/demarcate/demarcate/TransactionDefinitionWithIsolationPinLaw" (20 : Nat) "com/example/demarcate/demarcate/Isolation" "REPEATABLE_READ" "Lcom/example/demarcate/demarcate/Isolation;").before a0 Z = true := hw _ (List.mem_of_getElem? (i := 8) rfl)
theorem w_9 {a0 : Array Value} {Z : State} (hw : ∀ d ∈ tables_1, d.before a0 Z = true) : (Jvm.Cond.laysStatic "com/example/demarcate/demarcate/Isolation" "REPEATABLE_READ" "Lcom/example/demarcate/demarcate/Isolation;").before a0 Z = true := hw _ (List.mem_of_getElem? (i := 9) rfl)
theorem w_10 {a0 : Array Value} {Z : State} (hw : ∀ d ∈ tables_1, d.before a0 Z = true) : (Jvm.Cond.methodLink "com/example/demarcate/demarcate/TransactionDefinitionWithIsolationPinLaw" (56 : Nat) ({ cls := "com/example/demarcate/demarcate/TransactionDefinitionWithIsolationPinLaw", name := "prop", desc := "(I)Lcom/example/demarcate/demarcate/Propagation;" } : Jvm.MethodName)).before a0 Z = true := hw _ (List.mem_of_getElem? (i := 10) rfl)
theorem w_11 {a0 : Array Value} {Z : State} (hw : ∀ d ∈ tables_1, d.before a0 Z = true) : (Jvm.Cond.static ({ cls := "com/example/demarcate/demarcate/TransactionDefinitionWithIsolationPinLaw", name := "prop", desc := "(I)Lcom/example/demarcate/demarcate/Propagation;" } : Jvm.MethodName)).before a0 Z = true := hw _ (List.mem_of_getElem? (i := 11) rfl)
theorem w_12 {a0 : Array Value} {Z : State} (hw : ∀ d ∈ tables_1, d.before a0 Z = true) : (Jvm.Cond.code ({ cls := "com/example/demarcate/demarcate/TransactionDefinitionWithIsolationPinLaw", name := "prop", desc := "(I)Lcom/example/demarcate/demarcate/Propagation;" } : Jvm.MethodName) method_3_code (2 : Nat) (Option.some (Jvm.ClassFile.FieldType.object "com/example/demarcate/demarcate/Propagation"))).before a0 Z = true := hw _ (List.mem_of_getElem? (i := 12) rfl)
theorem w_13 {a0 : Array Value} {Z : State} (hw : ∀ d ∈ tables_1, d.before a0 Z = true) : (Jvm.Cond.fieldLink "com/example/demarcate/demarcate/TransactionDefinitionWithIsolationPinLaw" (35 : Nat) "com/example/demarcate/demarcate/Propagation" "MANDATORY" "Lcom/example/demarcate/demarcate/Propagation;").before a0 Z = true := hw _ (List.mem_of_getElem? (i := 13) rfl)
theorem w_14 {a0 : Array Value} {Z : State} (hw : ∀ d ∈ tables_1, d.before a0 Z = true) : (Jvm.Cond.initialized "com/example/demarcate/demarcate/Propagation").before a0 Z = true := hw _ (List.mem_of_getElem? (i := 14) rfl)
theorem w_15 {a0 : Array Value} {Z : State} (hw : ∀ d ∈ tables_1, d.before a0 Z = true) : (Jvm.Cond.laysStatic "com/example/demarcate/demarcate/Propagation" "MANDATORY" "Lcom/example/demarcate/demarcate/Propagation;").before a0 Z = true := hw _ (List.mem_of_getElem? (i := 15) rfl)
theorem w_16 {a0 : Array Value} {Z : State} (hw : ∀ d ∈ tables_1, d.before a0 Z = true) : (Jvm.Cond.methodLink "com/example/demarcate/demarcate/TransactionDefinitionWithIsolationPinLaw" (60 : Nat) ({ cls := "java/lang/Math", name := "max", desc := "(II)I" } : Jvm.MethodName)).before a0 Z = true := hw _ (List.mem_of_getElem? (i := 16) rfl)
theorem w_17 {a0 : Array Value} {Z : State} (hw : ∀ d ∈ tables_1, d.before a0 Z = true) : (Jvm.Cond.static ({ cls := "java/lang/Math", name := "max", desc := "(II)I" } : Jvm.MethodName)).before a0 Z = true := hw _ (List.mem_of_getElem? (i := 17) rfl)
theorem w_18 {a0 : Array Value} {Z : State} (hw : ∀ d ∈ tables_1, d.before a0 Z = true) : (Jvm.Cond.initialized "java/lang/Math").before a0 Z = true := hw _ (List.mem_of_getElem? (i := 18) rfl)
theorem w_19 {a0 : Array Value} {Z : State} (hw : ∀ d ∈ tables_1, d.before a0 Z = true) : (Jvm.Cond.code ({ cls := "java/lang/Math", name := "max", desc := "(II)I" } : Jvm.MethodName) jdk_29_method_65_code (2 : Nat) (Option.some Jvm.ClassFile.FieldType.int)).before a0 Z = true := hw _ (List.mem_of_getElem? (i := 19) rfl)
theorem w_20 {a0 : Array Value} {Z : State} (hw : ∀ d ∈ tables_1, d.before a0 Z = true) : (Jvm.Cond.classLink "com/example/demarcate/demarcate/TransactionDefinitionWithIsolationPinLaw" (66 : Nat) "com/example/demarcate/demarcate/TransactionDefinition").before a0 Z = true := hw _ (List.mem_of_getElem? (i := 20) rfl)
theorem w_21 {a0 : Array Value} {Z : State} (hw : ∀ d ∈ tables_1, d.before a0 Z = true) : (Jvm.Cond.instantiable "com/example/demarcate/demarcate/TransactionDefinition" (4 : Nat)).before a0 Z = true := hw _ (List.mem_of_getElem? (i := 21) rfl)
theorem w_22 {a0 : Array Value} {Z : State} (hw : ∀ d ∈ tables_1, d.before a0 Z = true) : (Jvm.Cond.initialized "com/example/demarcate/demarcate/TransactionDefinition").before a0 Z = true := hw _ (List.mem_of_getElem? (i := 22) rfl)
theorem w_23 {a0 : Array Value} {Z : State} (hw : ∀ d ∈ tables_1, d.before a0 Z = true) : (Jvm.Cond.methodLink "com/example/demarcate/demarcate/TransactionDefinitionWithIsolationPinLaw" (68 : Nat) ({ cls := "com/example/demarcate/demarcate/TransactionDefinition", name := "<init>", desc := "()V" } : Jvm.MethodName)).before a0 Z = true := hw _ (List.mem_of_getElem? (i := 23) rfl)
theorem w_24 {a0 : Array Value} {Z : State} (hw : ∀ d ∈ tables_1, d.before a0 Z = true) : (Jvm.Cond.instanceMethod ({ cls := "com/example/demarcate/demarcate/TransactionDefinition", name := "<init>", desc := "()V" } : Jvm.MethodName)).before a0 Z = true := hw _ (List.mem_of_getElem? (i := 24) rfl)
theorem w_25 {a0 : Array Value} {Z : State} (hw : ∀ d ∈ tables_1, d.before a0 Z = true) : (Jvm.Cond.code ({ cls := "com/example/demarcate/demarcate/TransactionDefinition", name := "<init>", desc := "()V" } : Jvm.MethodName) prog_19_method_1_code (1 : Nat) (Option.none : Option Jvm.ClassFile.FieldType)).before a0 Z = true := hw _ (List.mem_of_getElem? (i := 25) rfl)
theorem w_26 {a0 : Array Value} {Z : State} (hw : ∀ d ∈ tables_1, d.before a0 Z = true) : (Jvm.Cond.fieldLink "com/example/demarcate/demarcate/TransactionDefinition" (1 : Nat) "com/example/demarcate/demarcate/Propagation" "REQUIRED" "Lcom/example/demarcate/demarcate/Propagation;").before a0 Z = true := hw _ (List.mem_of_getElem? (i := 26) rfl)
theorem w_27 {a0 : Array Value} {Z : State} (hw : ∀ d ∈ tables_1, d.before a0 Z = true) : (Jvm.Cond.laysStatic "com/example/demarcate/demarcate/Propagation" "REQUIRED" "Lcom/example/demarcate/demarcate/Propagation;").before a0 Z = true := hw _ (List.mem_of_getElem? (i := 27) rfl)
theorem w_28 {a0 : Array Value} {Z : State} (hw : ∀ d ∈ tables_1, d.before a0 Z = true) : (Jvm.Cond.fieldLink "com/example/demarcate/demarcate/TransactionDefinition" (7 : Nat) "com/example/demarcate/demarcate/Isolation" "DEFAULT" "Lcom/example/demarcate/demarcate/Isolation;").before a0 Z = true := hw _ (List.mem_of_getElem? (i := 28) rfl)
theorem w_29 {a0 : Array Value} {Z : State} (hw : ∀ d ∈ tables_1, d.before a0 Z = true) : (Jvm.Cond.methodLink "com/example/demarcate/demarcate/TransactionDefinition" (13 : Nat) ({ cls := "java/util/OptionalInt", name := "empty", desc := "()Ljava/util/OptionalInt;" } : Jvm.MethodName)).before a0 Z = true := hw _ (List.mem_of_getElem? (i := 29) rfl)
theorem w_30 {a0 : Array Value} {Z : State} (hw : ∀ d ∈ tables_1, d.before a0 Z = true) : (Jvm.Cond.static ({ cls := "java/util/OptionalInt", name := "empty", desc := "()Ljava/util/OptionalInt;" } : Jvm.MethodName)).before a0 Z = true := hw _ (List.mem_of_getElem? (i := 30) rfl)
theorem w_31 {a0 : Array Value} {Z : State} (hw : ∀ d ∈ tables_1, d.before a0 Z = true) : (Jvm.Cond.initialized "java/util/OptionalInt").before a0 Z = true := hw _ (List.mem_of_getElem? (i := 31) rfl)
theorem w_32 {a0 : Array Value} {Z : State} (hw : ∀ d ∈ tables_1, d.before a0 Z = true) : (Jvm.Cond.code ({ cls := "java/util/OptionalInt", name := "empty", desc := "()Ljava/util/OptionalInt;" } : Jvm.MethodName) jdk_2649_method_2_code (0 : Nat) (Option.some (Jvm.ClassFile.FieldType.object "java/util/OptionalInt"))).before a0 Z = true := hw _ (List.mem_of_getElem? (i := 32) rfl)
theorem w_33 {a0 : Array Value} {Z : State} (hw : ∀ d ∈ tables_1, d.before a0 Z = true) : (Jvm.Cond.fieldLink "java/util/OptionalInt" (17 : Nat) "java/util/OptionalInt" "EMPTY" "Ljava/util/OptionalInt;").before a0 Z = true := hw _ (List.mem_of_getElem? (i := 33) rfl)
theorem w_34 {a0 : Array Value} {Z : State} (hw : ∀ d ∈ tables_1, d.before a0 Z = true) : (Jvm.Cond.methodLink "com/example/demarcate/demarcate/TransactionDefinition" (19 : Nat) ({ cls := "com/example/demarcate/demarcate/TransactionDefinition", name := "<init>", desc := "(Lcom/example/demarcate/demarcate/Propagation;Lcom/example/demarcate/demarcate/Isolation;ZLjava/util/OptionalInt;)V" } : Jvm.MethodName)).before a0 Z = true := hw _ (List.mem_of_getElem? (i := 34) rfl)
theorem w_35 {a0 : Array Value} {Z : State} (hw : ∀ d ∈ tables_1, d.before a0 Z = true) : (Jvm.Cond.instanceMethod ({ cls := "com/example/demarcate/demarcate/TransactionDefinition", name := "<init>", desc := "(Lcom/example/demarcate/demarcate/Propagation;Lcom/example/demarcate/demarcate/Isolation;ZLjava/util/OptionalInt;)V" } : Jvm.MethodName)).before a0 Z = true := hw _ (List.mem_of_getElem? (i := 35) rfl)
theorem w_36 {a0 : Array Value} {Z : State} (hw : ∀ d ∈ tables_1, d.before a0 Z = true) : (Jvm.Cond.code ({ cls := "com/example/demarcate/demarcate/TransactionDefinition", name := "<init>", desc := "(Lcom/example/demarcate/demarcate/Propagation;Lcom/example/demarcate/demarcate/Isolation;ZLjava/util/OptionalInt;)V" } : Jvm.MethodName) prog_19_method_2_code (5 : Nat) (Option.none : Option Jvm.ClassFile.FieldType)).before a0 Z = true := hw _ (List.mem_of_getElem? (i := 36) rfl)
theorem w_37 {a0 : Array Value} {Z : State} (hw : ∀ d ∈ tables_1, d.before a0 Z = true) : (Jvm.Cond.methodLink "com/example/demarcate/demarcate/TransactionDefinition" (25 : Nat) ({ cls := "java/lang/Object", name := "<init>", desc := "()V" } : Jvm.MethodName)).before a0 Z = true := hw _ (List.mem_of_getElem? (i := 37) rfl)
theorem w_38 {a0 : Array Value} {Z : State} (hw : ∀ d ∈ tables_1, d.before a0 Z = true) : (Jvm.Cond.instanceMethod ({ cls := "java/lang/Object", name := "<init>", desc := "()V" } : Jvm.MethodName)).before a0 Z = true := hw _ (List.mem_of_getElem? (i := 38) rfl)
theorem w_39 {a0 : Array Value} {Z : State} (hw : ∀ d ∈ tables_1, d.before a0 Z = true) : (Jvm.Cond.code ({ cls := "java/lang/Object", name := "<init>", desc := "()V" } : Jvm.MethodName) object_method_1_code (1 : Nat) (Option.none : Option Jvm.ClassFile.FieldType)).before a0 Z = true := hw _ (List.mem_of_getElem? (i := 39) rfl)
theorem w_40 {a0 : Array Value} {Z : State} (hw : ∀ d ∈ tables_1, d.before a0 Z = true) : (Jvm.Cond.fieldLink "com/example/demarcate/demarcate/TransactionDefinition" (30 : Nat) "com/example/demarcate/demarcate/TransactionDefinition" "propagation" "Lcom/example/demarcate/demarcate/Propagation;").before a0 Z = true := hw _ (List.mem_of_getElem? (i := 40) rfl)
theorem w_41 {a0 : Array Value} {Z : State} (hw : ∀ d ∈ tables_1, d.before a0 Z = true) : (Jvm.Cond.laysFinal "com/example/demarcate/demarcate/TransactionDefinition" "com/example/demarcate/demarcate/TransactionDefinition" "propagation" "Lcom/example/demarcate/demarcate/Propagation;").before a0 Z = true := hw _ (List.mem_of_getElem? (i := 41) rfl)
theorem w_42 {a0 : Array Value} {Z : State} (hw : ∀ d ∈ tables_1, d.before a0 Z = true) : (Jvm.Cond.fieldLink "com/example/demarcate/demarcate/TransactionDefinition" (33 : Nat) "com/example/demarcate/demarcate/TransactionDefinition" "isolation" "Lcom/example/demarcate/demarcate/Isolation;").before a0 Z = true := hw _ (List.mem_of_getElem? (i := 42) rfl)
theorem w_43 {a0 : Array Value} {Z : State} (hw : ∀ d ∈ tables_1, d.before a0 Z = true) : (Jvm.Cond.laysFinal "com/example/demarcate/demarcate/TransactionDefinition" "com/example/demarcate/demarcate/TransactionDefinition" "isolation" "Lcom/example/demarcate/demarcate/Isolation;").before a0 Z = true := hw _ (List.mem_of_getElem? (i := 43) rfl)
theorem w_44 {a0 : Array Value} {Z : State} (hw : ∀ d ∈ tables_1, d.before a0 Z = true) : (Jvm.Cond.fieldLink "com/example/demarcate/demarcate/TransactionDefinition" (36 : Nat) "com/example/demarcate/demarcate/TransactionDefinition" "readOnly" "Z").before a0 Z = true := hw _ (List.mem_of_getElem? (i := 44) rfl)
theorem w_45 {a0 : Array Value} {Z : State} (hw : ∀ d ∈ tables_1, d.before a0 Z = true) : (Jvm.Cond.laysFinal "com/example/demarcate/demarcate/TransactionDefinition" "com/example/demarcate/demarcate/TransactionDefinition" "readOnly" "Z").before a0 Z = true := hw _ (List.mem_of_getElem? (i := 45) rfl)
theorem w_46 {a0 : Array Value} {Z : State} (hw : ∀ d ∈ tables_1, d.before a0 Z = true) : (Jvm.Cond.fieldLink "com/example/demarcate/demarcate/TransactionDefinition" (40 : Nat) "com/example/demarcate/demarcate/TransactionDefinition" "timeout" "Ljava/util/OptionalInt;").before a0 Z = true := hw _ (List.mem_of_getElem? (i := 46) rfl)
theorem w_47 {a0 : Array Value} {Z : State} (hw : ∀ d ∈ tables_1, d.before a0 Z = true) : (Jvm.Cond.laysFinal "com/example/demarcate/demarcate/TransactionDefinition" "com/example/demarcate/demarcate/TransactionDefinition" "timeout" "Ljava/util/OptionalInt;").before a0 Z = true := hw _ (List.mem_of_getElem? (i := 47) rfl)
theorem w_48 {a0 : Array Value} {Z : State} (hw : ∀ d ∈ tables_1, d.before a0 Z = true) : (Jvm.Cond.methodLink "com/example/demarcate/demarcate/TransactionDefinitionWithIsolationPinLaw" (69 : Nat) ({ cls := "com/example/demarcate/demarcate/TransactionDefinition", name := "withPropagation", desc := "(Lcom/example/demarcate/demarcate/Propagation;)Lcom/example/demarcate/demarcate/TransactionDefinition;" } : Jvm.MethodName)).before a0 Z = true := hw _ (List.mem_of_getElem? (i := 48) rfl)
theorem w_49 {a0 : Array Value} {Z : State} (hw : ∀ d ∈ tables_1, d.before a0 Z = true) : (Jvm.Cond.declares ({ cls := "com/example/demarcate/demarcate/TransactionDefinition", name := "withPropagation", desc := "(Lcom/example/demarcate/demarcate/Propagation;)Lcom/example/demarcate/demarcate/TransactionDefinition;" } : Jvm.MethodName)).before a0 Z = true := hw _ (List.mem_of_getElem? (i := 49) rfl)
theorem w_50 {a0 : Array Value} {Z : State} (hw : ∀ d ∈ tables_1, d.before a0 Z = true) : (Jvm.Cond.instanceMethod ({ cls := "com/example/demarcate/demarcate/TransactionDefinition", name := "withPropagation", desc := "(Lcom/example/demarcate/demarcate/Propagation;)Lcom/example/demarcate/demarcate/TransactionDefinition;" } : Jvm.MethodName)).before a0 Z = true := hw _ (List.mem_of_getElem? (i := 50) rfl)
theorem w_51 {a0 : Array Value} {Z : State} (hw : ∀ d ∈ tables_1, d.before a0 Z = true) : (Jvm.Cond.selects "com/example/demarcate/demarcate/TransactionDefinition" ({ cls := "com/example/demarcate/demarcate/TransactionDefinition", name := "withPropagation", desc := "(Lcom/example/demarcate/demarcate/Propagation;)Lcom/example/demarcate/demarcate/TransactionDefinition;" } : Jvm.MethodName) ({ cls := "com/example/demarcate/demarcate/TransactionDefinition", name := "withPropagation", desc := "(Lcom/example/demarcate/demarcate/Propagation;)Lcom/example/demarcate/demarcate/TransactionDefinition;" } : Jvm.MethodName)).before a0 Z = true := hw _ (List.mem_of_getElem? (i := 51) rfl)
theorem w_52 {a0 : Array Value} {Z : State} (hw : ∀ d ∈ tables_1, d.before a0 Z = true) : (Jvm.Cond.code ({ cls := "com/example/demarcate/demarcate/TransactionDefinition", name := "withPropagation", desc := "(Lcom/example/demarcate/demarcate/Propagation;)Lcom/example/demarcate/demarcate/TransactionDefinition;" } : Jvm.MethodName) prog_19_method_3_code (2 : Nat) (Option.some (Jvm.ClassFile.FieldType.object "com/example/demarcate/demarcate/TransactionDefinition"))).before a0 Z = true := hw _ (List.mem_of_getElem? (i := 52) rfl)
theorem w_53 {a0 : Array Value} {Z : State} (hw : ∀ d ∈ tables_1, d.before a0 Z = true) : (Jvm.Cond.classLink "com/example/demarcate/demarcate/TransactionDefinition" (20 : Nat) "com/example/demarcate/demarcate/TransactionDefinition").before a0 Z = true := hw _ (List.mem_of_getElem? (i := 53) rfl)
theorem w_54 {a0 : Array Value} {Z : State} (hw : ∀ d ∈ tables_1, d.before a0 Z = true) : (Jvm.Cond.stringLink "com/example/demarcate/demarcate/TransactionDefinition" (44 : Nat) "propagation").before a0 Z = true := hw _ (List.mem_of_getElem? (i := 54) rfl)
theorem w_55 {a0 : Array Value} {Z : State} (hw : ∀ d ∈ tables_1, d.before a0 Z = true) : (Jvm.Cond.initialized "java/lang/String").before a0 Z = true := hw _ (List.mem_of_getElem? (i := 55) rfl)
theorem w_56 {a0 : Array Value} {Z : State} (hw : ∀ d ∈ tables_1, d.before a0 Z = true) : (Jvm.Cond.instantiable "java/lang/String" (4 : Nat)).before a0 Z = true := hw _ (List.mem_of_getElem? (i := 56) rfl)
theorem w_57 {a0 : Array Value} {Z : State} (hw : ∀ d ∈ tables_1, d.before a0 Z = true) : (Jvm.Cond.arrayClass Jvm.ClassFile.FieldType.byte).before a0 Z = true := hw _ (List.mem_of_getElem? (i := 57) rfl)
theorem w_58 {a0 : Array Value} {Z : State} (hw : ∀ d ∈ tables_1, d.before a0 Z = true) : (Jvm.Cond.laysFinal "java/lang/String" "java/lang/String" "value" "[B").before a0 Z = true := hw _ (List.mem_of_getElem? (i := 58) rfl)
theorem w_59 {a0 : Array Value} {Z : State} (hw : ∀ d ∈ tables_1, d.before a0 Z = true) : (Jvm.Cond.laysFinal "java/lang/String" "java/lang/String" "coder" "B").before a0 Z = true := hw _ (List.mem_of_getElem? (i := 59) rfl)
theorem w_60 {a0 : Array Value} {Z : State} (hw : ∀ d ∈ tables_1, d.before a0 Z = true) : (Jvm.Cond.soleField "java/lang/String" "value").before a0 Z = true := hw _ (List.mem_of_getElem? (i := 60) rfl)
theorem w_61 {a0 : Array Value} {Z : State} (hw : ∀ d ∈ tables_1, d.before a0 Z = true) : (Jvm.Cond.soleField "java/lang/String" "coder").before a0 Z = true := hw _ (List.mem_of_getElem? (i := 61) rfl)
theorem w_62 {a0 : Array Value} {Z : State} (hw : ∀ d ∈ tables_1, d.before a0 Z = true) : (Jvm.Cond.methodLink "com/example/demarcate/demarcate/TransactionDefinition" (45 : Nat) ({ cls := "java/util/Objects", name := "requireNonNull", desc := "(Ljava/lang/Object;Ljava/lang/String;)Ljava/lang/Object;" } : Jvm.MethodName)).before a0 Z = true := hw _ (List.mem_of_getElem? (i := 62) rfl)
theorem w_63 {a0 : Array Value} {Z : State} (hw : ∀ d ∈ tables_1, d.before a0 Z = true) : (Jvm.Cond.static ({ cls := "java/util/Objects", name := "requireNonNull", desc := "(Ljava/lang/Object;Ljava/lang/String;)Ljava/lang/Object;" } : Jvm.MethodName)).before a0 Z = true := hw _ (List.mem_of_getElem? (i := 63) rfl)
theorem w_64 {a0 : Array Value} {Z : State} (hw : ∀ d ∈ tables_1, d.before a0 Z = true) : (Jvm.Cond.initialized "java/util/Objects").before a0 Z = true := hw _ (List.mem_of_getElem? (i := 64) rfl)
theorem w_65 {a0 : Array Value} {Z : State} (hw : ∀ d ∈ tables_1, d.before a0 Z = true) : (Jvm.Cond.code ({ cls := "java/util/Objects", name := "requireNonNull", desc := "(Ljava/lang/Object;Ljava/lang/String;)Ljava/lang/Object;" } : Jvm.MethodName) jdk_31_method_11_code (2 : Nat) (Option.some (Jvm.ClassFile.FieldType.object "java/lang/Object"))).before a0 Z = true := hw _ (List.mem_of_getElem? (i := 65) rfl)
theorem w_66 {a0 : Array Value} {Z : State} (hw : ∀ d ∈ tables_1, d.before a0 Z = true) : (Jvm.Cond.classLink "com/example/demarcate/demarcate/TransactionDefinition" (2 : Nat) "com/example/demarcate/demarcate/Propagation").before a0 Z = true := hw _ (List.mem_of_getElem? (i := 66) rfl)
theorem w_68 {a0 : Array Value} {Z : State} (hw : ∀ d ∈ tables_1, d.before a0 Z = true) : (Jvm.Cond.methodLink "com/example/demarcate/demarcate/TransactionDefinitionWithIsolationPinLaw" (81 : Nat) ({ cls := "com/example/demarcate/demarcate/TransactionDefinition", name := "withIsolation", desc := "(Lcom/example/demarcate/demarcate/Isolation;)Lcom/example/demarcate/demarcate/TransactionDefinition;" } : Jvm.MethodName)).before a0 Z = true := hw _ (List.mem_of_getElem? (i := 68) rfl)
theorem w_69 {a0 : Array Value} {Z : State} (hw : ∀ d ∈ tables_1, d.before a0 Z = true) : (Jvm.Cond.declares ({ cls := "com/example/demarcate/demarcate/TransactionDefinition", name := "withIsolation", desc := "(Lcom/example/demarcate/demarcate/Isolation;)Lcom/example/demarcate/demarcate/TransactionDefinition;" } : Jvm.MethodName)).before a0 Z = true := hw _ (List.mem_of_getElem? (i := 69) rfl)
theorem w_70 {a0 : Array Value} {Z : State} (hw : ∀ d ∈ tables_1, d.before a0 Z = true) : (Jvm.Cond.instanceMethod ({ cls := "com/example/demarcate/demarcate/TransactionDefinition", name := "withIsolation", desc := "(Lcom/example/demarcate/demarcate/Isolation;)Lcom/example/demarcate/demarcate/TransactionDefinition;" } : Jvm.MethodName)).before a0 Z = true := hw _ (List.mem_of_getElem? (i := 70) rfl)
theorem w_71 {a0 : Array Value} {Z : State} (hw : ∀ d ∈ tables_1, d.before a0 Z = true) : (Jvm.Cond.selects "com/example/demarcate/demarcate/TransactionDefinition" ({ cls := "com/example/demarcate/demarcate/TransactionDefinition", name := "withIsolation", desc := "(Lcom/example/demarcate/demarcate/Isolation;)Lcom/example/demarcate/demarcate/TransactionDefinition;" } : Jvm.MethodName) ({ cls := "com/example/demarcate/demarcate/TransactionDefinition", name := "withIsolation", desc := "(Lcom/example/demarcate/demarcate/Isolation;)Lcom/example/demarcate/demarcate/TransactionDefinition;" } : Jvm.MethodName)).before a0 Z = true := hw _ (List.mem_of_getElem? (i := 71) rfl)
theorem w_72 {a0 : Array Value} {Z : State} (hw : ∀ d ∈ tables_1, d.before a0 Z = true) : (Jvm.Cond.code ({ cls := "com/example/demarcate/demarcate/TransactionDefinition", name := "withIsolation", desc := "(Lcom/example/demarcate/demarcate/Isolation;)Lcom/example/demarcate/demarcate/TransactionDefinition;" } : Jvm.MethodName) prog_19_method_4_code (2 : Nat) (Option.some (Jvm.ClassFile.FieldType.object "com/example/demarcate/demarcate/TransactionDefinition"))).before a0 Z = true := hw _ (List.mem_of_getElem? (i := 72) rfl)
theorem w_73 {a0 : Array Value} {Z : State} (hw : ∀ d ∈ tables_1, d.before a0 Z = true) : (Jvm.Cond.stringLink "com/example/demarcate/demarcate/TransactionDefinition" (51 : Nat) "isolation").before a0 Z = true := hw _ (List.mem_of_getElem? (i := 73) rfl)
theorem w_74 {a0 : Array Value} {Z : State} (hw : ∀ d ∈ tables_1, d.before a0 Z = true) : (Jvm.Cond.classLink "com/example/demarcate/demarcate/TransactionDefinition" (8 : Nat) "com/example/demarcate/demarcate/Isolation").before a0 Z = true := hw _ (List.mem_of_getElem? (i := 74) rfl)
theorem w_76 {a0 : Array Value} {Z : State} (hw : ∀ d ∈ tables_1, d.before a0 Z = true) : (Jvm.Cond.methodLink "com/example/demarcate/demarcate/TransactionDefinitionWithIsolationPinLaw" (85 : Nat) ({ cls := "com/example/demarcate/demarcate/TransactionDefinition", name := "isolation", desc := "()Lcom/example/demarcate/demarcate/Isolation;" } : Jvm.MethodName)).before a0 Z = true := hw _ (List.mem_of_getElem? (i := 76) rfl)
theorem w_77 {a0 : Array Value} {Z : State} (hw : ∀ d ∈ tables_1, d.before a0 Z = true) : (Jvm.Cond.declares ({ cls := "com/example/demarcate/demarcate/TransactionDefinition", name := "isolation", desc := "()Lcom/example/demarcate/demarcate/Isolation;" } : Jvm.MethodName)).before a0 Z = true := hw _ (List.mem_of_getElem? (i := 77) rfl)
theorem w_78 {a0 : Array Value} {Z : State} (hw : ∀ d ∈ tables_1, d.before a0 Z = true) : (Jvm.Cond.instanceMethod ({ cls := "com/example/demarcate/demarcate/TransactionDefinition", name := "isolation", desc := "()Lcom/example/demarcate/demarcate/Isolation;" } : Jvm.MethodName)).before a0 Z = true := hw _ (List.mem_of_getElem? (i := 78) rfl)
theorem w_79 {a0 : Array Value} {Z : State} (hw : ∀ d ∈ tables_1, d.before a0 Z = true) : (Jvm.Cond.selects "com/example/demarcate/demarcate/TransactionDefinition" ({ cls := "com/example/demarcate/demarcate/TransactionDefinition", name := "isolation", desc := "()Lcom/example/demarcate/demarcate/Isolation;" } : Jvm.MethodName) ({ cls := "com/example/demarcate/demarcate/TransactionDefinition", name := "isolation", desc := "()Lcom/example/demarcate/demarcate/Isolation;" } : Jvm.MethodName)).before a0 Z = true := hw _ (List.mem_of_getElem? (i := 79) rfl)
theorem w_80 {a0 : Array Value} {Z : State} (hw : ∀ d ∈ tables_1, d.before a0 Z = true) : (Jvm.Cond.code ({ cls := "com/example/demarcate/demarcate/TransactionDefinition", name := "isolation", desc := "()Lcom/example/demarcate/demarcate/Isolation;" } : Jvm.MethodName) prog_19_method_8_code (1 : Nat) (Option.some (Jvm.ClassFile.FieldType.object "com/example/demarcate/demarcate/Isolation"))).before a0 Z = true := hw _ (List.mem_of_getElem? (i := 80) rfl)
theorem w_81 {a0 : Array Value} {Z : State} (hw : ∀ d ∈ tables_1, d.before a0 Z = true) : (Jvm.Cond.methodLink "com/example/demarcate/demarcate/TransactionDefinitionWithIsolationPinLaw" (89 : Nat) ({ cls := "com/example/demarcate/demarcate/TransactionDefinition", name := "propagation", desc := "()Lcom/example/demarcate/demarcate/Propagation;" } : Jvm.MethodName)).before a0 Z = true := hw _ (List.mem_of_getElem? (i := 81) rfl)
theorem w_82 {a0 : Array Value} {Z : State} (hw : ∀ d ∈ tables_1, d.before a0 Z = true) : (Jvm.Cond.declares ({ cls := "com/example/demarcate/demarcate/TransactionDefinition", name := "propagation", desc := "()Lcom/example/demarcate/demarcate/Propagation;" } : Jvm.MethodName)).before a0 Z = true := hw _ (List.mem_of_getElem? (i := 82) rfl)
theorem w_83 {a0 : Array Value} {Z : State} (hw : ∀ d ∈ tables_1, d.before a0 Z = true) : (Jvm.Cond.instanceMethod ({ cls := "com/example/demarcate/demarcate/TransactionDefinition", name := "propagation", desc := "()Lcom/example/demarcate/demarcate/Propagation;" } : Jvm.MethodName)).before a0 Z = true := hw _ (List.mem_of_getElem? (i := 83) rfl)
theorem w_84 {a0 : Array Value} {Z : State} (hw : ∀ d ∈ tables_1, d.before a0 Z = true) : (Jvm.Cond.selects "com/example/demarcate/demarcate/TransactionDefinition" ({ cls := "com/example/demarcate/demarcate/TransactionDefinition", name := "propagation", desc := "()Lcom/example/demarcate/demarcate/Propagation;" } : Jvm.MethodName) ({ cls := "com/example/demarcate/demarcate/TransactionDefinition", name := "propagation", desc := "()Lcom/example/demarcate/demarcate/Propagation;" } : Jvm.MethodName)).before a0 Z = true := hw _ (List.mem_of_getElem? (i := 84) rfl)
theorem w_85 {a0 : Array Value} {Z : State} (hw : ∀ d ∈ tables_1, d.before a0 Z = true) : (Jvm.Cond.code ({ cls := "com/example/demarcate/demarcate/TransactionDefinition", name := "propagation", desc := "()Lcom/example/demarcate/demarcate/Propagation;" } : Jvm.MethodName) prog_19_method_7_code (1 : Nat) (Option.some (Jvm.ClassFile.FieldType.object "com/example/demarcate/demarcate/Propagation"))).before a0 Z = true := hw _ (List.mem_of_getElem? (i := 85) rfl)
theorem w_86 {a0 : Array Value} {Z : State} (hw : ∀ d ∈ tables_1, d.before a0 Z = true) : (Jvm.Cond.methodLink "com/example/demarcate/demarcate/TransactionDefinitionWithIsolationPinLaw" (93 : Nat) ({ cls := "com/example/demarcate/demarcate/TransactionDefinition", name := "isReadOnly", desc := "()Z" } : Jvm.MethodName)).before a0 Z = true := hw _ (List.mem_of_getElem? (i := 86) rfl)
theorem w_87 {a0 : Array Value} {Z : State} (hw : ∀ d ∈ tables_1, d.before a0 Z = true) : (Jvm.Cond.declares ({ cls := "com/example/demarcate/demarcate/TransactionDefinition", name := "isReadOnly", desc := "()Z" } : Jvm.MethodName)).before a0 Z = true := hw _ (List.mem_of_getElem? (i := 87) rfl)
theorem w_88 {a0 : Array Value} {Z : State} (hw : ∀ d ∈ tables_1, d.before a0 Z = true) : (Jvm.Cond.instanceMethod ({ cls := "com/example/demarcate/demarcate/TransactionDefinition", name := "isReadOnly", desc := "()Z" } : Jvm.MethodName)).before a0 Z = true := hw _ (List.mem_of_getElem? (i := 88) rfl)
theorem w_89 {a0 : Array Value} {Z : State} (hw : ∀ d ∈ tables_1, d.before a0 Z = true) : (Jvm.Cond.selects "com/example/demarcate/demarcate/TransactionDefinition" ({ cls := "com/example/demarcate/demarcate/TransactionDefinition", name := "isReadOnly", desc := "()Z" } : Jvm.MethodName) ({ cls := "com/example/demarcate/demarcate/TransactionDefinition", name := "isReadOnly", desc := "()Z" } : Jvm.MethodName)).before a0 Z = true := hw _ (List.mem_of_getElem? (i := 89) rfl)
theorem w_90 {a0 : Array Value} {Z : State} (hw : ∀ d ∈ tables_1, d.before a0 Z = true) : (Jvm.Cond.code ({ cls := "com/example/demarcate/demarcate/TransactionDefinition", name := "isReadOnly", desc := "()Z" } : Jvm.MethodName) prog_19_method_9_code (1 : Nat) (Option.some Jvm.ClassFile.FieldType.boolean)).before a0 Z = true := hw _ (List.mem_of_getElem? (i := 90) rfl)
theorem w_91 {a0 : Array Value} {Z : State} (hw : ∀ d ∈ tables_1, d.before a0 Z = true) : (Jvm.Cond.methodLink "com/example/demarcate/demarcate/TransactionDefinitionWithIsolationPinLaw" (97 : Nat) ({ cls := "com/example/demarcate/demarcate/TransactionDefinition", name := "timeout", desc := "()Ljava/util/OptionalInt;" } : Jvm.MethodName)).before a0 Z = true := hw _ (List.mem_of_getElem? (i := 91) rfl)
theorem w_92 {a0 : Array Value} {Z : State} (hw : ∀ d ∈ tables_1, d.before a0 Z = true) : (Jvm.Cond.declares ({ cls := "com/example/demarcate/demarcate/TransactionDefinition", name := "timeout", desc := "()Ljava/util/OptionalInt;" } : Jvm.MethodName)).before a0 Z = true := hw _ (List.mem_of_getElem? (i := 92) rfl)
theorem w_93 {a0 : Array Value} {Z : State} (hw : ∀ d ∈ tables_1, d.before a0 Z = true) : (Jvm.Cond.instanceMethod ({ cls := "com/example/demarcate/demarcate/TransactionDefinition", name := "timeout", desc := "()Ljava/util/OptionalInt;" } : Jvm.MethodName)).before a0 Z = true := hw _ (List.mem_of_getElem? (i := 93) rfl)
theorem w_94 {a0 : Array Value} {Z : State} (hw : ∀ d ∈ tables_1, d.before a0 Z = true) : (Jvm.Cond.selects "com/example/demarcate/demarcate/TransactionDefinition" ({ cls := "com/example/demarcate/demarcate/TransactionDefinition", name := "timeout", desc := "()Ljava/util/OptionalInt;" } : Jvm.MethodName) ({ cls := "com/example/demarcate/demarcate/TransactionDefinition", name := "timeout", desc := "()Ljava/util/OptionalInt;" } : Jvm.MethodName)).before a0 Z = true := hw _ (List.mem_of_getElem? (i := 94) rfl)
theorem w_95 {a0 : Array Value} {Z : State} (hw : ∀ d ∈ tables_1, d.before a0 Z = true) : (Jvm.Cond.code ({ cls := "com/example/demarcate/demarcate/TransactionDefinition", name := "timeout", desc := "()Ljava/util/OptionalInt;" } : Jvm.MethodName) prog_19_method_10_code (1 : Nat) (Option.some (Jvm.ClassFile.FieldType.object "java/util/OptionalInt"))).before a0 Z = true := hw _ (List.mem_of_getElem? (i := 95) rfl)
theorem w_96 {a0 : Array Value} {Z : State} (hw : ∀ d ∈ tables_1, d.before a0 Z = true) : (Jvm.Cond.methodLink "com/example/demarcate/demarcate/TransactionDefinitionWithIsolationPinLaw" (101 : Nat) ({ cls := "java/util/OptionalInt", name := "equals", desc := "(Ljava/lang/Object;)Z" } : Jvm.MethodName)).before a0 Z = true := hw _ (List.mem_of_getElem? (i := 96) rfl)
theorem w_97 {a0 : Array Value} {Z : State} (hw : ∀ d ∈ tables_1, d.before a0 Z = true) : (Jvm.Cond.declares ({ cls := "java/util/OptionalInt", name := "equals", desc := "(Ljava/lang/Object;)Z" } : Jvm.MethodName)).before a0 Z = true := hw _ (List.mem_of_getElem? (i := 97) rfl)
theorem w_98 {a0 : Array Value} {Z : State} (hw : ∀ d ∈ tables_1, d.before a0 Z = true) : (Jvm.Cond.instanceMethod ({ cls := "java/util/OptionalInt", name := "equals", desc := "(Ljava/lang/Object;)Z" } : Jvm.MethodName)).before a0 Z = true := hw _ (List.mem_of_getElem? (i := 98) rfl)
theorem w_99 {a0 : Array Value} {Z : State} (hw : ∀ d ∈ tables_1, d.before a0 Z = true) : (Jvm.Cond.selects "java/util/OptionalInt" ({ cls := "java/util/OptionalInt", name := "equals", desc := "(Ljava/lang/Object;)Z" } : Jvm.MethodName) ({ cls := "java/util/OptionalInt", name := "equals", desc := "(Ljava/lang/Object;)Z" } : Jvm.MethodName)).before a0 Z = true := hw _ (List.mem_of_getElem? (i := 99) rfl)
theorem w_100 {a0 : Array Value} {Z : State} (hw : ∀ d ∈ tables_1, d.before a0 Z = true) : (Jvm.Cond.code ({ cls := "java/util/OptionalInt", name := "equals", desc := "(Ljava/lang/Object;)Z" } : Jvm.MethodName) jdk_2649_method_15_code (3 : Nat) (Option.some Jvm.ClassFile.FieldType.boolean)).before a0 Z = true := hw _ (List.mem_of_getElem? (i := 100) rfl)
theorem w_101 {a0 : Array Value} {Z : State} (hw : ∀ d ∈ tables_1, d.before a0 Z = true) : (Jvm.Cond.fieldLink "com/example/demarcate/demarcate/TransactionDefinitionWithIsolationPinLaw" (23 : Nat) "com/example/demarcate/demarcate/Isolation" "SERIALIZABLE" "Lcom/example/demarcate/demarcate/Isolation;").before a0 Z = true := hw _ (List.mem_of_getElem? (i := 101) rfl)
theorem w_102 {a0 : Array Value} {Z : State} (hw : ∀ d ∈ tables_1, d.before a0 Z = true) : (Jvm.Cond.laysStatic "com/example/demarcate/demarcate/Isolation" "SERIALIZABLE" "Lcom/example/demarcate/demarcate/Isolation;").before a0 Z = true := hw _ (List.mem_of_getElem? (i := 102) rfl)
theorem w_103 {a0 : Array Value} {Z : State} (hw : ∀ d ∈ tables_1, d.before a0 Z = true) : (Jvm.Cond.fieldLink "com/example/demarcate/demarcate/TransactionDefinitionWithIsolationPinLaw" (38 : Nat) "com/example/demarcate/demarcate/Propagation" "REQUIRES_NEW" "Lcom/example/demarcate/demarcate/Propagation;").before a0 Z = true := hw _ (List.mem_of_getElem? (i := 103) rfl)
theorem w_104 {a0 : Array Value} {Z : State} (hw : ∀ d ∈ tables_1, d.before a0 Z = true) : (Jvm.Cond.laysStatic "com/example/demarcate/demarcate/Propagation" "REQUIRES_NEW" "Lcom/example/demarcate/demarcate/Propagation;").before a0 Z = true := hw _ (List.mem_of_getElem? (i := 104) rfl)
theorem w_105 {a0 : Array Value} {Z : State} (hw : ∀ d ∈ tables_1, d.before a0 Z = true) : (Jvm.Cond.methodLink "com/example/demarcate/demarcate/TransactionDefinitionWithIsolationPinLaw" (73 : Nat) ({ cls := "com/example/demarcate/demarcate/TransactionDefinition", name := "withReadOnly", desc := "(Z)Lcom/example/demarcate/demarcate/TransactionDefinition;" } : Jvm.MethodName)).before a0 Z = true := hw _ (List.mem_of_getElem? (i := 105) rfl)
theorem w_106 {a0 : Array Value} {Z : State} (hw : ∀ d ∈ tables_1, d.before a0 Z = true) : (Jvm.Cond.declares ({ cls := "com/example/demarcate/demarcate/TransactionDefinition", name := "withReadOnly", desc := "(Z)Lcom/example/demarcate/demarcate/TransactionDefinition;" } : Jvm.MethodName)).before a0 Z = true := hw _ (List.mem_of_getElem? (i := 106) rfl)
theorem w_107 {a0 : Array Value} {Z : State} (hw : ∀ d ∈ tables_1, d.before a0 Z = true) : (Jvm.Cond.instanceMethod ({ cls := "com/example/demarcate/demarcate/TransactionDefinition", name := "withReadOnly", desc := "(Z)Lcom/example/demarcate/demarcate/TransactionDefinition;" } : Jvm.MethodName)).before a0 Z = true := hw _ (List.mem_of_getElem? (i := 107) rfl)
theorem w_108 {a0 : Array Value} {Z : State} (hw : ∀ d ∈ tables_1, d.before a0 Z = true) : (Jvm.Cond.selects "com/example/demarcate/demarcate/TransactionDefinition" ({ cls := "com/example/demarcate/demarcate/TransactionDefinition", name := "withReadOnly", desc := "(Z)Lcom/example/demarcate/demarcate/TransactionDefinition;" } : Jvm.MethodName) ({ cls := "com/example/demarcate/demarcate/TransactionDefinition", name := "withReadOnly", desc := "(Z)Lcom/example/demarcate/demarcate/TransactionDefinition;" } : Jvm.MethodName)).before a0 Z = true := hw _ (List.mem_of_getElem? (i := 108) rfl)
theorem w_109 {a0 : Array Value} {Z : State} (hw : ∀ d ∈ tables_1, d.before a0 Z = true) : (Jvm.Cond.code ({ cls := "com/example/demarcate/demarcate/TransactionDefinition", name := "withReadOnly", desc := "(Z)Lcom/example/demarcate/demarcate/TransactionDefinition;" } : Jvm.MethodName) prog_19_method_5_code (2 : Nat) (Option.some (Jvm.ClassFile.FieldType.object "com/example/demarcate/demarcate/TransactionDefinition"))).before a0 Z = true := hw _ (List.mem_of_getElem? (i := 109) rfl)
theorem w_110 {a0 : Array Value} {Z : State} (hw : ∀ d ∈ tables_1, d.before a0 Z = true) : (Jvm.Cond.methodLink "com/example/demarcate/demarcate/TransactionDefinitionWithIsolationPinLaw" (77 : Nat) ({ cls := "com/example/demarcate/demarcate/TransactionDefinition", name := "withTimeout", desc := "(I)Lcom/example/demarcate/demarcate/TransactionDefinition;" } : Jvm.MethodName)).before a0 Z = true := hw _ (List.mem_of_getElem? (i := 110) rfl)
theorem w_111 {a0 : Array Value} {Z : State} (hw : ∀ d ∈ tables_1, d.before a0 Z = true) : (Jvm.Cond.declares ({ cls := "com/example/demarcate/demarcate/TransactionDefinition", name := "withTimeout", desc := "(I)Lcom/example/demarcate/demarcate/TransactionDefinition;" } : Jvm.MethodName)).before a0 Z = true := hw _ (List.mem_of_getElem? (i := 111) rfl)
theorem w_112 {a0 : Array Value} {Z : State} (hw : ∀ d ∈ tables_1, d.before a0 Z = true) : (Jvm.Cond.instanceMethod ({ cls := "com/example/demarcate/demarcate/TransactionDefinition", name := "withTimeout", desc := "(I)Lcom/example/demarcate/demarcate/TransactionDefinition;" } : Jvm.MethodName)).before a0 Z = true := hw _ (List.mem_of_getElem? (i := 112) rfl)
theorem w_113 {a0 : Array Value} {Z : State} (hw : ∀ d ∈ tables_1, d.before a0 Z = true) : (Jvm.Cond.selects "com/example/demarcate/demarcate/TransactionDefinition" ({ cls := "com/example/demarcate/demarcate/TransactionDefinition", name := "withTimeout", desc := "(I)Lcom/example/demarcate/demarcate/TransactionDefinition;" } : Jvm.MethodName) ({ cls := "com/example/demarcate/demarcate/TransactionDefinition", name := "withTimeout", desc := "(I)Lcom/example/demarcate/demarcate/TransactionDefinition;" } : Jvm.MethodName)).before a0 Z = true := hw _ (List.mem_of_getElem? (i := 113) rfl)
theorem w_114 {a0 : Array Value} {Z : State} (hw : ∀ d ∈ tables_1, d.before a0 Z = true) : (Jvm.Cond.code ({ cls := "com/example/demarcate/demarcate/TransactionDefinition", name := "withTimeout", desc := "(I)Lcom/example/demarcate/demarcate/TransactionDefinition;" } : Jvm.MethodName) prog_19_method_6_code (2 : Nat) (Option.some (Jvm.ClassFile.FieldType.object "com/example/demarcate/demarcate/TransactionDefinition"))).before a0 Z = true := hw _ (List.mem_of_getElem? (i := 114) rfl)
theorem w_115 {a0 : Array Value} {Z : State} (hw : ∀ d ∈ tables_1, d.before a0 Z = true) : (Jvm.Cond.methodLink "com/example/demarcate/demarcate/TransactionDefinition" (61 : Nat) ({ cls := "java/util/OptionalInt", name := "of", desc := "(I)Ljava/util/OptionalInt;" } : Jvm.MethodName)).before a0 Z = true := hw _ (List.mem_of_getElem? (i := 115) rfl)
theorem w_116 {a0 : Array Value} {Z : State} (hw : ∀ d ∈ tables_1, d.before a0 Z = true) : (Jvm.Cond.static ({ cls := "java/util/OptionalInt", name := "of", desc := "(I)Ljava/util/OptionalInt;" } : Jvm.MethodName)).before a0 Z = true := hw _ (List.mem_of_getElem? (i := 116) rfl)
theorem w_117 {a0 : Array Value} {Z : State} (hw : ∀ d ∈ tables_1, d.before a0 Z = true) : (Jvm.Cond.code ({ cls := "java/util/OptionalInt", name := "of", desc := "(I)Ljava/util/OptionalInt;" } : Jvm.MethodName) jdk_2649_method_4_code (1 : Nat) (Option.some (Jvm.ClassFile.FieldType.object "java/util/OptionalInt"))).before a0 Z = true := hw _ (List.mem_of_getElem? (i := 117) rfl)
theorem w_118 {a0 : Array Value} {Z : State} (hw : ∀ d ∈ tables_1, d.before a0 Z = true) : (Jvm.Cond.classLink "java/util/OptionalInt" (8 : Nat) "java/util/OptionalInt").before a0 Z = true := hw _ (List.mem_of_getElem? (i := 118) rfl)
theorem w_119 {a0 : Array Value} {Z : State} (hw : ∀ d ∈ tables_1, d.before a0 Z = true) : (Jvm.Cond.instantiable "java/util/OptionalInt" (2 : Nat)).before a0 Z = true := hw _ (List.mem_of_getElem? (i := 119) rfl)
theorem w_120 {a0 : Array Value} {Z : State} (hw : ∀ d ∈ tables_1, d.before a0 Z = true) : (Jvm.Cond.methodLink "java/util/OptionalInt" (21 : Nat) ({ cls := "java/util/OptionalInt", name := "<init>", desc := "(I)V" } : Jvm.MethodName)).before a0 Z = true := hw _ (List.mem_of_getElem? (i := 120) rfl)
theorem w_121 {a0 : Array Value} {Z : State} (hw : ∀ d ∈ tables_1, d.before a0 Z = true) : (Jvm.Cond.instanceMethod ({ cls := "java/util/OptionalInt", name := "<init>", desc := "(I)V" } : Jvm.MethodName)).before a0 Z = true := hw _ (List.mem_of_getElem? (i := 121) rfl)
theorem w_123 {a0 : Array Value} {Z : State} (hw : ∀ d ∈ tables_1, d.before a0 Z = true) : (Jvm.Cond.code ({ cls := "java/util/OptionalInt", name := "<init>", desc := "(I)V" } : Jvm.MethodName) jdk_2649_method_3_code (2 : Nat) (Option.none : Option Jvm.ClassFile.FieldType)).before a0 Z = true := hw _ (List.mem_of_getElem? (i := 123) rfl)
theorem w_124 {a0 : Array Value} {Z : State} (hw : ∀ d ∈ tables_1, d.before a0 Z = true) : (Jvm.Cond.methodLink "java/util/OptionalInt" (1 : Nat) ({ cls := "java/lang/Object", name := "<init>", desc := "()V" } : Jvm.MethodName)).before a0 Z = true := hw _ (List.mem_of_getElem? (i := 124) rfl)
theorem w_125 {a0 : Array Value} {Z : State} (hw : ∀ d ∈ tables_1, d.before a0 Z = true) : (Jvm.Cond.fieldLink "java/util/OptionalInt" (7 : Nat) "java/util/OptionalInt" "isPresent" "Z").before a0 Z = true := hw _ (List.mem_of_getElem? (i := 125) rfl)
theorem w_126 {a0 : Array Value} {Z : State} (hw : ∀ d ∈ tables_1, d.before a0 Z = true) : (Jvm.Cond.laysFinal "java/util/OptionalInt" "java/util/OptionalInt" "isPresent" "Z").before a0 Z = true := hw _ (List.mem_of_getElem? (i := 126) rfl)
theorem w_127 {a0 : Array Value} {Z : State} (hw : ∀ d ∈ tables_1, d.before a0 Z = true) : (Jvm.Cond.fieldLink "java/util/OptionalInt" (13 : Nat) "java/util/OptionalInt" "value" "I").before a0 Z = true := hw _ (List.mem_of_getElem? (i := 127) rfl)
theorem w_128 {a0 : Array Value} {Z : State} (hw : ∀ d ∈ tables_1, d.before a0 Z = true) : (Jvm.Cond.laysFinal "java/util/OptionalInt" "java/util/OptionalInt" "value" "I").before a0 Z = true := hw _ (List.mem_of_getElem? (i := 128) rfl)
theorem w_129 {a0 : Array Value} {Z : State} (hw : ∀ d ∈ tables_1, d.before a0 Z = true) : (Jvm.Cond.fieldLink "com/example/demarcate/demarcate/TransactionDefinitionWithIsolationPinLaw" (17 : Nat) "com/example/demarcate/demarcate/Isolation" "READ_COMMITTED" "Lcom/example/demarcate/demarcate/Isolation;").before a0 Z = true := hw _ (List.mem_of_getElem? (i := 129) rfl)
theorem w_130 {a0 : Array Value} {Z : State} (hw : ∀ d ∈ tables_1, d.before a0 Z = true) : (Jvm.Cond.laysStatic "com/example/demarcate/demarcate/Isolation" "READ_COMMITTED" "Lcom/example/demarcate/demarcate/Isolation;").before a0 Z = true := hw _ (List.mem_of_getElem? (i := 130) rfl)
theorem w_131 {a0 : Array Value} {Z : State} (hw : ∀ d ∈ tables_1, d.before a0 Z = true) : (Jvm.Cond.fieldLink "com/example/demarcate/demarcate/TransactionDefinitionWithIsolationPinLaw" (14 : Nat) "com/example/demarcate/demarcate/Isolation" "READ_UNCOMMITTED" "Lcom/example/demarcate/demarcate/Isolation;").before a0 Z = true := hw _ (List.mem_of_getElem? (i := 131) rfl)
theorem w_132 {a0 : Array Value} {Z : State} (hw : ∀ d ∈ tables_1, d.before a0 Z = true) : (Jvm.Cond.laysStatic "com/example/demarcate/demarcate/Isolation" "READ_UNCOMMITTED" "Lcom/example/demarcate/demarcate/Isolation;").before a0 Z = true := hw _ (List.mem_of_getElem? (i := 132) rfl)
theorem w_133 {a0 : Array Value} {Z : State} (hw : ∀ d ∈ tables_1, d.before a0 Z = true) : (Jvm.Cond.fieldLink "com/example/demarcate/demarcate/TransactionDefinitionWithIsolationPinLaw" (44 : Nat) "com/example/demarcate/demarcate/Propagation" "NEVER" "Lcom/example/demarcate/demarcate/Propagation;").before a0 Z = true := hw _ (List.mem_of_getElem? (i := 133) rfl)
theorem w_134 {a0 : Array Value} {Z : State} (hw : ∀ d ∈ tables_1, d.before a0 Z = true) : (Jvm.Cond.laysStatic "com/example/demarcate/demarcate/Propagation" "NEVER" "Lcom/example/demarcate/demarcate/Propagation;").before a0 Z = true := hw _ (List.mem_of_getElem? (i := 134) rfl)
theorem w_135 {a0 : Array Value} {Z : State} (hw : ∀ d ∈ tables_1, d.before a0 Z = true) : (Jvm.Cond.fieldLink "com/example/demarcate/demarcate/TransactionDefinitionWithIsolationPinLaw" (26 : Nat) "com/example/demarcate/demarcate/Propagation" "REQUIRED" "Lcom/example/demarcate/demarcate/Propagation;").before a0 Z = true := hw _ (List.mem_of_getElem? (i := 135) rfl)
theorem w_136 {a0 : Array Value} {Z : State} (hw : ∀ d ∈ tables_1, d.before a0 Z = true) : (Jvm.Cond.fieldLink "com/example/demarcate/demarcate/TransactionDefinitionWithIsolationPinLaw" (41 : Nat) "com/example/demarcate/demarcate/Propagation" "NOT_SUPPORTED" "Lcom/example/demarcate/demarcate/Propagation;").before a0 Z = true := hw _ (List.mem_of_getElem? (i := 136) rfl)
theorem w_137 {a0 : Array Value} {Z : State} (hw : ∀ d ∈ tables_1, d.before a0 Z = true) : (Jvm.Cond.laysStatic "com/example/demarcate/demarcate/Propagation" "NOT_SUPPORTED" "Lcom/example/demarcate/demarcate/Propagation;").before a0 Z = true := hw _ (List.mem_of_getElem? (i := 137) rfl)
theorem w_138 {a0 : Array Value} {Z : State} (hw : ∀ d ∈ tables_1, d.before a0 Z = true) : (Jvm.Cond.fieldLink "com/example/demarcate/demarcate/TransactionDefinitionWithIsolationPinLaw" (32 : Nat) "com/example/demarcate/demarcate/Propagation" "SUPPORTS" "Lcom/example/demarcate/demarcate/Propagation;").before a0 Z = true := hw _ (List.mem_of_getElem? (i := 138) rfl)
theorem w_139 {a0 : Array Value} {Z : State} (hw : ∀ d ∈ tables_1, d.before a0 Z = true) : (Jvm.Cond.laysStatic "com/example/demarcate/demarcate/Propagation" "SUPPORTS" "Lcom/example/demarcate/demarcate/Propagation;").before a0 Z = true := hw _ (List.mem_of_getElem? (i := 139) rfl)
theorem w_140 {a0 : Array Value} {Z : State} (hw : ∀ d ∈ tables_1, d.before a0 Z = true) : (Jvm.Cond.fieldLink "com/example/demarcate/demarcate/TransactionDefinitionWithIsolationPinLaw" (47 : Nat) "com/example/demarcate/demarcate/Propagation" "NESTED" "Lcom/example/demarcate/demarcate/Propagation;").before a0 Z = true := hw _ (List.mem_of_getElem? (i := 140) rfl)
theorem w_141 {a0 : Array Value} {Z : State} (hw : ∀ d ∈ tables_1, d.before a0 Z = true) : (Jvm.Cond.laysStatic "com/example/demarcate/demarcate/Propagation" "NESTED" "Lcom/example/demarcate/demarcate/Propagation;").before a0 Z = true := hw _ (List.mem_of_getElem? (i := 141) rfl)
theorem d1_0 : decode method_2_code 0 = .ok (.iload_n 0, 1) := by decide +kernel
theorem d1_1 : decode method_2_code 1 = .ok (.ldc 7, 2) := by decide +kernel
theorem d1_3 : decode method_2_code 3 = .ok (.iand, 1) := by decide +kernel
theorem d1_4 : decode method_2_code 4 = .ok (.iconst 5, 1) := by decide +kernel
theorem d1_5 : decode method_2_code 5 = .ok (.irem, 1) := by decide +kernel
theorem d1_6 : decode method_2_code 6 = .ok (.istore_n 1, 1) := by decide +kernel
theorem d1_7 : decode method_2_code 7 = .ok (.iload_n 1, 1) := by decide +kernel
theorem d1_8 : decode method_2_code 8 = .ok (.ifCond .ne 7, 3) := by decide +kernel
theorem d1_11 : decode method_2_code 11 = .ok (.getstatic 8, 3) := by decide +kernel
theorem d1_14 : decode method_2_code 14 = .ok (.areturn, 1) := by decide +kernel
theorem d1_15 : decode method_2_code 15 = .ok (.iload_n 1, 1) := by decide +kernel
theorem d1_16 : decode method_2_code 16 = .ok (.iconst 1, 1) := by decide +kernel
theorem d1_17 : decode method_2_code 17 = .ok (.if_icmp .ne 7, 3) := by decide +kernel
theorem d1_20 : decode method_2_code 20 = .ok (.getstatic 14, 3) := by decide +kernel
theorem d1_23 : decode method_2_code 23 = .ok (.areturn, 1) := by decide +kernel
theorem d1_24 : decode method_2_code 24 = .ok (.iload_n 1, 1) := by decide +kernel
theorem d1_25 : decode method_2_code 25 = .ok (.iconst 2, 1) := by decide +kernel
theorem d1_26 : decode method_2_code 26 = .ok (.if_icmp .ne 7, 3) := by decide +kernel
theorem d1_29 : decode method_2_code 29 = .ok (.getstatic 17, 3) := by decide +kernel
theorem d1_32 : decode method_2_code 32 = .ok (.areturn, 1) := by decide +kernel
theorem d1_33 : decode method_2_code 33 = .ok (.iload_n 1, 1) := by decide +kernel
theorem d1_34 : decode method_2_code 34 = .ok (.iconst 3, 1) := by decide +kernel
theorem d1_35 : decode method_2_code 35 = .ok (.if_icmp .ne 7, 3) := by decide +kernel
theorem d1_38 : decode method_2_code 38 = .ok (.getstatic 20, 3) := by decide +kernel
theorem d1_41 : decode method_2_code 41 = .ok (.areturn, 1) := by decide +kernel
theorem d1_42 : decode method_2_code 42 = .ok (.getstatic 23, 3) := by decide +kernel
theorem d1_45 : decode method_2_code 45 = .ok (.areturn, 1) := by decide +kernel
theorem d2_0 : decode method_3_code 0 = .ok (.iload_n 0, 1) := by decide +kernel
theorem d2_1 : decode method_3_code 1 = .ok (.ldc 7, 2) := by decide +kernel
theorem d2_3 : decode method_3_code 3 = .ok (.iand, 1) := by decide +kernel
theorem d2_4 : decode method_3_code 4 = .ok (.bipush 7, 2) := by decide +kernel
theorem d2_6 : decode method_3_code 6 = .ok (.irem, 1) := by decide +kernel
theorem d2_7 : decode method_3_code 7 = .ok (.istore_n 1, 1) := by decide +kernel
theorem d2_8 : decode method_3_code 8 = .ok (.iload_n 1, 1) := by decide +kernel
theorem d2_9 : decode method_3_code 9 = .ok (.ifCond .ne 7, 3) := by decide +kernel
theorem d2_12 : decode method_3_code 12 = .ok (.getstatic 26, 3) := by decide +kernel
theorem d2_15 : decode method_3_code 15 = .ok (.areturn, 1) := by decide +kernel
theorem d2_16 : decode method_3_code 16 = .ok (.iload_n 1, 1) := by decide +kernel
theorem d2_17 : decode method_3_code 17 = .ok (.iconst 1, 1) := by decide +kernel
theorem d2_18 : decode method_3_code 18 = .ok (.if_icmp .ne 7, 3) := by decide +kernel
theorem d2_21 : decode method_3_code 21 = .ok (.getstatic 32, 3) := by decide +kernel
theorem d2_24 : decode method_3_code 24 = .ok (.areturn, 1) := by decide +kernel
theorem d2_25 : decode method_3_code 25 = .ok (.iload_n 1, 1) := by decide +kernel
theorem d2_26 : decode method_3_code 26 = .ok (.iconst 2, 1) := by decide +kernel
theorem d2_27 : decode method_3_code 27 = .ok (.if_icmp .ne 7, 3) := by decide +kernel
theorem d2_30 : decode method_3_code 30 = .ok (.getstatic 35, 3) := by decide +kernel
theorem d2_33 : decode method_3_code 33 = .ok (.areturn, 1) := by decide +kernel
theorem d2_34 : decode method_3_code 34 = .ok (.iload_n 1, 1) := by decide +kernel
theorem d2_35 : decode method_3_code 35 = .ok (.iconst 3, 1) := by decide +kernel
theorem d2_36 : decode method_3_code 36 = .ok (.if_icmp .ne 7, 3) := by decide +kernel
theorem d2_39 : decode method_3_code 39 = .ok (.getstatic 38, 3) := by decide +kernel
theorem d2_42 : decode method_3_code 42 = .ok (.areturn, 1) := by decide +kernel
theorem d2_43 : decode method_3_code 43 = .ok (.iload_n 1, 1) := by decide +kernel
theorem d2_44 : decode method_3_code 44 = .ok (.iconst 4, 1) := by decide +kernel
theorem d2_45 : decode method_3_code 45 = .ok (.if_icmp .ne 7, 3) := by decide +kernel
theorem d2_48 : decode method_3_code 48 = .ok (.getstatic 41, 3) := by decide +kernel
theorem d2_51 : decode method_3_code 51 = .ok (.areturn, 1) := by decide +kernel
theorem d2_52 : decode method_3_code 52 = .ok (.iload_n 1, 1) := by decide +kernel
theorem d2_53 : decode method_3_code 53 = .ok (.iconst 5, 1) := by decide +kernel
theorem d2_54 : decode method_3_code 54 = .ok (.if_icmp .ne 7, 3) := by decide +kernel
theorem d2_57 : decode method_3_code 57 = .ok (.getstatic 44, 3) := by decide +kernel
theorem d2_60 : decode method_3_code 60 = .ok (.areturn, 1) := by decide +kernel
theorem d2_61 : decode method_3_code 61 = .ok (.getstatic 47, 3) := by decide +kernel
theorem d2_64 : decode method_3_code 64 = .ok (.areturn, 1) := by decide +kernel
theorem d3_0 : decode jdk_29_method_65_code 0 = .ok (.iload_n 0, 1) := by decide +kernel
theorem d3_1 : decode jdk_29_method_65_code 1 = .ok (.iload_n 1, 1) := by decide +kernel
theorem d3_2 : decode jdk_29_method_65_code 2 = .ok (.if_icmp .lt 7, 3) := by decide +kernel
theorem d3_5 : decode jdk_29_method_65_code 5 = .ok (.iload_n 0, 1) := by decide +kernel
theorem d3_6 : decode jdk_29_method_65_code 6 = .ok (.goto 4, 3) := by decide +kernel
theorem d3_9 : decode jdk_29_method_65_code 9 = .ok (.iload_n 1, 1) := by decide +kernel
theorem d3_10 : decode jdk_29_method_65_code 10 = .ok (.ireturn, 1) := by decide +kernel
theorem d4_0 : decode prog_19_method_1_code 0 = .ok (.aload_n 0, 1) := by decide +kernel
theorem d4_1 : decode prog_19_method_1_code 1 = .ok (.getstatic 1, 3) := by decide +kernel
theorem d4_4 : decode prog_19_method_1_code 4 = .ok (.getstatic 7, 3) := by decide +kernel
theorem d4_7 : decode prog_19_method_1_code 7 = .ok (.iconst 0, 1) := by decide +kernel
theorem d4_8 : decode prog_19_method_1_code 8 = .ok (.invokestatic 13, 3) := by decide +kernel
theorem d4_11 : decode prog_19_method_1_code 11 = .ok (.invokespecial 19, 3) := by decide +kernel
theorem d4_14 : decode prog_19_method_1_code 14 = .ok (.return_, 1) := by decide +kernel
theorem d5_0 : decode jdk_2649_method_2_code 0 = .ok (.getstatic 17, 3) := by decide +kernel
theorem d5_3 : decode jdk_2649_method_2_code 3 = .ok (.areturn, 1) := by decide +kernel
theorem d6_0 : decode prog_19_method_2_code 0 = .ok (.aload_n 0, 1) := by decide +kernel
theorem d6_1 : decode prog_19_method_2_code 1 = .ok (.invokespecial 25, 3) := by decide +kernel
theorem d6_4 : decode prog_19_method_2_code 4 = .ok (.aload_n 0, 1) := by decide +kernel
theorem d6_5 : decode prog_19_method_2_code 5 = .ok (.aload_n 1, 1) := by decide +kernel
theorem d6_6 : decode prog_19_method_2_code 6 = .ok (.putfield 30, 3) := by decide +kernel
theorem d6_9 : decode prog_19_method_2_code 9 = .ok (.aload_n 0, 1) := by decide +kernel
theorem d6_10 : decode prog_19_method_2_code 10 = .ok (.aload_n 2, 1) := by decide +kernel
theorem d6_11 : decode prog_19_method_2_code 11 = .ok (.putfield 33, 3) := by decide +kernel
theorem d6_14 : decode prog_19_method_2_code 14 = .ok (.aload_n 0, 1) := by decide +kernel
theorem d6_15 : decode prog_19_method_2_code 15 = .ok (.iload_n 3, 1) := by decide +kernel
theorem d6_16 : decode prog_19_method_2_code 16 = .ok (.putfield 36, 3) := by decide +kernel
theorem d6_19 : decode prog_19_method_2_code 19 = .ok (.aload_n 0, 1) := by decide +kernel
theorem d6_20 : decode prog_19_method_2_code 20 = .ok (.aload 4, 2) := by decide +kernel
theorem d6_22 : decode prog_19_method_2_code 22 = .ok (.putfield 40, 3) := by decide +kernel
theorem d6_25 : decode prog_19_method_2_code 25 = .ok (.return_, 1) := by decide +kernel
theorem d8_0 : decode prog_19_method_3_code 0 = .ok (.new 20, 3) := by decide +kernel
theorem d8_3 : decode prog_19_method_3_code 3 = .ok (.dup, 1) := by decide +kernel
theorem d8_4 : decode prog_19_method_3_code 4 = .ok (.aload_n 1, 1) := by decide +kernel
theorem d8_5 : decode prog_19_method_3_code 5 = .ok (.ldc 44, 2) := by decide +kernel
theorem d8_7 : decode prog_19_method_3_code 7 = .ok (.invokestatic 45, 3) := by decide +kernel
theorem d8_10 : decode prog_19_method_3_code 10 = .ok (.checkcast 2, 3) := by decide +kernel
theorem d8_13 : decode prog_19_method_3_code 13 = .ok (.aload_n 0, 1) := by decide +kernel
theorem d8_14 : decode prog_19_method_3_code 14 = .ok (.getfield 33, 3) := by decide +kernel
theorem d8_17 : decode prog_19_method_3_code 17 = .ok (.aload_n 0, 1) := by decide +kernel
theorem d8_18 : decode prog_19_method_3_code 18 = .ok (.getfield 36, 3) := by decide +kernel
theorem d8_21 : decode prog_19_method_3_code 21 = .ok (.aload_n 0, 1) := by decide +kernel
theorem d8_22 : decode prog_19_method_3_code 22 = .ok (.getfield 40, 3) := by decide +kernel
theorem d8_25 : decode prog_19_method_3_code 25 = .ok (.invokespecial 19, 3) := by decide +kernel
theorem d8_28 : decode prog_19_method_3_code 28 = .ok (.areturn, 1) := by decide +kernel
theorem d9_0 : decode jdk_31_method_11_code 0 = .ok (.aload_n 0, 1) := by decide +kernel
theorem d9_1 : decode jdk_31_method_11_code 1 = .ok (.ifnonnull 12, 3) := by decide +kernel
theorem d9_13 : decode jdk_31_method_11_code 13 = .ok (.aload_n 0, 1) := by decide +kernel
theorem d9_14 : decode jdk_31_method_11_code 14 = .ok (.areturn, 1) := by decide +kernel
theorem d10_0 : decode prog_19_method_4_code 0 = .ok (.new 20, 3) := by decide +kernel
theorem d10_3 : decode prog_19_method_4_code 3 = .ok (.dup, 1) := by decide +kernel
theorem d10_4 : decode prog_19_method_4_code 4 = .ok (.aload_n 0, 1) := by decide +kernel
theorem d10_5 : decode prog_19_method_4_code 5 = .ok (.getfield 30, 3) := by decide +kernel
theorem d10_8 : decode prog_19_method_4_code 8 = .ok (.aload_n 1, 1) := by decide +kernel
theorem d10_9 : decode prog_19_method_4_code 9 = .ok (.ldc 51, 2) := by decide +kernel
theorem d10_11 : decode prog_19_method_4_code 11 = .ok (.invokestatic 45, 3) := by decide +kernel
theorem d10_14 : decode prog_19_method_4_code 14 = .ok (.checkcast 8, 3) := by decide +kernel
theorem d10_17 : decode prog_19_method_4_code 17 = .ok (.aload_n 0, 1) := by decide +kernel
theorem d10_18 : decode prog_19_method_4_code 18 = .ok (.getfield 36, 3) := by decide +kernel
theorem d10_21 : decode prog_19_method_4_code 21 = .ok (.aload_n 0, 1) := by decide +kernel
theorem d10_22 : decode prog_19_method_4_code 22 = .ok (.getfield 40, 3) := by decide +kernel
theorem d10_25 : decode prog_19_method_4_code 25 = .ok (.invokespecial 19, 3) := by decide +kernel
theorem d10_28 : decode prog_19_method_4_code 28 = .ok (.areturn, 1) := by decide +kernel
theorem d11_0 : decode prog_19_method_8_code 0 = .ok (.aload_n 0, 1) := by decide +kernel
theorem d11_1 : decode prog_19_method_8_code 1 = .ok (.getfield 33, 3) := by decide +kernel
theorem d11_4 : decode prog_19_method_8_code 4 = .ok (.areturn, 1) := by decide +kernel
theorem d12_0 : decode prog_19_method_7_code 0 = .ok (.aload_n 0, 1) := by decide +kernel
theorem d12_1 : decode prog_19_method_7_code 1 = .ok (.getfield 30, 3) := by decide +kernel
theorem d12_4 : decode prog_19_method_7_code 4 = .ok (.areturn, 1) := by decide +kernel
theorem d13_0 : decode prog_19_method_9_code 0 = .ok (.aload_n 0, 1) := by decide +kernel
theorem d13_1 : decode prog_19_method_9_code 1 = .ok (.getfield 36, 3) := by decide +kernel
theorem d13_4 : decode prog_19_method_9_code 4 = .ok (.ireturn, 1) := by decide +kernel
theorem d14_0 : decode prog_19_method_10_code 0 = .ok (.aload_n 0, 1) := by decide +kernel
theorem d14_1 : decode prog_19_method_10_code 1 = .ok (.getfield 40, 3) := by decide +kernel
theorem d14_4 : decode prog_19_method_10_code 4 = .ok (.areturn, 1) := by decide +kernel
theorem d15_0 : decode jdk_2649_method_15_code 0 = .ok (.aload_n 0, 1) := by decide +kernel
theorem d15_1 : decode jdk_2649_method_15_code 1 = .ok (.aload_n 1, 1) := by decide +kernel
theorem d15_2 : decode jdk_2649_method_15_code 2 = .ok (.if_acmp .ne 5, 3) := by decide +kernel
theorem d15_5 : decode jdk_2649_method_15_code 5 = .ok (.iconst 1, 1) := by decide +kernel
theorem d15_6 : decode jdk_2649_method_15_code 6 = .ok (.ireturn, 1) := by decide +kernel
theorem d16_0 : decode prog_19_method_5_code 0 = .ok (.new 20, 3) := by decide +kernel
theorem d16_3 : decode prog_19_method_5_code 3 = .ok (.dup, 1) := by decide +kernel
theorem d16_4 : decode prog_19_method_5_code 4 = .ok (.aload_n 0, 1) := by decide +kernel
theorem d16_5 : decode prog_19_method_5_code 5 = .ok (.getfield 30, 3) := by decide +kernel
theorem d16_8 : decode prog_19_method_5_code 8 = .ok (.aload_n 0, 1) := by decide +kernel
theorem d16_9 : decode prog_19_method_5_code 9 = .ok (.getfield 33, 3) := by decide +kernel
theorem d16_12 : decode prog_19_method_5_code 12 = .ok (.iload_n 1, 1) := by decide +kernel
theorem d16_13 : decode prog_19_method_5_code 13 = .ok (.aload_n 0, 1) := by decide +kernel
theorem d16_14 : decode prog_19_method_5_code 14 = .ok (.getfield 40, 3) := by decide +kernel
theorem d16_17 : decode prog_19_method_5_code 17 = .ok (.invokespecial 19, 3) := by decide +kernel
theorem d16_20 : decode prog_19_method_5_code 20 = .ok (.areturn, 1) := by decide +kernel
theorem d17_0 : decode prog_19_method_6_code 0 = .ok (.iload_n 1, 1) := by decide +kernel
theorem d17_1 : decode prog_19_method_6_code 1 = .ok (.iconst 1, 1) := by decide +kernel
theorem d17_2 : decode prog_19_method_6_code 2 = .ok (.if_icmp .ge 17, 3) := by decide +kernel
theorem d17_19 : decode prog_19_method_6_code 19 = .ok (.new 20, 3) := by decide +kernel
theorem d17_22 : decode prog_19_method_6_code 22 = .ok (.dup, 1) := by decide +kernel
theorem d17_23 : decode prog_19_method_6_code 23 = .ok (.aload_n 0, 1) := by decide +kernel
theorem d17_24 : decode prog_19_method_6_code 24 = .ok (.getfield 30, 3) := by decide +kernel
theorem d17_27 : decode prog_19_method_6_code 27 = .ok (.aload_n 0, 1) := by decide +kernel
theorem d17_28 : decode prog_19_method_6_code 28 = .ok (.getfield 33, 3) := by decide +kernel
theorem d17_31 : decode prog_19_method_6_code 31 = .ok (.aload_n 0, 1) := by decide +kernel
theorem d17_32 : decode prog_19_method_6_code 32 = .ok (.getfield 36, 3) := by decide +kernel
theorem d17_35 : decode prog_19_method_6_code 35 = .ok (.iload_n 1, 1) := by decide +kernel
theorem d17_36 : decode prog_19_method_6_code 36 = .ok (.invokestatic 61, 3) := by decide +kernel
theorem d17_39 : decode prog_19_method_6_code 39 = .ok (.invokespecial 19, 3) := by decide +kernel
theorem d17_42 : decode prog_19_method_6_code 42 = .ok (.areturn, 1) := by decide +kernel
theorem d18_0 : decode jdk_2649_method_4_code 0 = .ok (.new 8, 3) := by decide +kernel
theorem d18_3 : decode jdk_2649_method_4_code 3 = .ok (.dup, 1) := by decide +kernel
theorem d18_4 : decode jdk_2649_method_4_code 4 = .ok (.iload_n 0, 1) := by decide +kernel
theorem d18_5 : decode jdk_2649_method_4_code 5 = .ok (.invokespecial 21, 3) := by decide +kernel
theorem d18_8 : decode jdk_2649_method_4_code 8 = .ok (.areturn, 1) := by decide +kernel
theorem d19_0 : decode jdk_2649_method_3_code 0 = .ok (.aload_n 0, 1) := by decide +kernel
theorem d19_1 : decode jdk_2649_method_3_code 1 = .ok (.invokespecial 1, 3) := by decide +kernel
theorem d19_4 : decode jdk_2649_method_3_code 4 = .ok (.aload_n 0, 1) := by decide +kernel
theorem d19_5 : decode jdk_2649_method_3_code 5 = .ok (.iconst 1, 1) := by decide +kernel
theorem d19_6 : decode jdk_2649_method_3_code 6 = .ok (.putfield 7, 3) := by decide +kernel
theorem d19_9 : decode jdk_2649_method_3_code 9 = .ok (.aload_n 0, 1) := by decide +kernel
theorem d19_10 : decode jdk_2649_method_3_code 10 = .ok (.iload_n 1, 1) := by decide +kernel
theorem d19_11 : decode jdk_2649_method_3_code 11 = .ok (.putfield 13, 3) := by decide +kernel
theorem d19_14 : decode jdk_2649_method_3_code 14 = .ok (.return_, 1) := by decide +kernel
theorem pn_0 : plainName "com/example/demarcate/demarcate/TransactionDefinitionWithIsolationPinLaw" = true := by first | (simp [plainName, overriddenIn]; done) | decide +kernel
theorem pn_1 : plainName "java/util/OptionalInt" = true := by first | (simp [plainName, overriddenIn]; done) | decide +kernel
theorem pn_2 : plainName "java/util/Objects" = true := by first | (simp [plainName, overriddenIn]; done) | decide +kernel
theorem pn_3 : plainName "com/example/demarcate/demarcate/TransactionDefinition" = true := by first | (simp [plainName, overriddenIn]; done) | decide +kernel
theorem pd_0 : parseMethodDescriptor "()Ljava/util/OptionalInt;" = some ⟨[], some (.object "java/util/OptionalInt")⟩ := by decide +kernel
theorem pd_1 : parseMethodDescriptor "(Lcom/example/demarcate/demarcate/Propagation;Lcom/example/demarcate/demarcate/Isolation;ZLjava/util/OptionalInt;)V" = some ⟨[(.object "com/example/demarcate/demarcate/Propagation"), (.object "com/example/demarcate/demarcate/Isolation"), .boolean, (.object "java/util/OptionalInt")], none⟩ := by decide +kernel
theorem pd_2 : parseMethodDescriptor "(I)V" = some ⟨[.int], none⟩ := by decide +kernel
theorem pd_3 : parseMethodDescriptor "(Ljava/lang/Object;Ljava/lang/String;)Ljava/lang/Object;" = some ⟨[(.object "java/lang/Object"), (.object "java/lang/String")], some (.object "java/lang/Object")⟩ := by decide +kernel
theorem pd_4 : parseMethodDescriptor "(I)Ljava/util/OptionalInt;" = some ⟨[.int], some (.object "java/util/OptionalInt")⟩ := by decide +kernel
theorem pd_5 : parseMethodDescriptor "(I)Lcom/example/demarcate/demarcate/Isolation;" = some ⟨[.int], some (.object "com/example/demarcate/demarcate/Isolation")⟩ := by decide +kernel
theorem pd_6 : parseMethodDescriptor "(I)Lcom/example/demarcate/demarcate/Propagation;" = some ⟨[.int], some (.object "com/example/demarcate/demarcate/Propagation")⟩ := by decide +kernel
theorem pd_7 : parseMethodDescriptor "(II)I" = some ⟨[.int, .int], some .int⟩ := by decide +kernel
theorem pd_8 : parseMethodDescriptor "()V" = some ⟨[], none⟩ := by decide +kernel
theorem pd_9 : parseMethodDescriptor "(Lcom/example/demarcate/demarcate/Isolation;)Lcom/example/demarcate/demarcate/TransactionDefinition;" = some ⟨[(.object "com/example/demarcate/demarcate/Isolation")], some (.object "com/example/demarcate/demarcate/TransactionDefinition")⟩ := by decide +kernel
theorem pd_10 : parseMethodDescriptor "()Lcom/example/demarcate/demarcate/Isolation;" = some ⟨[], some (.object "com/example/demarcate/demarcate/Isolation")⟩ := by decide +kernel
theorem pd_11 : parseMethodDescriptor "()Lcom/example/demarcate/demarcate/Propagation;" = some ⟨[], some (.object "com/example/demarcate/demarcate/Propagation")⟩ := by decide +kernel
theorem pd_12 : parseMethodDescriptor "()Z" = some ⟨[], some .boolean⟩ := by decide +kernel
theorem pd_13 : parseMethodDescriptor "(Ljava/lang/Object;)Z" = some ⟨[(.object "java/lang/Object")], some .boolean⟩ := by decide +kernel
theorem pd_14 : parseMethodDescriptor "(I)Lcom/example/demarcate/demarcate/TransactionDefinition;" = some ⟨[.int], some (.object "com/example/demarcate/demarcate/TransactionDefinition")⟩ := by decide +kernel
theorem pd_15 : parseMethodDescriptor "(Z)Lcom/example/demarcate/demarcate/TransactionDefinition;" = some ⟨[.boolean], some (.object "com/example/demarcate/demarcate/TransactionDefinition")⟩ := by decide +kernel
theorem pd_16 : parseMethodDescriptor "(Lcom/example/demarcate/demarcate/Propagation;)Lcom/example/demarcate/demarcate/TransactionDefinition;" = some ⟨[(.object "com/example/demarcate/demarcate/Propagation")], some (.object "com/example/demarcate/demarcate/TransactionDefinition")⟩ := by decide +kernel
theorem own_wS {a0 : Array Value} {Z : State} (hw : ∀ d ∈ tables_1, d.before a0 Z = true) : ∀ a ∈ Bundle.stringAtoms, a.before a0 Z = true := fun d hd => by
  simp only [Bundle.stringAtoms, List.mem_cons, List.not_mem_nil, or_false] at hd
  rcases hd with rfl | rfl | rfl | rfl | rfl | rfl | rfl
  · exact (w_55 hw)
  · exact (w_56 hw)
  · exact (w_57 hw)
  · exact (w_58 hw)
  · exact (w_59 hw)
  · exact (w_60 hw)
  · exact (w_61 hw)
def OwnS (Z : State) (a_DEFAULT : Addr) (a_REPEATABLE_READ : Addr) (a_MANDATORY : Addr) (a_REQUIRED : Addr) (a_SERIALIZABLE : Addr) (a_REQUIRES_NEW : Addr) (a_READ_COMMITTED : Addr) (a_READ_UNCOMMITTED : Addr) (a_NEVER : Addr) (a_NOT_SUPPORTED : Addr) (a_SUPPORTS : Addr) (a_NESTED : Addr) (a_EMPTY : Addr) : Prop := (Sta Z Z.heap "com/example/demarcate/demarcate/Isolation" "DEFAULT" "Lcom/example/demarcate/demarcate/Isolation;" (.ref a_DEFAULT)) ∧ (Exa Z Z.heap a_DEFAULT "com/example/demarcate/demarcate/Isolation") ∧ (Sta Z Z.heap "com/example/demarcate/demarcate/Isolation" "REPEATABLE_READ" "Lcom/example/demarcate/demarcate/Isolation;" (.ref a_REPEATABLE_READ)) ∧ (Exa Z Z.heap a_REPEATABLE_READ "com/example/demarcate/demarcate/Isolation") ∧ (Sta Z Z.heap "com/example/demarcate/demarcate/Propagation" "MANDATORY" "Lcom/example/demarcate/demarcate/Propagation;" (.ref a_MANDATORY)) ∧ (Exa Z Z.heap a_MANDATORY "com/example/demarcate/demarcate/Propagation") ∧ (Sta Z Z.heap "com/example/demarcate/demarcate/Propagation" "REQUIRED" "Lcom/example/demarcate/demarcate/Propagation;" (.ref a_REQUIRED)) ∧ (Exa Z Z.heap a_REQUIRED "com/example/demarcate/demarcate/Propagation") ∧ (Sta Z Z.heap "com/example/demarcate/demarcate/Isolation" "SERIALIZABLE" "Lcom/example/demarcate/demarcate/Isolation;" (.ref a_SERIALIZABLE)) ∧ (Exa Z Z.heap a_SERIALIZABLE "com/example/demarcate/demarcate/Isolation") ∧ (Sta Z Z.heap "com/example/demarcate/demarcate/Propagation" "REQUIRES_NEW" "Lcom/example/demarcate/demarcate/Propagation;" (.ref a_REQUIRES_NEW)) ∧ (Exa Z Z.heap a_REQUIRES_NEW "com/example/demarcate/demarcate/Propagation") ∧ (Sta Z Z.heap "com/example/demarcate/demarcate/Isolation" "READ_COMMITTED" "Lcom/example/demarcate/demarcate/Isolation;" (.ref a_READ_COMMITTED)) ∧ (Exa Z Z.heap a_READ_COMMITTED "com/example/demarcate/demarcate/Isolation") ∧ (Sta Z Z.heap "com/example/demarcate/demarcate/Isolation" "READ_UNCOMMITTED" "Lcom/example/demarcate/demarcate/Isolation;" (.ref a_READ_UNCOMMITTED)) ∧ (Exa Z Z.heap a_READ_UNCOMMITTED "com/example/demarcate/demarcate/Isolation") ∧ (Sta Z Z.heap "com/example/demarcate/demarcate/Propagation" "NEVER" "Lcom/example/demarcate/demarcate/Propagation;" (.ref a_NEVER)) ∧ (Exa Z Z.heap a_NEVER "com/example/demarcate/demarcate/Propagation") ∧ (Sta Z Z.heap "com/example/demarcate/demarcate/Propagation" "NOT_SUPPORTED" "Lcom/example/demarcate/demarcate/Propagation;" (.ref a_NOT_SUPPORTED)) ∧ (Exa Z Z.heap a_NOT_SUPPORTED "com/example/demarcate/demarcate/Propagation") ∧ (Sta Z Z.heap "com/example/demarcate/demarcate/Propagation" "SUPPORTS" "Lcom/example/demarcate/demarcate/Propagation;" (.ref a_SUPPORTS)) ∧ (Exa Z Z.heap a_SUPPORTS "com/example/demarcate/demarcate/Propagation") ∧ (Sta Z Z.heap "com/example/demarcate/demarcate/Propagation" "NESTED" "Lcom/example/demarcate/demarcate/Propagation;" (.ref a_NESTED)) ∧ (Exa Z Z.heap a_NESTED "com/example/demarcate/demarcate/Propagation") ∧ (Sta Z Z.heap "java/util/OptionalInt" "EMPTY" "Ljava/util/OptionalInt;" (.ref a_EMPTY)) ∧ (Exa Z Z.heap a_EMPTY "java/util/OptionalInt") ∧ (Fld Z Z.heap a_EMPTY "java/util/OptionalInt" "isPresent" "Z" (.int (0 : Int32))) ∧ (Fld Z Z.heap a_EMPTY "java/util/OptionalInt" "value" "I" (.int (0 : Int32)))
def own_max (a b : Int32) : Int32 := if a < b then b else a
theorem own_max1 (y : Int32) : ¬ (own_max 1 y < (1 : Int32)) := by
  unfold own_max
  split
  · rename_i h
    rw [Int32.lt_iff_toInt_lt] at h ⊢
    omega
  · decide
theorem ef_P (m : MethodId) (x0 : Int32) : entryFrame m #[(.int x0)] 2 = mkF m 0 #[.val (.int x0), .unset] [] := by first | (simp [entryFrame, mkF, argsToLocals, Value.category]; done) | rfl
def QP (Z : State) (k : Int32) (a_DEFAULT : Addr) (a_REPEATABLE_READ : Addr) (a_MANDATORY : Addr) (a_REQUIRED : Addr) (a_SERIALIZABLE : Addr) (a_REQUIRES_NEW : Addr) (a_READ_COMMITTED : Addr) (a_READ_UNCOMMITTED : Addr) (a_NEVER : Addr) (a_NOT_SUPPORTED : Addr) (a_SUPPORTS : Addr) (a_NESTED : Addr) (a_EMPTY : Addr) (h0 : Heap) (n0 : Nat) (v : Option Value) (h : Heap) (L : List Loc) : Prop := ∃ a : Addr, v = some (.ref a) ∧ Fr n0 L ∧ h = h0 ∧ Exa Z Z.heap a "com/example/demarcate/demarcate/Propagation"
set_option maxRecDepth 65536 in
set_option maxHeartbeats 40000000 in
theorem rmP (l : Launch) (Z : State) (a0 : Array Value) (hw : ∀ d ∈ tables_1, d.before a0 Z = true) (ws : List Jvm.Cond) (k : Int32) (a_DEFAULT : Addr) (a_REPEATABLE_READ : Addr) (a_MANDATORY : Addr) (a_REQUIRED : Addr) (a_SERIALIZABLE : Addr) (a_REQUIRES_NEW : Addr) (a_READ_COMMITTED : Addr) (a_READ_UNCOMMITTED : Addr) (a_NEVER : Addr) (a_NOT_SUPPORTED : Addr) (a_SUPPORTS : Addr) (a_NESTED : Addr) (a_EMPTY : Addr) (h0 : Heap) (n0 : Nat) (O0 : Old Z n0 h0) (hS : OwnS Z a_DEFAULT a_REPEATABLE_READ a_MANDATORY a_REQUIRED a_SERIALIZABLE a_REQUIRES_NEW a_READ_COMMITTED a_READ_UNCOMMITTED a_NEVER a_NOT_SUPPORTED a_SUPPORTS a_NESTED a_EMPTY) :
    MetFree l (⟨"com/example/demarcate/demarcate/TransactionDefinitionWithIsolationPinLaw", "prop", "(I)Lcom/example/demarcate/demarcate/Propagation;"⟩ : MethodName) (head1 (Jvm.Cond.code (⟨"com/example/demarcate/demarcate/TransactionDefinitionWithIsolationPinLaw", "prop", "(I)Lcom/example/demarcate/demarcate/Propagation;"⟩ : MethodName) method_3_code 2 (some (.object "com/example/demarcate/demarcate/Propagation")) :: ws) ({ frames := 0, cells := 0, slots := 0, locals := 0 } : Room)) (fun aa_ UU_ => aa_ = #[(.int k)] ∧ Z.Warmed39 UU_.vm ∧ UU_.heap = h0) (fun _ _ _ _ _ => True) (fun _ UU_ oo_ UV_ => ∃ vv_ LL_, oo_ = .returned vv_ ∧ QP Z k a_DEFAULT a_REPEATABLE_READ a_MANDATORY a_REQUIRED a_SERIALIZABLE a_REQUIRES_NEW a_READ_COMMITTED a_READ_UNCOMMITTED a_NEVER a_NOT_SUPPORTED a_SUPPORTS a_NESTED a_EMPTY h0 n0 vv_ UV_.heap LL_ ∧ FrameEnd UU_ oo_ UV_ LL_ ({ frames := 0, cells := 0, slots := 0, locals := 0 } : Room).cells ({ frames := 0, cells := 0, slots := 0, locals := 0 } : Room).slots) := by
  refine MetFree.of_bodySF (plainFor_of_name pn_0) hisR ?_
  intro p e s m args below meth c s₁ Bd hml0 hP hK
  obtain ⟨rfl, hZ, hh⟩ := hP
  have hx := Bd.exec
  have hby := Bd.bytes
  have hlk := BodyLoose.notSynchronized Bd
  have hml : c.maxLocals = 2 := hml0
  have hown : s.vm.findClass "com/example/demarcate/demarcate/TransactionDefinitionWithIsolationPinLaw" = some m.cls := findClass_of_methodNamed Bd.named
  have hnm := (name_of_methodNamed Bd.named Bd.method).1
  have X0 : Stand p l e ({ frames := 0, cells := 0, slots := 0, locals := 0 } : Room) s m #[(.int k)] below meth c s₁ [] 0 0 := Stand.of_body Bd
  have e0 : s₁.heap = h0 := by rw [← hh, Bd.state]; rfl
  have N0 := Fr.nil n0
  suffices hOW : OW p e below s (QP Z k a_DEFAULT a_REPEATABLE_READ a_MANDATORY a_REQUIRED a_SERIALIZABLE a_REQUIRES_NEW a_READ_COMMITTED a_READ_UNCOMMITTED a_NEVER a_NOT_SUPPORTED a_SUPPORTS a_NESTED a_EMPTY h0 n0) 0 0 (s₁.setTop (mkF m 0 #[.val (.int k), .unset] [])) by
    obtain ⟨q1, q2, q3, q4⟩ := hOW
    exact ⟨q1, q2, castTop (ef_P m k) q3, q4⟩
  have hS' := hS
  obtain ⟨Sa_DEFAULT, Ea_DEFAULT, Sa_REPEATABLE_READ, Ea_REPEATABLE_READ, Sa_MANDATORY, Ea_MANDATORY, Sa_REQUIRED, Ea_REQUIRED, Sa_SERIALIZABLE, Ea_SERIALIZABLE, Sa_REQUIRES_NEW, Ea_REQUIRES_NEW, Sa_READ_COMMITTED, Ea_READ_COMMITTED, Sa_READ_UNCOMMITTED, Ea_READ_UNCOMMITTED, Sa_NEVER, Ea_NEVER, Sa_NOT_SUPPORTED, Ea_NOT_SUPPORTED, Sa_SUPPORTS, Ea_SUPPORTS, Sa_NESTED, Ea_NESTED, Sa_EMPTY, Ea_EMPTY, Fa_EMPTY_isPresent, Fa_EMPTY_value⟩ := hS'
  refine OW.st (B := s₁.setTop (mkF m 1 #[.val (.int k), .unset] [(.int k)])) (fun _ kk_ => XS.iloadN X0.here hx rfl (hb hby d2_0) rfl kk_) ?_
  refine OW.st (B := s₁.setTop (mkF m 3 #[.val (.int k), .unset] [(.int (2147483647 : Int32)), (.int k)])) (X0.ldcInt hx hown (mvT hZ (w_4 hw)) (g := (mkF m 1 #[.val (.int k), .unset] [(.int k)])) rfl (hb hby d2_1)) ?_
  refine OW.st (B := s₁.setTop (mkF m 4 #[.val (.int k), .unset] [(.int (k &&& (2147483647 : Int32)))])) (fun _ kk_ => XS.iand X0.here hx rfl (hb hby d2_3) rfl kk_) ?_
  refine OW.st (B := s₁.setTop (mkF m 6 #[.val (.int k), .unset] [(.int (7 : Int32)), (.int (k &&& (2147483647 : Int32)))])) (fun _ kk_ => XS.bipush X0.here hx rfl (hb hby d2_4) kk_) ?_
  refine OW.st (B := s₁.setTop (mkF m 7 #[.val (.int k), .unset] [(.int ((k &&& (2147483647 : Int32)) % (7 : Int32)))])) (fun _ kk_ => iremM X0 hx rfl (hb hby d2_6) rfl (by decide) kk_) ?_
  refine OW.st (B := s₁.setTop (mkF m 8 #[.val (.int k), .val (.int ((k &&& (2147483647 : Int32)) % (7 : Int32)))] [])) (fun _ kk_ => XS.istoreN X0.here hx rfl (hb hby d2_7) rfl (l' := #[.val (.int k), .val (.int ((k &&& (2147483647 : Int32)) % (7 : Int32)))]) rfl kk_) ?_
  refine OW.st (B := s₁.setTop (mkF m 9 #[.val (.int k), .val (.int ((k &&& (2147483647 : Int32)) % (7 : Int32)))] [(.int ((k &&& (2147483647 : Int32)) % (7 : Int32)))])) (fun _ kk_ => XS.iloadN X0.here hx rfl (hb hby d2_8) rfl kk_) ?_
  by_cases hc23 : ((k &&& (2147483647 : Int32)) % (7 : Int32)) = (0 : Int32)
  · refine OW.st (B := s₁.setTop (mkF m 12 #[.val (.int k), .val (.int ((k &&& (2147483647 : Int32)) % (7 : Int32)))] [])) (fun _ kk_ => XS.ifNo X0.here hx rfl (hb hby d2_9) rfl ((if0 _ _).trans (teq hc23).2) kk_) ?_
    obtain ⟨T24, X24, e24, st24⟩ := getS2 X0 hx hZ hown (host := "") (Or.inl (w_135 hw)) Via.refl e0 (Sa_REQUIRED.ext O0.2) (g := (mkF m 12 #[.val (.int k), .val (.int ((k &&& (2147483647 : Int32)) % (7 : Int32)))] [])) rfl (hb hby d2_12)
    refine OW.st (B := T24.setTop (mkF m 15 #[.val (.int k), .val (.int ((k &&& (2147483647 : Int32)) % (7 : Int32)))] [(.ref a_REQUIRED)])) (st24) ?_
    exact OW.ret X24 hx hlk (i := .areturn) Bd.returns rfl (Or.inr (Or.inr (Or.inr (Or.inr ⟨rfl, rfl, rfl⟩)))) (hb hby d2_15) e24 (by decide) (by decide) ⟨_, rfl, N0, rfl, Ea_REQUIRED⟩
  · refine OW.st (B := s₁.setTop (mkF m 16 #[.val (.int k), .val (.int ((k &&& (2147483647 : Int32)) % (7 : Int32)))] [])) (fun _ kk_ => XS.ifYes X0.here hx rfl (pc0 := 9) (pc' := 16) rfl (hb hby d2_9) rfl ((if0 _ _).trans (feq hc23).2) (by decide) (by decide) kk_) ?_
    refine OW.st (B := s₁.setTop (mkF m 17 #[.val (.int k), .val (.int ((k &&& (2147483647 : Int32)) % (7 : Int32)))] [(.int ((k &&& (2147483647 : Int32)) % (7 : Int32)))])) (fun _ kk_ => XS.iloadN X0.here hx rfl (hb hby d2_16) rfl kk_) ?_
    refine OW.st (B := s₁.setTop (mkF m 18 #[.val (.int k), .val (.int ((k &&& (2147483647 : Int32)) % (7 : Int32)))] [(.int (1 : Int32)), (.int ((k &&& (2147483647 : Int32)) % (7 : Int32)))])) (fun _ kk_ => XS.iconst X0.here hx rfl (hb hby d2_17) kk_) ?_
    by_cases hc25 : ((k &&& (2147483647 : Int32)) % (7 : Int32)) = (1 : Int32)
    · refine OW.st (B := s₁.setTop (mkF m 21 #[.val (.int k), .val (.int ((k &&& (2147483647 : Int32)) % (7 : Int32)))] [])) (fun _ kk_ => XS.icmpNo X0.here hx rfl (hb hby d2_18) rfl (teq hc25).2 kk_) ?_
      obtain ⟨T26, X26, e26, st26⟩ := getS2 X0 hx hZ hown (host := "") (Or.inl (w_138 hw)) Via.refl e0 (Sa_SUPPORTS.ext O0.2) (g := (mkF m 21 #[.val (.int k), .val (.int ((k &&& (2147483647 : Int32)) % (7 : Int32)))] [])) rfl (hb hby d2_21)
      refine OW.st (B := T26.setTop (mkF m 24 #[.val (.int k), .val (.int ((k &&& (2147483647 : Int32)) % (7 : Int32)))] [(.ref a_SUPPORTS)])) (st26) ?_
      exact OW.ret X26 hx hlk (i := .areturn) Bd.returns rfl (Or.inr (Or.inr (Or.inr (Or.inr ⟨rfl, rfl, rfl⟩)))) (hb hby d2_24) e26 (by decide) (by decide) ⟨_, rfl, N0, rfl, Ea_SUPPORTS⟩
    · refine OW.st (B := s₁.setTop (mkF m 25 #[.val (.int k), .val (.int ((k &&& (2147483647 : Int32)) % (7 : Int32)))] [])) (fun _ kk_ => XS.icmpYes X0.here hx rfl (pc0 := 18) (pc' := 25) rfl (hb hby d2_18) rfl (feq hc25).2 (by decide) (by decide) kk_) ?_
      refine OW.st (B := s₁.setTop (mkF m 26 #[.val (.int k), .val (.int ((k &&& (2147483647 : Int32)) % (7 : Int32)))] [(.int ((k &&& (2147483647 : Int32)) % (7 : Int32)))])) (fun _ kk_ => XS.iloadN X0.here hx rfl (hb hby d2_25) rfl kk_) ?_
      refine OW.st (B := s₁.setTop (mkF m 27 #[.val (.int k), .val (.int ((k &&& (2147483647 : Int32)) % (7 : Int32)))] [(.int (2 : Int32)), (.int ((k &&& (2147483647 : Int32)) % (7 : Int32)))])) (fun _ kk_ => XS.iconst X0.here hx rfl (hb hby d2_26) kk_) ?_
      by_cases hc27 : ((k &&& (2147483647 : Int32)) % (7 : Int32)) = (2 : Int32)
      · refine OW.st (B := s₁.setTop (mkF m 30 #[.val (.int k), .val (.int ((k &&& (2147483647 : Int32)) % (7 : Int32)))] [])) (fun _ kk_ => XS.icmpNo X0.here hx rfl (hb hby d2_27) rfl (teq hc27).2 kk_) ?_
        obtain ⟨T28, X28, e28, st28⟩ := getS2 X0 hx hZ hown (host := "") (Or.inl (w_13 hw)) Via.refl e0 (Sa_MANDATORY.ext O0.2) (g := (mkF m 30 #[.val (.int k), .val (.int ((k &&& (2147483647 : Int32)) % (7 : Int32)))] [])) rfl (hb hby d2_30)
        refine OW.st (B := T28.setTop (mkF m 33 #[.val (.int k), .val (.int ((k &&& (2147483647 : Int32)) % (7 : Int32)))] [(.ref a_MANDATORY)])) (st28) ?_
        exact OW.ret X28 hx hlk (i := .areturn) Bd.returns rfl (Or.inr (Or.inr (Or.inr (Or.inr ⟨rfl, rfl, rfl⟩)))) (hb hby d2_33) e28 (by decide) (by decide) ⟨_, rfl, N0, rfl, Ea_MANDATORY⟩
      · refine OW.st (B := s₁.setTop (mkF m 34 #[.val (.int k), .val (.int ((k &&& (2147483647 : Int32)) % (7 : Int32)))] [])) (fun _ kk_ => XS.icmpYes X0.here hx rfl (pc0 := 27) (pc' := 34) rfl (hb hby d2_27) rfl (feq hc27).2 (by decide) (by decide) kk_) ?_
        refine OW.st (B := s₁.setTop (mkF m 35 #[.val (.int k), .val (.int ((k &&& (2147483647 : Int32)) % (7 : Int32)))] [(.int ((k &&& (2147483647 : Int32)) % (7 : Int32)))])) (fun _ kk_ => XS.iloadN X0.here hx rfl (hb hby d2_34) rfl kk_) ?_
        refine OW.st (B := s₁.setTop (mkF m 36 #[.val (.int k), .val (.int ((k &&& (2147483647 : Int32)) % (7 : Int32)))] [(.int (3 : Int32)), (.int ((k &&& (2147483647 : Int32)) % (7 : Int32)))])) (fun _ kk_ => XS.iconst X0.here hx rfl (hb hby d2_35) kk_) ?_
        by_cases hc29 : ((k &&& (2147483647 : Int32)) % (7 : Int32)) = (3 : Int32)
        · refine OW.st (B := s₁.setTop (mkF m 39 #[.val (.int k), .val (.int ((k &&& (2147483647 : Int32)) % (7 : Int32)))] [])) (fun _ kk_ => XS.icmpNo X0.here hx rfl (hb hby d2_36) rfl (teq hc29).2 kk_) ?_
          obtain ⟨T30, X30, e30, st30⟩ := getS2 X0 hx hZ hown (host := "") (Or.inl (w_103 hw)) Via.refl e0 (Sa_REQUIRES_NEW.ext O0.2) (g := (mkF m 39 #[.val (.int k), .val (.int ((k &&& (2147483647 : Int32)) % (7 : Int32)))] [])) rfl (hb hby d2_39)
          refine OW.st (B := T30.setTop (mkF m 42 #[.val (.int k), .val (.int ((k &&& (2147483647 : Int32)) % (7 : Int32)))] [(.ref a_REQUIRES_NEW)])) (st30) ?_
          exact OW.ret X30 hx hlk (i := .areturn) Bd.returns rfl (Or.inr (Or.inr (Or.inr (Or.inr ⟨rfl, rfl, rfl⟩)))) (hb hby d2_42) e30 (by decide) (by decide) ⟨_, rfl, N0, rfl, Ea_REQUIRES_NEW⟩
        · refine OW.st (B := s₁.setTop (mkF m 43 #[.val (.int k), .val (.int ((k &&& (2147483647 : Int32)) % (7 : Int32)))] [])) (fun _ kk_ => XS.icmpYes X0.here hx rfl (pc0 := 36) (pc' := 43) rfl (hb hby d2_36) rfl (feq hc29).2 (by decide) (by decide) kk_) ?_
          refine OW.st (B := s₁.setTop (mkF m 44 #[.val (.int k), .val (.int ((k &&& (2147483647 : Int32)) % (7 : Int32)))] [(.int ((k &&& (2147483647 : Int32)) % (7 : Int32)))])) (fun _ kk_ => XS.iloadN X0.here hx rfl (hb hby d2_43) rfl kk_) ?_
          refine OW.st (B := s₁.setTop (mkF m 45 #[.val (.int k), .val (.int ((k &&& (2147483647 : Int32)) % (7 : Int32)))] [(.int (4 : Int32)), (.int ((k &&& (2147483647 : Int32)) % (7 : Int32)))])) (fun _ kk_ => XS.iconst X0.here hx rfl (hb hby d2_44) kk_) ?_
          by_cases hc31 : ((k &&& (2147483647 : Int32)) % (7 : Int32)) = (4 : Int32)
          · refine OW.st (B := s₁.setTop (mkF m 48 #[.val (.int k), .val (.int ((k &&& (2147483647 : Int32)) % (7 : Int32)))] [])) (fun _ kk_ => XS.icmpNo X0.here hx rfl (hb hby d2_45) rfl (teq hc31).2 kk_) ?_
            obtain ⟨T32, X32, e32, st32⟩ := getS2 X0 hx hZ hown (host := "") (Or.inl (w_136 hw)) Via.refl e0 (Sa_NOT_SUPPORTED.ext O0.2) (g := (mkF m 48 #[.val (.int k), .val (.int ((k &&& (2147483647 : Int32)) % (7 : Int32)))] [])) rfl (hb hby d2_48)
            refine OW.st (B := T32.setTop (mkF m 51 #[.val (.int k), .val (.int ((k &&& (2147483647 : Int32)) % (7 : Int32)))] [(.ref a_NOT_SUPPORTED)])) (st32) ?_
            exact OW.ret X32 hx hlk (i := .areturn) Bd.returns rfl (Or.inr (Or.inr (Or.inr (Or.inr ⟨rfl, rfl, rfl⟩)))) (hb hby d2_51) e32 (by decide) (by decide) ⟨_, rfl, N0, rfl, Ea_NOT_SUPPORTED⟩
          · refine OW.st (B := s₁.setTop (mkF m 52 #[.val (.int k), .val (.int ((k &&& (2147483647 : Int32)) % (7 : Int32)))] [])) (fun _ kk_ => XS.icmpYes X0.here hx rfl (pc0 := 45) (pc' := 52) rfl (hb hby d2_45) rfl (feq hc31).2 (by decide) (by decide) kk_) ?_
            refine OW.st (B := s₁.setTop (mkF m 53 #[.val (.int k), .val (.int ((k &&& (2147483647 : Int32)) % (7 : Int32)))] [(.int ((k &&& (2147483647 : Int32)) % (7 : Int32)))])) (fun _ kk_ => XS.iloadN X0.here hx rfl (hb hby d2_52) rfl kk_) ?_
            refine OW.st (B := s₁.setTop (mkF m 54 #[.val (.int k), .val (.int ((k &&& (2147483647 : Int32)) % (7 : Int32)))] [(.int (5 : Int32)), (.int ((k &&& (2147483647 : Int32)) % (7 : Int32)))])) (fun _ kk_ => XS.iconst X0.here hx rfl (hb hby d2_53) kk_) ?_
            by_cases hc33 : ((k &&& (2147483647 : Int32)) % (7 : Int32)) = (5 : Int32)
            · refine OW.st (B := s₁.setTop (mkF m 57 #[.val (.int k), .val (.int ((k &&& (2147483647 : Int32)) % (7 : Int32)))] [])) (fun _ kk_ => XS.icmpNo X0.here hx rfl (hb hby d2_54) rfl (teq hc33).2 kk_) ?_
              obtain ⟨T34, X34, e34, st34⟩ := getS2 X0 hx hZ hown (host := "") (Or.inl (w_133 hw)) Via.refl e0 (Sa_NEVER.ext O0.2) (g := (mkF m 57 #[.val (.int k), .val (.int ((k &&& (2147483647 : Int32)) % (7 : Int32)))] [])) rfl (hb hby d2_57)
              refine OW.st (B := T34.setTop (mkF m 60 #[.val (.int k), .val (.int ((k &&& (2147483647 : Int32)) % (7 : Int32)))] [(.ref a_NEVER)])) (st34) ?_
              exact OW.ret X34 hx hlk (i := .areturn) Bd.returns rfl (Or.inr (Or.inr (Or.inr (Or.inr ⟨rfl, rfl, rfl⟩)))) (hb hby d2_60) e34 (by decide) (by decide) ⟨_, rfl, N0, rfl, Ea_NEVER⟩
            · refine OW.st (B := s₁.setTop (mkF m 61 #[.val (.int k), .val (.int ((k &&& (2147483647 : Int32)) % (7 : Int32)))] [])) (fun _ kk_ => XS.icmpYes X0.here hx rfl (pc0 := 54) (pc' := 61) rfl (hb hby d2_54) rfl (feq hc33).2 (by decide) (by decide) kk_) ?_
              obtain ⟨T35, X35, e35, st35⟩ := getS2 X0 hx hZ hown (host := "") (Or.inl (w_140 hw)) Via.refl e0 (Sa_NESTED.ext O0.2) (g := (mkF m 61 #[.val (.int k), .val (.int ((k &&& (2147483647 : Int32)) % (7 : Int32)))] [])) rfl (hb hby d2_61)
              refine OW.st (B := T35.setTop (mkF m 64 #[.val (.int k), .val (.int ((k &&& (2147483647 : Int32)) % (7 : Int32)))] [(.ref a_NESTED)])) (st35) ?_
              exact OW.ret X35 hx hlk (i := .areturn) Bd.returns rfl (Or.inr (Or.inr (Or.inr (Or.inr ⟨rfl, rfl, rfl⟩)))) (hb hby d2_64) e35 (by decide) (by decide) ⟨_, rfl, N0, rfl, Ea_NESTED⟩
theorem ef_I (m : MethodId) (x0 : Int32) : entryFrame m #[(.int x0)] 2 = mkF m 0 #[.val (.int x0), .unset] [] := by first | (simp [entryFrame, mkF, argsToLocals, Value.category]; done) | rfl
def QI (Z : State) (k : Int32) (a_DEFAULT : Addr) (a_REPEATABLE_READ : Addr) (a_MANDATORY : Addr) (a_REQUIRED : Addr) (a_SERIALIZABLE : Addr) (a_REQUIRES_NEW : Addr) (a_READ_COMMITTED : Addr) (a_READ_UNCOMMITTED : Addr) (a_NEVER : Addr) (a_NOT_SUPPORTED : Addr) (a_SUPPORTS : Addr) (a_NESTED : Addr) (a_EMPTY : Addr) (h0 : Heap) (n0 : Nat) (v : Option Value) (h : Heap) (L : List Loc) : Prop := ∃ a : Addr, v = some (.ref a) ∧ Fr n0 L ∧ h = h0 ∧ Exa Z Z.heap a "com/example/demarcate/demarcate/Isolation"
set_option maxRecDepth 65536 in
set_option maxHeartbeats 40000000 in
theorem rmI (l : Launch) (Z : State) (a0 : Array Value) (hw : ∀ d ∈ tables_1, d.before a0 Z = true) (ws : List Jvm.Cond) (k : Int32) (a_DEFAULT : Addr) (a_REPEATABLE_READ : Addr) (a_MANDATORY : Addr) (a_REQUIRED : Addr) (a_SERIALIZABLE : Addr) (a_REQUIRES_NEW : Addr) (a_READ_COMMITTED : Addr) (a_READ_UNCOMMITTED : Addr) (a_NEVER : Addr) (a_NOT_SUPPORTED : Addr) (a_SUPPORTS : Addr) (a_NESTED : Addr) (a_EMPTY : Addr) (h0 : Heap) (n0 : Nat) (O0 : Old Z n0 h0) (hS : OwnS Z a_DEFAULT a_REPEATABLE_READ a_MANDATORY a_REQUIRED a_SERIALIZABLE a_REQUIRES_NEW a_READ_COMMITTED a_READ_UNCOMMITTED a_NEVER a_NOT_SUPPORTED a_SUPPORTS a_NESTED a_EMPTY) :
    MetFree l (⟨"com/example/demarcate/demarcate/TransactionDefinitionWithIsolationPinLaw", "iso", "(I)Lcom/example/demarcate/demarcate/Isolation;"⟩ : MethodName) (head1 (Jvm.Cond.code (⟨"com/example/demarcate/demarcate/TransactionDefinitionWithIsolationPinLaw", "iso", "(I)Lcom/example/demarcate/demarcate/Isolation;"⟩ : MethodName) method_2_code 2 (some (.object "com/example/demarcate/demarcate/Isolation")) :: ws) ({ frames := 0, cells := 0, slots := 0, locals := 0 } : Room)) (fun aa_ UU_ => aa_ = #[(.int k)] ∧ Z.Warmed39 UU_.vm ∧ UU_.heap = h0) (fun _ _ _ _ _ => True) (fun _ UU_ oo_ UV_ => ∃ vv_ LL_, oo_ = .returned vv_ ∧ QI Z k a_DEFAULT a_REPEATABLE_READ a_MANDATORY a_REQUIRED a_SERIALIZABLE a_REQUIRES_NEW a_READ_COMMITTED a_READ_UNCOMMITTED a_NEVER a_NOT_SUPPORTED a_SUPPORTS a_NESTED a_EMPTY h0 n0 vv_ UV_.heap LL_ ∧ FrameEnd UU_ oo_ UV_ LL_ ({ frames := 0, cells := 0, slots := 0, locals := 0 } : Room).cells ({ frames := 0, cells := 0, slots := 0, locals := 0 } : Room).slots) := by
  refine MetFree.of_bodySF (plainFor_of_name pn_0) hisR ?_
  intro p e s m args below meth c s₁ Bd hml0 hP hK
  obtain ⟨rfl, hZ, hh⟩ := hP
  have hx := Bd.exec
  have hby := Bd.bytes
  have hlk := BodyLoose.notSynchronized Bd
  have hml : c.maxLocals = 2 := hml0
  have hown : s.vm.findClass "com/example/demarcate/demarcate/TransactionDefinitionWithIsolationPinLaw" = some m.cls := findClass_of_methodNamed Bd.named
  have hnm := (name_of_methodNamed Bd.named Bd.method).1
  have X0 : Stand p l e ({ frames := 0, cells := 0, slots := 0, locals := 0 } : Room) s m #[(.int k)] below meth c s₁ [] 0 0 := Stand.of_body Bd
  have e0 : s₁.heap = h0 := by rw [← hh, Bd.state]; rfl
  have N0 := Fr.nil n0
  suffices hOW : OW p e below s (QI Z k a_DEFAULT a_REPEATABLE_READ a_MANDATORY a_REQUIRED a_SERIALIZABLE a_REQUIRES_NEW a_READ_COMMITTED a_READ_UNCOMMITTED a_NEVER a_NOT_SUPPORTED a_SUPPORTS a_NESTED a_EMPTY h0 n0) 0 0 (s₁.setTop (mkF m 0 #[.val (.int k), .unset] [])) by
    obtain ⟨q1, q2, q3, q4⟩ := hOW
    exact ⟨q1, q2, castTop (ef_I m k) q3, q4⟩
  have hS' := hS
  obtain ⟨Sa_DEFAULT, Ea_DEFAULT, Sa_REPEATABLE_READ, Ea_REPEATABLE_READ, Sa_MANDATORY, Ea_MANDATORY, Sa_REQUIRED, Ea_REQUIRED, Sa_SERIALIZABLE, Ea_SERIALIZABLE, Sa_REQUIRES_NEW, Ea_REQUIRES_NEW, Sa_READ_COMMITTED, Ea_READ_COMMITTED, Sa_READ_UNCOMMITTED, Ea_READ_UNCOMMITTED, Sa_NEVER, Ea_NEVER, Sa_NOT_SUPPORTED, Ea_NOT_SUPPORTED, Sa_SUPPORTS, Ea_SUPPORTS, Sa_NESTED, Ea_NESTED, Sa_EMPTY, Ea_EMPTY, Fa_EMPTY_isPresent, Fa_EMPTY_value⟩ := hS'
  refine OW.st (B := s₁.setTop (mkF m 1 #[.val (.int k), .unset] [(.int k)])) (fun _ kk_ => XS.iloadN X0.here hx rfl (hb hby d1_0) rfl kk_) ?_
  refine OW.st (B := s₁.setTop (mkF m 3 #[.val (.int k), .unset] [(.int (2147483647 : Int32)), (.int k)])) (X0.ldcInt hx hown (mvT hZ (w_4 hw)) (g := (mkF m 1 #[.val (.int k), .unset] [(.int k)])) rfl (hb hby d1_1)) ?_
  refine OW.st (B := s₁.setTop (mkF m 4 #[.val (.int k), .unset] [(.int (k &&& (2147483647 : Int32)))])) (fun _ kk_ => XS.iand X0.here hx rfl (hb hby d1_3) rfl kk_) ?_
  refine OW.st (B := s₁.setTop (mkF m 5 #[.val (.int k), .unset] [(.int (5 : Int32)), (.int (k &&& (2147483647 : Int32)))])) (fun _ kk_ => XS.iconst X0.here hx rfl (hb hby d1_4) kk_) ?_
  refine OW.st (B := s₁.setTop (mkF m 6 #[.val (.int k), .unset] [(.int ((k &&& (2147483647 : Int32)) % (5 : Int32)))])) (fun _ kk_ => iremM X0 hx rfl (hb hby d1_5) rfl (by decide) kk_) ?_
  refine OW.st (B := s₁.setTop (mkF m 7 #[.val (.int k), .val (.int ((k &&& (2147483647 : Int32)) % (5 : Int32)))] [])) (fun _ kk_ => XS.istoreN X0.here hx rfl (hb hby d1_6) rfl (l' := #[.val (.int k), .val (.int ((k &&& (2147483647 : Int32)) % (5 : Int32)))]) rfl kk_) ?_
  refine OW.st (B := s₁.setTop (mkF m 8 #[.val (.int k), .val (.int ((k &&& (2147483647 : Int32)) % (5 : Int32)))] [(.int ((k &&& (2147483647 : Int32)) % (5 : Int32)))])) (fun _ kk_ => XS.iloadN X0.here hx rfl (hb hby d1_7) rfl kk_) ?_
  by_cases hc36 : ((k &&& (2147483647 : Int32)) % (5 : Int32)) = (0 : Int32)
  · refine OW.st (B := s₁.setTop (mkF m 11 #[.val (.int k), .val (.int ((k &&& (2147483647 : Int32)) % (5 : Int32)))] [])) (fun _ kk_ => XS.ifNo X0.here hx rfl (hb hby d1_8) rfl ((if0 _ _).trans (teq hc36).2) kk_) ?_
    obtain ⟨T37, X37, e37, st37⟩ := getS2 X0 hx hZ hown (host := "") (Or.inl (w_5 hw)) Via.refl e0 (Sa_DEFAULT.ext O0.2) (g := (mkF m 11 #[.val (.int k), .val (.int ((k &&& (2147483647 : Int32)) % (5 : Int32)))] [])) rfl (hb hby d1_11)
    refine OW.st (B := T37.setTop (mkF m 14 #[.val (.int k), .val (.int ((k &&& (2147483647 : Int32)) % (5 : Int32)))] [(.ref a_DEFAULT)])) (st37) ?_
    exact OW.ret X37 hx hlk (i := .areturn) Bd.returns rfl (Or.inr (Or.inr (Or.inr (Or.inr ⟨rfl, rfl, rfl⟩)))) (hb hby d1_14) e37 (by decide) (by decide) ⟨_, rfl, N0, rfl, Ea_DEFAULT⟩
  · refine OW.st (B := s₁.setTop (mkF m 15 #[.val (.int k), .val (.int ((k &&& (2147483647 : Int32)) % (5 : Int32)))] [])) (fun _ kk_ => XS.ifYes X0.here hx rfl (pc0 := 8) (pc' := 15) rfl (hb hby d1_8) rfl ((if0 _ _).trans (feq hc36).2) (by decide) (by decide) kk_) ?_
    refine OW.st (B := s₁.setTop (mkF m 16 #[.val (.int k), .val (.int ((k &&& (2147483647 : Int32)) % (5 : Int32)))] [(.int ((k &&& (2147483647 : Int32)) % (5 : Int32)))])) (fun _ kk_ => XS.iloadN X0.here hx rfl (hb hby d1_15) rfl kk_) ?_
    refine OW.st (B := s₁.setTop (mkF m 17 #[.val (.int k), .val (.int ((k &&& (2147483647 : Int32)) % (5 : Int32)))] [(.int (1 : Int32)), (.int ((k &&& (2147483647 : Int32)) % (5 : Int32)))])) (fun _ kk_ => XS.iconst X0.here hx rfl (hb hby d1_16) kk_) ?_
    by_cases hc38 : ((k &&& (2147483647 : Int32)) % (5 : Int32)) = (1 : Int32)
    · refine OW.st (B := s₁.setTop (mkF m 20 #[.val (.int k), .val (.int ((k &&& (2147483647 : Int32)) % (5 : Int32)))] [])) (fun _ kk_ => XS.icmpNo X0.here hx rfl (hb hby d1_17) rfl (teq hc38).2 kk_) ?_
      obtain ⟨T39, X39, e39, st39⟩ := getS2 X0 hx hZ hown (host := "") (Or.inl (w_131 hw)) Via.refl e0 (Sa_READ_UNCOMMITTED.ext O0.2) (g := (mkF m 20 #[.val (.int k), .val (.int ((k &&& (2147483647 : Int32)) % (5 : Int32)))] [])) rfl (hb hby d1_20)
      refine OW.st (B := T39.setTop (mkF m 23 #[.val (.int k), .val (.int ((k &&& (2147483647 : Int32)) % (5 : Int32)))] [(.ref a_READ_UNCOMMITTED)])) (st39) ?_
      exact OW.ret X39 hx hlk (i := .areturn) Bd.returns rfl (Or.inr (Or.inr (Or.inr (Or.inr ⟨rfl, rfl, rfl⟩)))) (hb hby d1_23) e39 (by decide) (by decide) ⟨_, rfl, N0, rfl, Ea_READ_UNCOMMITTED⟩
    · refine OW.st (B := s₁.setTop (mkF m 24 #[.val (.int k), .val (.int ((k &&& (2147483647 : Int32)) % (5 : Int32)))] [])) (fun _ kk_ => XS.icmpYes X0.here hx rfl (pc0 := 17) (pc' := 24) rfl (hb hby d1_17) rfl (feq hc38).2 (by decide) (by decide) kk_) ?_
      refine OW.st (B := s₁.setTop (mkF m 25 #[.val (.int k), .val (.int ((k &&& (2147483647 : Int32)) % (5 : Int32)))] [(.int ((k &&& (2147483647 : Int32)) % (5 : Int32)))])) (fun _ kk_ => XS.iloadN X0.here hx rfl (hb hby d1_24) rfl kk_) ?_
      refine OW.st (B := s₁.setTop (mkF m 26 #[.val (.int k), .val (.int ((k &&& (2147483647 : Int32)) % (5 : Int32)))] [(.int (2 : Int32)), (.int ((k &&& (2147483647 : Int32)) % (5 : Int32)))])) (fun _ kk_ => XS.iconst X0.here hx rfl (hb hby d1_25) kk_) ?_
      by_cases hc40 : ((k &&& (2147483647 : Int32)) % (5 : Int32)) = (2 : Int32)
      · refine OW.st (B := s₁.setTop (mkF m 29 #[.val (.int k), .val (.int ((k &&& (2147483647 : Int32)) % (5 : Int32)))] [])) (fun _ kk_ => XS.icmpNo X0.here hx rfl (hb hby d1_26) rfl (teq hc40).2 kk_) ?_
        obtain ⟨T41, X41, e41, st41⟩ := getS2 X0 hx hZ hown (host := "") (Or.inl (w_129 hw)) Via.refl e0 (Sa_READ_COMMITTED.ext O0.2) (g := (mkF m 29 #[.val (.int k), .val (.int ((k &&& (2147483647 : Int32)) % (5 : Int32)))] [])) rfl (hb hby d1_29)
        refine OW.st (B := T41.setTop (mkF m 32 #[.val (.int k), .val (.int ((k &&& (2147483647 : Int32)) % (5 : Int32)))] [(.ref a_READ_COMMITTED)])) (st41) ?_
        exact OW.ret X41 hx hlk (i := .areturn) Bd.returns rfl (Or.inr (Or.inr (Or.inr (Or.inr ⟨rfl, rfl, rfl⟩)))) (hb hby d1_32) e41 (by decide) (by decide) ⟨_, rfl, N0, rfl, Ea_READ_COMMITTED⟩
      · refine OW.st (B := s₁.setTop (mkF m 33 #[.val (.int k), .val (.int ((k &&& (2147483647 : Int32)) % (5 : Int32)))] [])) (fun _ kk_ => XS.icmpYes X0.here hx rfl (pc0 := 26) (pc' := 33) rfl (hb hby d1_26) rfl (feq hc40).2 (by decide) (by decide) kk_) ?_
        refine OW.st (B := s₁.setTop (mkF m 34 #[.val (.int k), .val (.int ((k &&& (2147483647 : Int32)) % (5 : Int32)))] [(.int ((k &&& (2147483647 : Int32)) % (5 : Int32)))])) (fun _ kk_ => XS.iloadN X0.here hx rfl (hb hby d1_33) rfl kk_) ?_
        refine OW.st (B := s₁.setTop (mkF m 35 #[.val (.int k), .val (.int ((k &&& (2147483647 : Int32)) % (5 : Int32)))] [(.int (3 : Int32)), (.int ((k &&& (2147483647 : Int32)) % (5 : Int32)))])) (fun _ kk_ => XS.iconst X0.here hx rfl (hb hby d1_34) kk_) ?_
        by_cases hc42 : ((k &&& (2147483647 : Int32)) % (5 : Int32)) = (3 : Int32)
        · refine OW.st (B := s₁.setTop (mkF m 38 #[.val (.int k), .val (.int ((k &&& (2147483647 : Int32)) % (5 : Int32)))] [])) (fun _ kk_ => XS.icmpNo X0.here hx rfl (hb hby d1_35) rfl (teq hc42).2 kk_) ?_
          obtain ⟨T43, X43, e43, st43⟩ := getS2 X0 hx hZ hown (host := "") (Or.inl (w_8 hw)) Via.refl e0 (Sa_REPEATABLE_READ.ext O0.2) (g := (mkF m 38 #[.val (.int k), .val (.int ((k &&& (2147483647 : Int32)) % (5 : Int32)))] [])) rfl (hb hby d1_38)
          refine OW.st (B := T43.setTop (mkF m 41 #[.val (.int k), .val (.int ((k &&& (2147483647 : Int32)) % (5 : Int32)))] [(.ref a_REPEATABLE_READ)])) (st43) ?_
          exact OW.ret X43 hx hlk (i := .areturn) Bd.returns rfl (Or.inr (Or.inr (Or.inr (Or.inr ⟨rfl, rfl, rfl⟩)))) (hb hby d1_41) e43 (by decide) (by decide) ⟨_, rfl, N0, rfl, Ea_REPEATABLE_READ⟩
        · refine OW.st (B := s₁.setTop (mkF m 42 #[.val (.int k), .val (.int ((k &&& (2147483647 : Int32)) % (5 : Int32)))] [])) (fun _ kk_ => XS.icmpYes X0.here hx rfl (pc0 := 35) (pc' := 42) rfl (hb hby d1_35) rfl (feq hc42).2 (by decide) (by decide) kk_) ?_
          obtain ⟨T44, X44, e44, st44⟩ := getS2 X0 hx hZ hown (host := "") (Or.inl (w_101 hw)) Via.refl e0 (Sa_SERIALIZABLE.ext O0.2) (g := (mkF m 42 #[.val (.int k), .val (.int ((k &&& (2147483647 : Int32)) % (5 : Int32)))] [])) rfl (hb hby d1_42)
          refine OW.st (B := T44.setTop (mkF m 45 #[.val (.int k), .val (.int ((k &&& (2147483647 : Int32)) % (5 : Int32)))] [(.ref a_SERIALIZABLE)])) (st44) ?_
          exact OW.ret X44 hx hlk (i := .areturn) Bd.returns rfl (Or.inr (Or.inr (Or.inr (Or.inr ⟨rfl, rfl, rfl⟩)))) (hb hby d1_45) e44 (by decide) (by decide) ⟨_, rfl, N0, rfl, Ea_SERIALIZABLE⟩
theorem ef_OE (m : MethodId)  : entryFrame m #[] 0 = mkF m 0 #[] [] := by first | (simp [entryFrame, mkF, argsToLocals, Value.category]; done) | rfl
def QOE (Z : State) (a_DEFAULT : Addr) (a_REPEATABLE_READ : Addr) (a_MANDATORY : Addr) (a_REQUIRED : Addr) (a_SERIALIZABLE : Addr) (a_REQUIRES_NEW : Addr) (a_READ_COMMITTED : Addr) (a_READ_UNCOMMITTED : Addr) (a_NEVER : Addr) (a_NOT_SUPPORTED : Addr) (a_SUPPORTS : Addr) (a_NESTED : Addr) (a_EMPTY : Addr) (h0 : Heap) (n0 : Nat) (v : Option Value) (h : Heap) (L : List Loc) : Prop := v = some (.ref a_EMPTY) ∧ Fr n0 L ∧ h = h0
set_option maxRecDepth 65536 in
set_option maxHeartbeats 40000000 in
theorem rmOE (l : Launch) (Z : State) (a0 : Array Value) (hw : ∀ d ∈ tables_1, d.before a0 Z = true) (ws : List Jvm.Cond) (a_DEFAULT : Addr) (a_REPEATABLE_READ : Addr) (a_MANDATORY : Addr) (a_REQUIRED : Addr) (a_SERIALIZABLE : Addr) (a_REQUIRES_NEW : Addr) (a_READ_COMMITTED : Addr) (a_READ_UNCOMMITTED : Addr) (a_NEVER : Addr) (a_NOT_SUPPORTED : Addr) (a_SUPPORTS : Addr) (a_NESTED : Addr) (a_EMPTY : Addr) (h0 : Heap) (n0 : Nat) (O0 : Old Z n0 h0) (hS : OwnS Z a_DEFAULT a_REPEATABLE_READ a_MANDATORY a_REQUIRED a_SERIALIZABLE a_REQUIRES_NEW a_READ_COMMITTED a_READ_UNCOMMITTED a_NEVER a_NOT_SUPPORTED a_SUPPORTS a_NESTED a_EMPTY) :
    MetFree l (⟨"java/util/OptionalInt", "empty", "()Ljava/util/OptionalInt;"⟩ : MethodName) (head1 (Jvm.Cond.code (⟨"java/util/OptionalInt", "empty", "()Ljava/util/OptionalInt;"⟩ : MethodName) jdk_2649_method_2_code 0 (some (.object "java/util/OptionalInt")) :: ws) ({ frames := 0, cells := 0, slots := 0, locals := 0 } : Room)) (fun aa_ UU_ => aa_ = #[] ∧ Z.Warmed39 UU_.vm ∧ UU_.heap = h0) (fun _ _ _ _ _ => True) (fun _ UU_ oo_ UV_ => ∃ vv_ LL_, oo_ = .returned vv_ ∧ QOE Z a_DEFAULT a_REPEATABLE_READ a_MANDATORY a_REQUIRED a_SERIALIZABLE a_REQUIRES_NEW a_READ_COMMITTED a_READ_UNCOMMITTED a_NEVER a_NOT_SUPPORTED a_SUPPORTS a_NESTED a_EMPTY h0 n0 vv_ UV_.heap LL_ ∧ FrameEnd UU_ oo_ UV_ LL_ ({ frames := 0, cells := 0, slots := 0, locals := 0 } : Room).cells ({ frames := 0, cells := 0, slots := 0, locals := 0 } : Room).slots) := by
  refine MetFree.of_bodySF (plainFor_of_name pn_1) hisR ?_
  intro p e s m args below meth c s₁ Bd hml0 hP hK
  obtain ⟨rfl, hZ, hh⟩ := hP
  have hx := Bd.exec
  have hby := Bd.bytes
  have hlk := BodyLoose.notSynchronized Bd
  have hml : c.maxLocals = 0 := hml0
  have hown : s.vm.findClass "java/util/OptionalInt" = some m.cls := findClass_of_methodNamed Bd.named
  have hnm := (name_of_methodNamed Bd.named Bd.method).1
  have X0 : Stand p l e ({ frames := 0, cells := 0, slots := 0, locals := 0 } : Room) s m #[] below meth c s₁ [] 0 0 := Stand.of_body Bd
  have e0 : s₁.heap = h0 := by rw [← hh, Bd.state]; rfl
  have N0 := Fr.nil n0
  suffices hOW : OW p e below s (QOE Z a_DEFAULT a_REPEATABLE_READ a_MANDATORY a_REQUIRED a_SERIALIZABLE a_REQUIRES_NEW a_READ_COMMITTED a_READ_UNCOMMITTED a_NEVER a_NOT_SUPPORTED a_SUPPORTS a_NESTED a_EMPTY h0 n0) 0 0 (s₁.setTop (mkF m 0 #[] [])) by
    obtain ⟨q1, q2, q3, q4⟩ := hOW
    exact ⟨q1, q2, castTop (ef_OE m ) q3, q4⟩
  have hS' := hS
  obtain ⟨Sa_DEFAULT, Ea_DEFAULT, Sa_REPEATABLE_READ, Ea_REPEATABLE_READ, Sa_MANDATORY, Ea_MANDATORY, Sa_REQUIRED, Ea_REQUIRED, Sa_SERIALIZABLE, Ea_SERIALIZABLE, Sa_REQUIRES_NEW, Ea_REQUIRES_NEW, Sa_READ_COMMITTED, Ea_READ_COMMITTED, Sa_READ_UNCOMMITTED, Ea_READ_UNCOMMITTED, Sa_NEVER, Ea_NEVER, Sa_NOT_SUPPORTED, Ea_NOT_SUPPORTED, Sa_SUPPORTS, Ea_SUPPORTS, Sa_NESTED, Ea_NESTED, Sa_EMPTY, Ea_EMPTY, Fa_EMPTY_isPresent, Fa_EMPTY_value⟩ := hS'
  obtain ⟨T45, X45, e45, st45⟩ := getS2 X0 hx hZ hown (host := "") (Or.inl (w_33 hw)) Via.refl e0 (Sa_EMPTY.ext O0.2) (g := (mkF m 0 #[] [])) rfl (hb hby d5_0)
  refine OW.st (B := T45.setTop (mkF m 3 #[] [(.ref a_EMPTY)])) (st45) ?_
  exact OW.ret X45 hx hlk (i := .areturn) Bd.returns rfl (Or.inr (Or.inr (Or.inr (Or.inr ⟨rfl, rfl, rfl⟩)))) (hb hby d5_3) e45 (by decide) (by decide) ⟨rfl, N0, rfl⟩
theorem ef_NN (m : MethodId) (x0 : Addr) (x1 : Addr) : entryFrame m #[(.ref x0), (.ref x1)] 2 = mkF m 0 #[.val (.ref x0), .val (.ref x1)] [] := by first | (simp [entryFrame, mkF, argsToLocals, Value.category]; done) | rfl
def QNN (Z : State) (a : Addr) (b : Addr) (h0 : Heap) (n0 : Nat) (v : Option Value) (h : Heap) (L : List Loc) : Prop := v = some (.ref a) ∧ Fr n0 L ∧ h = h0
set_option maxRecDepth 65536 in
set_option maxHeartbeats 40000000 in
theorem rmNN (l : Launch) (Z : State) (a0 : Array Value) (hw : ∀ d ∈ tables_1, d.before a0 Z = true) (ws : List Jvm.Cond) (a : Addr) (b : Addr) (h0 : Heap) (n0 : Nat) (O0 : Old Z n0 h0) :
    MetFree l (⟨"java/util/Objects", "requireNonNull", "(Ljava/lang/Object;Ljava/lang/String;)Ljava/lang/Object;"⟩ : MethodName) (head1 (Jvm.Cond.code (⟨"java/util/Objects", "requireNonNull", "(Ljava/lang/Object;Ljava/lang/String;)Ljava/lang/Object;"⟩ : MethodName) jdk_31_method_11_code 2 (some (.object "java/lang/Object")) :: ws) ({ frames := 0, cells := 0, slots := 0, locals := 0 } : Room)) (fun aa_ UU_ => aa_ = #[(.ref a), (.ref b)] ∧ Z.Warmed39 UU_.vm ∧ UU_.heap = h0) (fun _ _ _ _ _ => True) (fun _ UU_ oo_ UV_ => ∃ vv_ LL_, oo_ = .returned vv_ ∧ QNN Z a b h0 n0 vv_ UV_.heap LL_ ∧ FrameEnd UU_ oo_ UV_ LL_ ({ frames := 0, cells := 0, slots := 0, locals := 0 } : Room).cells ({ frames := 0, cells := 0, slots := 0, locals := 0 } : Room).slots) := by
  refine MetFree.of_bodySF (plainFor_of_name pn_2) hisR ?_
  intro p e s m args below meth c s₁ Bd hml0 hP hK
  obtain ⟨rfl, hZ, hh⟩ := hP
  have hx := Bd.exec
  have hby := Bd.bytes
  have hlk := BodyLoose.notSynchronized Bd
  have hml : c.maxLocals = 2 := hml0
  have hown : s.vm.findClass "java/util/Objects" = some m.cls := findClass_of_methodNamed Bd.named
  have hnm := (name_of_methodNamed Bd.named Bd.method).1
  have X0 : Stand p l e ({ frames := 0, cells := 0, slots := 0, locals := 0 } : Room) s m #[(.ref a), (.ref b)] below meth c s₁ [] 0 0 := Stand.of_body Bd
  have e0 : s₁.heap = h0 := by rw [← hh, Bd.state]; rfl
  have N0 := Fr.nil n0
  suffices hOW : OW p e below s (QNN Z a b h0 n0) 0 0 (s₁.setTop (mkF m 0 #[.val (.ref a), .val (.ref b)] [])) by
    obtain ⟨q1, q2, q3, q4⟩ := hOW
    exact ⟨q1, q2, castTop (ef_NN m a b) q3, q4⟩
  refine OW.st (B := s₁.setTop (mkF m 1 #[.val (.ref a), .val (.ref b)] [(.ref a)])) (fun _ kk_ => XS.aloadN X0.here hx rfl (hb hby d9_0) rfl rfl kk_) ?_
  refine OW.st (B := s₁.setTop (mkF m 13 #[.val (.ref a), .val (.ref b)] [])) (fun _ kk_ => XS.ifnonnullYes X0.here hx rfl (pc0 := 1) (pc' := 13) rfl (hb hby d9_1) rfl (by decide) (by decide) kk_) ?_
  refine OW.st (B := s₁.setTop (mkF m 14 #[.val (.ref a), .val (.ref b)] [(.ref a)])) (fun _ kk_ => XS.aloadN X0.here hx rfl (hb hby d9_13) rfl rfl kk_) ?_
  exact OW.ret X0 hx hlk (i := .areturn) Bd.returns rfl (Or.inr (Or.inr (Or.inr (Or.inr ⟨rfl, rfl, rfl⟩)))) (hb hby d9_14) e0 (by decide) (by decide) ⟨rfl, N0, rfl⟩
theorem ef_T4 (m : MethodId) (x0 : Addr) (x1 : Addr) (x2 : Addr) (x3 : Int32) (x4 : Addr) : entryFrame m #[(.ref x0), (.ref x1), (.ref x2), (.int x3), (.ref x4)] 5 = mkF m 0 #[.val (.ref x0), .val (.ref x1), .val (.ref x2), .val (.int x3), .val (.ref x4)] [] := by first | (simp [entryFrame, mkF, argsToLocals, Value.category]; done) | rfl
def QT4 (Z : State) (b : Addr) (p1 : Addr) (i1 : Addr) (r1 : Int32) (t1 : Addr) (h0 : Heap) (n0 : Nat) (v : Option Value) (h : Heap) (L : List Loc) : Prop := v = none ∧ Fr n0 L ∧ Keep h0 h [b] ∧ Exa Z h b "com/example/demarcate/demarcate/TransactionDefinition" ∧ Fld Z h b "com/example/demarcate/demarcate/TransactionDefinition" "propagation" "Lcom/example/demarcate/demarcate/Propagation;" (.ref p1) ∧ Fld Z h b "com/example/demarcate/demarcate/TransactionDefinition" "isolation" "Lcom/example/demarcate/demarcate/Isolation;" (.ref i1) ∧ Fld Z h b "com/example/demarcate/demarcate/TransactionDefinition" "readOnly" "Z" (.int r1) ∧ Fld Z h b "com/example/demarcate/demarcate/TransactionDefinition" "timeout" "Ljava/util/OptionalInt;" (.ref t1)
set_option maxRecDepth 65536 in
set_option maxHeartbeats 40000000 in
theorem rmT4 (l : Launch) (Z : State) (a0 : Array Value) (hw : ∀ d ∈ tables_1, d.before a0 Z = true) (ws : List Jvm.Cond) (b : Addr) (p1 : Addr) (i1 : Addr) (r1 : Int32) (t1 : Addr) (h0 : Heap) (n0 : Nat) (O0 : Old Z n0 h0) (E : Exa Z h0 b "com/example/demarcate/demarcate/TransactionDefinition") (F0 : Fld Z h0 b "com/example/demarcate/demarcate/TransactionDefinition" "propagation" "Lcom/example/demarcate/demarcate/Propagation;" .null) (F1 : Fld Z h0 b "com/example/demarcate/demarcate/TransactionDefinition" "isolation" "Lcom/example/demarcate/demarcate/Isolation;" .null) (F2 : Fld Z h0 b "com/example/demarcate/demarcate/TransactionDefinition" "readOnly" "Z" (.int (0 : Int32))) (F3 : Fld Z h0 b "com/example/demarcate/demarcate/TransactionDefinition" "timeout" "Ljava/util/OptionalInt;" .null) (g : n0 ≤ b) (hr : r1 = 0 ∨ r1 = 1) :
    MetFree l (⟨"com/example/demarcate/demarcate/TransactionDefinition", "<init>", "(Lcom/example/demarcate/demarcate/Propagation;Lcom/example/demarcate/demarcate/Isolation;ZLjava/util/OptionalInt;)V"⟩ : MethodName) (head1 (Jvm.Cond.code (⟨"com/example/demarcate/demarcate/TransactionDefinition", "<init>", "(Lcom/example/demarcate/demarcate/Propagation;Lcom/example/demarcate/demarcate/Isolation;ZLjava/util/OptionalInt;)V"⟩ : MethodName) prog_19_method_2_code 5 none :: ws) ({ frames := 1, cells := 0, slots := 0, locals := 12 } : Room)) (fun aa_ UU_ => aa_ = #[(.ref b), (.ref p1), (.ref i1), (.int r1), (.ref t1)] ∧ Z.Warmed39 UU_.vm ∧ UU_.heap = h0) (fun _ _ _ _ _ => True) (fun _ UU_ oo_ UV_ => ∃ vv_ LL_, oo_ = .returned vv_ ∧ QT4 Z b p1 i1 r1 t1 h0 n0 vv_ UV_.heap LL_ ∧ FrameEnd UU_ oo_ UV_ LL_ ({ frames := 1, cells := 0, slots := 0, locals := 12 } : Room).cells ({ frames := 1, cells := 0, slots := 0, locals := 12 } : Room).slots) := by
  refine MetFree.of_bodySF (plainFor_of_name pn_3) hisR ?_
  intro p e s m args below meth c s₁ Bd hml0 hP hK
  obtain ⟨rfl, hZ, hh⟩ := hP
  have hx := Bd.exec
  have hby := Bd.bytes
  have hlk := BodyLoose.notSynchronized Bd
  have hml : c.maxLocals = 5 := hml0
  have hown : s.vm.findClass "com/example/demarcate/demarcate/TransactionDefinition" = some m.cls := findClass_of_methodNamed Bd.named
  have hnm := (name_of_methodNamed Bd.named Bd.method).1
  have X0 : Stand p l e ({ frames := 1, cells := 0, slots := 0, locals := 12 } : Room) s m #[(.ref b), (.ref p1), (.ref i1), (.int r1), (.ref t1)] below meth c s₁ [] 0 0 := Stand.of_body Bd
  have e0 : s₁.heap = h0 := by rw [← hh, Bd.state]; rfl
  have N0 := Fr.nil n0
  have KC0 : Keep h0 h0 [b] := Keep.refl _ _
  suffices hOW : OW p e below s (QT4 Z b p1 i1 r1 t1 h0 n0) 0 0 (s₁.setTop (mkF m 0 #[.val (.ref b), .val (.ref p1), .val (.ref i1), .val (.int r1), .val (.ref t1)] [])) by
    obtain ⟨q1, q2, q3, q4⟩ := hOW
    exact ⟨q1, q2, castTop (ef_T4 m b p1 i1 r1 t1) q3, q4⟩
  refine OW.st (B := s₁.setTop (mkF m 1 #[.val (.ref b), .val (.ref p1), .val (.ref i1), .val (.int r1), .val (.ref t1)] [(.ref b)])) (fun _ kk_ => XS.aloadN X0.here hx rfl (hb hby d6_0) rfl rfl kk_) ?_
  obtain ⟨T46, X46, e46, st46⟩ := initO X0 hx hZ hown (w_37 hw) (w_38 hw) (w_39 hw) e0 (g := (mkF m 1 #[.val (.ref b), .val (.ref p1), .val (.ref i1), .val (.int r1), .val (.ref t1)] [(.ref b)])) rfl (by rw [hml]; rfl) rfl (hb hby d6_1) (by decide) (W := 0) (by show 2 * 0 + _ ≤ _; exact Nat.le_of_eq rfl) (by decide)
  refine OW.st (B := T46.setTop (mkF m 4 #[.val (.ref b), .val (.ref p1), .val (.ref i1), .val (.int r1), .val (.ref t1)] [])) (st46) ?_
  refine OW.st (B := T46.setTop (mkF m 5 #[.val (.ref b), .val (.ref p1), .val (.ref i1), .val (.int r1), .val (.ref t1)] [(.ref b)])) (fun _ kk_ => XS.aloadN X46.here hx rfl (hb hby d6_4) rfl rfl kk_) ?_
  refine OW.st (B := T46.setTop (mkF m 6 #[.val (.ref b), .val (.ref p1), .val (.ref i1), .val (.int r1), .val (.ref t1)] [(.ref p1), (.ref b)])) (fun _ kk_ => XS.aloadN X46.here hx rfl (hb hby d6_5) rfl rfl kk_) ?_
  obtain ⟨T47, h47, X47, e47, W47, st47⟩ := putF X46 hx hZ hown (host := "") (Or.inl (w_40 hw)) Via.refl e46 F0 E (Or.inr ⟨(w_41 hw), rfl, hnm⟩) (w_21 hw) (ty := (.object "com/example/demarcate/demarcate/Propagation")) (by decide) rfl rfl (g := (mkF m 6 #[.val (.ref b), .val (.ref p1), .val (.ref i1), .val (.int r1), .val (.ref t1)] [(.ref p1), (.ref b)])) rfl rfl (hb hby d6_6)
  have N47 := Fr.snoc X47 N0 g
  have O47 : Old Z n0 h47 := O0.wr W47 g
  have KC47 : Keep h0 h47 [b] := KC0.wr W47 (Or.inl (List.mem_of_getElem? (i := 0) rfl))
  have F47 : Fld Z h47 b "com/example/demarcate/demarcate/TransactionDefinition" "propagation" "Lcom/example/demarcate/demarcate/Propagation;" (.ref p1) := Fld.same W47 F0
  refine OW.st (B := T47.setTop (mkF m 9 #[.val (.ref b), .val (.ref p1), .val (.ref i1), .val (.int r1), .val (.ref t1)] [])) (st47) ?_
  refine OW.st (B := T47.setTop (mkF m 10 #[.val (.ref b), .val (.ref p1), .val (.ref i1), .val (.int r1), .val (.ref t1)] [(.ref b)])) (fun _ kk_ => XS.aloadN X47.here hx rfl (hb hby d6_9) rfl rfl kk_) ?_
  refine OW.st (B := T47.setTop (mkF m 11 #[.val (.ref b), .val (.ref p1), .val (.ref i1), .val (.int r1), .val (.ref t1)] [(.ref i1), (.ref b)])) (fun _ kk_ => XS.aloadN X47.here hx rfl (hb hby d6_10) rfl rfl kk_) ?_
  obtain ⟨T48, h48, X48, e48, W48, st48⟩ := putF X47 hx hZ hown (host := "") (Or.inl (w_42 hw)) Via.refl e47 (F1.other W47 (Or.inr (slot_ne (Or.inr (w_43 hw)) (Or.inr (w_41 hw)) (by decide) (t := (.object "com/example/demarcate/demarcate/Isolation")) (t' := (.object "com/example/demarcate/demarcate/Propagation")) (by decide) (by decide)))) (E.wr W47) (Or.inr ⟨(w_43 hw), rfl, hnm⟩) (w_21 hw) (ty := (.object "com/example/demarcate/demarcate/Isolation")) (by decide) rfl rfl (g := (mkF m 11 #[.val (.ref b), .val (.ref p1), .val (.ref i1), .val (.int r1), .val (.ref t1)] [(.ref i1), (.ref b)])) rfl rfl (hb hby d6_11)
  have N48 := Fr.snoc X48 N47 g
  have O48 : Old Z n0 h48 := O47.wr W48 g
  have KC48 : Keep h0 h48 [b] := KC47.wr W48 (Or.inl (List.mem_of_getElem? (i := 0) rfl))
  have F48 : Fld Z h48 b "com/example/demarcate/demarcate/TransactionDefinition" "isolation" "Lcom/example/demarcate/demarcate/Isolation;" (.ref i1) := Fld.same W48 (F1.other W47 (Or.inr (slot_ne (Or.inr (w_43 hw)) (Or.inr (w_41 hw)) (by decide) (t := (.object "com/example/demarcate/demarcate/Isolation")) (t' := (.object "com/example/demarcate/demarcate/Propagation")) (by decide) (by decide))))
  refine OW.st (B := T48.setTop (mkF m 14 #[.val (.ref b), .val (.ref p1), .val (.ref i1), .val (.int r1), .val (.ref t1)] [])) (st48) ?_
  refine OW.st (B := T48.setTop (mkF m 15 #[.val (.ref b), .val (.ref p1), .val (.ref i1), .val (.int r1), .val (.ref t1)] [(.ref b)])) (fun _ kk_ => XS.aloadN X48.here hx rfl (hb hby d6_14) rfl rfl kk_) ?_
  refine OW.st (B := T48.setTop (mkF m 16 #[.val (.ref b), .val (.ref p1), .val (.ref i1), .val (.int r1), .val (.ref t1)] [(.int r1), (.ref b)])) (fun _ kk_ => XS.iloadN X48.here hx rfl (hb hby d6_15) rfl kk_) ?_
  obtain ⟨T49, h49, X49, e49, W49, st49⟩ := putFN X48 hx hZ hown (w_44 hw) Via.refl e48 ((F2.other W47 (Or.inr (slot_ne (Or.inr (w_45 hw)) (Or.inr (w_41 hw)) (by decide) (t := .boolean) (t' := (.object "com/example/demarcate/demarcate/Propagation")) (by decide) (by decide)))).other W48 (Or.inr (slot_ne (Or.inr (w_45 hw)) (Or.inr (w_43 hw)) (by decide) (t := .boolean) (t' := (.object "com/example/demarcate/demarcate/Isolation")) (by decide) (by decide)))) ((E.wr W47).wr W48) (Or.inr ⟨(w_45 hw), rfl, hnm⟩) (w_21 hw) (ty := .boolean) (v' := (.int r1)) (by decide) (own_nz hr) (own_fz hr) (g := (mkF m 16 #[.val (.ref b), .val (.ref p1), .val (.ref i1), .val (.int r1), .val (.ref t1)] [(.int r1), (.ref b)])) rfl rfl (hb hby d6_16)
  have N49 := Fr.snoc X49 N48 g
  have O49 : Old Z n0 h49 := O48.wr W49 g
  have KC49 : Keep h0 h49 [b] := KC48.wr W49 (Or.inl (List.mem_of_getElem? (i := 0) rfl))
  have F49 : Fld Z h49 b "com/example/demarcate/demarcate/TransactionDefinition" "readOnly" "Z" (.int r1) := Fld.same W49 ((F2.other W47 (Or.inr (slot_ne (Or.inr (w_45 hw)) (Or.inr (w_41 hw)) (by decide) (t := .boolean) (t' := (.object "com/example/demarcate/demarcate/Propagation")) (by decide) (by decide)))).other W48 (Or.inr (slot_ne (Or.inr (w_45 hw)) (Or.inr (w_43 hw)) (by decide) (t := .boolean) (t' := (.object "com/example/demarcate/demarcate/Isolation")) (by decide) (by decide))))
  refine OW.st (B := T49.setTop (mkF m 19 #[.val (.ref b), .val (.ref p1), .val (.ref i1), .val (.int r1), .val (.ref t1)] [])) (st49) ?_
  refine OW.st (B := T49.setTop (mkF m 20 #[.val (.ref b), .val (.ref p1), .val (.ref i1), .val (.int r1), .val (.ref t1)] [(.ref b)])) (fun _ kk_ => XS.aloadN X49.here hx rfl (hb hby d6_19) rfl rfl kk_) ?_
  refine OW.st (B := T49.setTop (mkF m 22 #[.val (.ref b), .val (.ref p1), .val (.ref i1), .val (.int r1), .val (.ref t1)] [(.ref t1), (.ref b)])) (fun _ kk_ => XS.aload X49.here hx rfl (hb hby d6_20) rfl rfl kk_) ?_
  obtain ⟨T50, h50, X50, e50, W50, st50⟩ := putF X49 hx hZ hown (host := "") (Or.inl (w_46 hw)) Via.refl e49 (((F3.other W47 (Or.inr (slot_ne (Or.inr (w_47 hw)) (Or.inr (w_41 hw)) (by decide) (t := (.object "java/util/OptionalInt")) (t' := (.object "com/example/demarcate/demarcate/Propagation")) (by decide) (by decide)))).other W48 (Or.inr (slot_ne (Or.inr (w_47 hw)) (Or.inr (w_43 hw)) (by decide) (t := (.object "java/util/OptionalInt")) (t' := (.object "com/example/demarcate/demarcate/Isolation")) (by decide) (by decide)))).other W49 (Or.inr (slot_ne (Or.inr (w_47 hw)) (Or.inr (w_45 hw)) (by decide) (t := (.object "java/util/OptionalInt")) (t' := .boolean) (by decide) (by decide)))) (((E.wr W47).wr W48).wr W49) (Or.inr ⟨(w_47 hw), rfl, hnm⟩) (w_21 hw) (ty := (.object "java/util/OptionalInt")) (by decide) rfl rfl (g := (mkF m 22 #[.val (.ref b), .val (.ref p1), .val (.ref i1), .val (.int r1), .val (.ref t1)] [(.ref t1), (.ref b)])) rfl rfl (hb hby d6_22)
  have N50 := Fr.snoc X50 N49 g
  have O50 : Old Z n0 h50 := O49.wr W50 g
  have KC50 : Keep h0 h50 [b] := KC49.wr W50 (Or.inl (List.mem_of_getElem? (i := 0) rfl))
  have F50 : Fld Z h50 b "com/example/demarcate/demarcate/TransactionDefinition" "timeout" "Ljava/util/OptionalInt;" (.ref t1) := Fld.same W50 (((F3.other W47 (Or.inr (slot_ne (Or.inr (w_47 hw)) (Or.inr (w_41 hw)) (by decide) (t := (.object "java/util/OptionalInt")) (t' := (.object "com/example/demarcate/demarcate/Propagation")) (by decide) (by decide)))).other W48 (Or.inr (slot_ne (Or.inr (w_47 hw)) (Or.inr (w_43 hw)) (by decide) (t := (.object "java/util/OptionalInt")) (t' := (.object "com/example/demarcate/demarcate/Isolation")) (by decide) (by decide)))).other W49 (Or.inr (slot_ne (Or.inr (w_47 hw)) (Or.inr (w_45 hw)) (by decide) (t := (.object "java/util/OptionalInt")) (t' := .boolean) (by decide) (by decide))))
  refine OW.st (B := T50.setTop (mkF m 25 #[.val (.ref b), .val (.ref p1), .val (.ref i1), .val (.int r1), .val (.ref t1)] [])) (st50) ?_
  exact OW.retV X50 hx hlk Bd.returns (hb hby d6_25) e50 (by decide) (by decide) ⟨rfl, N50, KC50, ((((E.wr W47).wr W48).wr W49).wr W50), (((F47.other W48 (Or.inr (slot_ne (Or.inr (w_41 hw)) (Or.inr (w_43 hw)) (by decide) (t := (.object "com/example/demarcate/demarcate/Propagation")) (t' := (.object "com/example/demarcate/demarcate/Isolation")) (by decide) (by decide)))).other W49 (Or.inr (slot_ne (Or.inr (w_41 hw)) (Or.inr (w_45 hw)) (by decide) (t := (.object "com/example/demarcate/demarcate/Propagation")) (t' := .boolean) (by decide) (by decide)))).other W50 (Or.inr (slot_ne (Or.inr (w_41 hw)) (Or.inr (w_47 hw)) (by decide) (t := (.object "com/example/demarcate/demarcate/Propagation")) (t' := (.object "java/util/OptionalInt")) (by decide) (by decide)))), ((F48.other W49 (Or.inr (slot_ne (Or.inr (w_43 hw)) (Or.inr (w_45 hw)) (by decide) (t := (.object "com/example/demarcate/demarcate/Isolation")) (t' := .boolean) (by decide) (by decide)))).other W50 (Or.inr (slot_ne (Or.inr (w_43 hw)) (Or.inr (w_47 hw)) (by decide) (t := (.object "com/example/demarcate/demarcate/Isolation")) (t' := (.object "java/util/OptionalInt")) (by decide) (by decide)))), (F49.other W50 (Or.inr (slot_ne (Or.inr (w_45 hw)) (Or.inr (w_47 hw)) (by decide) (t := .boolean) (t' := (.object "java/util/OptionalInt")) (by decide) (by decide)))), F50⟩
theorem ef_T0 (m : MethodId) (x0 : Addr) : entryFrame m #[(.ref x0)] 1 = mkF m 0 #[.val (.ref x0)] [] := by first | (simp [entryFrame, mkF, argsToLocals, Value.category]; done) | rfl
def QT0 (Z : State) (b : Addr) (a_DEFAULT : Addr) (a_REPEATABLE_READ : Addr) (a_MANDATORY : Addr) (a_REQUIRED : Addr) (a_SERIALIZABLE : Addr) (a_REQUIRES_NEW : Addr) (a_READ_COMMITTED : Addr) (a_READ_UNCOMMITTED : Addr) (a_NEVER : Addr) (a_NOT_SUPPORTED : Addr) (a_SUPPORTS : Addr) (a_NESTED : Addr) (a_EMPTY : Addr) (h0 : Heap) (n0 : Nat) (v : Option Value) (h : Heap) (L : List Loc) : Prop := v = none ∧ Fr n0 L ∧ Keep h0 h [b] ∧ Exa Z h b "com/example/demarcate/demarcate/TransactionDefinition" ∧ Fld Z h b "com/example/demarcate/demarcate/TransactionDefinition" "propagation" "Lcom/example/demarcate/demarcate/Propagation;" (.ref a_REQUIRED) ∧ Fld Z h b "com/example/demarcate/demarcate/TransactionDefinition" "isolation" "Lcom/example/demarcate/demarcate/Isolation;" (.ref a_DEFAULT) ∧ Fld Z h b "com/example/demarcate/demarcate/TransactionDefinition" "readOnly" "Z" (.int (0 : Int32)) ∧ Fld Z h b "com/example/demarcate/demarcate/TransactionDefinition" "timeout" "Ljava/util/OptionalInt;" (.ref a_EMPTY)
set_option maxRecDepth 65536 in
set_option maxHeartbeats 40000000 in
theorem rmT0 (l : Launch) (Z : State) (a0 : Array Value) (hw : ∀ d ∈ tables_1, d.before a0 Z = true) (ws : List Jvm.Cond) (b : Addr) (a_DEFAULT : Addr) (a_REPEATABLE_READ : Addr) (a_MANDATORY : Addr) (a_REQUIRED : Addr) (a_SERIALIZABLE : Addr) (a_REQUIRES_NEW : Addr) (a_READ_COMMITTED : Addr) (a_READ_UNCOMMITTED : Addr) (a_NEVER : Addr) (a_NOT_SUPPORTED : Addr) (a_SUPPORTS : Addr) (a_NESTED : Addr) (a_EMPTY : Addr) (h0 : Heap) (n0 : Nat) (O0 : Old Z n0 h0) (E : Exa Z h0 b "com/example/demarcate/demarcate/TransactionDefinition") (F0 : Fld Z h0 b "com/example/demarcate/demarcate/TransactionDefinition" "propagation" "Lcom/example/demarcate/demarcate/Propagation;" .null) (F1 : Fld Z h0 b "com/example/demarcate/demarcate/TransactionDefinition" "isolation" "Lcom/example/demarcate/demarcate/Isolation;" .null) (F2 : Fld Z h0 b "com/example/demarcate/demarcate/TransactionDefinition" "readOnly" "Z" (.int (0 : Int32))) (F3 : Fld Z h0 b "com/example/demarcate/demarcate/TransactionDefinition" "timeout" "Ljava/util/OptionalInt;" .null) (g : n0 ≤ b) (hS : OwnS Z a_DEFAULT a_REPEATABLE_READ a_MANDATORY a_REQUIRED a_SERIALIZABLE a_REQUIRES_NEW a_READ_COMMITTED a_READ_UNCOMMITTED a_NEVER a_NOT_SUPPORTED a_SUPPORTS a_NESTED a_EMPTY) :
    MetFree l (⟨"com/example/demarcate/demarcate/TransactionDefinition", "<init>", "()V"⟩ : MethodName) (head1 (Jvm.Cond.code (⟨"com/example/demarcate/demarcate/TransactionDefinition", "<init>", "()V"⟩ : MethodName) prog_19_method_1_code 1 none :: ws) ({ frames := 2, cells := 0, slots := 0, locals := 28 } : Room)) (fun aa_ UU_ => aa_ = #[(.ref b)] ∧ Z.Warmed39 UU_.vm ∧ UU_.heap = h0) (fun _ _ _ _ _ => True) (fun _ UU_ oo_ UV_ => ∃ vv_ LL_, oo_ = .returned vv_ ∧ QT0 Z b a_DEFAULT a_REPEATABLE_READ a_MANDATORY a_REQUIRED a_SERIALIZABLE a_REQUIRES_NEW a_READ_COMMITTED a_READ_UNCOMMITTED a_NEVER a_NOT_SUPPORTED a_SUPPORTS a_NESTED a_EMPTY h0 n0 vv_ UV_.heap LL_ ∧ FrameEnd UU_ oo_ UV_ LL_ ({ frames := 2, cells := 0, slots := 0, locals := 28 } : Room).cells ({ frames := 2, cells := 0, slots := 0, locals := 28 } : Room).slots) := by
  refine MetFree.of_bodySF (plainFor_of_name pn_3) hisR ?_
  intro p e s m args below meth c s₁ Bd hml0 hP hK
  obtain ⟨rfl, hZ, hh⟩ := hP
  have hx := Bd.exec
  have hby := Bd.bytes
  have hlk := BodyLoose.notSynchronized Bd
  have hml : c.maxLocals = 1 := hml0
  have hown : s.vm.findClass "com/example/demarcate/demarcate/TransactionDefinition" = some m.cls := findClass_of_methodNamed Bd.named
  have hnm := (name_of_methodNamed Bd.named Bd.method).1
  have X0 : Stand p l e ({ frames := 2, cells := 0, slots := 0, locals := 28 } : Room) s m #[(.ref b)] below meth c s₁ [] 0 0 := Stand.of_body Bd
  have e0 : s₁.heap = h0 := by rw [← hh, Bd.state]; rfl
  have N0 := Fr.nil n0
  have KC0 : Keep h0 h0 [b] := Keep.refl _ _
  suffices hOW : OW p e below s (QT0 Z b a_DEFAULT a_REPEATABLE_READ a_MANDATORY a_REQUIRED a_SERIALIZABLE a_REQUIRES_NEW a_READ_COMMITTED a_READ_UNCOMMITTED a_NEVER a_NOT_SUPPORTED a_SUPPORTS a_NESTED a_EMPTY h0 n0) 0 0 (s₁.setTop (mkF m 0 #[.val (.ref b)] [])) by
    obtain ⟨q1, q2, q3, q4⟩ := hOW
    exact ⟨q1, q2, castTop (ef_T0 m b) q3, q4⟩
  have hS' := hS
  obtain ⟨Sa_DEFAULT, Ea_DEFAULT, Sa_REPEATABLE_READ, Ea_REPEATABLE_READ, Sa_MANDATORY, Ea_MANDATORY, Sa_REQUIRED, Ea_REQUIRED, Sa_SERIALIZABLE, Ea_SERIALIZABLE, Sa_REQUIRES_NEW, Ea_REQUIRES_NEW, Sa_READ_COMMITTED, Ea_READ_COMMITTED, Sa_READ_UNCOMMITTED, Ea_READ_UNCOMMITTED, Sa_NEVER, Ea_NEVER, Sa_NOT_SUPPORTED, Ea_NOT_SUPPORTED, Sa_SUPPORTS, Ea_SUPPORTS, Sa_NESTED, Ea_NESTED, Sa_EMPTY, Ea_EMPTY, Fa_EMPTY_isPresent, Fa_EMPTY_value⟩ := hS'
  refine OW.st (B := s₁.setTop (mkF m 1 #[.val (.ref b)] [(.ref b)])) (fun _ kk_ => XS.aloadN X0.here hx rfl (hb hby d4_0) rfl rfl kk_) ?_
  obtain ⟨T51, X51, e51, st51⟩ := getS2 X0 hx hZ hown (host := "") (Or.inl (w_26 hw)) Via.refl e0 (Sa_REQUIRED.ext O0.2) (g := (mkF m 1 #[.val (.ref b)] [(.ref b)])) rfl (hb hby d4_1)
  refine OW.st (B := T51.setTop (mkF m 4 #[.val (.ref b)] [(.ref a_REQUIRED), (.ref b)])) (st51) ?_
  obtain ⟨T52, X52, e52, st52⟩ := getS2 X51 hx hZ hown (host := "") (Or.inl (w_28 hw)) Via.refl e51 (Sa_DEFAULT.ext O0.2) (g := (mkF m 4 #[.val (.ref b)] [(.ref a_REQUIRED), (.ref b)])) rfl (hb hby d4_4)
  refine OW.st (B := T52.setTop (mkF m 7 #[.val (.ref b)] [(.ref a_DEFAULT), (.ref a_REQUIRED), (.ref b)])) (st52) ?_
  refine OW.st (B := T52.setTop (mkF m 8 #[.val (.ref b)] [(.int (0 : Int32)), (.ref a_DEFAULT), (.ref a_REQUIRED), (.ref b)])) (fun _ kk_ => XS.iconst X52.here hx rfl (hb hby d4_7) kk_) ?_
  obtain ⟨_, _, ⟨T53, L53, k53, n53⟩, -, X53, ⟨Lc53, hQ53, l53, y53, z53⟩, st53⟩ := Jvm.LawKit.callS X52 hx (y := (⟨"java/util/OptionalInt", "empty", "()Ljava/util/OptionalInt;"⟩ : MethodName)) hown (mvT hZ (w_29 hw)) (mvT hZ (w_30 hw)) (mvT hZ (w_31 hw)) (mvT hZ (w_32 hw)) (by decide) (backOf (W := 4) (rmOE l Z a0 hw [] a_DEFAULT a_REPEATABLE_READ a_MANDATORY a_REQUIRED a_SERIALIZABLE a_REQUIRES_NEW a_READ_COMMITTED a_READ_UNCOMMITTED a_NEVER a_NOT_SUPPORTED a_SUPPORTS a_NESTED a_EMPTY h0 n0 O0 hS) hZ (w_32 hw) (w_31 hw) (by decide) (by decide)) (g := (mkF m 8 #[.val (.ref b)] [(.int (0 : Int32)), (.ref a_DEFAULT), (.ref a_REQUIRED), (.ref b)])) rfl (by rw [hml]; rfl) (argsL := []) (rest := [(.int (0 : Int32)), (.ref a_DEFAULT), (.ref a_REQUIRED), (.ref b)]) (lenOf pd_0 rfl) rfl (by show 2 * 0 + _ ≤ _; exact Nat.le_of_eq rfl) (hb hby d4_8) (fun _ _ => ⟨rfl, e52, (by decide : 0 + 0 ≤ _), (by decide : 0 + 0 ≤ _)⟩)
  dsimp only [Pt.U, Pt.locs, Pt.cells, Pt.slots] at X53 l53 y53 z53 st53 hQ53
  subst l53 y53 z53
  obtain ⟨rfl, Nq53, e53⟩ := hQ53
  have N53 := Fr.app N0 Nq53
  refine OW.st (B := T53.setTop (mkF m 11 #[.val (.ref b)] [(.ref a_EMPTY), (.int (0 : Int32)), (.ref a_DEFAULT), (.ref a_REQUIRED), (.ref b)])) (st53) ?_
  obtain ⟨_, _, ⟨T54, L54, k54, n54⟩, -, X54, ⟨Lc54, hQ54, l54, y54, z54⟩, st54⟩ := X53.specialBack hx (y := (⟨"com/example/demarcate/demarcate/TransactionDefinition", "<init>", "(Lcom/example/demarcate/demarcate/Propagation;Lcom/example/demarcate/demarcate/Isolation;ZLjava/util/OptionalInt;)V"⟩ : MethodName)) rfl hown (mvT hZ (w_34 hw)) (mvT hZ (w_35 hw)) (mvT hZ (w_36 hw)) (by decide) (backOf (W := 0) (rmT4 l Z a0 hw [] b a_REQUIRED a_DEFAULT (0 : Int32) a_EMPTY h0 n0 O0 E F0 F1 F2 F3 g (by decide)) hZ (w_36 hw) (w_22 hw) (by decide) (by decide)) (g := (mkF m 11 #[.val (.ref b)] [(.ref a_EMPTY), (.int (0 : Int32)), (.ref a_DEFAULT), (.ref a_REQUIRED), (.ref b)])) rfl (by rw [hml]; rfl) (Steps.refl _) (a := b) (argsL := [(.ref a_REQUIRED), (.ref a_DEFAULT), (.int (0 : Int32)), (.ref a_EMPTY)]) (rest := []) (lenOf pd_1 rfl) rfl (by show 2 * 0 + _ ≤ _; exact Nat.le_of_eq rfl) (hb hby d4_11) (fun _ _ => ⟨rfl, e53, (by decide : 0 + 0 ≤ _), (by decide : 0 + 0 ≤ _)⟩)
  dsimp only [Pt.U, Pt.locs, Pt.cells, Pt.slots] at X54 l54 y54 z54 st54 hQ54
  subst l54 y54 z54
  obtain ⟨rfl, Nq54, K54, Ei54, Fi54_0, Fi54_1, Fi54_2, Fi54_3⟩ := hQ54
  have N54 := Fr.app N53 Nq54
  have O54 : Old Z n0 T54.heap := O0.keep K54 (allS g all0)
  have KC54 : Keep h0 T54.heap [b] := KC0.trans K54 (allS (Or.inl (List.mem_of_getElem? (i := 0) rfl)) all0)
  refine OW.tr (B := T54.setTop (mkF m 14 #[.val (.ref b)] [])) (st54) ?_
  exact OW.retV X54 hx hlk Bd.returns (hb hby d4_14) rfl (by decide) (by decide) ⟨rfl, N54, KC54, Ei54, Fi54_0, Fi54_1, Fi54_2, Fi54_3⟩
theorem ef_OI (m : MethodId) (x0 : Addr) (x1 : Int32) : entryFrame m #[(.ref x0), (.int x1)] 2 = mkF m 0 #[.val (.ref x0), .val (.int x1)] [] := by first | (simp [entryFrame, mkF, argsToLocals, Value.category]; done) | rfl
def QOI (Z : State) (b : Addr) (n : Int32) (h0 : Heap) (n0 : Nat) (v : Option Value) (h : Heap) (L : List Loc) : Prop := v = none ∧ Fr n0 L ∧ Keep h0 h [b] ∧ Exa Z h b "java/util/OptionalInt" ∧ Fld Z h b "java/util/OptionalInt" "isPresent" "Z" (.int (1 : Int32)) ∧ Fld Z h b "java/util/OptionalInt" "value" "I" (.int n)
set_option maxRecDepth 65536 in
set_option maxHeartbeats 40000000 in
theorem rmOI (l : Launch) (Z : State) (a0 : Array Value) (hw : ∀ d ∈ tables_1, d.before a0 Z = true) (ws : List Jvm.Cond) (b : Addr) (n : Int32) (h0 : Heap) (n0 : Nat) (O0 : Old Z n0 h0) (E : Exa Z h0 b "java/util/OptionalInt") (F1 : Fld Z h0 b "java/util/OptionalInt" "isPresent" "Z" (.int (0 : Int32))) (F2 : Fld Z h0 b "java/util/OptionalInt" "value" "I" (.int (0 : Int32))) (g : n0 ≤ b) :
    MetFree l (⟨"java/util/OptionalInt", "<init>", "(I)V"⟩ : MethodName) (head1 (Jvm.Cond.code (⟨"java/util/OptionalInt", "<init>", "(I)V"⟩ : MethodName) jdk_2649_method_3_code 2 none :: ws) ({ frames := 1, cells := 0, slots := 0, locals := 12 } : Room)) (fun aa_ UU_ => aa_ = #[(.ref b), (.int n)] ∧ Z.Warmed39 UU_.vm ∧ UU_.heap = h0) (fun _ _ _ _ _ => True) (fun _ UU_ oo_ UV_ => ∃ vv_ LL_, oo_ = .returned vv_ ∧ QOI Z b n h0 n0 vv_ UV_.heap LL_ ∧ FrameEnd UU_ oo_ UV_ LL_ ({ frames := 1, cells := 0, slots := 0, locals := 12 } : Room).cells ({ frames := 1, cells := 0, slots := 0, locals := 12 } : Room).slots) := by
  refine MetFree.of_bodySF (plainFor_of_name pn_1) hisR ?_
  intro p e s m args below meth c s₁ Bd hml0 hP hK
  obtain ⟨rfl, hZ, hh⟩ := hP
  have hx := Bd.exec
  have hby := Bd.bytes
  have hlk := BodyLoose.notSynchronized Bd
  have hml : c.maxLocals = 2 := hml0
  have hown : s.vm.findClass "java/util/OptionalInt" = some m.cls := findClass_of_methodNamed Bd.named
  have hnm := (name_of_methodNamed Bd.named Bd.method).1
  have X0 : Stand p l e ({ frames := 1, cells := 0, slots := 0, locals := 12 } : Room) s m #[(.ref b), (.int n)] below meth c s₁ [] 0 0 := Stand.of_body Bd
  have e0 : s₁.heap = h0 := by rw [← hh, Bd.state]; rfl
  have N0 := Fr.nil n0
  have KC0 : Keep h0 h0 [b] := Keep.refl _ _
  suffices hOW : OW p e below s (QOI Z b n h0 n0) 0 0 (s₁.setTop (mkF m 0 #[.val (.ref b), .val (.int n)] [])) by
    obtain ⟨q1, q2, q3, q4⟩ := hOW
    exact ⟨q1, q2, castTop (ef_OI m b n) q3, q4⟩
  refine OW.st (B := s₁.setTop (mkF m 1 #[.val (.ref b), .val (.int n)] [(.ref b)])) (fun _ kk_ => XS.aloadN X0.here hx rfl (hb hby d19_0) rfl rfl kk_) ?_
  obtain ⟨T55, X55, e55, st55⟩ := initO X0 hx hZ hown (w_124 hw) (w_38 hw) (w_39 hw) e0 (g := (mkF m 1 #[.val (.ref b), .val (.int n)] [(.ref b)])) rfl (by rw [hml]; rfl) rfl (hb hby d19_1) (by decide) (W := 0) (by show 2 * 0 + _ ≤ _; exact Nat.le_of_eq rfl) (by decide)
  refine OW.st (B := T55.setTop (mkF m 4 #[.val (.ref b), .val (.int n)] [])) (st55) ?_
  refine OW.st (B := T55.setTop (mkF m 5 #[.val (.ref b), .val (.int n)] [(.ref b)])) (fun _ kk_ => XS.aloadN X55.here hx rfl (hb hby d19_4) rfl rfl kk_) ?_
  refine OW.st (B := T55.setTop (mkF m 6 #[.val (.ref b), .val (.int n)] [(.int (1 : Int32)), (.ref b)])) (fun _ kk_ => XS.iconst X55.here hx rfl (hb hby d19_5) kk_) ?_
  obtain ⟨T56, h56, X56, e56, W56, st56⟩ := putFN X55 hx hZ hown (w_125 hw) Via.refl e55 F1 E (Or.inr ⟨(w_126 hw), rfl, hnm⟩) (w_119 hw) (ty := .boolean) (v' := (.int (1 : Int32))) (by decide) rfl rfl (g := (mkF m 6 #[.val (.ref b), .val (.int n)] [(.int (1 : Int32)), (.ref b)])) rfl rfl (hb hby d19_6)
  have N56 := Fr.snoc X56 N0 g
  have O56 : Old Z n0 h56 := O0.wr W56 g
  have KC56 : Keep h0 h56 [b] := KC0.wr W56 (Or.inl (List.mem_of_getElem? (i := 0) rfl))
  have F56 : Fld Z h56 b "java/util/OptionalInt" "isPresent" "Z" (.int (1 : Int32)) := Fld.same W56 F1
  refine OW.st (B := T56.setTop (mkF m 9 #[.val (.ref b), .val (.int n)] [])) (st56) ?_
  refine OW.st (B := T56.setTop (mkF m 10 #[.val (.ref b), .val (.int n)] [(.ref b)])) (fun _ kk_ => XS.aloadN X56.here hx rfl (hb hby d19_9) rfl rfl kk_) ?_
  refine OW.st (B := T56.setTop (mkF m 11 #[.val (.ref b), .val (.int n)] [(.int n), (.ref b)])) (fun _ kk_ => XS.iloadN X56.here hx rfl (hb hby d19_10) rfl kk_) ?_
  obtain ⟨T57, h57, X57, e57, W57, st57⟩ := putF X56 hx hZ hown (host := "") (Or.inl (w_127 hw)) Via.refl e56 (F2.other W56 (Or.inr (slot_ne (Or.inr (w_128 hw)) (Or.inr (w_126 hw)) (by decide) (t := .int) (t' := .boolean) (by decide) (by decide)))) (E.wr W56) (Or.inr ⟨(w_128 hw), rfl, hnm⟩) (w_119 hw) (ty := .int) (by decide) rfl rfl (g := (mkF m 11 #[.val (.ref b), .val (.int n)] [(.int n), (.ref b)])) rfl rfl (hb hby d19_11)
  have N57 := Fr.snoc X57 N56 g
  have O57 : Old Z n0 h57 := O56.wr W57 g
  have KC57 : Keep h0 h57 [b] := KC56.wr W57 (Or.inl (List.mem_of_getElem? (i := 0) rfl))
  have F57 : Fld Z h57 b "java/util/OptionalInt" "value" "I" (.int n) := Fld.same W57 (F2.other W56 (Or.inr (slot_ne (Or.inr (w_128 hw)) (Or.inr (w_126 hw)) (by decide) (t := .int) (t' := .boolean) (by decide) (by decide))))
  refine OW.st (B := T57.setTop (mkF m 14 #[.val (.ref b), .val (.int n)] [])) (st57) ?_
  exact OW.retV X57 hx hlk Bd.returns (hb hby d19_14) e57 (by decide) (by decide) ⟨rfl, N57, KC57, ((E.wr W56).wr W57), (F56.other W57 (Or.inr (slot_ne (Or.inr (w_126 hw)) (Or.inr (w_128 hw)) (by decide) (t := .boolean) (t' := .int) (by decide) (by decide)))), F57⟩
theorem ef_OF (m : MethodId) (x0 : Int32) : entryFrame m #[(.int x0)] 1 = mkF m 0 #[.val (.int x0)] [] := by first | (simp [entryFrame, mkF, argsToLocals, Value.category]; done) | rfl
def QOF (Z : State) (n : Int32) (h0 : Heap) (n0 : Nat) (v : Option Value) (h : Heap) (L : List Loc) : Prop := ∃ b : Addr, v = some (.ref b) ∧ Fr n0 L ∧ Keep h0 h [] ∧ n0 ≤ b ∧ h0.size ≤ b ∧ Exa Z h b "java/util/OptionalInt" ∧ Fld Z h b "java/util/OptionalInt" "isPresent" "Z" (.int (1 : Int32)) ∧ Fld Z h b "java/util/OptionalInt" "value" "I" (.int n)
set_option maxRecDepth 65536 in
set_option maxHeartbeats 40000000 in
theorem rmOF (l : Launch) (Z : State) (a0 : Array Value) (hw : ∀ d ∈ tables_1, d.before a0 Z = true) (ws : List Jvm.Cond) (n : Int32) (h0 : Heap) (n0 : Nat) (O0 : Old Z n0 h0) :
    MetFree l (⟨"java/util/OptionalInt", "of", "(I)Ljava/util/OptionalInt;"⟩ : MethodName) (head1 (Jvm.Cond.code (⟨"java/util/OptionalInt", "of", "(I)Ljava/util/OptionalInt;"⟩ : MethodName) jdk_2649_method_4_code 1 (some (.object "java/util/OptionalInt")) :: ws) ({ frames := 2, cells := 1, slots := 2, locals := 26 } : Room)) (fun aa_ UU_ => aa_ = #[(.int n)] ∧ Z.Warmed39 UU_.vm ∧ UU_.heap = h0) (fun _ _ _ _ _ => True) (fun _ UU_ oo_ UV_ => ∃ vv_ LL_, oo_ = .returned vv_ ∧ QOF Z n h0 n0 vv_ UV_.heap LL_ ∧ FrameEnd UU_ oo_ UV_ LL_ ({ frames := 2, cells := 1, slots := 2, locals := 26 } : Room).cells ({ frames := 2, cells := 1, slots := 2, locals := 26 } : Room).slots) := by
  refine MetFree.of_bodySF (plainFor_of_name pn_1) hisR ?_
  intro p e s m args below meth c s₁ Bd hml0 hP hK
  obtain ⟨rfl, hZ, hh⟩ := hP
  have hx := Bd.exec
  have hby := Bd.bytes
  have hlk := BodyLoose.notSynchronized Bd
  have hml : c.maxLocals = 1 := hml0
  have hown : s.vm.findClass "java/util/OptionalInt" = some m.cls := findClass_of_methodNamed Bd.named
  have hnm := (name_of_methodNamed Bd.named Bd.method).1
  have X0 : Stand p l e ({ frames := 2, cells := 1, slots := 2, locals := 26 } : Room) s m #[(.int n)] below meth c s₁ [] 0 0 := Stand.of_body Bd
  have e0 : s₁.heap = h0 := by rw [← hh, Bd.state]; rfl
  have N0 := Fr.nil n0
  have KC0 : Keep h0 h0 [] := Keep.refl _ _
  suffices hOW : OW p e below s (QOF Z n h0 n0) 1 2 (s₁.setTop (mkF m 0 #[.val (.int n)] [])) by
    obtain ⟨q1, q2, q3, q4⟩ := hOW
    exact ⟨q1, q2, castTop (ef_OF m n) q3, q4⟩
  obtain ⟨T58, h58, X58, e58, E58, A58, D58, -, st58⟩ := newO X0 hx hZ hown (w_118 hw) (w_119 hw) (w_31 hw) e0 (g := (mkF m 0 #[.val (.int n)] [])) rfl (hb hby d18_0) (by decide) (by decide)
  obtain ⟨b58, g58⟩ : ∃ z, z = h0.size := ⟨_, rfl⟩
  rw [← g58] at A58 D58 st58
  have n_b58 : n0 ≤ b58 := Nat.le_trans (own_oldle O0) (Nat.le_of_eq g58.symm)
  have O58 : Old Z n0 h58 := O0.ext E58
  have sz_b58 : h0.size ≤ b58 := Nat.le_trans KC0.1 (Nat.le_of_eq g58.symm)
  have KC58 : Keep h0 h58 [] := KC0.ext E58
  have F58_126 : Fld Z h58 b58 "java/util/OptionalInt" "isPresent" "Z" (.int (0 : Int32)) := D58 (Or.inr (w_126 hw)) (ty := .boolean) (by decide)
  have F58_128 : Fld Z h58 b58 "java/util/OptionalInt" "value" "I" (.int (0 : Int32)) := D58 (Or.inr (w_128 hw)) (ty := .int) (by decide)
  refine OW.st (B := T58.setTop (mkF m 3 #[.val (.int n)] [(.ref b58)])) (st58) ?_
  refine OW.st (B := T58.setTop (mkF m 4 #[.val (.int n)] [(.ref b58), (.ref b58)])) (fun _ kk_ => XS.dup X58.here hx rfl (hb hby d18_3) rfl rfl kk_) ?_
  refine OW.st (B := T58.setTop (mkF m 5 #[.val (.int n)] [(.int n), (.ref b58), (.ref b58)])) (fun _ kk_ => XS.iloadN X58.here hx rfl (hb hby d18_4) rfl kk_) ?_
  obtain ⟨_, _, ⟨T59, L59, k59, n59⟩, -, X59, ⟨Lc59, hQ59, l59, y59, z59⟩, st59⟩ := X58.specialBack hx (y := (⟨"java/util/OptionalInt", "<init>", "(I)V"⟩ : MethodName)) rfl hown (mvT hZ (w_120 hw)) (mvT hZ (w_121 hw)) (mvT hZ (w_123 hw)) (by decide) (backOf (W := 1) (rmOI l Z a0 hw [] b58 n h58 n0 O58 A58 F58_126 F58_128 n_b58) hZ (w_123 hw) (w_31 hw) (by decide) (by decide)) (g := (mkF m 5 #[.val (.int n)] [(.int n), (.ref b58), (.ref b58)])) rfl (by rw [hml]; rfl) (Steps.refl _) (a := b58) (argsL := [(.int n)]) (rest := [(.ref b58)]) (lenOf pd_2 rfl) rfl (by show 2 * 0 + _ ≤ _; exact Nat.le_of_eq rfl) (hb hby d18_5) (fun _ _ => ⟨rfl, e58, (by decide : 1 + 0 ≤ _), (by decide : 2 + 0 ≤ _)⟩)
  dsimp only [Pt.U, Pt.locs, Pt.cells, Pt.slots] at X59 l59 y59 z59 st59 hQ59
  subst l59 y59 z59
  obtain ⟨rfl, Nq59, K59, Ei59, Fp59, Fv59⟩ := hQ59
  have N59 := Fr.app N0 Nq59
  have O59 : Old Z n0 T59.heap := O58.keep K59 (allS n_b58 all0)
  have KC59 : Keep h0 T59.heap [] := KC58.trans K59 (allS (Or.inr sz_b58) all0)
  refine OW.tr (B := T59.setTop (mkF m 8 #[.val (.int n)] [(.ref b58)])) (st59) ?_
  exact OW.ret X59 hx hlk (i := .areturn) Bd.returns rfl (Or.inr (Or.inr (Or.inr (Or.inr ⟨rfl, rfl, rfl⟩)))) (hb hby d18_8) rfl (by decide) (by decide) ⟨b58, rfl, N59, KC59, n_b58, sz_b58, Ei59, Fp59, Fv59⟩
theorem ef_WP (m : MethodId) (x0 : Addr) (x1 : Addr) : entryFrame m #[(.ref x0), (.ref x1)] 2 = mkF m 0 #[.val (.ref x0), .val (.ref x1)] [] := by first | (simp [entryFrame, mkF, argsToLocals, Value.category]; done) | rfl
def QWP (Z : State) (b : Addr) (p1 : Addr) (i1 : Addr) (r1 : Int32) (t1 : Addr) (x1 : Addr) (h0 : Heap) (n0 : Nat) (v : Option Value) (h : Heap) (L : List Loc) : Prop := ∃ c : Addr, v = some (.ref c) ∧ Fr n0 L ∧ Keep h0 h [] ∧ n0 ≤ c ∧ h0.size ≤ c ∧ Exa Z h c "com/example/demarcate/demarcate/TransactionDefinition" ∧ Fld Z h c "com/example/demarcate/demarcate/TransactionDefinition" "propagation" "Lcom/example/demarcate/demarcate/Propagation;" (.ref x1) ∧ Fld Z h c "com/example/demarcate/demarcate/TransactionDefinition" "isolation" "Lcom/example/demarcate/demarcate/Isolation;" (.ref i1) ∧ Fld Z h c "com/example/demarcate/demarcate/TransactionDefinition" "readOnly" "Z" (.int r1) ∧ Fld Z h c "com/example/demarcate/demarcate/TransactionDefinition" "timeout" "Ljava/util/OptionalInt;" (.ref t1)
set_option maxRecDepth 65536 in
set_option maxHeartbeats 40000000 in
theorem rmWP (l : Launch) (Z : State) (a0 : Array Value) (hw : ∀ d ∈ tables_1, d.before a0 Z = true) (ws : List Jvm.Cond) (b : Addr) (p1 : Addr) (i1 : Addr) (r1 : Int32) (t1 : Addr) (x1 : Addr) (h0 : Heap) (n0 : Nat) (O0 : Old Z n0 h0) (F0 : Fld Z h0 b "com/example/demarcate/demarcate/TransactionDefinition" "propagation" "Lcom/example/demarcate/demarcate/Propagation;" (.ref p1)) (F1 : Fld Z h0 b "com/example/demarcate/demarcate/TransactionDefinition" "isolation" "Lcom/example/demarcate/demarcate/Isolation;" (.ref i1)) (F2 : Fld Z h0 b "com/example/demarcate/demarcate/TransactionDefinition" "readOnly" "Z" (.int r1)) (F3 : Fld Z h0 b "com/example/demarcate/demarcate/TransactionDefinition" "timeout" "Ljava/util/OptionalInt;" (.ref t1)) (hr : r1 = 0 ∨ r1 = 1) (EA : Exa Z h0 x1 "com/example/demarcate/demarcate/Propagation") :
    MetFree l (⟨"com/example/demarcate/demarcate/TransactionDefinition", "withPropagation", "(Lcom/example/demarcate/demarcate/Propagation;)Lcom/example/demarcate/demarcate/TransactionDefinition;"⟩ : MethodName) (head1 (Jvm.Cond.code (⟨"com/example/demarcate/demarcate/TransactionDefinition", "withPropagation", "(Lcom/example/demarcate/demarcate/Propagation;)Lcom/example/demarcate/demarcate/TransactionDefinition;"⟩ : MethodName) prog_19_method_3_code 2 (some (.object "com/example/demarcate/demarcate/TransactionDefinition")) :: ws) ({ frames := 2, cells := 3, slots := 52, locals := 29 } : Room)) (fun aa_ UU_ => aa_ = #[(.ref b), (.ref x1)] ∧ Z.Warmed39 UU_.vm ∧ UU_.heap = h0) (fun _ _ _ _ _ => True) (fun _ UU_ oo_ UV_ => ∃ vv_ LL_, oo_ = .returned vv_ ∧ QWP Z b p1 i1 r1 t1 x1 h0 n0 vv_ UV_.heap LL_ ∧ ReturnedEndW UU_ oo_ UV_ LL_ ({ frames := 2, cells := 3, slots := 52, locals := 29 } : Room).cells ({ frames := 2, cells := 3, slots := 52, locals := 29 } : Room).slots) := by
  refine MetFree.of_bodySF (plainFor_of_name pn_3) hisR ?_
  intro p e s m args below meth c s₁ Bd hml0 hP hK
  obtain ⟨rfl, hZ, hh⟩ := hP
  have hx := Bd.exec
  have hby := Bd.bytes
  have hlk := BodyLoose.notSynchronized Bd
  have hml : c.maxLocals = 2 := hml0
  have hown : s.vm.findClass "com/example/demarcate/demarcate/TransactionDefinition" = some m.cls := findClass_of_methodNamed Bd.named
  have hnm := (name_of_methodNamed Bd.named Bd.method).1
  have X0 : Stand p l e ({ frames := 2, cells := 3, slots := 52, locals := 29 } : Room) s m #[(.ref b), (.ref x1)] below meth c s₁ [] 0 0 := Stand.of_body Bd
  have e0 : s₁.heap = h0 := by rw [← hh, Bd.state]; rfl
  have N0 := Fr.nil n0
  have hS0 : s.Since s.vm 0 := (State.WarmedH.refl s).since 0
  have hk0 : 0 ≤ h0.size := Nat.zero_le _
  have KC0 : Keep h0 h0 [] := Keep.refl _ _
  suffices hOW : OWW p e below s (QWP Z b p1 i1 r1 t1 x1 h0 n0) 3 52 (s₁.setTop (mkF m 0 #[.val (.ref b), .val (.ref x1)] [])) by
    obtain ⟨q1, q2, q3, q4⟩ := hOW
    exact ⟨q1, q2, castTop (ef_WP m b x1) q3, q4⟩
  obtain ⟨T60, h60, X60, e60, E60, A60, D60, -, st60⟩ := newO X0 hx hZ hown (w_53 hw) (w_21 hw) (w_22 hw) e0 (g := (mkF m 0 #[.val (.ref b), .val (.ref x1)] [])) rfl (hb hby d8_0) (by decide) (by decide)
  obtain ⟨b60, g60⟩ : ∃ z, z = h0.size := ⟨_, rfl⟩
  rw [← g60] at A60 D60 st60
  have n_b60 : n0 ≤ b60 := Nat.le_trans (own_oldle O0) (Nat.le_of_eq g60.symm)
  have O60 : Old Z n0 h60 := O0.ext E60
  have sz_b60 : h0.size ≤ b60 := Nat.le_trans KC0.1 (Nat.le_of_eq g60.symm)
  have KC60 : Keep h0 h60 [] := KC0.ext E60
  have F60_41 : Fld Z h60 b60 "com/example/demarcate/demarcate/TransactionDefinition" "propagation" "Lcom/example/demarcate/demarcate/Propagation;" .null := D60 (Or.inr (w_41 hw)) (ty := (.object "com/example/demarcate/demarcate/Propagation")) (by decide)
  have F60_43 : Fld Z h60 b60 "com/example/demarcate/demarcate/TransactionDefinition" "isolation" "Lcom/example/demarcate/demarcate/Isolation;" .null := D60 (Or.inr (w_43 hw)) (ty := (.object "com/example/demarcate/demarcate/Isolation")) (by decide)
  have F60_45 : Fld Z h60 b60 "com/example/demarcate/demarcate/TransactionDefinition" "readOnly" "Z" (.int (0 : Int32)) := D60 (Or.inr (w_45 hw)) (ty := .boolean) (by decide)
  have F60_47 : Fld Z h60 b60 "com/example/demarcate/demarcate/TransactionDefinition" "timeout" "Ljava/util/OptionalInt;" .null := D60 (Or.inr (w_47 hw)) (ty := (.object "java/util/OptionalInt")) (by decide)
  refine OWW.st (B := T60.setTop (mkF m 3 #[.val (.ref b), .val (.ref x1)] [(.ref b60)])) (st60) ?_
  refine OWW.st (B := T60.setTop (mkF m 4 #[.val (.ref b), .val (.ref x1)] [(.ref b60), (.ref b60)])) (fun _ kk_ => XS.dup X60.here hx rfl (hb hby d8_3) rfl rfl kk_) ?_
  refine OWW.st (B := T60.setTop (mkF m 5 #[.val (.ref b), .val (.ref x1)] [(.ref x1), (.ref b60), (.ref b60)])) (fun _ kk_ => XS.aloadN X60.here hx rfl (hb hby d8_4) rfl rfl kk_) ?_
  obtain ⟨a61, T61, h61, k61, X61, e61, E61, hS61, hk61, hZ61, hown61, st61⟩ := ldcS (s := s) (vm0 := s.vm) X60 hx hZ hown (w_54 hw) (own_wS hw) e60 hS0 (Nat.le_trans hk0 E60.1) (g := (mkF m 5 #[.val (.ref b), .val (.ref x1)] [(.ref x1), (.ref b60), (.ref b60)])) rfl (hb hby d8_5) (n := 44) (by decide) (by decide) (by decide) (by decide)
  have O61 : Old Z n0 h61 := O60.ext E61
  have KC61 : Keep h0 h61 [] := KC60.ext E61
  refine OWW.st (B := T61.setTop (mkF m 7 #[.val (.ref b), .val (.ref x1)] [(.ref a61), (.ref x1), (.ref b60), (.ref b60)])) (st61) ?_
  obtain ⟨_, _, ⟨T62, L62, k62, n62⟩, -, X62, ⟨Lc62, hQ62, l62, y62, z62⟩, st62⟩ := Jvm.LawKit.callS X61 hx (y := (⟨"java/util/Objects", "requireNonNull", "(Ljava/lang/Object;Ljava/lang/String;)Ljava/lang/Object;"⟩ : MethodName)) hown61 (mvT hZ61 (w_62 hw)) (mvT hZ61 (w_63 hw)) (mvT hZ61 (w_64 hw)) (mvT hZ61 (w_65 hw)) (by decide) (backOf (W := 2) (rmNN l Z a0 hw [] x1 a61 h61 n0 O61 ) hZ61 (w_65 hw) (w_64 hw) (by decide) (by decide)) (g := (mkF m 7 #[.val (.ref b), .val (.ref x1)] [(.ref a61), (.ref x1), (.ref b60), (.ref b60)])) rfl (by rw [hml]; rfl) (argsL := [(.ref x1), (.ref a61)]) (rest := [(.ref b60), (.ref b60)]) (lenOf pd_3 rfl) rfl (by show 2 * 0 + _ ≤ _; exact Nat.le_of_eq rfl) (hb hby d8_7) (fun _ _ => ⟨rfl, e61, (by decide : 3 + 0 ≤ _), (by decide : 52 + 0 ≤ _)⟩)
  dsimp only [Pt.U, Pt.locs, Pt.cells, Pt.slots] at X62 l62 y62 z62 st62 hQ62
  subst l62 y62 z62
  obtain ⟨rfl, Nq62, e62⟩ := hQ62
  have N62 := Fr.app N0 Nq62
  refine OWW.st (B := T62.setTop (mkF m 10 #[.val (.ref b), .val (.ref x1)] [(.ref x1), (.ref b60), (.ref b60)])) (st62) ?_
  obtain ⟨T63, X63, e63, st63⟩ := castY X62 hx hZ61 hown61 (w_66 hw) e62 (Ins.self ((EA.ext E60).ext E61)) (g := (mkF m 10 #[.val (.ref b), .val (.ref x1)] [(.ref x1), (.ref b60), (.ref b60)])) rfl rfl (hb hby d8_10)
  refine OWW.st (B := T63.setTop (mkF m 13 #[.val (.ref b), .val (.ref x1)] [(.ref x1), (.ref b60), (.ref b60)])) (st63) ?_
  refine OWW.st (B := T63.setTop (mkF m 14 #[.val (.ref b), .val (.ref x1)] [(.ref b), (.ref x1), (.ref b60), (.ref b60)])) (fun _ kk_ => XS.aloadN X63.here hx rfl (hb hby d8_13) rfl rfl kk_) ?_
  obtain ⟨T64, X64, e64, st64⟩ := getF X63 hx hZ61 hown61 (host := "") (Or.inl (w_42 hw)) Via.refl e63 ((F1.ext E60).ext E61) (g := (mkF m 14 #[.val (.ref b), .val (.ref x1)] [(.ref b), (.ref x1), (.ref b60), (.ref b60)])) rfl rfl (hb hby d8_14)
  refine OWW.st (B := T64.setTop (mkF m 17 #[.val (.ref b), .val (.ref x1)] [(.ref i1), (.ref x1), (.ref b60), (.ref b60)])) (st64) ?_
  refine OWW.st (B := T64.setTop (mkF m 18 #[.val (.ref b), .val (.ref x1)] [(.ref b), (.ref i1), (.ref x1), (.ref b60), (.ref b60)])) (fun _ kk_ => XS.aloadN X64.here hx rfl (hb hby d8_17) rfl rfl kk_) ?_
  obtain ⟨T65, X65, e65, st65⟩ := getF X64 hx hZ61 hown61 (host := "") (Or.inl (w_44 hw)) Via.refl e64 ((F2.ext E60).ext E61) (g := (mkF m 18 #[.val (.ref b), .val (.ref x1)] [(.ref b), (.ref i1), (.ref x1), (.ref b60), (.ref b60)])) rfl rfl (hb hby d8_18)
  refine OWW.st (B := T65.setTop (mkF m 21 #[.val (.ref b), .val (.ref x1)] [(.int r1), (.ref i1), (.ref x1), (.ref b60), (.ref b60)])) (st65) ?_
  refine OWW.st (B := T65.setTop (mkF m 22 #[.val (.ref b), .val (.ref x1)] [(.ref b), (.int r1), (.ref i1), (.ref x1), (.ref b60), (.ref b60)])) (fun _ kk_ => XS.aloadN X65.here hx rfl (hb hby d8_21) rfl rfl kk_) ?_
  obtain ⟨T66, X66, e66, st66⟩ := getF X65 hx hZ61 hown61 (host := "") (Or.inl (w_46 hw)) Via.refl e65 ((F3.ext E60).ext E61) (g := (mkF m 22 #[.val (.ref b), .val (.ref x1)] [(.ref b), (.int r1), (.ref i1), (.ref x1), (.ref b60), (.ref b60)])) rfl rfl (hb hby d8_22)
  refine OWW.st (B := T66.setTop (mkF m 25 #[.val (.ref b), .val (.ref x1)] [(.ref t1), (.int r1), (.ref i1), (.ref x1), (.ref b60), (.ref b60)])) (st66) ?_
  obtain ⟨_, _, ⟨T67, L67, k67, n67⟩, -, X67, ⟨Lc67, hQ67, l67, y67, z67⟩, st67⟩ := X66.specialBack hx (y := (⟨"com/example/demarcate/demarcate/TransactionDefinition", "<init>", "(Lcom/example/demarcate/demarcate/Propagation;Lcom/example/demarcate/demarcate/Isolation;ZLjava/util/OptionalInt;)V"⟩ : MethodName)) rfl hown61 (mvT hZ61 (w_34 hw)) (mvT hZ61 (w_35 hw)) (mvT hZ61 (w_36 hw)) (by decide) (backOf (W := 1) (rmT4 l Z a0 hw [] b60 x1 i1 r1 t1 h61 n0 O61 (A60.ext E61) (F60_41.ext E61) (F60_43.ext E61) (F60_45.ext E61) (F60_47.ext E61) n_b60 hr) hZ61 (w_36 hw) (w_22 hw) (by decide) (by decide)) (g := (mkF m 25 #[.val (.ref b), .val (.ref x1)] [(.ref t1), (.int r1), (.ref i1), (.ref x1), (.ref b60), (.ref b60)])) rfl (by rw [hml]; rfl) (Steps.refl _) (a := b60) (argsL := [(.ref x1), (.ref i1), (.int r1), (.ref t1)]) (rest := [(.ref b60)]) (lenOf pd_1 rfl) rfl (by show 2 * 0 + _ ≤ _; exact Nat.le_of_eq rfl) (hb hby d8_25) (fun _ _ => ⟨rfl, e66, (by decide : 3 + 0 ≤ _), (by decide : 52 + 0 ≤ _)⟩)
  dsimp only [Pt.U, Pt.locs, Pt.cells, Pt.slots] at X67 l67 y67 z67 st67 hQ67
  subst l67 y67 z67
  obtain ⟨rfl, Nq67, K67, Ei67, Fi67_0, Fi67_1, Fi67_2, Fi67_3⟩ := hQ67
  have N67 := Fr.app N62 Nq67
  have O67 : Old Z n0 T67.heap := O61.keep K67 (allS n_b60 all0)
  have KC67 : Keep h0 T67.heap [] := KC61.trans K67 (allS (Or.inr sz_b60) all0)
  refine OWW.tr (B := T67.setTop (mkF m 28 #[.val (.ref b), .val (.ref x1)] [(.ref b60)])) (st67) ?_
  exact OWW.ret X67 (s := s) (vm0 := T61.vm) hS61 (Nat.le_trans hk61 K67.1) hx hlk (i := .areturn) Bd.returns rfl (Or.inr (Or.inr (Or.inr (Or.inr ⟨rfl, rfl, rfl⟩)))) (hb hby d8_28) rfl (by decide) (by decide) ⟨b60, rfl, N67, KC67, n_b60, sz_b60, Ei67, Fi67_0, Fi67_1, Fi67_2, Fi67_3⟩
theorem ef_WI (m : MethodId) (x0 : Addr) (x1 : Addr) : entryFrame m #[(.ref x0), (.ref x1)] 2 = mkF m 0 #[.val (.ref x0), .val (.ref x1)] [] := by first | (simp [entryFrame, mkF, argsToLocals, Value.category]; done) | rfl
def QWI (Z : State) (b : Addr) (p1 : Addr) (i1 : Addr) (r1 : Int32) (t1 : Addr) (x1 : Addr) (h0 : Heap) (n0 : Nat) (v : Option Value) (h : Heap) (L : List Loc) : Prop := ∃ c : Addr, v = some (.ref c) ∧ Fr n0 L ∧ Keep h0 h [] ∧ n0 ≤ c ∧ h0.size ≤ c ∧ Exa Z h c "com/example/demarcate/demarcate/TransactionDefinition" ∧ Fld Z h c "com/example/demarcate/demarcate/TransactionDefinition" "propagation" "Lcom/example/demarcate/demarcate/Propagation;" (.ref p1) ∧ Fld Z h c "com/example/demarcate/demarcate/TransactionDefinition" "isolation" "Lcom/example/demarcate/demarcate/Isolation;" (.ref x1) ∧ Fld Z h c "com/example/demarcate/demarcate/TransactionDefinition" "readOnly" "Z" (.int r1) ∧ Fld Z h c "com/example/demarcate/demarcate/TransactionDefinition" "timeout" "Ljava/util/OptionalInt;" (.ref t1)
set_option maxRecDepth 65536 in
set_option maxHeartbeats 40000000 in
theorem rmWI (l : Launch) (Z : State) (a0 : Array Value) (hw : ∀ d ∈ tables_1, d.before a0 Z = true) (ws : List Jvm.Cond) (b : Addr) (p1 : Addr) (i1 : Addr) (r1 : Int32) (t1 : Addr) (x1 : Addr) (h0 : Heap) (n0 : Nat) (O0 : Old Z n0 h0) (F0 : Fld Z h0 b "com/example/demarcate/demarcate/TransactionDefinition" "propagation" "Lcom/example/demarcate/demarcate/Propagation;" (.ref p1)) (F1 : Fld Z h0 b "com/example/demarcate/demarcate/TransactionDefinition" "isolation" "Lcom/example/demarcate/demarcate/Isolation;" (.ref i1)) (F2 : Fld Z h0 b "com/example/demarcate/demarcate/TransactionDefinition" "readOnly" "Z" (.int r1)) (F3 : Fld Z h0 b "com/example/demarcate/demarcate/TransactionDefinition" "timeout" "Ljava/util/OptionalInt;" (.ref t1)) (hr : r1 = 0 ∨ r1 = 1) (EA : Exa Z h0 x1 "com/example/demarcate/demarcate/Isolation") :
    MetFree l (⟨"com/example/demarcate/demarcate/TransactionDefinition", "withIsolation", "(Lcom/example/demarcate/demarcate/Isolation;)Lcom/example/demarcate/demarcate/TransactionDefinition;"⟩ : MethodName) (head1 (Jvm.Cond.code (⟨"com/example/demarcate/demarcate/TransactionDefinition", "withIsolation", "(Lcom/example/demarcate/demarcate/Isolation;)Lcom/example/demarcate/demarcate/TransactionDefinition;"⟩ : MethodName) prog_19_method_4_code 2 (some (.object "com/example/demarcate/demarcate/TransactionDefinition")) :: ws) ({ frames := 2, cells := 3, slots := 44, locals := 29 } : Room)) (fun aa_ UU_ => aa_ = #[(.ref b), (.ref x1)] ∧ Z.Warmed39 UU_.vm ∧ UU_.heap = h0) (fun _ _ _ _ _ => True) (fun _ UU_ oo_ UV_ => ∃ vv_ LL_, oo_ = .returned vv_ ∧ QWI Z b p1 i1 r1 t1 x1 h0 n0 vv_ UV_.heap LL_ ∧ ReturnedEndW UU_ oo_ UV_ LL_ ({ frames := 2, cells := 3, slots := 44, locals := 29 } : Room).cells ({ frames := 2, cells := 3, slots := 44, locals := 29 } : Room).slots) := by
  refine MetFree.of_bodySF (plainFor_of_name pn_3) hisR ?_
  intro p e s m args below meth c s₁ Bd hml0 hP hK
  obtain ⟨rfl, hZ, hh⟩ := hP
  have hx := Bd.exec
  have hby := Bd.bytes
  have hlk := BodyLoose.notSynchronized Bd
  have hml : c.maxLocals = 2 := hml0
  have hown : s.vm.findClass "com/example/demarcate/demarcate/TransactionDefinition" = some m.cls := findClass_of_methodNamed Bd.named
  have hnm := (name_of_methodNamed Bd.named Bd.method).1
  have X0 : Stand p l e ({ frames := 2, cells := 3, slots := 44, locals := 29 } : Room) s m #[(.ref b), (.ref x1)] below meth c s₁ [] 0 0 := Stand.of_body Bd
  have e0 : s₁.heap = h0 := by rw [← hh, Bd.state]; rfl
  have N0 := Fr.nil n0
  have hS0 : s.Since s.vm 0 := (State.WarmedH.refl s).since 0
  have hk0 : 0 ≤ h0.size := Nat.zero_le _
  have KC0 : Keep h0 h0 [] := Keep.refl _ _
  suffices hOW : OWW p e below s (QWI Z b p1 i1 r1 t1 x1 h0 n0) 3 44 (s₁.setTop (mkF m 0 #[.val (.ref b), .val (.ref x1)] [])) by
    obtain ⟨q1, q2, q3, q4⟩ := hOW
    exact ⟨q1, q2, castTop (ef_WI m b x1) q3, q4⟩
  obtain ⟨T68, h68, X68, e68, E68, A68, D68, -, st68⟩ := newO X0 hx hZ hown (w_53 hw) (w_21 hw) (w_22 hw) e0 (g := (mkF m 0 #[.val (.ref b), .val (.ref x1)] [])) rfl (hb hby d10_0) (by decide) (by decide)
  obtain ⟨b68, g68⟩ : ∃ z, z = h0.size := ⟨_, rfl⟩
  rw [← g68] at A68 D68 st68
  have n_b68 : n0 ≤ b68 := Nat.le_trans (own_oldle O0) (Nat.le_of_eq g68.symm)
  have O68 : Old Z n0 h68 := O0.ext E68
  have sz_b68 : h0.size ≤ b68 := Nat.le_trans KC0.1 (Nat.le_of_eq g68.symm)
  have KC68 : Keep h0 h68 [] := KC0.ext E68
  have F68_41 : Fld Z h68 b68 "com/example/demarcate/demarcate/TransactionDefinition" "propagation" "Lcom/example/demarcate/demarcate/Propagation;" .null := D68 (Or.inr (w_41 hw)) (ty := (.object "com/example/demarcate/demarcate/Propagation")) (by decide)
  have F68_43 : Fld Z h68 b68 "com/example/demarcate/demarcate/TransactionDefinition" "isolation" "Lcom/example/demarcate/demarcate/Isolation;" .null := D68 (Or.inr (w_43 hw)) (ty := (.object "com/example/demarcate/demarcate/Isolation")) (by decide)
  have F68_45 : Fld Z h68 b68 "com/example/demarcate/demarcate/TransactionDefinition" "readOnly" "Z" (.int (0 : Int32)) := D68 (Or.inr (w_45 hw)) (ty := .boolean) (by decide)
  have F68_47 : Fld Z h68 b68 "com/example/demarcate/demarcate/TransactionDefinition" "timeout" "Ljava/util/OptionalInt;" .null := D68 (Or.inr (w_47 hw)) (ty := (.object "java/util/OptionalInt")) (by decide)
  refine OWW.st (B := T68.setTop (mkF m 3 #[.val (.ref b), .val (.ref x1)] [(.ref b68)])) (st68) ?_
  refine OWW.st (B := T68.setTop (mkF m 4 #[.val (.ref b), .val (.ref x1)] [(.ref b68), (.ref b68)])) (fun _ kk_ => XS.dup X68.here hx rfl (hb hby d10_3) rfl rfl kk_) ?_
  refine OWW.st (B := T68.setTop (mkF m 5 #[.val (.ref b), .val (.ref x1)] [(.ref b), (.ref b68), (.ref b68)])) (fun _ kk_ => XS.aloadN X68.here hx rfl (hb hby d10_4) rfl rfl kk_) ?_
  obtain ⟨T69, X69, e69, st69⟩ := getF X68 hx hZ hown (host := "") (Or.inl (w_40 hw)) Via.refl e68 (F0.ext E68) (g := (mkF m 5 #[.val (.ref b), .val (.ref x1)] [(.ref b), (.ref b68), (.ref b68)])) rfl rfl (hb hby d10_5)
  refine OWW.st (B := T69.setTop (mkF m 8 #[.val (.ref b), .val (.ref x1)] [(.ref p1), (.ref b68), (.ref b68)])) (st69) ?_
  refine OWW.st (B := T69.setTop (mkF m 9 #[.val (.ref b), .val (.ref x1)] [(.ref x1), (.ref p1), (.ref b68), (.ref b68)])) (fun _ kk_ => XS.aloadN X69.here hx rfl (hb hby d10_8) rfl rfl kk_) ?_
  obtain ⟨a70, T70, h70, k70, X70, e70, E70, hS70, hk70, hZ70, hown70, st70⟩ := ldcS (s := s) (vm0 := s.vm) X69 hx hZ hown (w_73 hw) (own_wS hw) e69 hS0 (Nat.le_trans hk0 E68.1) (g := (mkF m 9 #[.val (.ref b), .val (.ref x1)] [(.ref x1), (.ref p1), (.ref b68), (.ref b68)])) rfl (hb hby d10_9) (n := 36) (by decide) (by decide) (by decide) (by decide)
  have O70 : Old Z n0 h70 := O68.ext E70
  have KC70 : Keep h0 h70 [] := KC68.ext E70
  refine OWW.st (B := T70.setTop (mkF m 11 #[.val (.ref b), .val (.ref x1)] [(.ref a70), (.ref x1), (.ref p1), (.ref b68), (.ref b68)])) (st70) ?_
  obtain ⟨_, _, ⟨T71, L71, k71, n71⟩, -, X71, ⟨Lc71, hQ71, l71, y71, z71⟩, st71⟩ := Jvm.LawKit.callS X70 hx (y := (⟨"java/util/Objects", "requireNonNull", "(Ljava/lang/Object;Ljava/lang/String;)Ljava/lang/Object;"⟩ : MethodName)) hown70 (mvT hZ70 (w_62 hw)) (mvT hZ70 (w_63 hw)) (mvT hZ70 (w_64 hw)) (mvT hZ70 (w_65 hw)) (by decide) (backOf (W := 3) (rmNN l Z a0 hw [] x1 a70 h70 n0 O70 ) hZ70 (w_65 hw) (w_64 hw) (by decide) (by decide)) (g := (mkF m 11 #[.val (.ref b), .val (.ref x1)] [(.ref a70), (.ref x1), (.ref p1), (.ref b68), (.ref b68)])) rfl (by rw [hml]; rfl) (argsL := [(.ref x1), (.ref a70)]) (rest := [(.ref p1), (.ref b68), (.ref b68)]) (lenOf pd_3 rfl) rfl (by show 2 * 0 + _ ≤ _; exact Nat.le_of_eq rfl) (hb hby d10_11) (fun _ _ => ⟨rfl, e70, (by decide : 3 + 0 ≤ _), (by decide : 44 + 0 ≤ _)⟩)
  dsimp only [Pt.U, Pt.locs, Pt.cells, Pt.slots] at X71 l71 y71 z71 st71 hQ71
  subst l71 y71 z71
  obtain ⟨rfl, Nq71, e71⟩ := hQ71
  have N71 := Fr.app N0 Nq71
  refine OWW.st (B := T71.setTop (mkF m 14 #[.val (.ref b), .val (.ref x1)] [(.ref x1), (.ref p1), (.ref b68), (.ref b68)])) (st71) ?_
  obtain ⟨T72, X72, e72, st72⟩ := castY X71 hx hZ70 hown70 (w_74 hw) e71 (Ins.self ((EA.ext E68).ext E70)) (g := (mkF m 14 #[.val (.ref b), .val (.ref x1)] [(.ref x1), (.ref p1), (.ref b68), (.ref b68)])) rfl rfl (hb hby d10_14)
  refine OWW.st (B := T72.setTop (mkF m 17 #[.val (.ref b), .val (.ref x1)] [(.ref x1), (.ref p1), (.ref b68), (.ref b68)])) (st72) ?_
  refine OWW.st (B := T72.setTop (mkF m 18 #[.val (.ref b), .val (.ref x1)] [(.ref b), (.ref x1), (.ref p1), (.ref b68), (.ref b68)])) (fun _ kk_ => XS.aloadN X72.here hx rfl (hb hby d10_17) rfl rfl kk_) ?_
  obtain ⟨T73, X73, e73, st73⟩ := getF X72 hx hZ70 hown70 (host := "") (Or.inl (w_44 hw)) Via.refl e72 ((F2.ext E68).ext E70) (g := (mkF m 18 #[.val (.ref b), .val (.ref x1)] [(.ref b), (.ref x1), (.ref p1), (.ref b68), (.ref b68)])) rfl rfl (hb hby d10_18)
  refine OWW.st (B := T73.setTop (mkF m 21 #[.val (.ref b), .val (.ref x1)] [(.int r1), (.ref x1), (.ref p1), (.ref b68), (.ref b68)])) (st73) ?_
  refine OWW.st (B := T73.setTop (mkF m 22 #[.val (.ref b), .val (.ref x1)] [(.ref b), (.int r1), (.ref x1), (.ref p1), (.ref b68), (.ref b68)])) (fun _ kk_ => XS.aloadN X73.here hx rfl (hb hby d10_21) rfl rfl kk_) ?_
  obtain ⟨T74, X74, e74, st74⟩ := getF X73 hx hZ70 hown70 (host := "") (Or.inl (w_46 hw)) Via.refl e73 ((F3.ext E68).ext E70) (g := (mkF m 22 #[.val (.ref b), .val (.ref x1)] [(.ref b), (.int r1), (.ref x1), (.ref p1), (.ref b68), (.ref b68)])) rfl rfl (hb hby d10_22)
  refine OWW.st (B := T74.setTop (mkF m 25 #[.val (.ref b), .val (.ref x1)] [(.ref t1), (.int r1), (.ref x1), (.ref p1), (.ref b68), (.ref b68)])) (st74) ?_
  obtain ⟨_, _, ⟨T75, L75, k75, n75⟩, -, X75, ⟨Lc75, hQ75, l75, y75, z75⟩, st75⟩ := X74.specialBack hx (y := (⟨"com/example/demarcate/demarcate/TransactionDefinition", "<init>", "(Lcom/example/demarcate/demarcate/Propagation;Lcom/example/demarcate/demarcate/Isolation;ZLjava/util/OptionalInt;)V"⟩ : MethodName)) rfl hown70 (mvT hZ70 (w_34 hw)) (mvT hZ70 (w_35 hw)) (mvT hZ70 (w_36 hw)) (by decide) (backOf (W := 1) (rmT4 l Z a0 hw [] b68 p1 x1 r1 t1 h70 n0 O70 (A68.ext E70) (F68_41.ext E70) (F68_43.ext E70) (F68_45.ext E70) (F68_47.ext E70) n_b68 hr) hZ70 (w_36 hw) (w_22 hw) (by decide) (by decide)) (g := (mkF m 25 #[.val (.ref b), .val (.ref x1)] [(.ref t1), (.int r1), (.ref x1), (.ref p1), (.ref b68), (.ref b68)])) rfl (by rw [hml]; rfl) (Steps.refl _) (a := b68) (argsL := [(.ref p1), (.ref x1), (.int r1), (.ref t1)]) (rest := [(.ref b68)]) (lenOf pd_1 rfl) rfl (by show 2 * 0 + _ ≤ _; exact Nat.le_of_eq rfl) (hb hby d10_25) (fun _ _ => ⟨rfl, e74, (by decide : 3 + 0 ≤ _), (by decide : 44 + 0 ≤ _)⟩)
  dsimp only [Pt.U, Pt.locs, Pt.cells, Pt.slots] at X75 l75 y75 z75 st75 hQ75
  subst l75 y75 z75
  obtain ⟨rfl, Nq75, K75, Ei75, Fi75_0, Fi75_1, Fi75_2, Fi75_3⟩ := hQ75
  have N75 := Fr.app N71 Nq75
  have O75 : Old Z n0 T75.heap := O70.keep K75 (allS n_b68 all0)
  have KC75 : Keep h0 T75.heap [] := KC70.trans K75 (allS (Or.inr sz_b68) all0)
  refine OWW.tr (B := T75.setTop (mkF m 28 #[.val (.ref b), .val (.ref x1)] [(.ref b68)])) (st75) ?_
  exact OWW.ret X75 (s := s) (vm0 := T70.vm) hS70 (Nat.le_trans hk70 K75.1) hx hlk (i := .areturn) Bd.returns rfl (Or.inr (Or.inr (Or.inr (Or.inr ⟨rfl, rfl, rfl⟩)))) (hb hby d10_28) rfl (by decide) (by decide) ⟨b68, rfl, N75, KC75, n_b68, sz_b68, Ei75, Fi75_0, Fi75_1, Fi75_2, Fi75_3⟩
theorem ef_WR (m : MethodId) (x0 : Addr) (x1 : Int32) : entryFrame m #[(.ref x0), (.int x1)] 2 = mkF m 0 #[.val (.ref x0), .val (.int x1)] [] := by first | (simp [entryFrame, mkF, argsToLocals, Value.category]; done) | rfl
def QWR (Z : State) (b : Addr) (p1 : Addr) (i1 : Addr) (r1 : Int32) (t1 : Addr) (x1 : Int32) (h0 : Heap) (n0 : Nat) (v : Option Value) (h : Heap) (L : List Loc) : Prop := ∃ c : Addr, v = some (.ref c) ∧ Fr n0 L ∧ Keep h0 h [] ∧ n0 ≤ c ∧ h0.size ≤ c ∧ Exa Z h c "com/example/demarcate/demarcate/TransactionDefinition" ∧ Fld Z h c "com/example/demarcate/demarcate/TransactionDefinition" "propagation" "Lcom/example/demarcate/demarcate/Propagation;" (.ref p1) ∧ Fld Z h c "com/example/demarcate/demarcate/TransactionDefinition" "isolation" "Lcom/example/demarcate/demarcate/Isolation;" (.ref i1) ∧ Fld Z h c "com/example/demarcate/demarcate/TransactionDefinition" "readOnly" "Z" (.int x1) ∧ Fld Z h c "com/example/demarcate/demarcate/TransactionDefinition" "timeout" "Ljava/util/OptionalInt;" (.ref t1)
set_option maxRecDepth 65536 in
set_option maxHeartbeats 40000000 in
theorem rmWR (l : Launch) (Z : State) (a0 : Array Value) (hw : ∀ d ∈ tables_1, d.before a0 Z = true) (ws : List Jvm.Cond) (b : Addr) (p1 : Addr) (i1 : Addr) (r1 : Int32) (t1 : Addr) (x1 : Int32) (h0 : Heap) (n0 : Nat) (O0 : Old Z n0 h0) (F0 : Fld Z h0 b "com/example/demarcate/demarcate/TransactionDefinition" "propagation" "Lcom/example/demarcate/demarcate/Propagation;" (.ref p1)) (F1 : Fld Z h0 b "com/example/demarcate/demarcate/TransactionDefinition" "isolation" "Lcom/example/demarcate/demarcate/Isolation;" (.ref i1)) (F2 : Fld Z h0 b "com/example/demarcate/demarcate/TransactionDefinition" "readOnly" "Z" (.int r1)) (F3 : Fld Z h0 b "com/example/demarcate/demarcate/TransactionDefinition" "timeout" "Ljava/util/OptionalInt;" (.ref t1)) (hr : r1 = 0 ∨ r1 = 1) (hx1 : x1 = 0 ∨ x1 = 1) :
    MetFree l (⟨"com/example/demarcate/demarcate/TransactionDefinition", "withReadOnly", "(Z)Lcom/example/demarcate/demarcate/TransactionDefinition;"⟩ : MethodName) (head1 (Jvm.Cond.code (⟨"com/example/demarcate/demarcate/TransactionDefinition", "withReadOnly", "(Z)Lcom/example/demarcate/demarcate/TransactionDefinition;"⟩ : MethodName) prog_19_method_5_code 2 (some (.object "com/example/demarcate/demarcate/TransactionDefinition")) :: ws) ({ frames := 2, cells := 1, slots := 4, locals := 29 } : Room)) (fun aa_ UU_ => aa_ = #[(.ref b), (.int x1)] ∧ Z.Warmed39 UU_.vm ∧ UU_.heap = h0) (fun _ _ _ _ _ => True) (fun _ UU_ oo_ UV_ => ∃ vv_ LL_, oo_ = .returned vv_ ∧ QWR Z b p1 i1 r1 t1 x1 h0 n0 vv_ UV_.heap LL_ ∧ FrameEnd UU_ oo_ UV_ LL_ ({ frames := 2, cells := 1, slots := 4, locals := 29 } : Room).cells ({ frames := 2, cells := 1, slots := 4, locals := 29 } : Room).slots) := by
  refine MetFree.of_bodySF (plainFor_of_name pn_3) hisR ?_
  intro p e s m args below meth c s₁ Bd hml0 hP hK
  obtain ⟨rfl, hZ, hh⟩ := hP
  have hx := Bd.exec
  have hby := Bd.bytes
  have hlk := BodyLoose.notSynchronized Bd
  have hml : c.maxLocals = 2 := hml0
  have hown : s.vm.findClass "com/example/demarcate/demarcate/TransactionDefinition" = some m.cls := findClass_of_methodNamed Bd.named
  have hnm := (name_of_methodNamed Bd.named Bd.method).1
  have X0 : Stand p l e ({ frames := 2, cells := 1, slots := 4, locals := 29 } : Room) s m #[(.ref b), (.int x1)] below meth c s₁ [] 0 0 := Stand.of_body Bd
  have e0 : s₁.heap = h0 := by rw [← hh, Bd.state]; rfl
  have N0 := Fr.nil n0
  have KC0 : Keep h0 h0 [] := Keep.refl _ _
  suffices hOW : OW p e below s (QWR Z b p1 i1 r1 t1 x1 h0 n0) 1 4 (s₁.setTop (mkF m 0 #[.val (.ref b), .val (.int x1)] [])) by
    obtain ⟨q1, q2, q3, q4⟩ := hOW
    exact ⟨q1, q2, castTop (ef_WR m b x1) q3, q4⟩
  obtain ⟨T76, h76, X76, e76, E76, A76, D76, -, st76⟩ := newO X0 hx hZ hown (w_53 hw) (w_21 hw) (w_22 hw) e0 (g := (mkF m 0 #[.val (.ref b), .val (.int x1)] [])) rfl (hb hby d16_0) (by decide) (by decide)
  obtain ⟨b76, g76⟩ : ∃ z, z = h0.size := ⟨_, rfl⟩
  rw [← g76] at A76 D76 st76
  have n_b76 : n0 ≤ b76 := Nat.le_trans (own_oldle O0) (Nat.le_of_eq g76.symm)
  have O76 : Old Z n0 h76 := O0.ext E76
  have sz_b76 : h0.size ≤ b76 := Nat.le_trans KC0.1 (Nat.le_of_eq g76.symm)
  have KC76 : Keep h0 h76 [] := KC0.ext E76
  have F76_41 : Fld Z h76 b76 "com/example/demarcate/demarcate/TransactionDefinition" "propagation" "Lcom/example/demarcate/demarcate/Propagation;" .null := D76 (Or.inr (w_41 hw)) (ty := (.object "com/example/demarcate/demarcate/Propagation")) (by decide)
  have F76_43 : Fld Z h76 b76 "com/example/demarcate/demarcate/TransactionDefinition" "isolation" "Lcom/example/demarcate/demarcate/Isolation;" .null := D76 (Or.inr (w_43 hw)) (ty := (.object "com/example/demarcate/demarcate/Isolation")) (by decide)
  have F76_45 : Fld Z h76 b76 "com/example/demarcate/demarcate/TransactionDefinition" "readOnly" "Z" (.int (0 : Int32)) := D76 (Or.inr (w_45 hw)) (ty := .boolean) (by decide)
  have F76_47 : Fld Z h76 b76 "com/example/demarcate/demarcate/TransactionDefinition" "timeout" "Ljava/util/OptionalInt;" .null := D76 (Or.inr (w_47 hw)) (ty := (.object "java/util/OptionalInt")) (by decide)
  refine OW.st (B := T76.setTop (mkF m 3 #[.val (.ref b), .val (.int x1)] [(.ref b76)])) (st76) ?_
  refine OW.st (B := T76.setTop (mkF m 4 #[.val (.ref b), .val (.int x1)] [(.ref b76), (.ref b76)])) (fun _ kk_ => XS.dup X76.here hx rfl (hb hby d16_3) rfl rfl kk_) ?_
  refine OW.st (B := T76.setTop (mkF m 5 #[.val (.ref b), .val (.int x1)] [(.ref b), (.ref b76), (.ref b76)])) (fun _ kk_ => XS.aloadN X76.here hx rfl (hb hby d16_4) rfl rfl kk_) ?_
  obtain ⟨T77, X77, e77, st77⟩ := getF X76 hx hZ hown (host := "") (Or.inl (w_40 hw)) Via.refl e76 (F0.ext E76) (g := (mkF m 5 #[.val (.ref b), .val (.int x1)] [(.ref b), (.ref b76), (.ref b76)])) rfl rfl (hb hby d16_5)
  refine OW.st (B := T77.setTop (mkF m 8 #[.val (.ref b), .val (.int x1)] [(.ref p1), (.ref b76), (.ref b76)])) (st77) ?_
  refine OW.st (B := T77.setTop (mkF m 9 #[.val (.ref b), .val (.int x1)] [(.ref b), (.ref p1), (.ref b76), (.ref b76)])) (fun _ kk_ => XS.aloadN X77.here hx rfl (hb hby d16_8) rfl rfl kk_) ?_
  obtain ⟨T78, X78, e78, st78⟩ := getF X77 hx hZ hown (host := "") (Or.inl (w_42 hw)) Via.refl e77 (F1.ext E76) (g := (mkF m 9 #[.val (.ref b), .val (.int x1)] [(.ref b), (.ref p1), (.ref b76), (.ref b76)])) rfl rfl (hb hby d16_9)
  refine OW.st (B := T78.setTop (mkF m 12 #[.val (.ref b), .val (.int x1)] [(.ref i1), (.ref p1), (.ref b76), (.ref b76)])) (st78) ?_
  refine OW.st (B := T78.setTop (mkF m 13 #[.val (.ref b), .val (.int x1)] [(.int x1), (.ref i1), (.ref p1), (.ref b76), (.ref b76)])) (fun _ kk_ => XS.iloadN X78.here hx rfl (hb hby d16_12) rfl kk_) ?_
  refine OW.st (B := T78.setTop (mkF m 14 #[.val (.ref b), .val (.int x1)] [(.ref b), (.int x1), (.ref i1), (.ref p1), (.ref b76), (.ref b76)])) (fun _ kk_ => XS.aloadN X78.here hx rfl (hb hby d16_13) rfl rfl kk_) ?_
  obtain ⟨T79, X79, e79, st79⟩ := getF X78 hx hZ hown (host := "") (Or.inl (w_46 hw)) Via.refl e78 (F3.ext E76) (g := (mkF m 14 #[.val (.ref b), .val (.int x1)] [(.ref b), (.int x1), (.ref i1), (.ref p1), (.ref b76), (.ref b76)])) rfl rfl (hb hby d16_14)
  refine OW.st (B := T79.setTop (mkF m 17 #[.val (.ref b), .val (.int x1)] [(.ref t1), (.int x1), (.ref i1), (.ref p1), (.ref b76), (.ref b76)])) (st79) ?_
  obtain ⟨_, _, ⟨T80, L80, k80, n80⟩, -, X80, ⟨Lc80, hQ80, l80, y80, z80⟩, st80⟩ := X79.specialBack hx (y := (⟨"com/example/demarcate/demarcate/TransactionDefinition", "<init>", "(Lcom/example/demarcate/demarcate/Propagation;Lcom/example/demarcate/demarcate/Isolation;ZLjava/util/OptionalInt;)V"⟩ : MethodName)) rfl hown (mvT hZ (w_34 hw)) (mvT hZ (w_35 hw)) (mvT hZ (w_36 hw)) (by decide) (backOf (W := 1) (rmT4 l Z a0 hw [] b76 p1 i1 x1 t1 h76 n0 O76 A76 F76_41 F76_43 F76_45 F76_47 n_b76 hx1) hZ (w_36 hw) (w_22 hw) (by decide) (by decide)) (g := (mkF m 17 #[.val (.ref b), .val (.int x1)] [(.ref t1), (.int x1), (.ref i1), (.ref p1), (.ref b76), (.ref b76)])) rfl (by rw [hml]; rfl) (Steps.refl _) (a := b76) (argsL := [(.ref p1), (.ref i1), (.int x1), (.ref t1)]) (rest := [(.ref b76)]) (lenOf pd_1 rfl) rfl (by show 2 * 0 + _ ≤ _; exact Nat.le_of_eq rfl) (hb hby d16_17) (fun _ _ => ⟨rfl, e79, (by decide : 1 + 0 ≤ _), (by decide : 4 + 0 ≤ _)⟩)
  dsimp only [Pt.U, Pt.locs, Pt.cells, Pt.slots] at X80 l80 y80 z80 st80 hQ80
  subst l80 y80 z80
  obtain ⟨rfl, Nq80, K80, Ei80, Fi80_0, Fi80_1, Fi80_2, Fi80_3⟩ := hQ80
  have N80 := Fr.app N0 Nq80
  have O80 : Old Z n0 T80.heap := O76.keep K80 (allS n_b76 all0)
  have KC80 : Keep h0 T80.heap [] := KC76.trans K80 (allS (Or.inr sz_b76) all0)
  refine OW.tr (B := T80.setTop (mkF m 20 #[.val (.ref b), .val (.int x1)] [(.ref b76)])) (st80) ?_
  exact OW.ret X80 hx hlk (i := .areturn) Bd.returns rfl (Or.inr (Or.inr (Or.inr (Or.inr ⟨rfl, rfl, rfl⟩)))) (hb hby d16_20) rfl (by decide) (by decide) ⟨b76, rfl, N80, KC80, n_b76, sz_b76, Ei80, Fi80_0, Fi80_1, Fi80_2, Fi80_3⟩
theorem ef_WT (m : MethodId) (x0 : Addr) (x1 : Int32) : entryFrame m #[(.ref x0), (.int x1)] 2 = mkF m 0 #[.val (.ref x0), .val (.int x1)] [] := by first | (simp [entryFrame, mkF, argsToLocals, Value.category]; done) | rfl
def QWT (Z : State) (b : Addr) (p1 : Addr) (i1 : Addr) (r1 : Int32) (t1 : Addr) (x1 : Int32) (h0 : Heap) (n0 : Nat) (v : Option Value) (h : Heap) (L : List Loc) : Prop := ∃ c tw : Addr, v = some (.ref c) ∧ Fr n0 L ∧ Keep h0 h [] ∧ n0 ≤ c ∧ h0.size ≤ c ∧ Exa Z h c "com/example/demarcate/demarcate/TransactionDefinition" ∧ Fld Z h c "com/example/demarcate/demarcate/TransactionDefinition" "propagation" "Lcom/example/demarcate/demarcate/Propagation;" (.ref p1) ∧ Fld Z h c "com/example/demarcate/demarcate/TransactionDefinition" "isolation" "Lcom/example/demarcate/demarcate/Isolation;" (.ref i1) ∧ Fld Z h c "com/example/demarcate/demarcate/TransactionDefinition" "readOnly" "Z" (.int r1) ∧ Fld Z h c "com/example/demarcate/demarcate/TransactionDefinition" "timeout" "Ljava/util/OptionalInt;" (.ref tw) ∧ Exa Z h tw "java/util/OptionalInt"
set_option maxRecDepth 65536 in
set_option maxHeartbeats 40000000 in
theorem rmWT (l : Launch) (Z : State) (a0 : Array Value) (hw : ∀ d ∈ tables_1, d.before a0 Z = true) (ws : List Jvm.Cond) (b : Addr) (p1 : Addr) (i1 : Addr) (r1 : Int32) (t1 : Addr) (x1 : Int32) (h0 : Heap) (n0 : Nat) (O0 : Old Z n0 h0) (F0 : Fld Z h0 b "com/example/demarcate/demarcate/TransactionDefinition" "propagation" "Lcom/example/demarcate/demarcate/Propagation;" (.ref p1)) (F1 : Fld Z h0 b "com/example/demarcate/demarcate/TransactionDefinition" "isolation" "Lcom/example/demarcate/demarcate/Isolation;" (.ref i1)) (F2 : Fld Z h0 b "com/example/demarcate/demarcate/TransactionDefinition" "readOnly" "Z" (.int r1)) (F3 : Fld Z h0 b "com/example/demarcate/demarcate/TransactionDefinition" "timeout" "Ljava/util/OptionalInt;" (.ref t1)) (hr : r1 = 0 ∨ r1 = 1) (hx1 : ¬ (x1 < (1 : Int32))) :
    MetFree l (⟨"com/example/demarcate/demarcate/TransactionDefinition", "withTimeout", "(I)Lcom/example/demarcate/demarcate/TransactionDefinition;"⟩ : MethodName) (head1 (Jvm.Cond.code (⟨"com/example/demarcate/demarcate/TransactionDefinition", "withTimeout", "(I)Lcom/example/demarcate/demarcate/TransactionDefinition;"⟩ : MethodName) prog_19_method_6_code 2 (some (.object "com/example/demarcate/demarcate/TransactionDefinition")) :: ws) ({ frames := 3, cells := 2, slots := 6, locals := 43 } : Room)) (fun aa_ UU_ => aa_ = #[(.ref b), (.int x1)] ∧ Z.Warmed39 UU_.vm ∧ UU_.heap = h0) (fun _ _ _ _ _ => True) (fun _ UU_ oo_ UV_ => ∃ vv_ LL_, oo_ = .returned vv_ ∧ QWT Z b p1 i1 r1 t1 x1 h0 n0 vv_ UV_.heap LL_ ∧ FrameEnd UU_ oo_ UV_ LL_ ({ frames := 3, cells := 2, slots := 6, locals := 43 } : Room).cells ({ frames := 3, cells := 2, slots := 6, locals := 43 } : Room).slots) := by
  refine MetFree.of_bodySF (plainFor_of_name pn_3) hisR ?_
  intro p e s m args below meth c s₁ Bd hml0 hP hK
  obtain ⟨rfl, hZ, hh⟩ := hP
  have hx := Bd.exec
  have hby := Bd.bytes
  have hlk := BodyLoose.notSynchronized Bd
  have hml : c.maxLocals = 2 := hml0
  have hown : s.vm.findClass "com/example/demarcate/demarcate/TransactionDefinition" = some m.cls := findClass_of_methodNamed Bd.named
  have hnm := (name_of_methodNamed Bd.named Bd.method).1
  have X0 : Stand p l e ({ frames := 3, cells := 2, slots := 6, locals := 43 } : Room) s m #[(.ref b), (.int x1)] below meth c s₁ [] 0 0 := Stand.of_body Bd
  have e0 : s₁.heap = h0 := by rw [← hh, Bd.state]; rfl
  have N0 := Fr.nil n0
  have KC0 : Keep h0 h0 [] := Keep.refl _ _
  suffices hOW : OW p e below s (QWT Z b p1 i1 r1 t1 x1 h0 n0) 2 6 (s₁.setTop (mkF m 0 #[.val (.ref b), .val (.int x1)] [])) by
    obtain ⟨q1, q2, q3, q4⟩ := hOW
    exact ⟨q1, q2, castTop (ef_WT m b x1) q3, q4⟩
  refine OW.st (B := s₁.setTop (mkF m 1 #[.val (.ref b), .val (.int x1)] [(.int x1)])) (fun _ kk_ => XS.iloadN X0.here hx rfl (hb hby d17_0) rfl kk_) ?_
  refine OW.st (B := s₁.setTop (mkF m 2 #[.val (.ref b), .val (.int x1)] [(.int (1 : Int32)), (.int x1)])) (fun _ kk_ => XS.iconst X0.here hx rfl (hb hby d17_1) kk_) ?_
  refine OW.st (B := s₁.setTop (mkF m 19 #[.val (.ref b), .val (.int x1)] [])) (fun _ kk_ => XS.icmpYes X0.here hx rfl (pc0 := 2) (pc' := 19) rfl (hb hby d17_2) rfl (flt hx1).2.1 (by decide) (by decide) kk_) ?_
  obtain ⟨T81, h81, X81, e81, E81, A81, D81, -, st81⟩ := newO X0 hx hZ hown (w_53 hw) (w_21 hw) (w_22 hw) e0 (g := (mkF m 19 #[.val (.ref b), .val (.int x1)] [])) rfl (hb hby d17_19) (by decide) (by decide)
  obtain ⟨b81, g81⟩ : ∃ z, z = h0.size := ⟨_, rfl⟩
  rw [← g81] at A81 D81 st81
  have n_b81 : n0 ≤ b81 := Nat.le_trans (own_oldle O0) (Nat.le_of_eq g81.symm)
  have O81 : Old Z n0 h81 := O0.ext E81
  have sz_b81 : h0.size ≤ b81 := Nat.le_trans KC0.1 (Nat.le_of_eq g81.symm)
  have KC81 : Keep h0 h81 [] := KC0.ext E81
  have F81_41 : Fld Z h81 b81 "com/example/demarcate/demarcate/TransactionDefinition" "propagation" "Lcom/example/demarcate/demarcate/Propagation;" .null := D81 (Or.inr (w_41 hw)) (ty := (.object "com/example/demarcate/demarcate/Propagation")) (by decide)
  have F81_43 : Fld Z h81 b81 "com/example/demarcate/demarcate/TransactionDefinition" "isolation" "Lcom/example/demarcate/demarcate/Isolation;" .null := D81 (Or.inr (w_43 hw)) (ty := (.object "com/example/demarcate/demarcate/Isolation")) (by decide)
  have F81_45 : Fld Z h81 b81 "com/example/demarcate/demarcate/TransactionDefinition" "readOnly" "Z" (.int (0 : Int32)) := D81 (Or.inr (w_45 hw)) (ty := .boolean) (by decide)
  have F81_47 : Fld Z h81 b81 "com/example/demarcate/demarcate/TransactionDefinition" "timeout" "Ljava/util/OptionalInt;" .null := D81 (Or.inr (w_47 hw)) (ty := (.object "java/util/OptionalInt")) (by decide)
  refine OW.st (B := T81.setTop (mkF m 22 #[.val (.ref b), .val (.int x1)] [(.ref b81)])) (st81) ?_
  refine OW.st (B := T81.setTop (mkF m 23 #[.val (.ref b), .val (.int x1)] [(.ref b81), (.ref b81)])) (fun _ kk_ => XS.dup X81.here hx rfl (hb hby d17_22) rfl rfl kk_) ?_
  refine OW.st (B := T81.setTop (mkF m 24 #[.val (.ref b), .val (.int x1)] [(.ref b), (.ref b81), (.ref b81)])) (fun _ kk_ => XS.aloadN X81.here hx rfl (hb hby d17_23) rfl rfl kk_) ?_
  obtain ⟨T82, X82, e82, st82⟩ := getF X81 hx hZ hown (host := "") (Or.inl (w_40 hw)) Via.refl e81 (F0.ext E81) (g := (mkF m 24 #[.val (.ref b), .val (.int x1)] [(.ref b), (.ref b81), (.ref b81)])) rfl rfl (hb hby d17_24)
  refine OW.st (B := T82.setTop (mkF m 27 #[.val (.ref b), .val (.int x1)] [(.ref p1), (.ref b81), (.ref b81)])) (st82) ?_
  refine OW.st (B := T82.setTop (mkF m 28 #[.val (.ref b), .val (.int x1)] [(.ref b), (.ref p1), (.ref b81), (.ref b81)])) (fun _ kk_ => XS.aloadN X82.here hx rfl (hb hby d17_27) rfl rfl kk_) ?_
  obtain ⟨T83, X83, e83, st83⟩ := getF X82 hx hZ hown (host := "") (Or.inl (w_42 hw)) Via.refl e82 (F1.ext E81) (g := (mkF m 28 #[.val (.ref b), .val (.int x1)] [(.ref b), (.ref p1), (.ref b81), (.ref b81)])) rfl rfl (hb hby d17_28)
  refine OW.st (B := T83.setTop (mkF m 31 #[.val (.ref b), .val (.int x1)] [(.ref i1), (.ref p1), (.ref b81), (.ref b81)])) (st83) ?_
  refine OW.st (B := T83.setTop (mkF m 32 #[.val (.ref b), .val (.int x1)] [(.ref b), (.ref i1), (.ref p1), (.ref b81), (.ref b81)])) (fun _ kk_ => XS.aloadN X83.here hx rfl (hb hby d17_31) rfl rfl kk_) ?_
  obtain ⟨T84, X84, e84, st84⟩ := getF X83 hx hZ hown (host := "") (Or.inl (w_44 hw)) Via.refl e83 (F2.ext E81) (g := (mkF m 32 #[.val (.ref b), .val (.int x1)] [(.ref b), (.ref i1), (.ref p1), (.ref b81), (.ref b81)])) rfl rfl (hb hby d17_32)
  refine OW.st (B := T84.setTop (mkF m 35 #[.val (.ref b), .val (.int x1)] [(.int r1), (.ref i1), (.ref p1), (.ref b81), (.ref b81)])) (st84) ?_
  refine OW.st (B := T84.setTop (mkF m 36 #[.val (.ref b), .val (.int x1)] [(.int x1), (.int r1), (.ref i1), (.ref p1), (.ref b81), (.ref b81)])) (fun _ kk_ => XS.iloadN X84.here hx rfl (hb hby d17_35) rfl kk_) ?_
  obtain ⟨_, _, ⟨T85, L85, k85, n85⟩, -, X85, ⟨Lc85, hQ85, l85, y85, z85⟩, st85⟩ := Jvm.LawKit.callS X84 hx (y := (⟨"java/util/OptionalInt", "of", "(I)Ljava/util/OptionalInt;"⟩ : MethodName)) hown (mvT hZ (w_115 hw)) (mvT hZ (w_116 hw)) (mvT hZ (w_31 hw)) (mvT hZ (w_117 hw)) (by decide) (backOf (W := 5) (rmOF l Z a0 hw [] x1 h81 n0 O81 ) hZ (w_117 hw) (w_31 hw) (by decide) (by decide)) (g := (mkF m 36 #[.val (.ref b), .val (.int x1)] [(.int x1), (.int r1), (.ref i1), (.ref p1), (.ref b81), (.ref b81)])) rfl (by rw [hml]; rfl) (argsL := [(.int x1)]) (rest := [(.int r1), (.ref i1), (.ref p1), (.ref b81), (.ref b81)]) (lenOf pd_4 rfl) rfl (by show 2 * 0 + _ ≤ _; exact Nat.le_of_eq rfl) (hb hby d17_36) (fun _ _ => ⟨rfl, e84, (by decide : 1 + 1 ≤ _), (by decide : 4 + 2 ≤ _)⟩)
  dsimp only [Pt.U, Pt.locs, Pt.cells, Pt.slots] at X85 l85 y85 z85 st85 hQ85
  subst l85 y85 z85
  obtain ⟨b85, rfl, Nq85, K85, gb85, zb85, Eo85, Fp85, Fv85⟩ := hQ85
  have N85 := Fr.app N0 Nq85
  have O85 : Old Z n0 T85.heap := O81.keep K85 all0
  have KC85 : Keep h0 T85.heap [] := KC81.trans K85 all0
  refine OW.st (B := T85.setTop (mkF m 39 #[.val (.ref b), .val (.int x1)] [(.ref b85), (.int r1), (.ref i1), (.ref p1), (.ref b81), (.ref b81)])) (st85) ?_
  obtain ⟨_, _, ⟨T86, L86, k86, n86⟩, -, X86, ⟨Lc86, hQ86, l86, y86, z86⟩, st86⟩ := X85.specialBack hx (y := (⟨"com/example/demarcate/demarcate/TransactionDefinition", "<init>", "(Lcom/example/demarcate/demarcate/Propagation;Lcom/example/demarcate/demarcate/Isolation;ZLjava/util/OptionalInt;)V"⟩ : MethodName)) rfl hown (mvT hZ (w_34 hw)) (mvT hZ (w_35 hw)) (mvT hZ (w_36 hw)) (by decide) (backOf (W := 1) (rmT4 l Z a0 hw [] b81 p1 i1 r1 b85 T85.heap n0 O85 (A81.keep K85) (F81_41.keep K85 nin0) (F81_43.keep K85 nin0) (F81_45.keep K85 nin0) (F81_47.keep K85 nin0) n_b81 hr) hZ (w_36 hw) (w_22 hw) (by decide) (by decide)) (g := (mkF m 39 #[.val (.ref b), .val (.int x1)] [(.ref b85), (.int r1), (.ref i1), (.ref p1), (.ref b81), (.ref b81)])) rfl (by rw [hml]; rfl) (Steps.refl _) (a := b81) (argsL := [(.ref p1), (.ref i1), (.int r1), (.ref b85)]) (rest := [(.ref b81)]) (lenOf pd_1 rfl) rfl (by show 2 * 0 + _ ≤ _; exact Nat.le_of_eq rfl) (hb hby d17_39) (fun _ _ => ⟨rfl, rfl, (by decide : 2 + 0 ≤ _), (by decide : 6 + 0 ≤ _)⟩)
  dsimp only [Pt.U, Pt.locs, Pt.cells, Pt.slots] at X86 l86 y86 z86 st86 hQ86
  subst l86 y86 z86
  obtain ⟨rfl, Nq86, K86, Ei86, Fi86_0, Fi86_1, Fi86_2, Fi86_3⟩ := hQ86
  have N86 := Fr.app N85 Nq86
  have O86 : Old Z n0 T86.heap := O85.keep K86 (allS n_b81 all0)
  have KC86 : Keep h0 T86.heap [] := KC85.trans K86 (allS (Or.inr sz_b81) all0)
  refine OW.tr (B := T86.setTop (mkF m 42 #[.val (.ref b), .val (.int x1)] [(.ref b81)])) (st86) ?_
  exact OW.ret X86 hx hlk (i := .areturn) Bd.returns rfl (Or.inr (Or.inr (Or.inr (Or.inr ⟨rfl, rfl, rfl⟩)))) (hb hby d17_42) rfl (by decide) (by decide) ⟨b81, b85, rfl, N86, KC86, n_b81, sz_b81, Ei86, Fi86_0, Fi86_1, Fi86_2, Fi86_3, (Eo85.keep K86)⟩
theorem ef_GP (m : MethodId) (x0 : Addr) : entryFrame m #[(.ref x0)] 1 = mkF m 0 #[.val (.ref x0)] [] := by first | (simp [entryFrame, mkF, argsToLocals, Value.category]; done) | rfl
def QGP (Z : State) (a : Addr) (x1 : Addr) (h0 : Heap) (n0 : Nat) (v : Option Value) (h : Heap) (L : List Loc) : Prop := v = some (.ref x1) ∧ Fr n0 L ∧ h = h0
set_option maxRecDepth 65536 in
set_option maxHeartbeats 40000000 in
theorem rmGP (l : Launch) (Z : State) (a0 : Array Value) (hw : ∀ d ∈ tables_1, d.before a0 Z = true) (ws : List Jvm.Cond) (a : Addr) (x1 : Addr) (h0 : Heap) (n0 : Nat) (O0 : Old Z n0 h0) (F : Fld Z h0 a "com/example/demarcate/demarcate/TransactionDefinition" "propagation" "Lcom/example/demarcate/demarcate/Propagation;" (.ref x1)) :
    MetFree l (⟨"com/example/demarcate/demarcate/TransactionDefinition", "propagation", "()Lcom/example/demarcate/demarcate/Propagation;"⟩ : MethodName) (head1 (Jvm.Cond.code (⟨"com/example/demarcate/demarcate/TransactionDefinition", "propagation", "()Lcom/example/demarcate/demarcate/Propagation;"⟩ : MethodName) prog_19_method_7_code 1 (some (.object "com/example/demarcate/demarcate/Propagation")) :: ws) ({ frames := 0, cells := 0, slots := 0, locals := 0 } : Room)) (fun aa_ UU_ => aa_ = #[(.ref a)] ∧ Z.Warmed39 UU_.vm ∧ UU_.heap = h0) (fun _ _ _ _ _ => True) (fun _ UU_ oo_ UV_ => ∃ vv_ LL_, oo_ = .returned vv_ ∧ QGP Z a x1 h0 n0 vv_ UV_.heap LL_ ∧ FrameEnd UU_ oo_ UV_ LL_ ({ frames := 0, cells := 0, slots := 0, locals := 0 } : Room).cells ({ frames := 0, cells := 0, slots := 0, locals := 0 } : Room).slots) := by
  refine MetFree.of_bodySF (plainFor_of_name pn_3) hisR ?_
  intro p e s m args below meth c s₁ Bd hml0 hP hK
  obtain ⟨rfl, hZ, hh⟩ := hP
  have hx := Bd.exec
  have hby := Bd.bytes
  have hlk := BodyLoose.notSynchronized Bd
  have hml : c.maxLocals = 1 := hml0
  have hown : s.vm.findClass "com/example/demarcate/demarcate/TransactionDefinition" = some m.cls := findClass_of_methodNamed Bd.named
  have hnm := (name_of_methodNamed Bd.named Bd.method).1
  have X0 : Stand p l e ({ frames := 0, cells := 0, slots := 0, locals := 0 } : Room) s m #[(.ref a)] below meth c s₁ [] 0 0 := Stand.of_body Bd
  have e0 : s₁.heap = h0 := by rw [← hh, Bd.state]; rfl
  have N0 := Fr.nil n0
  suffices hOW : OW p e below s (QGP Z a x1 h0 n0) 0 0 (s₁.setTop (mkF m 0 #[.val (.ref a)] [])) by
    obtain ⟨q1, q2, q3, q4⟩ := hOW
    exact ⟨q1, q2, castTop (ef_GP m a) q3, q4⟩
  refine OW.st (B := s₁.setTop (mkF m 1 #[.val (.ref a)] [(.ref a)])) (fun _ kk_ => XS.aloadN X0.here hx rfl (hb hby d12_0) rfl rfl kk_) ?_
  obtain ⟨T87, X87, e87, st87⟩ := getF X0 hx hZ hown (host := "") (Or.inl (w_40 hw)) Via.refl e0 F (g := (mkF m 1 #[.val (.ref a)] [(.ref a)])) rfl rfl (hb hby d12_1)
  refine OW.st (B := T87.setTop (mkF m 4 #[.val (.ref a)] [(.ref x1)])) (st87) ?_
  exact OW.ret X87 hx hlk (i := .areturn) Bd.returns rfl (Or.inr (Or.inr (Or.inr (Or.inr ⟨rfl, rfl, rfl⟩)))) (hb hby d12_4) e87 (by decide) (by decide) ⟨rfl, N0, rfl⟩
theorem ef_GI (m : MethodId) (x0 : Addr) : entryFrame m #[(.ref x0)] 1 = mkF m 0 #[.val (.ref x0)] [] := by first | (simp [entryFrame, mkF, argsToLocals, Value.category]; done) | rfl
def QGI (Z : State) (a : Addr) (x1 : Addr) (h0 : Heap) (n0 : Nat) (v : Option Value) (h : Heap) (L : List Loc) : Prop := v = some (.ref x1) ∧ Fr n0 L ∧ h = h0
set_option maxRecDepth 65536 in
set_option maxHeartbeats 40000000 in
theorem rmGI (l : Launch) (Z : State) (a0 : Array Value) (hw : ∀ d ∈ tables_1, d.before a0 Z = true) (ws : List Jvm.Cond) (a : Addr) (x1 : Addr) (h0 : Heap) (n0 : Nat) (O0 : Old Z n0 h0) (F : Fld Z h0 a "com/example/demarcate/demarcate/TransactionDefinition" "isolation" "Lcom/example/demarcate/demarcate/Isolation;" (.ref x1)) :
    MetFree l (⟨"com/example/demarcate/demarcate/TransactionDefinition", "isolation", "()Lcom/example/demarcate/demarcate/Isolation;"⟩ : MethodName) (head1 (Jvm.Cond.code (⟨"com/example/demarcate/demarcate/TransactionDefinition", "isolation", "()Lcom/example/demarcate/demarcate/Isolation;"⟩ : MethodName) prog_19_method_8_code 1 (some (.object "com/example/demarcate/demarcate/Isolation")) :: ws) ({ frames := 0, cells := 0, slots := 0, locals := 0 } : Room)) (fun aa_ UU_ => aa_ = #[(.ref a)] ∧ Z.Warmed39 UU_.vm ∧ UU_.heap = h0) (fun _ _ _ _ _ => True) (fun _ UU_ oo_ UV_ => ∃ vv_ LL_, oo_ = .returned vv_ ∧ QGI Z a x1 h0 n0 vv_ UV_.heap LL_ ∧ FrameEnd UU_ oo_ UV_ LL_ ({ frames := 0, cells := 0, slots := 0, locals := 0 } : Room).cells ({ frames := 0, cells := 0, slots := 0, locals := 0 } : Room).slots) := by
  refine MetFree.of_bodySF (plainFor_of_name pn_3) hisR ?_
  intro p e s m args below meth c s₁ Bd hml0 hP hK
  obtain ⟨rfl, hZ, hh⟩ := hP
  have hx := Bd.exec
  have hby := Bd.bytes
  have hlk := BodyLoose.notSynchronized Bd
  have hml : c.maxLocals = 1 := hml0
  have hown : s.vm.findClass "com/example/demarcate/demarcate/TransactionDefinition" = some m.cls := findClass_of_methodNamed Bd.named
  have hnm := (name_of_methodNamed Bd.named Bd.method).1
  have X0 : Stand p l e ({ frames := 0, cells := 0, slots := 0, locals := 0 } : Room) s m #[(.ref a)] below meth c s₁ [] 0 0 := Stand.of_body Bd
  have e0 : s₁.heap = h0 := by rw [← hh, Bd.state]; rfl
  have N0 := Fr.nil n0
  suffices hOW : OW p e below s (QGI Z a x1 h0 n0) 0 0 (s₁.setTop (mkF m 0 #[.val (.ref a)] [])) by
    obtain ⟨q1, q2, q3, q4⟩ := hOW
    exact ⟨q1, q2, castTop (ef_GI m a) q3, q4⟩
  refine OW.st (B := s₁.setTop (mkF m 1 #[.val (.ref a)] [(.ref a)])) (fun _ kk_ => XS.aloadN X0.here hx rfl (hb hby d11_0) rfl rfl kk_) ?_
  obtain ⟨T88, X88, e88, st88⟩ := getF X0 hx hZ hown (host := "") (Or.inl (w_42 hw)) Via.refl e0 F (g := (mkF m 1 #[.val (.ref a)] [(.ref a)])) rfl rfl (hb hby d11_1)
  refine OW.st (B := T88.setTop (mkF m 4 #[.val (.ref a)] [(.ref x1)])) (st88) ?_
  exact OW.ret X88 hx hlk (i := .areturn) Bd.returns rfl (Or.inr (Or.inr (Or.inr (Or.inr ⟨rfl, rfl, rfl⟩)))) (hb hby d11_4) e88 (by decide) (by decide) ⟨rfl, N0, rfl⟩
theorem ef_GT (m : MethodId) (x0 : Addr) : entryFrame m #[(.ref x0)] 1 = mkF m 0 #[.val (.ref x0)] [] := by first | (simp [entryFrame, mkF, argsToLocals, Value.category]; done) | rfl
def QGT (Z : State) (a : Addr) (x1 : Addr) (h0 : Heap) (n0 : Nat) (v : Option Value) (h : Heap) (L : List Loc) : Prop := v = some (.ref x1) ∧ Fr n0 L ∧ h = h0
set_option maxRecDepth 65536 in
set_option maxHeartbeats 40000000 in
theorem rmGT (l : Launch) (Z : State) (a0 : Array Value) (hw : ∀ d ∈ tables_1, d.before a0 Z = true) (ws : List Jvm.Cond) (a : Addr) (x1 : Addr) (h0 : Heap) (n0 : Nat) (O0 : Old Z n0 h0) (F : Fld Z h0 a "com/example/demarcate/demarcate/TransactionDefinition" "timeout" "Ljava/util/OptionalInt;" (.ref x1)) :
    MetFree l (⟨"com/example/demarcate/demarcate/TransactionDefinition", "timeout", "()Ljava/util/OptionalInt;"⟩ : MethodName) (head1 (Jvm.Cond.code (⟨"com/example/demarcate/demarcate/TransactionDefinition", "timeout", "()Ljava/util/OptionalInt;"⟩ : MethodName) prog_19_method_10_code 1 (some (.object "java/util/OptionalInt")) :: ws) ({ frames := 0, cells := 0, slots := 0, locals := 0 } : Room)) (fun aa_ UU_ => aa_ = #[(.ref a)] ∧ Z.Warmed39 UU_.vm ∧ UU_.heap = h0) (fun _ _ _ _ _ => True) (fun _ UU_ oo_ UV_ => ∃ vv_ LL_, oo_ = .returned vv_ ∧ QGT Z a x1 h0 n0 vv_ UV_.heap LL_ ∧ FrameEnd UU_ oo_ UV_ LL_ ({ frames := 0, cells := 0, slots := 0, locals := 0 } : Room).cells ({ frames := 0, cells := 0, slots := 0, locals := 0 } : Room).slots) := by
  refine MetFree.of_bodySF (plainFor_of_name pn_3) hisR ?_
  intro p e s m args below meth c s₁ Bd hml0 hP hK
  obtain ⟨rfl, hZ, hh⟩ := hP
  have hx := Bd.exec
  have hby := Bd.bytes
  have hlk := BodyLoose.notSynchronized Bd
  have hml : c.maxLocals = 1 := hml0
  have hown : s.vm.findClass "com/example/demarcate/demarcate/TransactionDefinition" = some m.cls := findClass_of_methodNamed Bd.named
  have hnm := (name_of_methodNamed Bd.named Bd.method).1
  have X0 : Stand p l e ({ frames := 0, cells := 0, slots := 0, locals := 0 } : Room) s m #[(.ref a)] below meth c s₁ [] 0 0 := Stand.of_body Bd
  have e0 : s₁.heap = h0 := by rw [← hh, Bd.state]; rfl
  have N0 := Fr.nil n0
  suffices hOW : OW p e below s (QGT Z a x1 h0 n0) 0 0 (s₁.setTop (mkF m 0 #[.val (.ref a)] [])) by
    obtain ⟨q1, q2, q3, q4⟩ := hOW
    exact ⟨q1, q2, castTop (ef_GT m a) q3, q4⟩
  refine OW.st (B := s₁.setTop (mkF m 1 #[.val (.ref a)] [(.ref a)])) (fun _ kk_ => XS.aloadN X0.here hx rfl (hb hby d14_0) rfl rfl kk_) ?_
  obtain ⟨T89, X89, e89, st89⟩ := getF X0 hx hZ hown (host := "") (Or.inl (w_46 hw)) Via.refl e0 F (g := (mkF m 1 #[.val (.ref a)] [(.ref a)])) rfl rfl (hb hby d14_1)
  refine OW.st (B := T89.setTop (mkF m 4 #[.val (.ref a)] [(.ref x1)])) (st89) ?_
  exact OW.ret X89 hx hlk (i := .areturn) Bd.returns rfl (Or.inr (Or.inr (Or.inr (Or.inr ⟨rfl, rfl, rfl⟩)))) (hb hby d14_4) e89 (by decide) (by decide) ⟨rfl, N0, rfl⟩
theorem ef_GR (m : MethodId) (x0 : Addr) : entryFrame m #[(.ref x0)] 1 = mkF m 0 #[.val (.ref x0)] [] := by first | (simp [entryFrame, mkF, argsToLocals, Value.category]; done) | rfl
def QGR (Z : State) (a : Addr) (x1 : Int32) (h0 : Heap) (n0 : Nat) (v : Option Value) (h : Heap) (L : List Loc) : Prop := v = some (.int x1) ∧ Fr n0 L ∧ h = h0
set_option maxRecDepth 65536 in
set_option maxHeartbeats 40000000 in
theorem rmGR (l : Launch) (Z : State) (a0 : Array Value) (hw : ∀ d ∈ tables_1, d.before a0 Z = true) (ws : List Jvm.Cond) (a : Addr) (x1 : Int32) (h0 : Heap) (n0 : Nat) (O0 : Old Z n0 h0) (F : Fld Z h0 a "com/example/demarcate/demarcate/TransactionDefinition" "readOnly" "Z" (.int x1)) (hx1 : narrow .boolean (.int x1) = .int x1) :
    MetFree l (⟨"com/example/demarcate/demarcate/TransactionDefinition", "isReadOnly", "()Z"⟩ : MethodName) (head1 (Jvm.Cond.code (⟨"com/example/demarcate/demarcate/TransactionDefinition", "isReadOnly", "()Z"⟩ : MethodName) prog_19_method_9_code 1 (some .boolean) :: ws) ({ frames := 0, cells := 0, slots := 0, locals := 0 } : Room)) (fun aa_ UU_ => aa_ = #[(.ref a)] ∧ Z.Warmed39 UU_.vm ∧ UU_.heap = h0) (fun _ _ _ _ _ => True) (fun _ UU_ oo_ UV_ => ∃ vv_ LL_, oo_ = .returned vv_ ∧ QGR Z a x1 h0 n0 vv_ UV_.heap LL_ ∧ FrameEnd UU_ oo_ UV_ LL_ ({ frames := 0, cells := 0, slots := 0, locals := 0 } : Room).cells ({ frames := 0, cells := 0, slots := 0, locals := 0 } : Room).slots) := by
  refine MetFree.of_bodySF (plainFor_of_name pn_3) hisR ?_
  intro p e s m args below meth c s₁ Bd hml0 hP hK
  obtain ⟨rfl, hZ, hh⟩ := hP
  have hx := Bd.exec
  have hby := Bd.bytes
  have hlk := BodyLoose.notSynchronized Bd
  have hml : c.maxLocals = 1 := hml0
  have hown : s.vm.findClass "com/example/demarcate/demarcate/TransactionDefinition" = some m.cls := findClass_of_methodNamed Bd.named
  have hnm := (name_of_methodNamed Bd.named Bd.method).1
  have X0 : Stand p l e ({ frames := 0, cells := 0, slots := 0, locals := 0 } : Room) s m #[(.ref a)] below meth c s₁ [] 0 0 := Stand.of_body Bd
  have e0 : s₁.heap = h0 := by rw [← hh, Bd.state]; rfl
  have N0 := Fr.nil n0
  suffices hOW : OW p e below s (QGR Z a x1 h0 n0) 0 0 (s₁.setTop (mkF m 0 #[.val (.ref a)] [])) by
    obtain ⟨q1, q2, q3, q4⟩ := hOW
    exact ⟨q1, q2, castTop (ef_GR m a) q3, q4⟩
  refine OW.st (B := s₁.setTop (mkF m 1 #[.val (.ref a)] [(.ref a)])) (fun _ kk_ => XS.aloadN X0.here hx rfl (hb hby d13_0) rfl rfl kk_) ?_
  obtain ⟨T90, X90, e90, st90⟩ := getF X0 hx hZ hown (host := "") (Or.inl (w_44 hw)) Via.refl e0 F (g := (mkF m 1 #[.val (.ref a)] [(.ref a)])) rfl rfl (hb hby d13_1)
  refine OW.st (B := T90.setTop (mkF m 4 #[.val (.ref a)] [(.int x1)])) (st90) ?_
  exact OW.ret X90 hx hlk (i := .ireturn) Bd.returns hx1 (Or.inl ⟨rfl, Or.inr (Or.inl rfl), _, rfl⟩) (hb hby d13_4) e90 (by decide) (by decide) ⟨rfl, N0, rfl⟩
theorem ef_MX (m : MethodId) (x0 : Int32) (x1 : Int32) : entryFrame m #[(.int x0), (.int x1)] 2 = mkF m 0 #[.val (.int x0), .val (.int x1)] [] := by first | (simp [entryFrame, mkF, argsToLocals, Value.category]; done) | rfl
def QMX (Z : State) (a : Int32) (b : Int32) (h0 : Heap) (n0 : Nat) (v : Option Value) (h : Heap) (L : List Loc) : Prop := v = some (.int (own_max a b)) ∧ Fr n0 L ∧ h = h0
set_option maxRecDepth 65536 in
set_option maxHeartbeats 40000000 in
theorem rmMX (l : Launch) (Z : State) (a0 : Array Value) (hw : ∀ d ∈ tables_1, d.before a0 Z = true) (ws : List Jvm.Cond) (a : Int32) (b : Int32) (h0 : Heap) (n0 : Nat) (O0 : Old Z n0 h0) :
    MetFree l (⟨"java/lang/Math", "max", "(II)I"⟩ : MethodName) (head1 (Jvm.Cond.code (⟨"java/lang/Math", "max", "(II)I"⟩ : MethodName) jdk_29_method_65_code 2 (some .int) :: ws) ({ frames := 0, cells := 0, slots := 0, locals := 0 } : Room)) (fun aa_ UU_ => aa_ = #[(.int a), (.int b)] ∧ Z.Warmed39 UU_.vm ∧ UU_.heap = h0) (fun _ _ _ _ _ => True) (fun _ UU_ oo_ UV_ => ∃ vv_ LL_, oo_ = .returned vv_ ∧ QMX Z a b h0 n0 vv_ UV_.heap LL_ ∧ FrameEnd UU_ oo_ UV_ LL_ ({ frames := 0, cells := 0, slots := 0, locals := 0 } : Room).cells ({ frames := 0, cells := 0, slots := 0, locals := 0 } : Room).slots) := by
  refine MetFree.of_bodySF (Jvm.Free.JP.mathPlain rfl (by decide +kernel)) hisR ?_
  intro p e s m args below meth c s₁ Bd hml0 hP hK
  obtain ⟨rfl, hZ, hh⟩ := hP
  have hx := Bd.exec
  have hby := Bd.bytes
  have hlk := BodyLoose.notSynchronized Bd
  have hml : c.maxLocals = 2 := hml0
  have hown : s.vm.findClass "java/lang/Math" = some m.cls := findClass_of_methodNamed Bd.named
  have hnm := (name_of_methodNamed Bd.named Bd.method).1
  have X0 : Stand p l e ({ frames := 0, cells := 0, slots := 0, locals := 0 } : Room) s m #[(.int a), (.int b)] below meth c s₁ [] 0 0 := Stand.of_body Bd
  have e0 : s₁.heap = h0 := by rw [← hh, Bd.state]; rfl
  have N0 := Fr.nil n0
  suffices hOW : OW p e below s (QMX Z a b h0 n0) 0 0 (s₁.setTop (mkF m 0 #[.val (.int a), .val (.int b)] [])) by
    obtain ⟨q1, q2, q3, q4⟩ := hOW
    exact ⟨q1, q2, castTop (ef_MX m a b) q3, q4⟩
  refine OW.st (B := s₁.setTop (mkF m 1 #[.val (.int a), .val (.int b)] [(.int a)])) (fun _ kk_ => XS.iloadN X0.here hx rfl (hb hby d3_0) rfl kk_) ?_
  refine OW.st (B := s₁.setTop (mkF m 2 #[.val (.int a), .val (.int b)] [(.int b), (.int a)])) (fun _ kk_ => XS.iloadN X0.here hx rfl (hb hby d3_1) rfl kk_) ?_
  by_cases hc91 : a < b
  · refine OW.st (B := s₁.setTop (mkF m 9 #[.val (.int a), .val (.int b)] [])) (fun _ kk_ => XS.icmpYes X0.here hx rfl (pc0 := 2) (pc' := 9) rfl (hb hby d3_2) rfl (tlt hc91).1 (by decide) (by decide) kk_) ?_
    refine OW.st (B := s₁.setTop (mkF m 10 #[.val (.int a), .val (.int b)] [(.int b)])) (fun _ kk_ => XS.iloadN X0.here hx rfl (hb hby d3_9) rfl kk_) ?_
    exact OW.ret X0 hx hlk (i := .ireturn) Bd.returns rfl (Or.inl ⟨rfl, Or.inl rfl, _, rfl⟩) (hb hby d3_10) e0 (by decide) (by decide) ⟨by simp [own_max, hc91], N0, rfl⟩
  · refine OW.st (B := s₁.setTop (mkF m 5 #[.val (.int a), .val (.int b)] [])) (fun _ kk_ => XS.icmpNo X0.here hx rfl (hb hby d3_2) rfl (flt hc91).1 kk_) ?_
    refine OW.st (B := s₁.setTop (mkF m 6 #[.val (.int a), .val (.int b)] [(.int a)])) (fun _ kk_ => XS.iloadN X0.here hx rfl (hb hby d3_5) rfl kk_) ?_
    refine OW.st (B := s₁.setTop (mkF m 10 #[.val (.int a), .val (.int b)] [(.int a)])) (fun _ kk_ => XS.goto X0.here hx rfl (pc0 := 6) (pc' := 10) rfl (hb hby d3_6) (by decide) (by decide) kk_) ?_
    exact OW.ret X0 hx hlk (i := .ireturn) Bd.returns rfl (Or.inl ⟨rfl, Or.inl rfl, _, rfl⟩) (hb hby d3_10) e0 (by decide) (by decide) ⟨by simp [own_max, hc91], N0, rfl⟩
theorem ef_EQ (m : MethodId) (x0 : Addr) (x1 : Addr) : entryFrame m #[(.ref x0), (.ref x1)] 3 = mkF m 0 #[.val (.ref x0), .val (.ref x1), .unset] [] := by first | (simp [entryFrame, mkF, argsToLocals, Value.category]; done) | rfl
def QEQ (Z : State) (a : Addr) (h0 : Heap) (n0 : Nat) (v : Option Value) (h : Heap) (L : List Loc) : Prop := v = some (.int 1) ∧ Fr n0 L ∧ h = h0
set_option maxRecDepth 65536 in
set_option maxHeartbeats 40000000 in
theorem rmEQ (l : Launch) (Z : State) (a0 : Array Value) (hw : ∀ d ∈ tables_1, d.before a0 Z = true) (ws : List Jvm.Cond) (a : Addr) (h0 : Heap) (n0 : Nat) (O0 : Old Z n0 h0) :
    MetFree l (⟨"java/util/OptionalInt", "equals", "(Ljava/lang/Object;)Z"⟩ : MethodName) (head1 (Jvm.Cond.code (⟨"java/util/OptionalInt", "equals", "(Ljava/lang/Object;)Z"⟩ : MethodName) jdk_2649_method_15_code 3 (some .boolean) :: ws) ({ frames := 0, cells := 0, slots := 0, locals := 0 } : Room)) (fun aa_ UU_ => aa_ = #[(.ref a), (.ref a)] ∧ Z.Warmed39 UU_.vm ∧ UU_.heap = h0) (fun _ _ _ _ _ => True) (fun _ UU_ oo_ UV_ => ∃ vv_ LL_, oo_ = .returned vv_ ∧ QEQ Z a h0 n0 vv_ UV_.heap LL_ ∧ FrameEnd UU_ oo_ UV_ LL_ ({ frames := 0, cells := 0, slots := 0, locals := 0 } : Room).cells ({ frames := 0, cells := 0, slots := 0, locals := 0 } : Room).slots) := by
  refine MetFree.of_bodySF (plainFor_of_name pn_1) hisR ?_
  intro p e s m args below meth c s₁ Bd hml0 hP hK
  obtain ⟨rfl, hZ, hh⟩ := hP
  have hx := Bd.exec
  have hby := Bd.bytes
  have hlk := BodyLoose.notSynchronized Bd
  have hml : c.maxLocals = 3 := hml0
  have hown : s.vm.findClass "java/util/OptionalInt" = some m.cls := findClass_of_methodNamed Bd.named
  have hnm := (name_of_methodNamed Bd.named Bd.method).1
  have X0 : Stand p l e ({ frames := 0, cells := 0, slots := 0, locals := 0 } : Room) s m #[(.ref a), (.ref a)] below meth c s₁ [] 0 0 := Stand.of_body Bd
  have e0 : s₁.heap = h0 := by rw [← hh, Bd.state]; rfl
  have N0 := Fr.nil n0
  suffices hOW : OW p e below s (QEQ Z a h0 n0) 0 0 (s₁.setTop (mkF m 0 #[.val (.ref a), .val (.ref a), .unset] [])) by
    obtain ⟨q1, q2, q3, q4⟩ := hOW
    exact ⟨q1, q2, castTop (ef_EQ m a a) q3, q4⟩
  refine OW.st (B := s₁.setTop (mkF m 1 #[.val (.ref a), .val (.ref a), .unset] [(.ref a)])) (fun _ kk_ => XS.aloadN X0.here hx rfl (hb hby d15_0) rfl rfl kk_) ?_
  refine OW.st (B := s₁.setTop (mkF m 2 #[.val (.ref a), .val (.ref a), .unset] [(.ref a), (.ref a)])) (fun _ kk_ => XS.aloadN X0.here hx rfl (hb hby d15_1) rfl rfl kk_) ?_
  refine OW.st (B := s₁.setTop (mkF m 5 #[.val (.ref a), .val (.ref a), .unset] [])) (fun _ kk_ => Jvm.RoadKit.acmp (g := (mkF m 2 #[.val (.ref a), .val (.ref a), .unset] [(.ref a), (.ref a)])) X0 hx rfl rfl rfl (pc0 := 2) (pc' := 5) (same := true) rfl (hb hby d15_2) rfl (decide_eq_true rfl) (by decide) (by decide) kk_) ?_
  refine OW.st (B := s₁.setTop (mkF m 6 #[.val (.ref a), .val (.ref a), .unset] [(.int (1 : Int32))])) (fun _ kk_ => XS.iconst X0.here hx rfl (hb hby d15_5) kk_) ?_
  exact OW.ret X0 hx hlk (i := .ireturn) Bd.returns rfl (Or.inl ⟨rfl, Or.inr (Or.inl rfl), _, rfl⟩) (hb hby d15_6) e0 (by decide) (by decide) ⟨rfl, N0, rfl⟩
theorem ef_0 (m : MethodId) (x0 : Int32) (x1 : Int32) (x2 : Int32) (x3 : Int32) (x4 : Int32) : entryFrame m #[(.int x0), (.int x1), (.int x2), (.int x3), (.int x4)] maxLocals = mkF m 0 #[.val (.int x0), .val (.int x1), .val (.int x2), .val (.int x3), .val (.int x4), .unset, .unset, .unset, .unset, .unset, .unset, .unset, .unset, .unset, .unset, .unset, .unset, .unset, .unset] [] := by first | (simp [entryFrame, mkF, argsToLocals, Value.category, maxLocals]; done) | rfl
def Q0 (Z : State) (n1 : Int32) (n2 : Int32) (n3 : Int32) (n4 : Int32) (n5 : Int32) (a_DEFAULT : Addr) (a_REPEATABLE_READ : Addr) (a_MANDATORY : Addr) (a_REQUIRED : Addr) (a_SERIALIZABLE : Addr) (a_REQUIRES_NEW : Addr) (a_READ_COMMITTED : Addr) (a_READ_UNCOMMITTED : Addr) (a_NEVER : Addr) (a_NOT_SUPPORTED : Addr) (a_SUPPORTS : Addr) (a_NESTED : Addr) (a_EMPTY : Addr) (h0 : Heap) (n0 : Nat) (v : Option Value) (h : Heap) (L : List Loc) : Prop := v = some (.int 1) ∧ Fr n0 L
set_option maxRecDepth 65536 in
set_option maxHeartbeats 40000000 in
theorem rm0 (l : Launch) (Z : State) (a0 : Array Value) (hw : ∀ d ∈ tables_1, d.before a0 Z = true) (ws : List Jvm.Cond) (n1 : Int32) (n2 : Int32) (n3 : Int32) (n4 : Int32) (n5 : Int32) (a_DEFAULT : Addr) (a_REPEATABLE_READ : Addr) (a_MANDATORY : Addr) (a_REQUIRED : Addr) (a_SERIALIZABLE : Addr) (a_REQUIRES_NEW : Addr) (a_READ_COMMITTED : Addr) (a_READ_UNCOMMITTED : Addr) (a_NEVER : Addr) (a_NOT_SUPPORTED : Addr) (a_SUPPORTS : Addr) (a_NESTED : Addr) (a_EMPTY : Addr) (h0 : Heap) (n0 : Nat) (O0 : Old Z n0 h0) (hS : OwnS Z a_DEFAULT a_REPEATABLE_READ a_MANDATORY a_REQUIRED a_SERIALIZABLE a_REQUIRES_NEW a_READ_COMMITTED a_READ_UNCOMMITTED a_NEVER a_NOT_SUPPORTED a_SUPPORTS a_NESTED a_EMPTY) :
    MetFree l x (head1 (Jvm.Cond.code x code maxLocals ret :: ws) room_1) (fun aa_ UU_ => aa_ = #[(.int n1), (.int n2), (.int n3), (.int n4), (.int n5)] ∧ Z.Warmed39 UU_.vm ∧ UU_.heap = h0) (fun _ _ _ _ _ => True) (fun _ UU_ oo_ UV_ => ∃ vv_ LL_, oo_ = .returned vv_ ∧ Q0 Z n1 n2 n3 n4 n5 a_DEFAULT a_REPEATABLE_READ a_MANDATORY a_REQUIRED a_SERIALIZABLE a_REQUIRES_NEW a_READ_COMMITTED a_READ_UNCOMMITTED a_NEVER a_NOT_SUPPORTED a_SUPPORTS a_NESTED a_EMPTY h0 n0 vv_ UV_.heap LL_ ∧ ReturnedEndW UU_ oo_ UV_ LL_ 13 154) := by
  refine MetFree.of_bodySF (plainFor_of_name pn_0) hisR ?_
  intro p e s m args below meth c s₁ Bd hml0 hP hK
  obtain ⟨rfl, hZ, hh⟩ := hP
  have hx := Bd.exec
  have hby := Bd.bytes
  have hlk := BodyLoose.notSynchronized Bd
  have hml : c.maxLocals = 19 := hml0
  have hown : s.vm.findClass "com/example/demarcate/demarcate/TransactionDefinitionWithIsolationPinLaw" = some m.cls := findClass_of_methodNamed Bd.named
  have hnm := (name_of_methodNamed Bd.named Bd.method).1
  have X0 : Stand p l e room_1 s m #[(.int n1), (.int n2), (.int n3), (.int n4), (.int n5)] below meth c s₁ [] 0 0 := Stand.of_body Bd
  have e0 : s₁.heap = h0 := by rw [← hh, Bd.state]; rfl
  have N0 := Fr.nil n0
  have hS0 : s.Since s.vm 0 := (State.WarmedH.refl s).since 0
  have hk0 : 0 ≤ h0.size := Nat.zero_le _
  suffices hOW : OWW p e below s (Q0 Z n1 n2 n3 n4 n5 a_DEFAULT a_REPEATABLE_READ a_MANDATORY a_REQUIRED a_SERIALIZABLE a_REQUIRES_NEW a_READ_COMMITTED a_READ_UNCOMMITTED a_NEVER a_NOT_SUPPORTED a_SUPPORTS a_NESTED a_EMPTY h0 n0) 13 154 (s₁.setTop (mkF m 0 #[.val (.int n1), .val (.int n2), .val (.int n3), .val (.int n4), .val (.int n5), .unset, .unset, .unset, .unset, .unset, .unset, .unset, .unset, .unset, .unset, .unset, .unset, .unset, .unset] [])) by
    obtain ⟨q1, q2, q3, q4⟩ := hOW
    exact ⟨q1, q2, castTop (ef_0 m n1 n2 n3 n4 n5) q3, q4⟩
  have hS' := hS
  obtain ⟨Sa_DEFAULT, Ea_DEFAULT, Sa_REPEATABLE_READ, Ea_REPEATABLE_READ, Sa_MANDATORY, Ea_MANDATORY, Sa_REQUIRED, Ea_REQUIRED, Sa_SERIALIZABLE, Ea_SERIALIZABLE, Sa_REQUIRES_NEW, Ea_REQUIRES_NEW, Sa_READ_COMMITTED, Ea_READ_COMMITTED, Sa_READ_UNCOMMITTED, Ea_READ_UNCOMMITTED, Sa_NEVER, Ea_NEVER, Sa_NOT_SUPPORTED, Ea_NOT_SUPPORTED, Sa_SUPPORTS, Ea_SUPPORTS, Sa_NESTED, Ea_NESTED, Sa_EMPTY, Ea_EMPTY, Fa_EMPTY_isPresent, Fa_EMPTY_value⟩ := hS'
  refine OWW.st (B := s₁.setTop (mkF m 1 #[.val (.int n1), .val (.int n2), .val (.int n3), .val (.int n4), .val (.int n5), .unset, .unset, .unset, .unset, .unset, .unset, .unset, .unset, .unset, .unset, .unset, .unset, .unset, .unset] [(.int n1)])) (fun _ kk_ => XS.iloadN X0.here hx rfl (hb hby at_0) rfl kk_) ?_
  obtain ⟨_, _, ⟨T92, L92, k92, n92⟩, -, X92, ⟨Lc92, hQ92, l92, y92, z92⟩, st92⟩ := Jvm.LawKit.callS X0 hx (y := (⟨"com/example/demarcate/demarcate/TransactionDefinitionWithIsolationPinLaw", "iso", "(I)Lcom/example/demarcate/demarcate/Isolation;"⟩ : MethodName)) hown (mvT hZ (w_0 hw)) (mvT hZ (w_1 hw)) (mvT hZ (w_2 hw)) (mvT hZ (w_3 hw)) (by decide) (backOf (W := 0) (rmI l Z a0 hw [] n1 a_DEFAULT a_REPEATABLE_READ a_MANDATORY a_REQUIRED a_SERIALIZABLE a_REQUIRES_NEW a_READ_COMMITTED a_READ_UNCOMMITTED a_NEVER a_NOT_SUPPORTED a_SUPPORTS a_NESTED a_EMPTY h0 n0 O0 hS) hZ (w_3 hw) (w_2 hw) (by decide) (by decide)) (g := (mkF m 1 #[.val (.int n1), .val (.int n2), .val (.int n3), .val (.int n4), .val (.int n5), .unset, .unset, .unset, .unset, .unset, .unset, .unset, .unset, .unset, .unset, .unset, .unset, .unset, .unset] [(.int n1)])) rfl (by rw [hml]; rfl) (argsL := [(.int n1)]) (rest := []) (lenOf pd_5 rfl) rfl (by show 2 * 0 + _ ≤ _; exact Nat.le_of_eq rfl) (hb hby at_1) (fun _ _ => ⟨rfl, e0, (by decide : 0 + 0 ≤ _), (by decide : 0 + 0 ≤ _)⟩)
  dsimp only [Pt.U, Pt.locs, Pt.cells, Pt.slots] at X92 l92 y92 z92 st92 hQ92
  subst l92 y92 z92
  obtain ⟨a92, rfl, Nq92, e92, Ea92⟩ := hQ92
  have N92 := Fr.app N0 Nq92
  refine OWW.st (B := T92.setTop (mkF m 4 #[.val (.int n1), .val (.int n2), .val (.int n3), .val (.int n4), .val (.int n5), .unset, .unset, .unset, .unset, .unset, .unset, .unset, .unset, .unset, .unset, .unset, .unset, .unset, .unset] [(.ref a92)])) (st92) ?_
  refine OWW.st (B := T92.setTop (mkF m 6 #[.val (.int n1), .val (.int n2), .val (.int n3), .val (.int n4), .val (.int n5), .val (.ref a92), .unset, .unset, .unset, .unset, .unset, .unset, .unset, .unset, .unset, .unset, .unset, .unset, .unset] [])) (fun _ kk_ => XS.astore X92.here hx rfl (hb hby at_4) rfl rfl (l' := #[.val (.int n1), .val (.int n2), .val (.int n3), .val (.int n4), .val (.int n5), .val (.ref a92), .unset, .unset, .unset, .unset, .unset, .unset, .unset, .unset, .unset, .unset, .unset, .unset, .unset]) rfl kk_) ?_
  refine OWW.st (B := T92.setTop (mkF m 7 #[.val (.int n1), .val (.int n2), .val (.int n3), .val (.int n4), .val (.int n5), .val (.ref a92), .unset, .unset, .unset, .unset, .unset, .unset, .unset, .unset, .unset, .unset, .unset, .unset, .unset] [(.int n2)])) (fun _ kk_ => XS.iloadN X92.here hx rfl (hb hby at_6) rfl kk_) ?_
  obtain ⟨_, _, ⟨T93, L93, k93, n93⟩, -, X93, ⟨Lc93, hQ93, l93, y93, z93⟩, st93⟩ := Jvm.LawKit.callS X92 hx (y := (⟨"com/example/demarcate/demarcate/TransactionDefinitionWithIsolationPinLaw", "iso", "(I)Lcom/example/demarcate/demarcate/Isolation;"⟩ : MethodName)) hown (mvT hZ (w_0 hw)) (mvT hZ (w_1 hw)) (mvT hZ (w_2 hw)) (mvT hZ (w_3 hw)) (by decide) (backOf (W := 0) (rmI l Z a0 hw [] n2 a_DEFAULT a_REPEATABLE_READ a_MANDATORY a_REQUIRED a_SERIALIZABLE a_REQUIRES_NEW a_READ_COMMITTED a_READ_UNCOMMITTED a_NEVER a_NOT_SUPPORTED a_SUPPORTS a_NESTED a_EMPTY h0 n0 O0 hS) hZ (w_3 hw) (w_2 hw) (by decide) (by decide)) (g := (mkF m 7 #[.val (.int n1), .val (.int n2), .val (.int n3), .val (.int n4), .val (.int n5), .val (.ref a92), .unset, .unset, .unset, .unset, .unset, .unset, .unset, .unset, .unset, .unset, .unset, .unset, .unset] [(.int n2)])) rfl (by rw [hml]; rfl) (argsL := [(.int n2)]) (rest := []) (lenOf pd_5 rfl) rfl (by show 2 * 0 + _ ≤ _; exact Nat.le_of_eq rfl) (hb hby at_7) (fun _ _ => ⟨rfl, e92, (by decide : 0 + 0 ≤ _), (by decide : 0 + 0 ≤ _)⟩)
  dsimp only [Pt.U, Pt.locs, Pt.cells, Pt.slots] at X93 l93 y93 z93 st93 hQ93
  subst l93 y93 z93
  obtain ⟨a93, rfl, Nq93, e93, Ea93⟩ := hQ93
  have N93 := Fr.app N92 Nq93
  refine OWW.st (B := T93.setTop (mkF m 10 #[.val (.int n1), .val (.int n2), .val (.int n3), .val (.int n4), .val (.int n5), .val (.ref a92), .unset, .unset, .unset, .unset, .unset, .unset, .unset, .unset, .unset, .unset, .unset, .unset, .unset] [(.ref a93)])) (st93) ?_
  refine OWW.st (B := T93.setTop (mkF m 12 #[.val (.int n1), .val (.int n2), .val (.int n3), .val (.int n4), .val (.int n5), .val (.ref a92), .val (.ref a93), .unset, .unset, .unset, .unset, .unset, .unset, .unset, .unset, .unset, .unset, .unset, .unset] [])) (fun _ kk_ => XS.astore X93.here hx rfl (hb hby at_10) rfl rfl (l' := #[.val (.int n1), .val (.int n2), .val (.int n3), .val (.int n4), .val (.int n5), .val (.ref a92), .val (.ref a93), .unset, .unset, .unset, .unset, .unset, .unset, .unset, .unset, .unset, .unset, .unset, .unset]) rfl kk_) ?_
  refine OWW.st (B := T93.setTop (mkF m 13 #[.val (.int n1), .val (.int n2), .val (.int n3), .val (.int n4), .val (.int n5), .val (.ref a92), .val (.ref a93), .unset, .unset, .unset, .unset, .unset, .unset, .unset, .unset, .unset, .unset, .unset, .unset] [(.int n3)])) (fun _ kk_ => XS.iloadN X93.here hx rfl (hb hby at_12) rfl kk_) ?_
  obtain ⟨_, _, ⟨T94, L94, k94, n94⟩, -, X94, ⟨Lc94, hQ94, l94, y94, z94⟩, st94⟩ := Jvm.LawKit.callS X93 hx (y := (⟨"com/example/demarcate/demarcate/TransactionDefinitionWithIsolationPinLaw", "prop", "(I)Lcom/example/demarcate/demarcate/Propagation;"⟩ : MethodName)) hown (mvT hZ (w_10 hw)) (mvT hZ (w_11 hw)) (mvT hZ (w_2 hw)) (mvT hZ (w_12 hw)) (by decide) (backOf (W := 0) (rmP l Z a0 hw [] n3 a_DEFAULT a_REPEATABLE_READ a_MANDATORY a_REQUIRED a_SERIALIZABLE a_REQUIRES_NEW a_READ_COMMITTED a_READ_UNCOMMITTED a_NEVER a_NOT_SUPPORTED a_SUPPORTS a_NESTED a_EMPTY h0 n0 O0 hS) hZ (w_12 hw) (w_2 hw) (by decide) (by decide)) (g := (mkF m 13 #[.val (.int n1), .val (.int n2), .val (.int n3), .val (.int n4), .val (.int n5), .val (.ref a92), .val (.ref a93), .unset, .unset, .unset, .unset, .unset, .unset, .unset, .unset, .unset, .unset, .unset, .unset] [(.int n3)])) rfl (by rw [hml]; rfl) (argsL := [(.int n3)]) (rest := []) (lenOf pd_6 rfl) rfl (by show 2 * 0 + _ ≤ _; exact Nat.le_of_eq rfl) (hb hby at_13) (fun _ _ => ⟨rfl, e93, (by decide : 0 + 0 ≤ _), (by decide : 0 + 0 ≤ _)⟩)
  dsimp only [Pt.U, Pt.locs, Pt.cells, Pt.slots] at X94 l94 y94 z94 st94 hQ94
  subst l94 y94 z94
  obtain ⟨a94, rfl, Nq94, e94, Ea94⟩ := hQ94
  have N94 := Fr.app N93 Nq94
  refine OWW.st (B := T94.setTop (mkF m 16 #[.val (.int n1), .val (.int n2), .val (.int n3), .val (.int n4), .val (.int n5), .val (.ref a92), .val (.ref a93), .unset, .unset, .unset, .unset, .unset, .unset, .unset, .unset, .unset, .unset, .unset, .unset] [(.ref a94)])) (st94) ?_
  refine OWW.st (B := T94.setTop (mkF m 18 #[.val (.int n1), .val (.int n2), .val (.int n3), .val (.int n4), .val (.int n5), .val (.ref a92), .val (.ref a93), .val (.ref a94), .unset, .unset, .unset, .unset, .unset, .unset, .unset, .unset, .unset, .unset, .unset] [])) (fun _ kk_ => XS.astore X94.here hx rfl (hb hby at_16) rfl rfl (l' := #[.val (.int n1), .val (.int n2), .val (.int n3), .val (.int n4), .val (.int n5), .val (.ref a92), .val (.ref a93), .val (.ref a94), .unset, .unset, .unset, .unset, .unset, .unset, .unset, .unset, .unset, .unset, .unset]) rfl kk_) ?_
  have J95 : ∀ (T95 : State) (L95 : List Loc) (X95 : Stand p l e room_1 s m #[(.int n1), (.int n2), (.int n3), (.int n4), (.int n5)] below meth c T95 L95 0 0) (N95 : Fr n0 L95) (e95 : T95.heap = h0) (f0 : Int32), ((f0 = 0 ∨ f0 = 1)) → OWW p e below s (Q0 Z n1 n2 n3 n4 n5 a_DEFAULT a_REPEATABLE_READ a_MANDATORY a_REQUIRED a_SERIALIZABLE a_REQUIRES_NEW a_READ_COMMITTED a_READ_UNCOMMITTED a_NEVER a_NOT_SUPPORTED a_SUPPORTS a_NESTED a_EMPTY h0 n0) 13 154 (T95.setTop (mkF m 29 #[.val (.int n1), .val (.int n2), .val (.int n3), .val (.int n4), .val (.int n5), .val (.ref a92), .val (.ref a93), .val (.ref a94), .unset, .unset, .unset, .unset, .unset, .unset, .unset, .unset, .unset, .unset, .unset] [(.int f0)])) := by
    intro T95 L95 X95 N95 e95 f0 hf0
    refine OWW.st (B := T95.setTop (mkF m 31 #[.val (.int n1), .val (.int n2), .val (.int n3), .val (.int n4), .val (.int n5), .val (.ref a92), .val (.ref a93), .val (.ref a94), .val (.int f0), .unset, .unset, .unset, .unset, .unset, .unset, .unset, .unset, .unset, .unset] [])) (fun _ kk_ => XS.istore X95.here hx rfl (hb hby at_29) rfl (l' := #[.val (.int n1), .val (.int n2), .val (.int n3), .val (.int n4), .val (.int n5), .val (.ref a92), .val (.ref a93), .val (.ref a94), .val (.int f0), .unset, .unset, .unset, .unset, .unset, .unset, .unset, .unset, .unset, .unset]) rfl kk_) ?_
    have J96 : ∀ (T96 : State) (L96 : List Loc) (X96 : Stand p l e room_1 s m #[(.int n1), (.int n2), (.int n3), (.int n4), (.int n5)] below meth c T96 L96 0 0) (N96 : Fr n0 L96) (e96 : T96.heap = h0) (f1 : Int32), ((f1 = 0 ∨ f1 = 1)) → OWW p e below s (Q0 Z n1 n2 n3 n4 n5 a_DEFAULT a_REPEATABLE_READ a_MANDATORY a_REQUIRED a_SERIALIZABLE a_REQUIRES_NEW a_READ_COMMITTED a_READ_UNCOMMITTED a_NEVER a_NOT_SUPPORTED a_SUPPORTS a_NESTED a_EMPTY h0 n0) 13 154 (T96.setTop (mkF m 42 #[.val (.int n1), .val (.int n2), .val (.int n3), .val (.int n4), .val (.int n5), .val (.ref a92), .val (.ref a93), .val (.ref a94), .val (.int f0), .unset, .unset, .unset, .unset, .unset, .unset, .unset, .unset, .unset, .unset] [(.int f1)])) := by
      intro T96 L96 X96 N96 e96 f1 hf1
      refine OWW.st (B := T96.setTop (mkF m 44 #[.val (.int n1), .val (.int n2), .val (.int n3), .val (.int n4), .val (.int n5), .val (.ref a92), .val (.ref a93), .val (.ref a94), .val (.int f0), .val (.int f1), .unset, .unset, .unset, .unset, .unset, .unset, .unset, .unset, .unset] [])) (fun _ kk_ => XS.istore X96.here hx rfl (hb hby at_42) rfl (l' := #[.val (.int n1), .val (.int n2), .val (.int n3), .val (.int n4), .val (.int n5), .val (.ref a92), .val (.ref a93), .val (.ref a94), .val (.int f0), .val (.int f1), .unset, .unset, .unset, .unset, .unset, .unset, .unset, .unset, .unset]) rfl kk_) ?_
      have J97 : ∀ (T97 : State) (L97 : List Loc) (X97 : Stand p l e room_1 s m #[(.int n1), (.int n2), (.int n3), (.int n4), (.int n5)] below meth c T97 L97 0 0) (N97 : Fr n0 L97) (e97 : T97.heap = h0) (f2 : Int32), ((f2 = 0 ∨ f2 = 1)) → OWW p e below s (Q0 Z n1 n2 n3 n4 n5 a_DEFAULT a_REPEATABLE_READ a_MANDATORY a_REQUIRED a_SERIALIZABLE a_REQUIRES_NEW a_READ_COMMITTED a_READ_UNCOMMITTED a_NEVER a_NOT_SUPPORTED a_SUPPORTS a_NESTED a_EMPTY h0 n0) 13 154 (T97.setTop (mkF m 55 #[.val (.int n1), .val (.int n2), .val (.int n3), .val (.int n4), .val (.int n5), .val (.ref a92), .val (.ref a93), .val (.ref a94), .val (.int f0), .val (.int f1), .unset, .unset, .unset, .unset, .unset, .unset, .unset, .unset, .unset] [(.int f2)])) := by
        intro T97 L97 X97 N97 e97 f2 hf2
        refine OWW.st (B := T97.setTop (mkF m 57 #[.val (.int n1), .val (.int n2), .val (.int n3), .val (.int n4), .val (.int n5), .val (.ref a92), .val (.ref a93), .val (.ref a94), .val (.int f0), .val (.int f1), .val (.int f2), .unset, .unset, .unset, .unset, .unset, .unset, .unset, .unset] [])) (fun _ kk_ => XS.istore X97.here hx rfl (hb hby at_55) rfl (l' := #[.val (.int n1), .val (.int n2), .val (.int n3), .val (.int n4), .val (.int n5), .val (.ref a92), .val (.ref a93), .val (.ref a94), .val (.int f0), .val (.int f1), .val (.int f2), .unset, .unset, .unset, .unset, .unset, .unset, .unset, .unset]) rfl kk_) ?_
        have J98 : ∀ (T98 : State) (L98 : List Loc) (X98 : Stand p l e room_1 s m #[(.int n1), (.int n2), (.int n3), (.int n4), (.int n5)] below meth c T98 L98 0 0) (N98 : Fr n0 L98) (e98 : T98.heap = h0) (f3 : Int32), ((f3 = 0 ∨ f3 = 1)) → OWW p e below s (Q0 Z n1 n2 n3 n4 n5 a_DEFAULT a_REPEATABLE_READ a_MANDATORY a_REQUIRED a_SERIALIZABLE a_REQUIRES_NEW a_READ_COMMITTED a_READ_UNCOMMITTED a_NEVER a_NOT_SUPPORTED a_SUPPORTS a_NESTED a_EMPTY h0 n0) 13 154 (T98.setTop (mkF m 69 #[.val (.int n1), .val (.int n2), .val (.int n3), .val (.int n4), .val (.int n5), .val (.ref a92), .val (.ref a93), .val (.ref a94), .val (.int f0), .val (.int f1), .val (.int f2), .unset, .unset, .unset, .unset, .unset, .unset, .unset, .unset] [(.int f3)])) := by
          intro T98 L98 X98 N98 e98 f3 hf3
          refine OWW.st (B := T98.setTop (mkF m 71 #[.val (.int n1), .val (.int n2), .val (.int n3), .val (.int n4), .val (.int n5), .val (.ref a92), .val (.ref a93), .val (.ref a94), .val (.int f0), .val (.int f1), .val (.int f2), .val (.int f3), .unset, .unset, .unset, .unset, .unset, .unset, .unset] [])) (fun _ kk_ => XS.istore X98.here hx rfl (hb hby at_69) rfl (l' := #[.val (.int n1), .val (.int n2), .val (.int n3), .val (.int n4), .val (.int n5), .val (.ref a92), .val (.ref a93), .val (.ref a94), .val (.int f0), .val (.int f1), .val (.int f2), .val (.int f3), .unset, .unset, .unset, .unset, .unset, .unset, .unset]) rfl kk_) ?_
          have J99 : ∀ (T99 : State) (L99 : List Loc) (X99 : Stand p l e room_1 s m #[(.int n1), (.int n2), (.int n3), (.int n4), (.int n5)] below meth c T99 L99 0 0) (N99 : Fr n0 L99) (e99 : T99.heap = h0) (f4 : Int32), ((f4 = 0 ∨ f4 = 1)) → OWW p e below s (Q0 Z n1 n2 n3 n4 n5 a_DEFAULT a_REPEATABLE_READ a_MANDATORY a_REQUIRED a_SERIALIZABLE a_REQUIRES_NEW a_READ_COMMITTED a_READ_UNCOMMITTED a_NEVER a_NOT_SUPPORTED a_SUPPORTS a_NESTED a_EMPTY h0 n0) 13 154 (T99.setTop (mkF m 83 #[.val (.int n1), .val (.int n2), .val (.int n3), .val (.int n4), .val (.int n5), .val (.ref a92), .val (.ref a93), .val (.ref a94), .val (.int f0), .val (.int f1), .val (.int f2), .val (.int f3), .unset, .unset, .unset, .unset, .unset, .unset, .unset] [(.int f4)])) := by
            intro T99 L99 X99 N99 e99 f4 hf4
            refine OWW.st (B := T99.setTop (mkF m 85 #[.val (.int n1), .val (.int n2), .val (.int n3), .val (.int n4), .val (.int n5), .val (.ref a92), .val (.ref a93), .val (.ref a94), .val (.int f0), .val (.int f1), .val (.int f2), .val (.int f3), .val (.int f4), .unset, .unset, .unset, .unset, .unset, .unset] [])) (fun _ kk_ => XS.istore X99.here hx rfl (hb hby at_83) rfl (l' := #[.val (.int n1), .val (.int n2), .val (.int n3), .val (.int n4), .val (.int n5), .val (.ref a92), .val (.ref a93), .val (.ref a94), .val (.int f0), .val (.int f1), .val (.int f2), .val (.int f3), .val (.int f4), .unset, .unset, .unset, .unset, .unset, .unset]) rfl kk_) ?_
            refine OWW.st (B := T99.setTop (mkF m 86 #[.val (.int n1), .val (.int n2), .val (.int n3), .val (.int n4), .val (.int n5), .val (.ref a92), .val (.ref a93), .val (.ref a94), .val (.int f0), .val (.int f1), .val (.int f2), .val (.int f3), .val (.int f4), .unset, .unset, .unset, .unset, .unset, .unset] [(.int (1 : Int32))])) (fun _ kk_ => XS.iconst X99.here hx rfl (hb hby at_85) kk_) ?_
            refine OWW.st (B := T99.setTop (mkF m 88 #[.val (.int n1), .val (.int n2), .val (.int n3), .val (.int n4), .val (.int n5), .val (.ref a92), .val (.ref a93), .val (.ref a94), .val (.int f0), .val (.int f1), .val (.int f2), .val (.int f3), .val (.int f4), .unset, .unset, .unset, .unset, .unset, .unset] [(.int n5), (.int (1 : Int32))])) (fun _ kk_ => XS.iload X99.here hx rfl (hb hby at_86) rfl kk_) ?_
            refine OWW.st (B := T99.setTop (mkF m 90 #[.val (.int n1), .val (.int n2), .val (.int n3), .val (.int n4), .val (.int n5), .val (.ref a92), .val (.ref a93), .val (.ref a94), .val (.int f0), .val (.int f1), .val (.int f2), .val (.int f3), .val (.int f4), .unset, .unset, .unset, .unset, .unset, .unset] [(.int (2147483647 : Int32)), (.int n5), (.int (1 : Int32))])) (X99.ldcInt hx hown (mvT hZ (w_4 hw)) (g := (mkF m 88 #[.val (.int n1), .val (.int n2), .val (.int n3), .val (.int n4), .val (.int n5), .val (.ref a92), .val (.ref a93), .val (.ref a94), .val (.int f0), .val (.int f1), .val (.int f2), .val (.int f3), .val (.int f4), .unset, .unset, .unset, .unset, .unset, .unset] [(.int n5), (.int (1 : Int32))])) rfl (hb hby at_88)) ?_
            refine OWW.st (B := T99.setTop (mkF m 91 #[.val (.int n1), .val (.int n2), .val (.int n3), .val (.int n4), .val (.int n5), .val (.ref a92), .val (.ref a93), .val (.ref a94), .val (.int f0), .val (.int f1), .val (.int f2), .val (.int f3), .val (.int f4), .unset, .unset, .unset, .unset, .unset, .unset] [(.int (n5 &&& (2147483647 : Int32))), (.int (1 : Int32))])) (fun _ kk_ => XS.iand X99.here hx rfl (hb hby at_90) rfl kk_) ?_
            obtain ⟨_, _, ⟨T100, L100, k100, n100⟩, -, X100, ⟨Lc100, hQ100, l100, y100, z100⟩, st100⟩ := Jvm.LawKit.callS X99 hx (y := (⟨"java/lang/Math", "max", "(II)I"⟩ : MethodName)) hown (mvT hZ (w_16 hw)) (mvT hZ (w_17 hw)) (mvT hZ (w_18 hw)) (mvT hZ (w_19 hw)) (by decide) (backOf (W := 0) (rmMX l Z a0 hw [] (1 : Int32) (n5 &&& (2147483647 : Int32)) h0 n0 O0 ) hZ (w_19 hw) (w_18 hw) (by decide) (by decide)) (g := (mkF m 91 #[.val (.int n1), .val (.int n2), .val (.int n3), .val (.int n4), .val (.int n5), .val (.ref a92), .val (.ref a93), .val (.ref a94), .val (.int f0), .val (.int f1), .val (.int f2), .val (.int f3), .val (.int f4), .unset, .unset, .unset, .unset, .unset, .unset] [(.int (n5 &&& (2147483647 : Int32))), (.int (1 : Int32))])) rfl (by rw [hml]; rfl) (argsL := [(.int (1 : Int32)), (.int (n5 &&& (2147483647 : Int32)))]) (rest := []) (lenOf pd_7 rfl) rfl (by show 2 * 0 + _ ≤ _; exact Nat.le_of_eq rfl) (hb hby at_91) (fun _ _ => ⟨rfl, e99, (by decide : 0 + 0 ≤ _), (by decide : 0 + 0 ≤ _)⟩)
            dsimp only [Pt.U, Pt.locs, Pt.cells, Pt.slots] at X100 l100 y100 z100 st100 hQ100
            subst l100 y100 z100
            obtain ⟨rfl, Nq100, e100⟩ := hQ100
            have N100 := Fr.app N99 Nq100
            refine OWW.st (B := T100.setTop (mkF m 94 #[.val (.int n1), .val (.int n2), .val (.int n3), .val (.int n4), .val (.int n5), .val (.ref a92), .val (.ref a93), .val (.ref a94), .val (.int f0), .val (.int f1), .val (.int f2), .val (.int f3), .val (.int f4), .unset, .unset, .unset, .unset, .unset, .unset] [(.int (own_max (1 : Int32) (n5 &&& (2147483647 : Int32))))])) (st100) ?_
            suffices J : ∀ mx : Int32, (¬ (mx < (1 : Int32))) → OWW p e below s (Q0 Z n1 n2 n3 n4 n5 a_DEFAULT a_REPEATABLE_READ a_MANDATORY a_REQUIRED a_SERIALIZABLE a_REQUIRES_NEW a_READ_COMMITTED a_READ_UNCOMMITTED a_NEVER a_NOT_SUPPORTED a_SUPPORTS a_NESTED a_EMPTY h0 n0) 13 154 (T100.setTop (mkF m 94 #[.val (.int n1), .val (.int n2), .val (.int n3), .val (.int n4), .val (.int n5), .val (.ref a92), .val (.ref a93), .val (.ref a94), .val (.int f0), .val (.int f1), .val (.int f2), .val (.int f3), .val (.int f4), .unset, .unset, .unset, .unset, .unset, .unset] [(.int mx)])) from J _ (own_max1 _)
            intro mx hmx
            refine OWW.st (B := T100.setTop (mkF m 96 #[.val (.int n1), .val (.int n2), .val (.int n3), .val (.int n4), .val (.int n5), .val (.ref a92), .val (.ref a93), .val (.ref a94), .val (.int f0), .val (.int f1), .val (.int f2), .val (.int f3), .val (.int f4), .val (.int mx), .unset, .unset, .unset, .unset, .unset] [])) (fun _ kk_ => XS.istore X100.here hx rfl (hb hby at_94) rfl (l' := #[.val (.int n1), .val (.int n2), .val (.int n3), .val (.int n4), .val (.int n5), .val (.ref a92), .val (.ref a93), .val (.ref a94), .val (.int f0), .val (.int f1), .val (.int f2), .val (.int f3), .val (.int f4), .val (.int mx), .unset, .unset, .unset, .unset, .unset]) rfl kk_) ?_
            obtain ⟨T101, h101, X101, e101, E101, A101, D101, -, st101⟩ := newO X100 hx hZ hown (w_20 hw) (w_21 hw) (w_22 hw) e100 (g := (mkF m 96 #[.val (.int n1), .val (.int n2), .val (.int n3), .val (.int n4), .val (.int n5), .val (.ref a92), .val (.ref a93), .val (.ref a94), .val (.int f0), .val (.int f1), .val (.int f2), .val (.int f3), .val (.int f4), .val (.int mx), .unset, .unset, .unset, .unset, .unset] [])) rfl (hb hby at_96) (by decide) (by decide)
            obtain ⟨b101, g101⟩ : ∃ z, z = h0.size := ⟨_, rfl⟩
            rw [← g101] at A101 D101 st101
            have n_b101 : n0 ≤ b101 := Nat.le_trans (own_oldle O0) (Nat.le_of_eq g101.symm)
            have O101 : Old Z n0 h101 := O0.ext E101
            have F101_41 : Fld Z h101 b101 "com/example/demarcate/demarcate/TransactionDefinition" "propagation" "Lcom/example/demarcate/demarcate/Propagation;" .null := D101 (Or.inr (w_41 hw)) (ty := (.object "com/example/demarcate/demarcate/Propagation")) (by decide)
            have F101_43 : Fld Z h101 b101 "com/example/demarcate/demarcate/TransactionDefinition" "isolation" "Lcom/example/demarcate/demarcate/Isolation;" .null := D101 (Or.inr (w_43 hw)) (ty := (.object "com/example/demarcate/demarcate/Isolation")) (by decide)
            have F101_45 : Fld Z h101 b101 "com/example/demarcate/demarcate/TransactionDefinition" "readOnly" "Z" (.int (0 : Int32)) := D101 (Or.inr (w_45 hw)) (ty := .boolean) (by decide)
            have F101_47 : Fld Z h101 b101 "com/example/demarcate/demarcate/TransactionDefinition" "timeout" "Ljava/util/OptionalInt;" .null := D101 (Or.inr (w_47 hw)) (ty := (.object "java/util/OptionalInt")) (by decide)
            refine OWW.st (B := T101.setTop (mkF m 99 #[.val (.int n1), .val (.int n2), .val (.int n3), .val (.int n4), .val (.int n5), .val (.ref a92), .val (.ref a93), .val (.ref a94), .val (.int f0), .val (.int f1), .val (.int f2), .val (.int f3), .val (.int f4), .val (.int mx), .unset, .unset, .unset, .unset, .unset] [(.ref b101)])) (st101) ?_
            refine OWW.st (B := T101.setTop (mkF m 100 #[.val (.int n1), .val (.int n2), .val (.int n3), .val (.int n4), .val (.int n5), .val (.ref a92), .val (.ref a93), .val (.ref a94), .val (.int f0), .val (.int f1), .val (.int f2), .val (.int f3), .val (.int f4), .val (.int mx), .unset, .unset, .unset, .unset, .unset] [(.ref b101), (.ref b101)])) (fun _ kk_ => XS.dup X101.here hx rfl (hb hby at_99) rfl rfl kk_) ?_
            obtain ⟨_, _, ⟨T102, L102, k102, n102⟩, -, X102, ⟨Lc102, hQ102, l102, y102, z102⟩, st102⟩ := X101.specialBack hx (y := (⟨"com/example/demarcate/demarcate/TransactionDefinition", "<init>", "()V"⟩ : MethodName)) rfl hown (mvT hZ (w_23 hw)) (mvT hZ (w_24 hw)) (mvT hZ (w_25 hw)) (by decide) (backOf (W := 1) (rmT0 l Z a0 hw [] b101 a_DEFAULT a_REPEATABLE_READ a_MANDATORY a_REQUIRED a_SERIALIZABLE a_REQUIRES_NEW a_READ_COMMITTED a_READ_UNCOMMITTED a_NEVER a_NOT_SUPPORTED a_SUPPORTS a_NESTED a_EMPTY h101 n0 O101 A101 F101_41 F101_43 F101_45 F101_47 n_b101 hS) hZ (w_25 hw) (w_22 hw) (by decide) (by decide)) (g := (mkF m 100 #[.val (.int n1), .val (.int n2), .val (.int n3), .val (.int n4), .val (.int n5), .val (.ref a92), .val (.ref a93), .val (.ref a94), .val (.int f0), .val (.int f1), .val (.int f2), .val (.int f3), .val (.int f4), .val (.int mx), .unset, .unset, .unset, .unset, .unset] [(.ref b101), (.ref b101)])) rfl (by rw [hml]; rfl) (Steps.refl _) (a := b101) (argsL := []) (rest := [(.ref b101)]) (lenOf pd_8 rfl) rfl (by show 2 * 0 + _ ≤ _; exact Nat.le_of_eq rfl) (hb hby at_100) (fun _ _ => ⟨rfl, e101, (by decide : 1 + 0 ≤ _), (by decide : 4 + 0 ≤ _)⟩)
            dsimp only [Pt.U, Pt.locs, Pt.cells, Pt.slots] at X102 l102 y102 z102 st102 hQ102
            subst l102 y102 z102
            obtain ⟨rfl, Nq102, K102, Ei102, Fi102_0, Fi102_1, Fi102_2, Fi102_3⟩ := hQ102
            have N102 := Fr.app N100 Nq102
            have O102 : Old Z n0 T102.heap := O101.keep K102 (allS n_b101 all0)
            refine OWW.tr (B := T102.setTop (mkF m 103 #[.val (.int n1), .val (.int n2), .val (.int n3), .val (.int n4), .val (.int n5), .val (.ref a92), .val (.ref a93), .val (.ref a94), .val (.int f0), .val (.int f1), .val (.int f2), .val (.int f3), .val (.int f4), .val (.int mx), .unset, .unset, .unset, .unset, .unset] [(.ref b101)])) (st102) ?_
            refine OWW.st (B := T102.setTop (mkF m 105 #[.val (.int n1), .val (.int n2), .val (.int n3), .val (.int n4), .val (.int n5), .val (.ref a92), .val (.ref a93), .val (.ref a94), .val (.int f0), .val (.int f1), .val (.int f2), .val (.int f3), .val (.int f4), .val (.int mx), .val (.ref b101), .unset, .unset, .unset, .unset] [])) (fun _ kk_ => XS.astore X102.here hx rfl (hb hby at_103) rfl rfl (l' := #[.val (.int n1), .val (.int n2), .val (.int n3), .val (.int n4), .val (.int n5), .val (.ref a92), .val (.ref a93), .val (.ref a94), .val (.int f0), .val (.int f1), .val (.int f2), .val (.int f3), .val (.int f4), .val (.int mx), .val (.ref b101), .unset, .unset, .unset, .unset]) rfl kk_) ?_
            refine OWW.st (B := T102.setTop (mkF m 107 #[.val (.int n1), .val (.int n2), .val (.int n3), .val (.int n4), .val (.int n5), .val (.ref a92), .val (.ref a93), .val (.ref a94), .val (.int f0), .val (.int f1), .val (.int f2), .val (.int f3), .val (.int f4), .val (.int mx), .val (.ref b101), .unset, .unset, .unset, .unset] [(.int f0)])) (fun _ kk_ => XS.iload X102.here hx rfl (hb hby at_105) rfl kk_) ?_
            have J103 : ∀ (T103 : State) (L103 : List Loc) (h103 : Heap) (vm103 : Vm) (k103 : Nat) (X103 : Stand p l e room_1 (s.setVm vm103) m #[(.int n1), (.int n2), (.int n3), (.int n4), (.int n5)] below meth c T103 L103 4 56) (N103 : Fr n0 L103) (e103 : T103.heap = h103) (O103 : Old Z n0 h103) (hS103 : s.Since vm103 k103) (hk103 : k103 ≤ h103.size) (hZ103 : Z.Warmed39 (s.setVm vm103).vm) (hown103 : (s.setVm vm103).vm.findClass "com/example/demarcate/demarcate/TransactionDefinitionWithIsolationPinLaw" = some m.cls) (bb : Addr) (pp : Addr) (tt : Addr), (Exa Z h103 bb "com/example/demarcate/demarcate/TransactionDefinition") → (n0 ≤ bb) → (Exa Z h103 tt "java/util/OptionalInt") → (Fld Z h103 bb "com/example/demarcate/demarcate/TransactionDefinition" "propagation" "Lcom/example/demarcate/demarcate/Propagation;" (.ref pp)) → (Fld Z h103 bb "com/example/demarcate/demarcate/TransactionDefinition" "isolation" "Lcom/example/demarcate/demarcate/Isolation;" (.ref a_DEFAULT)) → (Fld Z h103 bb "com/example/demarcate/demarcate/TransactionDefinition" "readOnly" "Z" (.int (0 : Int32))) → (Fld Z h103 bb "com/example/demarcate/demarcate/TransactionDefinition" "timeout" "Ljava/util/OptionalInt;" (.ref tt)) → (pp = (if f0 = 0 then a_REQUIRED else a94)) → OWW p e below s (Q0 Z n1 n2 n3 n4 n5 a_DEFAULT a_REPEATABLE_READ a_MANDATORY a_REQUIRED a_SERIALIZABLE a_REQUIRES_NEW a_READ_COMMITTED a_READ_UNCOMMITTED a_NEVER a_NOT_SUPPORTED a_SUPPORTS a_NESTED a_EMPTY h0 n0) 13 154 (T103.setTop (mkF m 119 #[.val (.int n1), .val (.int n2), .val (.int n3), .val (.int n4), .val (.int n5), .val (.ref a92), .val (.ref a93), .val (.ref a94), .val (.int f0), .val (.int f1), .val (.int f2), .val (.int f3), .val (.int f4), .val (.int mx), .val (.ref bb), .unset, .unset, .unset, .unset] [])) := by
              intro T103 L103 h103 vm103 k103 X103 N103 e103 O103 hS103 hk103 hZ103 hown103 bb pp tt Ge Gg Gt Ga Gb Gc Gd hp
              refine OWW.st (B := T103.setTop (mkF m 121 #[.val (.int n1), .val (.int n2), .val (.int n3), .val (.int n4), .val (.int n5), .val (.ref a92), .val (.ref a93), .val (.ref a94), .val (.int f0), .val (.int f1), .val (.int f2), .val (.int f3), .val (.int f4), .val (.int mx), .val (.ref bb), .unset, .unset, .unset, .unset] [(.int f1)])) (fun _ kk_ => XS.iload X103.here hx rfl (hb hby at_119) rfl kk_) ?_
              have J104 : ∀ (T104 : State) (L104 : List Loc) (h104 : Heap) (vm104 : Vm) (k104 : Nat) (X104 : Stand p l e room_1 (s.setVm vm104) m #[(.int n1), (.int n2), (.int n3), (.int n4), (.int n5)] below meth c T104 L104 5 60) (N104 : Fr n0 L104) (e104 : T104.heap = h104) (O104 : Old Z n0 h104) (hS104 : s.Since vm104 k104) (hk104 : k104 ≤ h104.size) (hZ104 : Z.Warmed39 (s.setVm vm104).vm) (hown104 : (s.setVm vm104).vm.findClass "com/example/demarcate/demarcate/TransactionDefinitionWithIsolationPinLaw" = some m.cls) (bb : Addr) (pp : Addr) (rr : Int32) (tt : Addr), (Exa Z h104 bb "com/example/demarcate/demarcate/TransactionDefinition") → (n0 ≤ bb) → (Exa Z h104 tt "java/util/OptionalInt") → (Fld Z h104 bb "com/example/demarcate/demarcate/TransactionDefinition" "propagation" "Lcom/example/demarcate/demarcate/Propagation;" (.ref pp)) → (Fld Z h104 bb "com/example/demarcate/demarcate/TransactionDefinition" "isolation" "Lcom/example/demarcate/demarcate/Isolation;" (.ref a_DEFAULT)) → (Fld Z h104 bb "com/example/demarcate/demarcate/TransactionDefinition" "readOnly" "Z" (.int rr)) → (Fld Z h104 bb "com/example/demarcate/demarcate/TransactionDefinition" "timeout" "Ljava/util/OptionalInt;" (.ref tt)) → ((rr = 0 ∨ rr = 1)) → (pp = (if f0 = 0 then a_REQUIRED else a94)) → (rr = (if f1 = 0 then (0 : Int32) else f2)) → OWW p e below s (Q0 Z n1 n2 n3 n4 n5 a_DEFAULT a_REPEATABLE_READ a_MANDATORY a_REQUIRED a_SERIALIZABLE a_REQUIRES_NEW a_READ_COMMITTED a_READ_UNCOMMITTED a_NEVER a_NOT_SUPPORTED a_SUPPORTS a_NESTED a_EMPTY h0 n0) 13 154 (T104.setTop (mkF m 133 #[.val (.int n1), .val (.int n2), .val (.int n3), .val (.int n4), .val (.int n5), .val (.ref a92), .val (.ref a93), .val (.ref a94), .val (.int f0), .val (.int f1), .val (.int f2), .val (.int f3), .val (.int f4), .val (.int mx), .val (.ref bb), .unset, .unset, .unset, .unset] [])) := by
                intro T104 L104 h104 vm104 k104 X104 N104 e104 O104 hS104 hk104 hZ104 hown104 bb pp rr tt Ge Gg Gt Ga Gb Gc Gd Gz hp hq
                refine OWW.st (B := T104.setTop (mkF m 135 #[.val (.int n1), .val (.int n2), .val (.int n3), .val (.int n4), .val (.int n5), .val (.ref a92), .val (.ref a93), .val (.ref a94), .val (.int f0), .val (.int f1), .val (.int f2), .val (.int f3), .val (.int f4), .val (.int mx), .val (.ref bb), .unset, .unset, .unset, .unset] [(.int f3)])) (fun _ kk_ => XS.iload X104.here hx rfl (hb hby at_133) rfl kk_) ?_
                have J105 : ∀ (T105 : State) (L105 : List Loc) (h105 : Heap) (vm105 : Vm) (k105 : Nat) (X105 : Stand p l e room_1 (s.setVm vm105) m #[(.int n1), (.int n2), (.int n3), (.int n4), (.int n5)] below meth c T105 L105 7 66) (N105 : Fr n0 L105) (e105 : T105.heap = h105) (O105 : Old Z n0 h105) (hS105 : s.Since vm105 k105) (hk105 : k105 ≤ h105.size) (hZ105 : Z.Warmed39 (s.setVm vm105).vm) (hown105 : (s.setVm vm105).vm.findClass "com/example/demarcate/demarcate/TransactionDefinitionWithIsolationPinLaw" = some m.cls) (bb : Addr) (pp : Addr) (rr : Int32) (tt : Addr), (Exa Z h105 bb "com/example/demarcate/demarcate/TransactionDefinition") → (n0 ≤ bb) → (Exa Z h105 tt "java/util/OptionalInt") → (Fld Z h105 bb "com/example/demarcate/demarcate/TransactionDefinition" "propagation" "Lcom/example/demarcate/demarcate/Propagation;" (.ref pp)) → (Fld Z h105 bb "com/example/demarcate/demarcate/TransactionDefinition" "isolation" "Lcom/example/demarcate/demarcate/Isolation;" (.ref a_DEFAULT)) → (Fld Z h105 bb "com/example/demarcate/demarcate/TransactionDefinition" "readOnly" "Z" (.int rr)) → (Fld Z h105 bb "com/example/demarcate/demarcate/TransactionDefinition" "timeout" "Ljava/util/OptionalInt;" (.ref tt)) → ((rr = 0 ∨ rr = 1)) → (pp = (if f0 = 0 then a_REQUIRED else a94)) → (rr = (if f1 = 0 then (0 : Int32) else f2)) → OWW p e below s (Q0 Z n1 n2 n3 n4 n5 a_DEFAULT a_REPEATABLE_READ a_MANDATORY a_REQUIRED a_SERIALIZABLE a_REQUIRES_NEW a_READ_COMMITTED a_READ_UNCOMMITTED a_NEVER a_NOT_SUPPORTED a_SUPPORTS a_NESTED a_EMPTY h0 n0) 13 154 (T105.setTop (mkF m 147 #[.val (.int n1), .val (.int n2), .val (.int n3), .val (.int n4), .val (.int n5), .val (.ref a92), .val (.ref a93), .val (.ref a94), .val (.int f0), .val (.int f1), .val (.int f2), .val (.int f3), .val (.int f4), .val (.int mx), .val (.ref bb), .unset, .unset, .unset, .unset] [])) := by
                  intro T105 L105 h105 vm105 k105 X105 N105 e105 O105 hS105 hk105 hZ105 hown105 bb pp rr tt Ge Gg Gt Ga Gb Gc Gd Gz hp hq
                  refine OWW.st (B := T105.setTop (mkF m 149 #[.val (.int n1), .val (.int n2), .val (.int n3), .val (.int n4), .val (.int n5), .val (.ref a92), .val (.ref a93), .val (.ref a94), .val (.int f0), .val (.int f1), .val (.int f2), .val (.int f3), .val (.int f4), .val (.int mx), .val (.ref bb), .unset, .unset, .unset, .unset] [(.int f4)])) (fun _ kk_ => XS.iload X105.here hx rfl (hb hby at_147) rfl kk_) ?_
                  have J106 : ∀ (T106 : State) (L106 : List Loc) (h106 : Heap) (vm106 : Vm) (k106 : Nat) (X106 : Stand p l e room_1 (s.setVm vm106) m #[(.int n1), (.int n2), (.int n3), (.int n4), (.int n5)] below meth c T106 L106 10 110) (N106 : Fr n0 L106) (e106 : T106.heap = h106) (O106 : Old Z n0 h106) (hS106 : s.Since vm106 k106) (hk106 : k106 ≤ h106.size) (hZ106 : Z.Warmed39 (s.setVm vm106).vm) (hown106 : (s.setVm vm106).vm.findClass "com/example/demarcate/demarcate/TransactionDefinitionWithIsolationPinLaw" = some m.cls) (bb : Addr) (pp : Addr) (ii : Addr) (rr : Int32) (tt : Addr), (Exa Z h106 bb "com/example/demarcate/demarcate/TransactionDefinition") → (n0 ≤ bb) → (Exa Z h106 tt "java/util/OptionalInt") → (Fld Z h106 bb "com/example/demarcate/demarcate/TransactionDefinition" "propagation" "Lcom/example/demarcate/demarcate/Propagation;" (.ref pp)) → (Fld Z h106 bb "com/example/demarcate/demarcate/TransactionDefinition" "isolation" "Lcom/example/demarcate/demarcate/Isolation;" (.ref ii)) → (Fld Z h106 bb "com/example/demarcate/demarcate/TransactionDefinition" "readOnly" "Z" (.int rr)) → (Fld Z h106 bb "com/example/demarcate/demarcate/TransactionDefinition" "timeout" "Ljava/util/OptionalInt;" (.ref tt)) → ((rr = 0 ∨ rr = 1)) → (pp = (if f0 = 0 then a_REQUIRED else a94)) → (rr = (if f1 = 0 then (0 : Int32) else f2)) → (ii = (if f4 = 0 then a_DEFAULT else a93)) → OWW p e below s (Q0 Z n1 n2 n3 n4 n5 a_DEFAULT a_REPEATABLE_READ a_MANDATORY a_REQUIRED a_SERIALIZABLE a_REQUIRES_NEW a_READ_COMMITTED a_READ_UNCOMMITTED a_NEVER a_NOT_SUPPORTED a_SUPPORTS a_NESTED a_EMPTY h0 n0) 13 154 (T106.setTop (mkF m 161 #[.val (.int n1), .val (.int n2), .val (.int n3), .val (.int n4), .val (.int n5), .val (.ref a92), .val (.ref a93), .val (.ref a94), .val (.int f0), .val (.int f1), .val (.int f2), .val (.int f3), .val (.int f4), .val (.int mx), .val (.ref bb), .unset, .unset, .unset, .unset] [])) := by
                    intro T106 L106 h106 vm106 k106 X106 N106 e106 O106 hS106 hk106 hZ106 hown106 bb pp ii rr tt Ge Gg Gt Ga Gb Gc Gd Gz hp hq hi
                    have J107 : ∀ (T107 : State) (L107 : List Loc) (X107 : Stand p l e room_1 (s.setVm vm106) m #[(.int n1), (.int n2), (.int n3), (.int n4), (.int n5)] below meth c T107 L107 10 110) (N107 : Fr n0 L107) (e107 : T107.heap = h106) (pe : Addr), (pe = (if f0 = 0 then a_REQUIRED else a94)) → OWW p e below s (Q0 Z n1 n2 n3 n4 n5 a_DEFAULT a_REPEATABLE_READ a_MANDATORY a_REQUIRED a_SERIALIZABLE a_REQUIRES_NEW a_READ_COMMITTED a_READ_UNCOMMITTED a_NEVER a_NOT_SUPPORTED a_SUPPORTS a_NESTED a_EMPTY h0 n0) 13 154 (T107.setTop (mkF m 174 #[.val (.int n1), .val (.int n2), .val (.int n3), .val (.int n4), .val (.int n5), .val (.ref a92), .val (.ref a93), .val (.ref a94), .val (.int f0), .val (.int f1), .val (.int f2), .val (.int f3), .val (.int f4), .val (.int mx), .val (.ref bb), .unset, .unset, .unset, .unset] [(.ref pe)])) := by
                      intro T107 L107 X107 N107 e107 pe hpe
                      refine OWW.st (B := T107.setTop (mkF m 176 #[.val (.int n1), .val (.int n2), .val (.int n3), .val (.int n4), .val (.int n5), .val (.ref a92), .val (.ref a93), .val (.ref a94), .val (.int f0), .val (.int f1), .val (.int f2), .val (.int f3), .val (.int f4), .val (.int mx), .val (.ref bb), .val (.ref pe), .unset, .unset, .unset] [])) (fun _ kk_ => XS.astore X107.here hx rfl (hb hby at_174) rfl rfl (l' := #[.val (.int n1), .val (.int n2), .val (.int n3), .val (.int n4), .val (.int n5), .val (.ref a92), .val (.ref a93), .val (.ref a94), .val (.int f0), .val (.int f1), .val (.int f2), .val (.int f3), .val (.int f4), .val (.int mx), .val (.ref bb), .val (.ref pe), .unset, .unset, .unset]) rfl kk_) ?_
                      have J108 : ∀ (T108 : State) (L108 : List Loc) (X108 : Stand p l e room_1 (s.setVm vm106) m #[(.int n1), (.int n2), (.int n3), (.int n4), (.int n5)] below meth c T108 L108 10 110) (N108 : Fr n0 L108) (e108 : T108.heap = h106) (re : Int32), (re = (if f1 = 0 then (0 : Int32) else f2)) → OWW p e below s (Q0 Z n1 n2 n3 n4 n5 a_DEFAULT a_REPEATABLE_READ a_MANDATORY a_REQUIRED a_SERIALIZABLE a_REQUIRES_NEW a_READ_COMMITTED a_READ_UNCOMMITTED a_NEVER a_NOT_SUPPORTED a_SUPPORTS a_NESTED a_EMPTY h0 n0) 13 154 (T108.setTop (mkF m 191 #[.val (.int n1), .val (.int n2), .val (.int n3), .val (.int n4), .val (.int n5), .val (.ref a92), .val (.ref a93), .val (.ref a94), .val (.int f0), .val (.int f1), .val (.int f2), .val (.int f3), .val (.int f4), .val (.int mx), .val (.ref bb), .val (.ref pe), .unset, .unset, .unset] [(.int re)])) := by
                        intro T108 L108 X108 N108 e108 re hre
                        refine OWW.st (B := T108.setTop (mkF m 193 #[.val (.int n1), .val (.int n2), .val (.int n3), .val (.int n4), .val (.int n5), .val (.ref a92), .val (.ref a93), .val (.ref a94), .val (.int f0), .val (.int f1), .val (.int f2), .val (.int f3), .val (.int f4), .val (.int mx), .val (.ref bb), .val (.ref pe), .val (.int re), .unset, .unset] [])) (fun _ kk_ => XS.istore X108.here hx rfl (hb hby at_191) rfl (l' := #[.val (.int n1), .val (.int n2), .val (.int n3), .val (.int n4), .val (.int n5), .val (.ref a92), .val (.ref a93), .val (.ref a94), .val (.int f0), .val (.int f1), .val (.int f2), .val (.int f3), .val (.int f4), .val (.int mx), .val (.ref bb), .val (.ref pe), .val (.int re), .unset, .unset]) rfl kk_) ?_
                        have J109 : ∀ (T109 : State) (L109 : List Loc) (X109 : Stand p l e room_1 (s.setVm vm106) m #[(.int n1), (.int n2), (.int n3), (.int n4), (.int n5)] below meth c T109 L109 10 110) (N109 : Fr n0 L109) (e109 : T109.heap = h106) (ie : Addr), (ie = (if f4 = 0 then a_DEFAULT else a93)) → OWW p e below s (Q0 Z n1 n2 n3 n4 n5 a_DEFAULT a_REPEATABLE_READ a_MANDATORY a_REQUIRED a_SERIALIZABLE a_REQUIRES_NEW a_READ_COMMITTED a_READ_UNCOMMITTED a_NEVER a_NOT_SUPPORTED a_SUPPORTS a_NESTED a_EMPTY h0 n0) 13 154 (T109.setTop (mkF m 206 #[.val (.int n1), .val (.int n2), .val (.int n3), .val (.int n4), .val (.int n5), .val (.ref a92), .val (.ref a93), .val (.ref a94), .val (.int f0), .val (.int f1), .val (.int f2), .val (.int f3), .val (.int f4), .val (.int mx), .val (.ref bb), .val (.ref pe), .val (.int re), .unset, .unset] [(.ref ie)])) := by
                          intro T109 L109 X109 N109 e109 ie hie
                          refine OWW.st (B := T109.setTop (mkF m 208 #[.val (.int n1), .val (.int n2), .val (.int n3), .val (.int n4), .val (.int n5), .val (.ref a92), .val (.ref a93), .val (.ref a94), .val (.int f0), .val (.int f1), .val (.int f2), .val (.int f3), .val (.int f4), .val (.int mx), .val (.ref bb), .val (.ref pe), .val (.int re), .val (.ref ie), .unset] [])) (fun _ kk_ => XS.astore X109.here hx rfl (hb hby at_206) rfl rfl (l' := #[.val (.int n1), .val (.int n2), .val (.int n3), .val (.int n4), .val (.int n5), .val (.ref a92), .val (.ref a93), .val (.ref a94), .val (.int f0), .val (.int f1), .val (.int f2), .val (.int f3), .val (.int f4), .val (.int mx), .val (.ref bb), .val (.ref pe), .val (.int re), .val (.ref ie), .unset]) rfl kk_) ?_
                          refine OWW.st (B := T109.setTop (mkF m 210 #[.val (.int n1), .val (.int n2), .val (.int n3), .val (.int n4), .val (.int n5), .val (.ref a92), .val (.ref a93), .val (.ref a94), .val (.int f0), .val (.int f1), .val (.int f2), .val (.int f3), .val (.int f4), .val (.int mx), .val (.ref bb), .val (.ref pe), .val (.int re), .val (.ref ie), .unset] [(.ref bb)])) (fun _ kk_ => XS.aload X109.here hx rfl (hb hby at_208) rfl rfl kk_) ?_
                          refine OWW.st (B := T109.setTop (mkF m 212 #[.val (.int n1), .val (.int n2), .val (.int n3), .val (.int n4), .val (.int n5), .val (.ref a92), .val (.ref a93), .val (.ref a94), .val (.int f0), .val (.int f1), .val (.int f2), .val (.int f3), .val (.int f4), .val (.int mx), .val (.ref bb), .val (.ref pe), .val (.int re), .val (.ref ie), .unset] [(.ref a92), (.ref bb)])) (fun _ kk_ => XS.aload X109.here hx rfl (hb hby at_210) rfl rfl kk_) ?_
                          obtain ⟨cq110, kq110, q110a, q110b, q110c⟩ := isOf hZ106 e109 Ge
                          obtain ⟨_, _, ⟨T110, L110, k110, n110⟩, -, X110, hs110, hsz110, ⟨Lc110, hQ110, l110, y110, z110⟩, st110⟩ := X109.virtualBackS hx (y := (⟨"com/example/demarcate/demarcate/TransactionDefinition", "withIsolation", "(Lcom/example/demarcate/demarcate/Isolation;)Lcom/example/demarcate/demarcate/TransactionDefinition;"⟩ : MethodName)) (z := (⟨"com/example/demarcate/demarcate/TransactionDefinition", "withIsolation", "(Lcom/example/demarcate/demarcate/Isolation;)Lcom/example/demarcate/demarcate/TransactionDefinition;"⟩ : MethodName)) hown106 (mvT hZ106 (w_68 hw)) (mvT hZ106 (w_69 hw)) (notFace_of_selects (args := #[]) (mvT hZ106 (w_71 hw))) (mvT hZ106 (w_71 hw)) (mvT hZ106 (w_70 hw)) (by decide) (backOfS (W := 0) (rmWI l Z a0 hw [] bb pp ii rr tt a92 h106 n0 O106 Ga Gb Gc Gd Gz (Ea92.ext O106.2)) hZ106 (w_72 hw) (w_22 hw) (by decide) (by decide)) q110a q110c (g := (mkF m 212 #[.val (.int n1), .val (.int n2), .val (.int n3), .val (.int n4), .val (.int n5), .val (.ref a92), .val (.ref a93), .val (.ref a94), .val (.int f0), .val (.int f1), .val (.int f2), .val (.int f3), .val (.int f4), .val (.int mx), .val (.ref bb), .val (.ref pe), .val (.int re), .val (.ref ie), .unset] [(.ref a92), (.ref bb)])) rfl (by rw [hml]; rfl) (Steps.refl _) (argsL := [(.ref a92)]) (rest := []) (lenOf pd_9 rfl) rfl (by show 2 * 0 + _ ≤ _; exact Nat.le_of_eq rfl) (hb hby at_212) (fun _ _ => ⟨rfl, e109, (by decide : 10 + 3 ≤ _), (by decide : 110 + 44 ≤ _)⟩)
                          dsimp only [Pt.U, Pt.locs, Pt.cells, Pt.slots] at hs110 hsz110
                          have hS110 := foldS hS106 (show _ ≤ T109.heap.size by rw [e109]; exact hk106) hs110 hsz110
                          have hZ110 : Z.Warmed39 (s.setVm T110.vm).vm := State.Warmed39.trans (t := (s.setVm vm106)) hZ106 hs110.1
                          have hown110 : (s.setVm T110.vm).vm.findClass "com/example/demarcate/demarcate/TransactionDefinitionWithIsolationPinLaw" = some m.cls := by rw [show (s.setVm T110.vm).vm = T110.vm from rfl, hs110.1.alike.findClass]; exact hown106
                          dsimp only [Pt.U, Pt.locs, Pt.cells, Pt.slots] at X110 l110 y110 z110 st110 hQ110
                          subst l110 y110 z110
                          obtain ⟨c110, rfl, Nq110, K110, gw110, zw110, Ew110, Fw110_0, Fw110_1, Fw110_2, Fw110_3⟩ := hQ110
                          have N110 := Fr.app N109 Nq110
                          have O110 : Old Z n0 T110.heap := O106.keep K110 all0
                          have hk110 : T110.heap.size ≤ T110.heap.size := Nat.le_of_eq (by rfl)
                          refine OWW.tr (B := T110.setTop (mkF m 215 #[.val (.int n1), .val (.int n2), .val (.int n3), .val (.int n4), .val (.int n5), .val (.ref a92), .val (.ref a93), .val (.ref a94), .val (.int f0), .val (.int f1), .val (.int f2), .val (.int f3), .val (.int f4), .val (.int mx), .val (.ref bb), .val (.ref pe), .val (.int re), .val (.ref ie), .unset] [(.ref c110)])) (st110) ?_
                          refine OWW.st (B := T110.setTop (mkF m 217 #[.val (.int n1), .val (.int n2), .val (.int n3), .val (.int n4), .val (.int n5), .val (.ref a92), .val (.ref a93), .val (.ref a94), .val (.int f0), .val (.int f1), .val (.int f2), .val (.int f3), .val (.int f4), .val (.int mx), .val (.ref bb), .val (.ref pe), .val (.int re), .val (.ref ie), .val (.ref c110)] [])) (fun _ kk_ => XS.astore X110.here hx rfl (hb hby at_215) rfl rfl (l' := #[.val (.int n1), .val (.int n2), .val (.int n3), .val (.int n4), .val (.int n5), .val (.ref a92), .val (.ref a93), .val (.ref a94), .val (.int f0), .val (.int f1), .val (.int f2), .val (.int f3), .val (.int f4), .val (.int mx), .val (.ref bb), .val (.ref pe), .val (.int re), .val (.ref ie), .val (.ref c110)]) rfl kk_) ?_
                          refine OWW.st (B := T110.setTop (mkF m 219 #[.val (.int n1), .val (.int n2), .val (.int n3), .val (.int n4), .val (.int n5), .val (.ref a92), .val (.ref a93), .val (.ref a94), .val (.int f0), .val (.int f1), .val (.int f2), .val (.int f3), .val (.int f4), .val (.int mx), .val (.ref bb), .val (.ref pe), .val (.int re), .val (.ref ie), .val (.ref c110)] [(.ref c110)])) (fun _ kk_ => XS.aload X110.here hx rfl (hb hby at_217) rfl rfl kk_) ?_
                          refine OWW.st (B := T110.setTop (mkF m 222 #[.val (.int n1), .val (.int n2), .val (.int n3), .val (.int n4), .val (.int n5), .val (.ref a92), .val (.ref a93), .val (.ref a94), .val (.int f0), .val (.int f1), .val (.int f2), .val (.int f3), .val (.int f4), .val (.int mx), .val (.ref bb), .val (.ref pe), .val (.int re), .val (.ref ie), .val (.ref c110)] [])) (fun _ kk_ => XS.ifnullNo X110.here hx rfl (hb hby at_219) rfl kk_) ?_
                          refine OWW.st (B := T110.setTop (mkF m 224 #[.val (.int n1), .val (.int n2), .val (.int n3), .val (.int n4), .val (.int n5), .val (.ref a92), .val (.ref a93), .val (.ref a94), .val (.int f0), .val (.int f1), .val (.int f2), .val (.int f3), .val (.int f4), .val (.int mx), .val (.ref bb), .val (.ref pe), .val (.int re), .val (.ref ie), .val (.ref c110)] [(.ref c110)])) (fun _ kk_ => XS.aload X110.here hx rfl (hb hby at_222) rfl rfl kk_) ?_
                          refine OWW.st (B := T110.setTop (mkF m 226 #[.val (.int n1), .val (.int n2), .val (.int n3), .val (.int n4), .val (.int n5), .val (.ref a92), .val (.ref a93), .val (.ref a94), .val (.int f0), .val (.int f1), .val (.int f2), .val (.int f3), .val (.int f4), .val (.int mx), .val (.ref bb), .val (.ref pe), .val (.int re), .val (.ref ie), .val (.ref c110)] [(.ref bb), (.ref c110)])) (fun _ kk_ => XS.aload X110.here hx rfl (hb hby at_224) rfl rfl kk_) ?_
                          refine OWW.st (B := T110.setTop (mkF m 231 #[.val (.int n1), .val (.int n2), .val (.int n3), .val (.int n4), .val (.int n5), .val (.ref a92), .val (.ref a93), .val (.ref a94), .val (.int f0), .val (.int f1), .val (.int f2), .val (.int f3), .val (.int f4), .val (.int mx), .val (.ref bb), .val (.ref pe), .val (.int re), .val (.ref ie), .val (.ref c110)] [])) (fun _ kk_ => Jvm.RoadKit.acmp (g := (mkF m 226 #[.val (.int n1), .val (.int n2), .val (.int n3), .val (.int n4), .val (.int n5), .val (.ref a92), .val (.ref a93), .val (.ref a94), .val (.int f0), .val (.int f1), .val (.int f2), .val (.int f3), .val (.int f4), .val (.int mx), .val (.ref bb), .val (.ref pe), .val (.int re), .val (.ref ie), .val (.ref c110)] [(.ref bb), (.ref c110)])) X110 hx rfl rfl rfl (pc0 := 226) (pc' := 231) (same := false) rfl (hb hby at_226) rfl (decide_eq_false fun q => (Ne.symm (Nat.ne_of_lt (Nat.lt_of_lt_of_le Ge.lt zw110))) (Value.ref.inj q)) (by decide) (by decide) kk_) ?_
                          refine OWW.st (B := T110.setTop (mkF m 233 #[.val (.int n1), .val (.int n2), .val (.int n3), .val (.int n4), .val (.int n5), .val (.ref a92), .val (.ref a93), .val (.ref a94), .val (.int f0), .val (.int f1), .val (.int f2), .val (.int f3), .val (.int f4), .val (.int mx), .val (.ref bb), .val (.ref pe), .val (.int re), .val (.ref ie), .val (.ref c110)] [(.ref c110)])) (fun _ kk_ => XS.aload X110.here hx rfl (hb hby at_231) rfl rfl kk_) ?_
                          obtain ⟨cq111, kq111, q111a, q111b, q111c⟩ := isOf hZ110 rfl Ew110
                          obtain ⟨_, _, ⟨T111, L111, k111, n111⟩, -, X111, ⟨Lc111, hQ111, l111, y111, z111⟩, st111⟩ := X110.virtualBack hx (y := (⟨"com/example/demarcate/demarcate/TransactionDefinition", "isolation", "()Lcom/example/demarcate/demarcate/Isolation;"⟩ : MethodName)) (z := (⟨"com/example/demarcate/demarcate/TransactionDefinition", "isolation", "()Lcom/example/demarcate/demarcate/Isolation;"⟩ : MethodName)) hown110 (mvT hZ110 (w_76 hw)) (mvT hZ110 (w_77 hw)) (notFace_of_selects (args := #[]) (mvT hZ110 (w_79 hw))) (mvT hZ110 (w_79 hw)) (mvT hZ110 (w_78 hw)) (by decide) (backOf (W := 0) (rmGI l Z a0 hw [] c110 a92 T110.heap n0 O110 Fw110_1) hZ110 (w_80 hw) (w_22 hw) (by decide) (by decide)) q111a q111c (g := (mkF m 233 #[.val (.int n1), .val (.int n2), .val (.int n3), .val (.int n4), .val (.int n5), .val (.ref a92), .val (.ref a93), .val (.ref a94), .val (.int f0), .val (.int f1), .val (.int f2), .val (.int f3), .val (.int f4), .val (.int mx), .val (.ref bb), .val (.ref pe), .val (.int re), .val (.ref ie), .val (.ref c110)] [(.ref c110)])) rfl (by rw [hml]; rfl) (Steps.refl _) (argsL := []) (rest := []) (lenOf pd_10 rfl) rfl (by show 2 * 0 + _ ≤ _; exact Nat.le_of_eq rfl) (hb hby at_233) (fun _ _ => ⟨rfl, rfl, (by decide : 13 + 0 ≤ _), (by decide : 154 + 0 ≤ _)⟩)
                          dsimp only [Pt.U, Pt.locs, Pt.cells, Pt.slots] at X111 l111 y111 z111 st111 hQ111
                          subst l111 y111 z111
                          obtain ⟨rfl, Nq111, e111⟩ := hQ111
                          have N111 := Fr.app N110 Nq111
                          refine OWW.tr (B := T111.setTop (mkF m 236 #[.val (.int n1), .val (.int n2), .val (.int n3), .val (.int n4), .val (.int n5), .val (.ref a92), .val (.ref a93), .val (.ref a94), .val (.int f0), .val (.int f1), .val (.int f2), .val (.int f3), .val (.int f4), .val (.int mx), .val (.ref bb), .val (.ref pe), .val (.int re), .val (.ref ie), .val (.ref c110)] [(.ref a92)])) (st111) ?_
                          refine OWW.st (B := T111.setTop (mkF m 238 #[.val (.int n1), .val (.int n2), .val (.int n3), .val (.int n4), .val (.int n5), .val (.ref a92), .val (.ref a93), .val (.ref a94), .val (.int f0), .val (.int f1), .val (.int f2), .val (.int f3), .val (.int f4), .val (.int mx), .val (.ref bb), .val (.ref pe), .val (.int re), .val (.ref ie), .val (.ref c110)] [(.ref a92), (.ref a92)])) (fun _ kk_ => XS.aload X111.here hx rfl (hb hby at_236) rfl rfl kk_) ?_
                          refine OWW.st (B := T111.setTop (mkF m 241 #[.val (.int n1), .val (.int n2), .val (.int n3), .val (.int n4), .val (.int n5), .val (.ref a92), .val (.ref a93), .val (.ref a94), .val (.int f0), .val (.int f1), .val (.int f2), .val (.int f3), .val (.int f4), .val (.int mx), .val (.ref bb), .val (.ref pe), .val (.int re), .val (.ref ie), .val (.ref c110)] [])) (fun _ kk_ => Jvm.RoadKit.acmp (g := (mkF m 238 #[.val (.int n1), .val (.int n2), .val (.int n3), .val (.int n4), .val (.int n5), .val (.ref a92), .val (.ref a93), .val (.ref a94), .val (.int f0), .val (.int f1), .val (.int f2), .val (.int f3), .val (.int f4), .val (.int mx), .val (.ref bb), .val (.ref pe), .val (.int re), .val (.ref ie), .val (.ref c110)] [(.ref a92), (.ref a92)])) X111 hx rfl rfl rfl (pc0 := 238) (pc' := 241) (same := true) rfl (hb hby at_238) rfl (decide_eq_true rfl) (by decide) (by decide) kk_) ?_
                          refine OWW.st (B := T111.setTop (mkF m 243 #[.val (.int n1), .val (.int n2), .val (.int n3), .val (.int n4), .val (.int n5), .val (.ref a92), .val (.ref a93), .val (.ref a94), .val (.int f0), .val (.int f1), .val (.int f2), .val (.int f3), .val (.int f4), .val (.int mx), .val (.ref bb), .val (.ref pe), .val (.int re), .val (.ref ie), .val (.ref c110)] [(.ref c110)])) (fun _ kk_ => XS.aload X111.here hx rfl (hb hby at_241) rfl rfl kk_) ?_
                          obtain ⟨cq112, kq112, q112a, q112b, q112c⟩ := isOf hZ110 e111 Ew110
                          obtain ⟨_, _, ⟨T112, L112, k112, n112⟩, -, X112, ⟨Lc112, hQ112, l112, y112, z112⟩, st112⟩ := X111.virtualBack hx (y := (⟨"com/example/demarcate/demarcate/TransactionDefinition", "propagation", "()Lcom/example/demarcate/demarcate/Propagation;"⟩ : MethodName)) (z := (⟨"com/example/demarcate/demarcate/TransactionDefinition", "propagation", "()Lcom/example/demarcate/demarcate/Propagation;"⟩ : MethodName)) hown110 (mvT hZ110 (w_81 hw)) (mvT hZ110 (w_82 hw)) (notFace_of_selects (args := #[]) (mvT hZ110 (w_84 hw))) (mvT hZ110 (w_84 hw)) (mvT hZ110 (w_83 hw)) (by decide) (backOf (W := 0) (rmGP l Z a0 hw [] c110 pp T110.heap n0 O110 Fw110_0) hZ110 (w_85 hw) (w_22 hw) (by decide) (by decide)) q112a q112c (g := (mkF m 243 #[.val (.int n1), .val (.int n2), .val (.int n3), .val (.int n4), .val (.int n5), .val (.ref a92), .val (.ref a93), .val (.ref a94), .val (.int f0), .val (.int f1), .val (.int f2), .val (.int f3), .val (.int f4), .val (.int mx), .val (.ref bb), .val (.ref pe), .val (.int re), .val (.ref ie), .val (.ref c110)] [(.ref c110)])) rfl (by rw [hml]; rfl) (Steps.refl _) (argsL := []) (rest := []) (lenOf pd_11 rfl) rfl (by show 2 * 0 + _ ≤ _; exact Nat.le_of_eq rfl) (hb hby at_243) (fun _ _ => ⟨rfl, e111, (by decide : 13 + 0 ≤ _), (by decide : 154 + 0 ≤ _)⟩)
                          dsimp only [Pt.U, Pt.locs, Pt.cells, Pt.slots] at X112 l112 y112 z112 st112 hQ112
                          subst l112 y112 z112
                          obtain ⟨rfl, Nq112, e112⟩ := hQ112
                          have N112 := Fr.app N111 Nq112
                          refine OWW.tr (B := T112.setTop (mkF m 246 #[.val (.int n1), .val (.int n2), .val (.int n3), .val (.int n4), .val (.int n5), .val (.ref a92), .val (.ref a93), .val (.ref a94), .val (.int f0), .val (.int f1), .val (.int f2), .val (.int f3), .val (.int f4), .val (.int mx), .val (.ref bb), .val (.ref pe), .val (.int re), .val (.ref ie), .val (.ref c110)] [(.ref pp)])) (st112) ?_
                          refine OWW.st (B := T112.setTop (mkF m 248 #[.val (.int n1), .val (.int n2), .val (.int n3), .val (.int n4), .val (.int n5), .val (.ref a92), .val (.ref a93), .val (.ref a94), .val (.int f0), .val (.int f1), .val (.int f2), .val (.int f3), .val (.int f4), .val (.int mx), .val (.ref bb), .val (.ref pe), .val (.int re), .val (.ref ie), .val (.ref c110)] [(.ref pe), (.ref pp)])) (fun _ kk_ => XS.aload X112.here hx rfl (hb hby at_246) rfl rfl kk_) ?_
                          refine OWW.st (B := T112.setTop (mkF m 251 #[.val (.int n1), .val (.int n2), .val (.int n3), .val (.int n4), .val (.int n5), .val (.ref a92), .val (.ref a93), .val (.ref a94), .val (.int f0), .val (.int f1), .val (.int f2), .val (.int f3), .val (.int f4), .val (.int mx), .val (.ref bb), .val (.ref pe), .val (.int re), .val (.ref ie), .val (.ref c110)] [])) (fun _ kk_ => Jvm.RoadKit.acmp (g := (mkF m 248 #[.val (.int n1), .val (.int n2), .val (.int n3), .val (.int n4), .val (.int n5), .val (.ref a92), .val (.ref a93), .val (.ref a94), .val (.int f0), .val (.int f1), .val (.int f2), .val (.int f3), .val (.int f4), .val (.int mx), .val (.ref bb), .val (.ref pe), .val (.int re), .val (.ref ie), .val (.ref c110)] [(.ref pe), (.ref pp)])) X112 hx rfl rfl rfl (pc0 := 248) (pc' := 251) (same := true) rfl (hb hby at_248) rfl (decide_eq_true (congrArg Value.ref (hp.trans hpe.symm))) (by decide) (by decide) kk_) ?_
                          refine OWW.st (B := T112.setTop (mkF m 253 #[.val (.int n1), .val (.int n2), .val (.int n3), .val (.int n4), .val (.int n5), .val (.ref a92), .val (.ref a93), .val (.ref a94), .val (.int f0), .val (.int f1), .val (.int f2), .val (.int f3), .val (.int f4), .val (.int mx), .val (.ref bb), .val (.ref pe), .val (.int re), .val (.ref ie), .val (.ref c110)] [(.ref c110)])) (fun _ kk_ => XS.aload X112.here hx rfl (hb hby at_251) rfl rfl kk_) ?_
                          obtain ⟨cq113, kq113, q113a, q113b, q113c⟩ := isOf hZ110 e112 Ew110
                          obtain ⟨_, _, ⟨T113, L113, k113, n113⟩, -, X113, ⟨Lc113, hQ113, l113, y113, z113⟩, st113⟩ := X112.virtualBack hx (y := (⟨"com/example/demarcate/demarcate/TransactionDefinition", "isReadOnly", "()Z"⟩ : MethodName)) (z := (⟨"com/example/demarcate/demarcate/TransactionDefinition", "isReadOnly", "()Z"⟩ : MethodName)) hown110 (mvT hZ110 (w_86 hw)) (mvT hZ110 (w_87 hw)) (notFace_of_selects (args := #[]) (mvT hZ110 (w_89 hw))) (mvT hZ110 (w_89 hw)) (mvT hZ110 (w_88 hw)) (by decide) (backOf (W := 0) (rmGR l Z a0 hw [] c110 rr T110.heap n0 O110 Fw110_2 (own_nz Gz)) hZ110 (w_90 hw) (w_22 hw) (by decide) (by decide)) q113a q113c (g := (mkF m 253 #[.val (.int n1), .val (.int n2), .val (.int n3), .val (.int n4), .val (.int n5), .val (.ref a92), .val (.ref a93), .val (.ref a94), .val (.int f0), .val (.int f1), .val (.int f2), .val (.int f3), .val (.int f4), .val (.int mx), .val (.ref bb), .val (.ref pe), .val (.int re), .val (.ref ie), .val (.ref c110)] [(.ref c110)])) rfl (by rw [hml]; rfl) (Steps.refl _) (argsL := []) (rest := []) (lenOf pd_12 rfl) rfl (by show 2 * 0 + _ ≤ _; exact Nat.le_of_eq rfl) (hb hby at_253) (fun _ _ => ⟨rfl, e112, (by decide : 13 + 0 ≤ _), (by decide : 154 + 0 ≤ _)⟩)
                          dsimp only [Pt.U, Pt.locs, Pt.cells, Pt.slots] at X113 l113 y113 z113 st113 hQ113
                          subst l113 y113 z113
                          obtain ⟨rfl, Nq113, e113⟩ := hQ113
                          have N113 := Fr.app N112 Nq113
                          refine OWW.tr (B := T113.setTop (mkF m 256 #[.val (.int n1), .val (.int n2), .val (.int n3), .val (.int n4), .val (.int n5), .val (.ref a92), .val (.ref a93), .val (.ref a94), .val (.int f0), .val (.int f1), .val (.int f2), .val (.int f3), .val (.int f4), .val (.int mx), .val (.ref bb), .val (.ref pe), .val (.int re), .val (.ref ie), .val (.ref c110)] [(.int rr)])) (st113) ?_
                          refine OWW.st (B := T113.setTop (mkF m 258 #[.val (.int n1), .val (.int n2), .val (.int n3), .val (.int n4), .val (.int n5), .val (.ref a92), .val (.ref a93), .val (.ref a94), .val (.int f0), .val (.int f1), .val (.int f2), .val (.int f3), .val (.int f4), .val (.int mx), .val (.ref bb), .val (.ref pe), .val (.int re), .val (.ref ie), .val (.ref c110)] [(.int re), (.int rr)])) (fun _ kk_ => XS.iload X113.here hx rfl (hb hby at_256) rfl kk_) ?_
                          refine OWW.st (B := T113.setTop (mkF m 261 #[.val (.int n1), .val (.int n2), .val (.int n3), .val (.int n4), .val (.int n5), .val (.ref a92), .val (.ref a93), .val (.ref a94), .val (.int f0), .val (.int f1), .val (.int f2), .val (.int f3), .val (.int f4), .val (.int mx), .val (.ref bb), .val (.ref pe), .val (.int re), .val (.ref ie), .val (.ref c110)] [])) (fun _ kk_ => XS.icmpNo X113.here hx rfl (hb hby at_258) rfl (teq (hq.trans hre.symm)).2 kk_) ?_
                          refine OWW.st (B := T113.setTop (mkF m 263 #[.val (.int n1), .val (.int n2), .val (.int n3), .val (.int n4), .val (.int n5), .val (.ref a92), .val (.ref a93), .val (.ref a94), .val (.int f0), .val (.int f1), .val (.int f2), .val (.int f3), .val (.int f4), .val (.int mx), .val (.ref bb), .val (.ref pe), .val (.int re), .val (.ref ie), .val (.ref c110)] [(.ref c110)])) (fun _ kk_ => XS.aload X113.here hx rfl (hb hby at_261) rfl rfl kk_) ?_
                          obtain ⟨cq114, kq114, q114a, q114b, q114c⟩ := isOf hZ110 e113 Ew110
                          obtain ⟨_, _, ⟨T114, L114, k114, n114⟩, -, X114, ⟨Lc114, hQ114, l114, y114, z114⟩, st114⟩ := X113.virtualBack hx (y := (⟨"com/example/demarcate/demarcate/TransactionDefinition", "timeout", "()Ljava/util/OptionalInt;"⟩ : MethodName)) (z := (⟨"com/example/demarcate/demarcate/TransactionDefinition", "timeout", "()Ljava/util/OptionalInt;"⟩ : MethodName)) hown110 (mvT hZ110 (w_91 hw)) (mvT hZ110 (w_92 hw)) (notFace_of_selects (args := #[]) (mvT hZ110 (w_94 hw))) (mvT hZ110 (w_94 hw)) (mvT hZ110 (w_93 hw)) (by decide) (backOf (W := 0) (rmGT l Z a0 hw [] c110 tt T110.heap n0 O110 Fw110_3) hZ110 (w_95 hw) (w_22 hw) (by decide) (by decide)) q114a q114c (g := (mkF m 263 #[.val (.int n1), .val (.int n2), .val (.int n3), .val (.int n4), .val (.int n5), .val (.ref a92), .val (.ref a93), .val (.ref a94), .val (.int f0), .val (.int f1), .val (.int f2), .val (.int f3), .val (.int f4), .val (.int mx), .val (.ref bb), .val (.ref pe), .val (.int re), .val (.ref ie), .val (.ref c110)] [(.ref c110)])) rfl (by rw [hml]; rfl) (Steps.refl _) (argsL := []) (rest := []) (lenOf pd_0 rfl) rfl (by show 2 * 0 + _ ≤ _; exact Nat.le_of_eq rfl) (hb hby at_263) (fun _ _ => ⟨rfl, e113, (by decide : 13 + 0 ≤ _), (by decide : 154 + 0 ≤ _)⟩)
                          dsimp only [Pt.U, Pt.locs, Pt.cells, Pt.slots] at X114 l114 y114 z114 st114 hQ114
                          subst l114 y114 z114
                          obtain ⟨rfl, Nq114, e114⟩ := hQ114
                          have N114 := Fr.app N113 Nq114
                          refine OWW.tr (B := T114.setTop (mkF m 266 #[.val (.int n1), .val (.int n2), .val (.int n3), .val (.int n4), .val (.int n5), .val (.ref a92), .val (.ref a93), .val (.ref a94), .val (.int f0), .val (.int f1), .val (.int f2), .val (.int f3), .val (.int f4), .val (.int mx), .val (.ref bb), .val (.ref pe), .val (.int re), .val (.ref ie), .val (.ref c110)] [(.ref tt)])) (st114) ?_
                          refine OWW.st (B := T114.setTop (mkF m 268 #[.val (.int n1), .val (.int n2), .val (.int n3), .val (.int n4), .val (.int n5), .val (.ref a92), .val (.ref a93), .val (.ref a94), .val (.int f0), .val (.int f1), .val (.int f2), .val (.int f3), .val (.int f4), .val (.int mx), .val (.ref bb), .val (.ref pe), .val (.int re), .val (.ref ie), .val (.ref c110)] [(.ref bb), (.ref tt)])) (fun _ kk_ => XS.aload X114.here hx rfl (hb hby at_266) rfl rfl kk_) ?_
                          obtain ⟨cq115, kq115, q115a, q115b, q115c⟩ := isOf hZ110 e114 (Ge.keep K110)
                          obtain ⟨_, _, ⟨T115, L115, k115, n115⟩, -, X115, ⟨Lc115, hQ115, l115, y115, z115⟩, st115⟩ := X114.virtualBack hx (y := (⟨"com/example/demarcate/demarcate/TransactionDefinition", "timeout", "()Ljava/util/OptionalInt;"⟩ : MethodName)) (z := (⟨"com/example/demarcate/demarcate/TransactionDefinition", "timeout", "()Ljava/util/OptionalInt;"⟩ : MethodName)) hown110 (mvT hZ110 (w_91 hw)) (mvT hZ110 (w_92 hw)) (notFace_of_selects (args := #[]) (mvT hZ110 (w_94 hw))) (mvT hZ110 (w_94 hw)) (mvT hZ110 (w_93 hw)) (by decide) (backOf (W := 1) (rmGT l Z a0 hw [] bb tt T110.heap n0 O110 (Gd.keep K110 nin0)) hZ110 (w_95 hw) (w_22 hw) (by decide) (by decide)) q115a q115c (g := (mkF m 268 #[.val (.int n1), .val (.int n2), .val (.int n3), .val (.int n4), .val (.int n5), .val (.ref a92), .val (.ref a93), .val (.ref a94), .val (.int f0), .val (.int f1), .val (.int f2), .val (.int f3), .val (.int f4), .val (.int mx), .val (.ref bb), .val (.ref pe), .val (.int re), .val (.ref ie), .val (.ref c110)] [(.ref bb), (.ref tt)])) rfl (by rw [hml]; rfl) (Steps.refl _) (argsL := []) (rest := [(.ref tt)]) (lenOf pd_0 rfl) rfl (by show 2 * 0 + _ ≤ _; exact Nat.le_of_eq rfl) (hb hby at_268) (fun _ _ => ⟨rfl, e114, (by decide : 13 + 0 ≤ _), (by decide : 154 + 0 ≤ _)⟩)
                          dsimp only [Pt.U, Pt.locs, Pt.cells, Pt.slots] at X115 l115 y115 z115 st115 hQ115
                          subst l115 y115 z115
                          obtain ⟨rfl, Nq115, e115⟩ := hQ115
                          have N115 := Fr.app N114 Nq115
                          refine OWW.tr (B := T115.setTop (mkF m 271 #[.val (.int n1), .val (.int n2), .val (.int n3), .val (.int n4), .val (.int n5), .val (.ref a92), .val (.ref a93), .val (.ref a94), .val (.int f0), .val (.int f1), .val (.int f2), .val (.int f3), .val (.int f4), .val (.int mx), .val (.ref bb), .val (.ref pe), .val (.int re), .val (.ref ie), .val (.ref c110)] [(.ref tt), (.ref tt)])) (st115) ?_
                          obtain ⟨cq116, kq116, q116a, q116b, q116c⟩ := isOf hZ110 e115 (Gt.keep K110)
                          obtain ⟨_, _, ⟨T116, L116, k116, n116⟩, -, X116, ⟨Lc116, hQ116, l116, y116, z116⟩, st116⟩ := X115.virtualBack hx (y := (⟨"java/util/OptionalInt", "equals", "(Ljava/lang/Object;)Z"⟩ : MethodName)) (z := (⟨"java/util/OptionalInt", "equals", "(Ljava/lang/Object;)Z"⟩ : MethodName)) hown110 (mvT hZ110 (w_96 hw)) (mvT hZ110 (w_97 hw)) (notFace_of_selects (args := #[]) (mvT hZ110 (w_99 hw))) (mvT hZ110 (w_99 hw)) (mvT hZ110 (w_98 hw)) (by decide) (backOf (W := 0) (rmEQ l Z a0 hw [] tt T110.heap n0 O110 ) hZ110 (w_100 hw) (w_31 hw) (by decide) (by decide)) q116a q116c (g := (mkF m 271 #[.val (.int n1), .val (.int n2), .val (.int n3), .val (.int n4), .val (.int n5), .val (.ref a92), .val (.ref a93), .val (.ref a94), .val (.int f0), .val (.int f1), .val (.int f2), .val (.int f3), .val (.int f4), .val (.int mx), .val (.ref bb), .val (.ref pe), .val (.int re), .val (.ref ie), .val (.ref c110)] [(.ref tt), (.ref tt)])) rfl (by rw [hml]; rfl) (Steps.refl _) (argsL := [(.ref tt)]) (rest := []) (lenOf pd_13 rfl) rfl (by show 2 * 0 + _ ≤ _; exact Nat.le_of_eq rfl) (hb hby at_271) (fun _ _ => ⟨rfl, e115, (by decide : 13 + 0 ≤ _), (by decide : 154 + 0 ≤ _)⟩)
                          dsimp only [Pt.U, Pt.locs, Pt.cells, Pt.slots] at X116 l116 y116 z116 st116 hQ116
                          subst l116 y116 z116
                          obtain ⟨rfl, Nq116, e116⟩ := hQ116
                          have N116 := Fr.app N115 Nq116
                          refine OWW.tr (B := T116.setTop (mkF m 274 #[.val (.int n1), .val (.int n2), .val (.int n3), .val (.int n4), .val (.int n5), .val (.ref a92), .val (.ref a93), .val (.ref a94), .val (.int f0), .val (.int f1), .val (.int f2), .val (.int f3), .val (.int f4), .val (.int mx), .val (.ref bb), .val (.ref pe), .val (.int re), .val (.ref ie), .val (.ref c110)] [(.int (1 : Int32))])) (st116) ?_
                          refine OWW.st (B := T116.setTop (mkF m 277 #[.val (.int n1), .val (.int n2), .val (.int n3), .val (.int n4), .val (.int n5), .val (.ref a92), .val (.ref a93), .val (.ref a94), .val (.int f0), .val (.int f1), .val (.int f2), .val (.int f3), .val (.int f4), .val (.int mx), .val (.ref bb), .val (.ref pe), .val (.int re), .val (.ref ie), .val (.ref c110)] [])) (fun _ kk_ => XS.ifNo X116.here hx rfl (hb hby at_274) rfl ((if0 _ _).trans (feq (by decide)).1) kk_) ?_
                          refine OWW.st (B := T116.setTop (mkF m 279 #[.val (.int n1), .val (.int n2), .val (.int n3), .val (.int n4), .val (.int n5), .val (.ref a92), .val (.ref a93), .val (.ref a94), .val (.int f0), .val (.int f1), .val (.int f2), .val (.int f3), .val (.int f4), .val (.int mx), .val (.ref bb), .val (.ref pe), .val (.int re), .val (.ref ie), .val (.ref c110)] [(.ref bb)])) (fun _ kk_ => XS.aload X116.here hx rfl (hb hby at_277) rfl rfl kk_) ?_
                          obtain ⟨cq117, kq117, q117a, q117b, q117c⟩ := isOf hZ110 e116 (Ge.keep K110)
                          obtain ⟨_, _, ⟨T117, L117, k117, n117⟩, -, X117, ⟨Lc117, hQ117, l117, y117, z117⟩, st117⟩ := X116.virtualBack hx (y := (⟨"com/example/demarcate/demarcate/TransactionDefinition", "isolation", "()Lcom/example/demarcate/demarcate/Isolation;"⟩ : MethodName)) (z := (⟨"com/example/demarcate/demarcate/TransactionDefinition", "isolation", "()Lcom/example/demarcate/demarcate/Isolation;"⟩ : MethodName)) hown110 (mvT hZ110 (w_76 hw)) (mvT hZ110 (w_77 hw)) (notFace_of_selects (args := #[]) (mvT hZ110 (w_79 hw))) (mvT hZ110 (w_79 hw)) (mvT hZ110 (w_78 hw)) (by decide) (backOf (W := 0) (rmGI l Z a0 hw [] bb ii T110.heap n0 O110 (Gb.keep K110 nin0)) hZ110 (w_80 hw) (w_22 hw) (by decide) (by decide)) q117a q117c (g := (mkF m 279 #[.val (.int n1), .val (.int n2), .val (.int n3), .val (.int n4), .val (.int n5), .val (.ref a92), .val (.ref a93), .val (.ref a94), .val (.int f0), .val (.int f1), .val (.int f2), .val (.int f3), .val (.int f4), .val (.int mx), .val (.ref bb), .val (.ref pe), .val (.int re), .val (.ref ie), .val (.ref c110)] [(.ref bb)])) rfl (by rw [hml]; rfl) (Steps.refl _) (argsL := []) (rest := []) (lenOf pd_10 rfl) rfl (by show 2 * 0 + _ ≤ _; exact Nat.le_of_eq rfl) (hb hby at_279) (fun _ _ => ⟨rfl, e116, (by decide : 13 + 0 ≤ _), (by decide : 154 + 0 ≤ _)⟩)
                          dsimp only [Pt.U, Pt.locs, Pt.cells, Pt.slots] at X117 l117 y117 z117 st117 hQ117
                          subst l117 y117 z117
                          obtain ⟨rfl, Nq117, e117⟩ := hQ117
                          have N117 := Fr.app N116 Nq117
                          refine OWW.tr (B := T117.setTop (mkF m 282 #[.val (.int n1), .val (.int n2), .val (.int n3), .val (.int n4), .val (.int n5), .val (.ref a92), .val (.ref a93), .val (.ref a94), .val (.int f0), .val (.int f1), .val (.int f2), .val (.int f3), .val (.int f4), .val (.int mx), .val (.ref bb), .val (.ref pe), .val (.int re), .val (.ref ie), .val (.ref c110)] [(.ref ii)])) (st117) ?_
                          refine OWW.st (B := T117.setTop (mkF m 284 #[.val (.int n1), .val (.int n2), .val (.int n3), .val (.int n4), .val (.int n5), .val (.ref a92), .val (.ref a93), .val (.ref a94), .val (.int f0), .val (.int f1), .val (.int f2), .val (.int f3), .val (.int f4), .val (.int mx), .val (.ref bb), .val (.ref pe), .val (.int re), .val (.ref ie), .val (.ref c110)] [(.ref ie), (.ref ii)])) (fun _ kk_ => XS.aload X117.here hx rfl (hb hby at_282) rfl rfl kk_) ?_
                          refine OWW.st (B := T117.setTop (mkF m 287 #[.val (.int n1), .val (.int n2), .val (.int n3), .val (.int n4), .val (.int n5), .val (.ref a92), .val (.ref a93), .val (.ref a94), .val (.int f0), .val (.int f1), .val (.int f2), .val (.int f3), .val (.int f4), .val (.int mx), .val (.ref bb), .val (.ref pe), .val (.int re), .val (.ref ie), .val (.ref c110)] [])) (fun _ kk_ => Jvm.RoadKit.acmp (g := (mkF m 284 #[.val (.int n1), .val (.int n2), .val (.int n3), .val (.int n4), .val (.int n5), .val (.ref a92), .val (.ref a93), .val (.ref a94), .val (.int f0), .val (.int f1), .val (.int f2), .val (.int f3), .val (.int f4), .val (.int mx), .val (.ref bb), .val (.ref pe), .val (.int re), .val (.ref ie), .val (.ref c110)] [(.ref ie), (.ref ii)])) X117 hx rfl rfl rfl (pc0 := 284) (pc' := 287) (same := true) rfl (hb hby at_284) rfl (decide_eq_true (congrArg Value.ref (hi.trans hie.symm))) (by decide) (by decide) kk_) ?_
                          refine OWW.st (B := T117.setTop (mkF m 288 #[.val (.int n1), .val (.int n2), .val (.int n3), .val (.int n4), .val (.int n5), .val (.ref a92), .val (.ref a93), .val (.ref a94), .val (.int f0), .val (.int f1), .val (.int f2), .val (.int f3), .val (.int f4), .val (.int mx), .val (.ref bb), .val (.ref pe), .val (.int re), .val (.ref ie), .val (.ref c110)] [(.int (1 : Int32))])) (fun _ kk_ => XS.iconst X117.here hx rfl (hb hby at_287) kk_) ?_
                          refine OWW.st (B := T117.setTop (mkF m 292 #[.val (.int n1), .val (.int n2), .val (.int n3), .val (.int n4), .val (.int n5), .val (.ref a92), .val (.ref a93), .val (.ref a94), .val (.int f0), .val (.int f1), .val (.int f2), .val (.int f3), .val (.int f4), .val (.int mx), .val (.ref bb), .val (.ref pe), .val (.int re), .val (.ref ie), .val (.ref c110)] [(.int (1 : Int32))])) (fun _ kk_ => XS.goto X117.here hx rfl (pc0 := 288) (pc' := 292) rfl (hb hby at_288) (by decide) (by decide) kk_) ?_
                          exact OWW.ret X117 (s := s) (vm0 := T110.vm) hS110 hk110 hx hlk (i := .ireturn) Bd.returns rfl (Or.inl ⟨rfl, Or.inr (Or.inl rfl), _, rfl⟩) (hb hby at_292) e117 (by decide) (by decide) ⟨rfl, N117⟩
                        refine OWW.st (B := T108.setTop (mkF m 195 #[.val (.int n1), .val (.int n2), .val (.int n3), .val (.int n4), .val (.int n5), .val (.ref a92), .val (.ref a93), .val (.ref a94), .val (.int f0), .val (.int f1), .val (.int f2), .val (.int f3), .val (.int f4), .val (.int mx), .val (.ref bb), .val (.ref pe), .val (.int re), .unset, .unset] [(.int f4)])) (fun _ kk_ => XS.iload X108.here hx rfl (hb hby at_193) rfl kk_) ?_
                        by_cases hc118 : f4 = (0 : Int32)
                        · refine OWW.st (B := T108.setTop (mkF m 203 #[.val (.int n1), .val (.int n2), .val (.int n3), .val (.int n4), .val (.int n5), .val (.ref a92), .val (.ref a93), .val (.ref a94), .val (.int f0), .val (.int f1), .val (.int f2), .val (.int f3), .val (.int f4), .val (.int mx), .val (.ref bb), .val (.ref pe), .val (.int re), .unset, .unset] [])) (fun _ kk_ => XS.ifYes X108.here hx rfl (pc0 := 195) (pc' := 203) rfl (hb hby at_195) rfl ((if0 _ _).trans (teq hc118).1) (by decide) (by decide) kk_) ?_
                          obtain ⟨T119, X119, e119, st119⟩ := getS2 X108 hx hZ106 hown106 (host := "") (Or.inl (w_5 hw)) Via.refl e108 (Sa_DEFAULT.ext O106.2) (g := (mkF m 203 #[.val (.int n1), .val (.int n2), .val (.int n3), .val (.int n4), .val (.int n5), .val (.ref a92), .val (.ref a93), .val (.ref a94), .val (.int f0), .val (.int f1), .val (.int f2), .val (.int f3), .val (.int f4), .val (.int mx), .val (.ref bb), .val (.ref pe), .val (.int re), .unset, .unset] [])) rfl (hb hby at_203)
                          refine OWW.st (B := T119.setTop (mkF m 206 #[.val (.int n1), .val (.int n2), .val (.int n3), .val (.int n4), .val (.int n5), .val (.ref a92), .val (.ref a93), .val (.ref a94), .val (.int f0), .val (.int f1), .val (.int f2), .val (.int f3), .val (.int f4), .val (.int mx), .val (.ref bb), .val (.ref pe), .val (.int re), .unset, .unset] [(.ref a_DEFAULT)])) (st119) ?_
                          exact J109 _ _ X119 N108 e119 _ (by simp [hc118])
                        · refine OWW.st (B := T108.setTop (mkF m 198 #[.val (.int n1), .val (.int n2), .val (.int n3), .val (.int n4), .val (.int n5), .val (.ref a92), .val (.ref a93), .val (.ref a94), .val (.int f0), .val (.int f1), .val (.int f2), .val (.int f3), .val (.int f4), .val (.int mx), .val (.ref bb), .val (.ref pe), .val (.int re), .unset, .unset] [])) (fun _ kk_ => XS.ifNo X108.here hx rfl (hb hby at_195) rfl ((if0 _ _).trans (feq hc118).1) kk_) ?_
                          refine OWW.st (B := T108.setTop (mkF m 200 #[.val (.int n1), .val (.int n2), .val (.int n3), .val (.int n4), .val (.int n5), .val (.ref a92), .val (.ref a93), .val (.ref a94), .val (.int f0), .val (.int f1), .val (.int f2), .val (.int f3), .val (.int f4), .val (.int mx), .val (.ref bb), .val (.ref pe), .val (.int re), .unset, .unset] [(.ref a93)])) (fun _ kk_ => XS.aload X108.here hx rfl (hb hby at_198) rfl rfl kk_) ?_
                          refine OWW.st (B := T108.setTop (mkF m 206 #[.val (.int n1), .val (.int n2), .val (.int n3), .val (.int n4), .val (.int n5), .val (.ref a92), .val (.ref a93), .val (.ref a94), .val (.int f0), .val (.int f1), .val (.int f2), .val (.int f3), .val (.int f4), .val (.int mx), .val (.ref bb), .val (.ref pe), .val (.int re), .unset, .unset] [(.ref a93)])) (fun _ kk_ => XS.goto X108.here hx rfl (pc0 := 200) (pc' := 206) rfl (hb hby at_200) (by decide) (by decide) kk_) ?_
                          exact J109 _ _ X108 N108 e108 _ (by simp [hc118])
                      refine OWW.st (B := T107.setTop (mkF m 178 #[.val (.int n1), .val (.int n2), .val (.int n3), .val (.int n4), .val (.int n5), .val (.ref a92), .val (.ref a93), .val (.ref a94), .val (.int f0), .val (.int f1), .val (.int f2), .val (.int f3), .val (.int f4), .val (.int mx), .val (.ref bb), .val (.ref pe), .unset, .unset, .unset] [(.int f1)])) (fun _ kk_ => XS.iload X107.here hx rfl (hb hby at_176) rfl kk_) ?_
                      by_cases hc120 : f1 = (0 : Int32)
                      · refine OWW.st (B := T107.setTop (mkF m 190 #[.val (.int n1), .val (.int n2), .val (.int n3), .val (.int n4), .val (.int n5), .val (.ref a92), .val (.ref a93), .val (.ref a94), .val (.int f0), .val (.int f1), .val (.int f2), .val (.int f3), .val (.int f4), .val (.int mx), .val (.ref bb), .val (.ref pe), .unset, .unset, .unset] [])) (fun _ kk_ => XS.ifYes X107.here hx rfl (pc0 := 178) (pc' := 190) rfl (hb hby at_178) rfl ((if0 _ _).trans (teq hc120).1) (by decide) (by decide) kk_) ?_
                        refine OWW.st (B := T107.setTop (mkF m 191 #[.val (.int n1), .val (.int n2), .val (.int n3), .val (.int n4), .val (.int n5), .val (.ref a92), .val (.ref a93), .val (.ref a94), .val (.int f0), .val (.int f1), .val (.int f2), .val (.int f3), .val (.int f4), .val (.int mx), .val (.ref bb), .val (.ref pe), .unset, .unset, .unset] [(.int (0 : Int32))])) (fun _ kk_ => XS.iconst X107.here hx rfl (hb hby at_190) kk_) ?_
                        have hz2 : f2 = 0 ∨ f2 = 1 := hf2
                        exact J108 _ _ X107 N107 e107 _ (by rcases hz2 with rfl | rfl <;> simp_all)
                      · refine OWW.st (B := T107.setTop (mkF m 181 #[.val (.int n1), .val (.int n2), .val (.int n3), .val (.int n4), .val (.int n5), .val (.ref a92), .val (.ref a93), .val (.ref a94), .val (.int f0), .val (.int f1), .val (.int f2), .val (.int f3), .val (.int f4), .val (.int mx), .val (.ref bb), .val (.ref pe), .unset, .unset, .unset] [])) (fun _ kk_ => XS.ifNo X107.here hx rfl (hb hby at_178) rfl ((if0 _ _).trans (feq hc120).1) kk_) ?_
                        refine OWW.st (B := T107.setTop (mkF m 183 #[.val (.int n1), .val (.int n2), .val (.int n3), .val (.int n4), .val (.int n5), .val (.ref a92), .val (.ref a93), .val (.ref a94), .val (.int f0), .val (.int f1), .val (.int f2), .val (.int f3), .val (.int f4), .val (.int mx), .val (.ref bb), .val (.ref pe), .unset, .unset, .unset] [(.int f2)])) (fun _ kk_ => XS.iload X107.here hx rfl (hb hby at_181) rfl kk_) ?_
                        by_cases hc121 : f2 = (0 : Int32)
                        · refine OWW.st (B := T107.setTop (mkF m 190 #[.val (.int n1), .val (.int n2), .val (.int n3), .val (.int n4), .val (.int n5), .val (.ref a92), .val (.ref a93), .val (.ref a94), .val (.int f0), .val (.int f1), .val (.int f2), .val (.int f3), .val (.int f4), .val (.int mx), .val (.ref bb), .val (.ref pe), .unset, .unset, .unset] [])) (fun _ kk_ => XS.ifYes X107.here hx rfl (pc0 := 183) (pc' := 190) rfl (hb hby at_183) rfl ((if0 _ _).trans (teq hc121).1) (by decide) (by decide) kk_) ?_
                          refine OWW.st (B := T107.setTop (mkF m 191 #[.val (.int n1), .val (.int n2), .val (.int n3), .val (.int n4), .val (.int n5), .val (.ref a92), .val (.ref a93), .val (.ref a94), .val (.int f0), .val (.int f1), .val (.int f2), .val (.int f3), .val (.int f4), .val (.int mx), .val (.ref bb), .val (.ref pe), .unset, .unset, .unset] [(.int (0 : Int32))])) (fun _ kk_ => XS.iconst X107.here hx rfl (hb hby at_190) kk_) ?_
                          have hz2 : f2 = 0 ∨ f2 = 1 := hf2
                          exact J108 _ _ X107 N107 e107 _ (by rcases hz2 with rfl | rfl <;> simp_all)
                        · refine OWW.st (B := T107.setTop (mkF m 186 #[.val (.int n1), .val (.int n2), .val (.int n3), .val (.int n4), .val (.int n5), .val (.ref a92), .val (.ref a93), .val (.ref a94), .val (.int f0), .val (.int f1), .val (.int f2), .val (.int f3), .val (.int f4), .val (.int mx), .val (.ref bb), .val (.ref pe), .unset, .unset, .unset] [])) (fun _ kk_ => XS.ifNo X107.here hx rfl (hb hby at_183) rfl ((if0 _ _).trans (feq hc121).1) kk_) ?_
                          refine OWW.st (B := T107.setTop (mkF m 187 #[.val (.int n1), .val (.int n2), .val (.int n3), .val (.int n4), .val (.int n5), .val (.ref a92), .val (.ref a93), .val (.ref a94), .val (.int f0), .val (.int f1), .val (.int f2), .val (.int f3), .val (.int f4), .val (.int mx), .val (.ref bb), .val (.ref pe), .unset, .unset, .unset] [(.int (1 : Int32))])) (fun _ kk_ => XS.iconst X107.here hx rfl (hb hby at_186) kk_) ?_
                          refine OWW.st (B := T107.setTop (mkF m 191 #[.val (.int n1), .val (.int n2), .val (.int n3), .val (.int n4), .val (.int n5), .val (.ref a92), .val (.ref a93), .val (.ref a94), .val (.int f0), .val (.int f1), .val (.int f2), .val (.int f3), .val (.int f4), .val (.int mx), .val (.ref bb), .val (.ref pe), .unset, .unset, .unset] [(.int (1 : Int32))])) (fun _ kk_ => XS.goto X107.here hx rfl (pc0 := 187) (pc' := 191) rfl (hb hby at_187) (by decide) (by decide) kk_) ?_
                          have hz2 : f2 = 0 ∨ f2 = 1 := hf2
                          exact J108 _ _ X107 N107 e107 _ (by rcases hz2 with rfl | rfl <;> simp_all)
                    refine OWW.st (B := T106.setTop (mkF m 163 #[.val (.int n1), .val (.int n2), .val (.int n3), .val (.int n4), .val (.int n5), .val (.ref a92), .val (.ref a93), .val (.ref a94), .val (.int f0), .val (.int f1), .val (.int f2), .val (.int f3), .val (.int f4), .val (.int mx), .val (.ref bb), .unset, .unset, .unset, .unset] [(.int f0)])) (fun _ kk_ => XS.iload X106.here hx rfl (hb hby at_161) rfl kk_) ?_
                    by_cases hc122 : f0 = (0 : Int32)
                    · refine OWW.st (B := T106.setTop (mkF m 171 #[.val (.int n1), .val (.int n2), .val (.int n3), .val (.int n4), .val (.int n5), .val (.ref a92), .val (.ref a93), .val (.ref a94), .val (.int f0), .val (.int f1), .val (.int f2), .val (.int f3), .val (.int f4), .val (.int mx), .val (.ref bb), .unset, .unset, .unset, .unset] [])) (fun _ kk_ => XS.ifYes X106.here hx rfl (pc0 := 163) (pc' := 171) rfl (hb hby at_163) rfl ((if0 _ _).trans (teq hc122).1) (by decide) (by decide) kk_) ?_
                      obtain ⟨T123, X123, e123, st123⟩ := getS2 X106 hx hZ106 hown106 (host := "") (Or.inl (w_135 hw)) Via.refl e106 (Sa_REQUIRED.ext O106.2) (g := (mkF m 171 #[.val (.int n1), .val (.int n2), .val (.int n3), .val (.int n4), .val (.int n5), .val (.ref a92), .val (.ref a93), .val (.ref a94), .val (.int f0), .val (.int f1), .val (.int f2), .val (.int f3), .val (.int f4), .val (.int mx), .val (.ref bb), .unset, .unset, .unset, .unset] [])) rfl (hb hby at_171)
                      refine OWW.st (B := T123.setTop (mkF m 174 #[.val (.int n1), .val (.int n2), .val (.int n3), .val (.int n4), .val (.int n5), .val (.ref a92), .val (.ref a93), .val (.ref a94), .val (.int f0), .val (.int f1), .val (.int f2), .val (.int f3), .val (.int f4), .val (.int mx), .val (.ref bb), .unset, .unset, .unset, .unset] [(.ref a_REQUIRED)])) (st123) ?_
                      exact J107 _ _ X123 N106 e123 _ (by simp [hc122])
                    · refine OWW.st (B := T106.setTop (mkF m 166 #[.val (.int n1), .val (.int n2), .val (.int n3), .val (.int n4), .val (.int n5), .val (.ref a92), .val (.ref a93), .val (.ref a94), .val (.int f0), .val (.int f1), .val (.int f2), .val (.int f3), .val (.int f4), .val (.int mx), .val (.ref bb), .unset, .unset, .unset, .unset] [])) (fun _ kk_ => XS.ifNo X106.here hx rfl (hb hby at_163) rfl ((if0 _ _).trans (feq hc122).1) kk_) ?_
                      refine OWW.st (B := T106.setTop (mkF m 168 #[.val (.int n1), .val (.int n2), .val (.int n3), .val (.int n4), .val (.int n5), .val (.ref a92), .val (.ref a93), .val (.ref a94), .val (.int f0), .val (.int f1), .val (.int f2), .val (.int f3), .val (.int f4), .val (.int mx), .val (.ref bb), .unset, .unset, .unset, .unset] [(.ref a94)])) (fun _ kk_ => XS.aload X106.here hx rfl (hb hby at_166) rfl rfl kk_) ?_
                      refine OWW.st (B := T106.setTop (mkF m 174 #[.val (.int n1), .val (.int n2), .val (.int n3), .val (.int n4), .val (.int n5), .val (.ref a92), .val (.ref a93), .val (.ref a94), .val (.int f0), .val (.int f1), .val (.int f2), .val (.int f3), .val (.int f4), .val (.int mx), .val (.ref bb), .unset, .unset, .unset, .unset] [(.ref a94)])) (fun _ kk_ => XS.goto X106.here hx rfl (pc0 := 168) (pc' := 174) rfl (hb hby at_168) (by decide) (by decide) kk_) ?_
                      exact J107 _ _ X106 N106 e106 _ (by simp [hc122])
                  by_cases hc124 : f4 = (0 : Int32)
                  · refine OWW.st (B := T105.setTop (mkF m 161 #[.val (.int n1), .val (.int n2), .val (.int n3), .val (.int n4), .val (.int n5), .val (.ref a92), .val (.ref a93), .val (.ref a94), .val (.int f0), .val (.int f1), .val (.int f2), .val (.int f3), .val (.int f4), .val (.int mx), .val (.ref bb), .unset, .unset, .unset, .unset] [])) (fun _ kk_ => XS.ifYes X105.here hx rfl (pc0 := 149) (pc' := 161) rfl (hb hby at_149) rfl ((if0 _ _).trans (teq hc124).1) (by decide) (by decide) kk_) ?_
                    exact J106 _ _ _ vm105 _ (X105.more (by decide) (by decide)) N105 e105 O105 hS105 hk105 hZ105 hown105 _ _ _ _ _ Ge Gg Gt Ga Gb Gc Gd Gz hp hq (by simp [hc124])
                  · refine OWW.st (B := T105.setTop (mkF m 152 #[.val (.int n1), .val (.int n2), .val (.int n3), .val (.int n4), .val (.int n5), .val (.ref a92), .val (.ref a93), .val (.ref a94), .val (.int f0), .val (.int f1), .val (.int f2), .val (.int f3), .val (.int f4), .val (.int mx), .val (.ref bb), .unset, .unset, .unset, .unset] [])) (fun _ kk_ => XS.ifNo X105.here hx rfl (hb hby at_149) rfl ((if0 _ _).trans (feq hc124).1) kk_) ?_
                    refine OWW.st (B := T105.setTop (mkF m 154 #[.val (.int n1), .val (.int n2), .val (.int n3), .val (.int n4), .val (.int n5), .val (.ref a92), .val (.ref a93), .val (.ref a94), .val (.int f0), .val (.int f1), .val (.int f2), .val (.int f3), .val (.int f4), .val (.int mx), .val (.ref bb), .unset, .unset, .unset, .unset] [(.ref bb)])) (fun _ kk_ => XS.aload X105.here hx rfl (hb hby at_152) rfl rfl kk_) ?_
                    refine OWW.st (B := T105.setTop (mkF m 156 #[.val (.int n1), .val (.int n2), .val (.int n3), .val (.int n4), .val (.int n5), .val (.ref a92), .val (.ref a93), .val (.ref a94), .val (.int f0), .val (.int f1), .val (.int f2), .val (.int f3), .val (.int f4), .val (.int mx), .val (.ref bb), .unset, .unset, .unset, .unset] [(.ref a93), (.ref bb)])) (fun _ kk_ => XS.aload X105.here hx rfl (hb hby at_154) rfl rfl kk_) ?_
                    obtain ⟨cq125, kq125, q125a, q125b, q125c⟩ := isOf hZ105 e105 Ge
                    obtain ⟨_, _, ⟨T125, L125, k125, n125⟩, -, X125, hs125, hsz125, ⟨Lc125, hQ125, l125, y125, z125⟩, st125⟩ := X105.virtualBackS hx (y := (⟨"com/example/demarcate/demarcate/TransactionDefinition", "withIsolation", "(Lcom/example/demarcate/demarcate/Isolation;)Lcom/example/demarcate/demarcate/TransactionDefinition;"⟩ : MethodName)) (z := (⟨"com/example/demarcate/demarcate/TransactionDefinition", "withIsolation", "(Lcom/example/demarcate/demarcate/Isolation;)Lcom/example/demarcate/demarcate/TransactionDefinition;"⟩ : MethodName)) hown105 (mvT hZ105 (w_68 hw)) (mvT hZ105 (w_69 hw)) (notFace_of_selects (args := #[]) (mvT hZ105 (w_71 hw))) (mvT hZ105 (w_71 hw)) (mvT hZ105 (w_70 hw)) (by decide) (backOfS (W := 0) (rmWI l Z a0 hw [] bb pp a_DEFAULT rr tt a93 h105 n0 O105 Ga Gb Gc Gd Gz (Ea93.ext O105.2)) hZ105 (w_72 hw) (w_22 hw) (by decide) (by decide)) q125a q125c (g := (mkF m 156 #[.val (.int n1), .val (.int n2), .val (.int n3), .val (.int n4), .val (.int n5), .val (.ref a92), .val (.ref a93), .val (.ref a94), .val (.int f0), .val (.int f1), .val (.int f2), .val (.int f3), .val (.int f4), .val (.int mx), .val (.ref bb), .unset, .unset, .unset, .unset] [(.ref a93), (.ref bb)])) rfl (by rw [hml]; rfl) (Steps.refl _) (argsL := [(.ref a93)]) (rest := []) (lenOf pd_9 rfl) rfl (by show 2 * 0 + _ ≤ _; exact Nat.le_of_eq rfl) (hb hby at_156) (fun _ _ => ⟨rfl, e105, (by decide : 7 + 3 ≤ _), (by decide : 66 + 44 ≤ _)⟩)
                    dsimp only [Pt.U, Pt.locs, Pt.cells, Pt.slots] at hs125 hsz125
                    have hS125 := foldS hS105 (show _ ≤ T105.heap.size by rw [e105]; exact hk105) hs125 hsz125
                    have hZ125 : Z.Warmed39 (s.setVm T125.vm).vm := State.Warmed39.trans (t := (s.setVm vm105)) hZ105 hs125.1
                    have hown125 : (s.setVm T125.vm).vm.findClass "com/example/demarcate/demarcate/TransactionDefinitionWithIsolationPinLaw" = some m.cls := by rw [show (s.setVm T125.vm).vm = T125.vm from rfl, hs125.1.alike.findClass]; exact hown105
                    dsimp only [Pt.U, Pt.locs, Pt.cells, Pt.slots] at X125 l125 y125 z125 st125 hQ125
                    subst l125 y125 z125
                    obtain ⟨c125, rfl, Nq125, K125, gw125, zw125, Ew125, Fw125_0, Fw125_1, Fw125_2, Fw125_3⟩ := hQ125
                    have N125 := Fr.app N105 Nq125
                    have O125 : Old Z n0 T125.heap := O105.keep K125 all0
                    have hk125 : T125.heap.size ≤ T125.heap.size := Nat.le_of_eq (by rfl)
                    refine OWW.tr (B := T125.setTop (mkF m 159 #[.val (.int n1), .val (.int n2), .val (.int n3), .val (.int n4), .val (.int n5), .val (.ref a92), .val (.ref a93), .val (.ref a94), .val (.int f0), .val (.int f1), .val (.int f2), .val (.int f3), .val (.int f4), .val (.int mx), .val (.ref bb), .unset, .unset, .unset, .unset] [(.ref c125)])) (st125) ?_
                    refine OWW.st (B := T125.setTop (mkF m 161 #[.val (.int n1), .val (.int n2), .val (.int n3), .val (.int n4), .val (.int n5), .val (.ref a92), .val (.ref a93), .val (.ref a94), .val (.int f0), .val (.int f1), .val (.int f2), .val (.int f3), .val (.int f4), .val (.int mx), .val (.ref c125), .unset, .unset, .unset, .unset] [])) (fun _ kk_ => XS.astore X125.here hx rfl (hb hby at_159) rfl rfl (l' := #[.val (.int n1), .val (.int n2), .val (.int n3), .val (.int n4), .val (.int n5), .val (.ref a92), .val (.ref a93), .val (.ref a94), .val (.int f0), .val (.int f1), .val (.int f2), .val (.int f3), .val (.int f4), .val (.int mx), .val (.ref c125), .unset, .unset, .unset, .unset]) rfl kk_) ?_
                    exact J106 _ _ _ T125.vm _ X125 N125 rfl O125 hS125 hk125 hZ125 hown125 _ _ _ _ _ Ew125 gw125 (Gt.keep K125) Fw125_0 Fw125_1 Fw125_2 Fw125_3 Gz hp hq (by simp [hc124])
                by_cases hc126 : f3 = (0 : Int32)
                · refine OWW.st (B := T104.setTop (mkF m 147 #[.val (.int n1), .val (.int n2), .val (.int n3), .val (.int n4), .val (.int n5), .val (.ref a92), .val (.ref a93), .val (.ref a94), .val (.int f0), .val (.int f1), .val (.int f2), .val (.int f3), .val (.int f4), .val (.int mx), .val (.ref bb), .unset, .unset, .unset, .unset] [])) (fun _ kk_ => XS.ifYes X104.here hx rfl (pc0 := 135) (pc' := 147) rfl (hb hby at_135) rfl ((if0 _ _).trans (teq hc126).1) (by decide) (by decide) kk_) ?_
                  exact J105 _ _ _ vm104 _ (X104.more (by decide) (by decide)) N104 e104 O104 hS104 hk104 hZ104 hown104 _ _ _ _ Ge Gg Gt Ga Gb Gc Gd Gz hp hq
                · refine OWW.st (B := T104.setTop (mkF m 138 #[.val (.int n1), .val (.int n2), .val (.int n3), .val (.int n4), .val (.int n5), .val (.ref a92), .val (.ref a93), .val (.ref a94), .val (.int f0), .val (.int f1), .val (.int f2), .val (.int f3), .val (.int f4), .val (.int mx), .val (.ref bb), .unset, .unset, .unset, .unset] [])) (fun _ kk_ => XS.ifNo X104.here hx rfl (hb hby at_135) rfl ((if0 _ _).trans (feq hc126).1) kk_) ?_
                  refine OWW.st (B := T104.setTop (mkF m 140 #[.val (.int n1), .val (.int n2), .val (.int n3), .val (.int n4), .val (.int n5), .val (.ref a92), .val (.ref a93), .val (.ref a94), .val (.int f0), .val (.int f1), .val (.int f2), .val (.int f3), .val (.int f4), .val (.int mx), .val (.ref bb), .unset, .unset, .unset, .unset] [(.ref bb)])) (fun _ kk_ => XS.aload X104.here hx rfl (hb hby at_138) rfl rfl kk_) ?_
                  refine OWW.st (B := T104.setTop (mkF m 142 #[.val (.int n1), .val (.int n2), .val (.int n3), .val (.int n4), .val (.int n5), .val (.ref a92), .val (.ref a93), .val (.ref a94), .val (.int f0), .val (.int f1), .val (.int f2), .val (.int f3), .val (.int f4), .val (.int mx), .val (.ref bb), .unset, .unset, .unset, .unset] [(.int mx), (.ref bb)])) (fun _ kk_ => XS.iload X104.here hx rfl (hb hby at_140) rfl kk_) ?_
                  obtain ⟨cq127, kq127, q127a, q127b, q127c⟩ := isOf hZ104 e104 Ge
                  obtain ⟨_, _, ⟨T127, L127, k127, n127⟩, -, X127, ⟨Lc127, hQ127, l127, y127, z127⟩, st127⟩ := X104.virtualBack hx (y := (⟨"com/example/demarcate/demarcate/TransactionDefinition", "withTimeout", "(I)Lcom/example/demarcate/demarcate/TransactionDefinition;"⟩ : MethodName)) (z := (⟨"com/example/demarcate/demarcate/TransactionDefinition", "withTimeout", "(I)Lcom/example/demarcate/demarcate/TransactionDefinition;"⟩ : MethodName)) hown104 (mvT hZ104 (w_110 hw)) (mvT hZ104 (w_111 hw)) (notFace_of_selects (args := #[]) (mvT hZ104 (w_113 hw))) (mvT hZ104 (w_113 hw)) (mvT hZ104 (w_112 hw)) (by decide) (backOf (W := 0) (rmWT l Z a0 hw [] bb pp a_DEFAULT rr tt mx h104 n0 O104 Ga Gb Gc Gd Gz hmx) hZ104 (w_114 hw) (w_22 hw) (by decide) (by decide)) q127a q127c (g := (mkF m 142 #[.val (.int n1), .val (.int n2), .val (.int n3), .val (.int n4), .val (.int n5), .val (.ref a92), .val (.ref a93), .val (.ref a94), .val (.int f0), .val (.int f1), .val (.int f2), .val (.int f3), .val (.int f4), .val (.int mx), .val (.ref bb), .unset, .unset, .unset, .unset] [(.int mx), (.ref bb)])) rfl (by rw [hml]; rfl) (Steps.refl _) (argsL := [(.int mx)]) (rest := []) (lenOf pd_14 rfl) rfl (by show 2 * 0 + _ ≤ _; exact Nat.le_of_eq rfl) (hb hby at_142) (fun _ _ => ⟨rfl, e104, (by decide : 5 + 2 ≤ _), (by decide : 60 + 6 ≤ _)⟩)
                  dsimp only [Pt.U, Pt.locs, Pt.cells, Pt.slots] at X127 l127 y127 z127 st127 hQ127
                  subst l127 y127 z127
                  obtain ⟨c127, tw127, rfl, Nq127, K127, gw127, zw127, Ew127, Fw127_0, Fw127_1, Fw127_2, Fw127_3, Et127⟩ := hQ127
                  have N127 := Fr.app N104 Nq127
                  have O127 : Old Z n0 T127.heap := O104.keep K127 all0
                  refine OWW.tr (B := T127.setTop (mkF m 145 #[.val (.int n1), .val (.int n2), .val (.int n3), .val (.int n4), .val (.int n5), .val (.ref a92), .val (.ref a93), .val (.ref a94), .val (.int f0), .val (.int f1), .val (.int f2), .val (.int f3), .val (.int f4), .val (.int mx), .val (.ref bb), .unset, .unset, .unset, .unset] [(.ref c127)])) (st127) ?_
                  refine OWW.st (B := T127.setTop (mkF m 147 #[.val (.int n1), .val (.int n2), .val (.int n3), .val (.int n4), .val (.int n5), .val (.ref a92), .val (.ref a93), .val (.ref a94), .val (.int f0), .val (.int f1), .val (.int f2), .val (.int f3), .val (.int f4), .val (.int mx), .val (.ref c127), .unset, .unset, .unset, .unset] [])) (fun _ kk_ => XS.astore X127.here hx rfl (hb hby at_145) rfl rfl (l' := #[.val (.int n1), .val (.int n2), .val (.int n3), .val (.int n4), .val (.int n5), .val (.ref a92), .val (.ref a93), .val (.ref a94), .val (.int f0), .val (.int f1), .val (.int f2), .val (.int f3), .val (.int f4), .val (.int mx), .val (.ref c127), .unset, .unset, .unset, .unset]) rfl kk_) ?_
                  exact J105 _ _ _ vm104 _ X127 N127 rfl O127 hS104 (Nat.le_trans hk104 K127.1) hZ104 hown104 _ _ _ _ Ew127 gw127 Et127 Fw127_0 Fw127_1 Fw127_2 Fw127_3 Gz hp hq
              by_cases hc128 : f1 = (0 : Int32)
              · refine OWW.st (B := T103.setTop (mkF m 133 #[.val (.int n1), .val (.int n2), .val (.int n3), .val (.int n4), .val (.int n5), .val (.ref a92), .val (.ref a93), .val (.ref a94), .val (.int f0), .val (.int f1), .val (.int f2), .val (.int f3), .val (.int f4), .val (.int mx), .val (.ref bb), .unset, .unset, .unset, .unset] [])) (fun _ kk_ => XS.ifYes X103.here hx rfl (pc0 := 121) (pc' := 133) rfl (hb hby at_121) rfl ((if0 _ _).trans (teq hc128).1) (by decide) (by decide) kk_) ?_
                exact J104 _ _ _ vm103 _ (X103.more (by decide) (by decide)) N103 e103 O103 hS103 hk103 hZ103 hown103 _ _ _ _ Ge Gg Gt Ga Gb Gc Gd (by decide) hp (by simp [hc128])
              · refine OWW.st (B := T103.setTop (mkF m 124 #[.val (.int n1), .val (.int n2), .val (.int n3), .val (.int n4), .val (.int n5), .val (.ref a92), .val (.ref a93), .val (.ref a94), .val (.int f0), .val (.int f1), .val (.int f2), .val (.int f3), .val (.int f4), .val (.int mx), .val (.ref bb), .unset, .unset, .unset, .unset] [])) (fun _ kk_ => XS.ifNo X103.here hx rfl (hb hby at_121) rfl ((if0 _ _).trans (feq hc128).1) kk_) ?_
                refine OWW.st (B := T103.setTop (mkF m 126 #[.val (.int n1), .val (.int n2), .val (.int n3), .val (.int n4), .val (.int n5), .val (.ref a92), .val (.ref a93), .val (.ref a94), .val (.int f0), .val (.int f1), .val (.int f2), .val (.int f3), .val (.int f4), .val (.int mx), .val (.ref bb), .unset, .unset, .unset, .unset] [(.ref bb)])) (fun _ kk_ => XS.aload X103.here hx rfl (hb hby at_124) rfl rfl kk_) ?_
                refine OWW.st (B := T103.setTop (mkF m 128 #[.val (.int n1), .val (.int n2), .val (.int n3), .val (.int n4), .val (.int n5), .val (.ref a92), .val (.ref a93), .val (.ref a94), .val (.int f0), .val (.int f1), .val (.int f2), .val (.int f3), .val (.int f4), .val (.int mx), .val (.ref bb), .unset, .unset, .unset, .unset] [(.int f2), (.ref bb)])) (fun _ kk_ => XS.iload X103.here hx rfl (hb hby at_126) rfl kk_) ?_
                obtain ⟨cq129, kq129, q129a, q129b, q129c⟩ := isOf hZ103 e103 Ge
                obtain ⟨_, _, ⟨T129, L129, k129, n129⟩, -, X129, ⟨Lc129, hQ129, l129, y129, z129⟩, st129⟩ := X103.virtualBack hx (y := (⟨"com/example/demarcate/demarcate/TransactionDefinition", "withReadOnly", "(Z)Lcom/example/demarcate/demarcate/TransactionDefinition;"⟩ : MethodName)) (z := (⟨"com/example/demarcate/demarcate/TransactionDefinition", "withReadOnly", "(Z)Lcom/example/demarcate/demarcate/TransactionDefinition;"⟩ : MethodName)) hown103 (mvT hZ103 (w_105 hw)) (mvT hZ103 (w_106 hw)) (notFace_of_selects (args := #[]) (mvT hZ103 (w_108 hw))) (mvT hZ103 (w_108 hw)) (mvT hZ103 (w_107 hw)) (by decide) (backOf (W := 0) (rmWR l Z a0 hw [] bb pp a_DEFAULT (0 : Int32) tt f2 h103 n0 O103 Ga Gb Gc Gd (by decide) hf2) hZ103 (w_109 hw) (w_22 hw) (by decide) (by decide)) q129a q129c (g := (mkF m 128 #[.val (.int n1), .val (.int n2), .val (.int n3), .val (.int n4), .val (.int n5), .val (.ref a92), .val (.ref a93), .val (.ref a94), .val (.int f0), .val (.int f1), .val (.int f2), .val (.int f3), .val (.int f4), .val (.int mx), .val (.ref bb), .unset, .unset, .unset, .unset] [(.int f2), (.ref bb)])) rfl (by rw [hml]; rfl) (Steps.refl _) (argsL := [(.int f2)]) (rest := []) (lenOf pd_15 rfl) rfl (by show 2 * 0 + _ ≤ _; exact Nat.le_of_eq rfl) (hb hby at_128) (fun _ _ => ⟨rfl, e103, (by decide : 4 + 1 ≤ _), (by decide : 56 + 4 ≤ _)⟩)
                dsimp only [Pt.U, Pt.locs, Pt.cells, Pt.slots] at X129 l129 y129 z129 st129 hQ129
                subst l129 y129 z129
                obtain ⟨c129, rfl, Nq129, K129, gw129, zw129, Ew129, Fw129_0, Fw129_1, Fw129_2, Fw129_3⟩ := hQ129
                have N129 := Fr.app N103 Nq129
                have O129 : Old Z n0 T129.heap := O103.keep K129 all0
                refine OWW.tr (B := T129.setTop (mkF m 131 #[.val (.int n1), .val (.int n2), .val (.int n3), .val (.int n4), .val (.int n5), .val (.ref a92), .val (.ref a93), .val (.ref a94), .val (.int f0), .val (.int f1), .val (.int f2), .val (.int f3), .val (.int f4), .val (.int mx), .val (.ref bb), .unset, .unset, .unset, .unset] [(.ref c129)])) (st129) ?_
                refine OWW.st (B := T129.setTop (mkF m 133 #[.val (.int n1), .val (.int n2), .val (.int n3), .val (.int n4), .val (.int n5), .val (.ref a92), .val (.ref a93), .val (.ref a94), .val (.int f0), .val (.int f1), .val (.int f2), .val (.int f3), .val (.int f4), .val (.int mx), .val (.ref c129), .unset, .unset, .unset, .unset] [])) (fun _ kk_ => XS.astore X129.here hx rfl (hb hby at_131) rfl rfl (l' := #[.val (.int n1), .val (.int n2), .val (.int n3), .val (.int n4), .val (.int n5), .val (.ref a92), .val (.ref a93), .val (.ref a94), .val (.int f0), .val (.int f1), .val (.int f2), .val (.int f3), .val (.int f4), .val (.int mx), .val (.ref c129), .unset, .unset, .unset, .unset]) rfl kk_) ?_
                exact J104 _ _ _ vm103 _ X129 N129 rfl O129 hS103 (Nat.le_trans hk103 K129.1) hZ103 hown103 _ _ _ _ Ew129 gw129 (Gt.keep K129) Fw129_0 Fw129_1 Fw129_2 Fw129_3 hf2 hp (by simp [hc128])
            by_cases hc130 : f0 = (0 : Int32)
            · refine OWW.st (B := T102.setTop (mkF m 119 #[.val (.int n1), .val (.int n2), .val (.int n3), .val (.int n4), .val (.int n5), .val (.ref a92), .val (.ref a93), .val (.ref a94), .val (.int f0), .val (.int f1), .val (.int f2), .val (.int f3), .val (.int f4), .val (.int mx), .val (.ref b101), .unset, .unset, .unset, .unset] [])) (fun _ kk_ => XS.ifYes X102.here hx rfl (pc0 := 107) (pc' := 119) rfl (hb hby at_107) rfl ((if0 _ _).trans (teq hc130).1) (by decide) (by decide) kk_) ?_
              exact J103 _ _ _ s.vm _ (X102.more (by decide) (by decide)) N102 rfl O102 hS0 (Nat.le_trans (Nat.le_trans hk0 E101.1) K102.1) hZ hown _ _ _ Ei102 n_b101 (Ea_EMPTY.ext O102.2) Fi102_0 Fi102_1 Fi102_2 Fi102_3 (by simp [hc130])
            · refine OWW.st (B := T102.setTop (mkF m 110 #[.val (.int n1), .val (.int n2), .val (.int n3), .val (.int n4), .val (.int n5), .val (.ref a92), .val (.ref a93), .val (.ref a94), .val (.int f0), .val (.int f1), .val (.int f2), .val (.int f3), .val (.int f4), .val (.int mx), .val (.ref b101), .unset, .unset, .unset, .unset] [])) (fun _ kk_ => XS.ifNo X102.here hx rfl (hb hby at_107) rfl ((if0 _ _).trans (feq hc130).1) kk_) ?_
              refine OWW.st (B := T102.setTop (mkF m 112 #[.val (.int n1), .val (.int n2), .val (.int n3), .val (.int n4), .val (.int n5), .val (.ref a92), .val (.ref a93), .val (.ref a94), .val (.int f0), .val (.int f1), .val (.int f2), .val (.int f3), .val (.int f4), .val (.int mx), .val (.ref b101), .unset, .unset, .unset, .unset] [(.ref b101)])) (fun _ kk_ => XS.aload X102.here hx rfl (hb hby at_110) rfl rfl kk_) ?_
              refine OWW.st (B := T102.setTop (mkF m 114 #[.val (.int n1), .val (.int n2), .val (.int n3), .val (.int n4), .val (.int n5), .val (.ref a92), .val (.ref a93), .val (.ref a94), .val (.int f0), .val (.int f1), .val (.int f2), .val (.int f3), .val (.int f4), .val (.int mx), .val (.ref b101), .unset, .unset, .unset, .unset] [(.ref a94), (.ref b101)])) (fun _ kk_ => XS.aload X102.here hx rfl (hb hby at_112) rfl rfl kk_) ?_
              obtain ⟨cq131, kq131, q131a, q131b, q131c⟩ := isOf hZ rfl Ei102
              obtain ⟨_, _, ⟨T131, L131, k131, n131⟩, -, X131, hs131, hsz131, ⟨Lc131, hQ131, l131, y131, z131⟩, st131⟩ := X102.virtualBackS hx (y := (⟨"com/example/demarcate/demarcate/TransactionDefinition", "withPropagation", "(Lcom/example/demarcate/demarcate/Propagation;)Lcom/example/demarcate/demarcate/TransactionDefinition;"⟩ : MethodName)) (z := (⟨"com/example/demarcate/demarcate/TransactionDefinition", "withPropagation", "(Lcom/example/demarcate/demarcate/Propagation;)Lcom/example/demarcate/demarcate/TransactionDefinition;"⟩ : MethodName)) hown (mvT hZ (w_48 hw)) (mvT hZ (w_49 hw)) (notFace_of_selects (args := #[]) (mvT hZ (w_51 hw))) (mvT hZ (w_51 hw)) (mvT hZ (w_50 hw)) (by decide) (backOfS (W := 0) (rmWP l Z a0 hw [] b101 a_REQUIRED a_DEFAULT (0 : Int32) a_EMPTY a94 T102.heap n0 O102 Fi102_0 Fi102_1 Fi102_2 Fi102_3 (by decide) (Ea94.ext O102.2)) hZ (w_52 hw) (w_22 hw) (by decide) (by decide)) q131a q131c (g := (mkF m 114 #[.val (.int n1), .val (.int n2), .val (.int n3), .val (.int n4), .val (.int n5), .val (.ref a92), .val (.ref a93), .val (.ref a94), .val (.int f0), .val (.int f1), .val (.int f2), .val (.int f3), .val (.int f4), .val (.int mx), .val (.ref b101), .unset, .unset, .unset, .unset] [(.ref a94), (.ref b101)])) rfl (by rw [hml]; rfl) (Steps.refl _) (argsL := [(.ref a94)]) (rest := []) (lenOf pd_16 rfl) rfl (by show 2 * 0 + _ ≤ _; exact Nat.le_of_eq rfl) (hb hby at_114) (fun _ _ => ⟨rfl, rfl, (by decide : 1 + 3 ≤ _), (by decide : 4 + 52 ≤ _)⟩)
              dsimp only [Pt.U, Pt.locs, Pt.cells, Pt.slots] at hs131 hsz131
              have hS131 := foldS hS0 (Nat.le_trans (Nat.le_trans hk0 E101.1) K102.1) hs131 hsz131
              have hZ131 : Z.Warmed39 (s.setVm T131.vm).vm := State.Warmed39.trans (t := s) hZ hs131.1
              have hown131 : (s.setVm T131.vm).vm.findClass "com/example/demarcate/demarcate/TransactionDefinitionWithIsolationPinLaw" = some m.cls := by rw [show (s.setVm T131.vm).vm = T131.vm from rfl, hs131.1.alike.findClass]; exact hown
              dsimp only [Pt.U, Pt.locs, Pt.cells, Pt.slots] at X131 l131 y131 z131 st131 hQ131
              subst l131 y131 z131
              obtain ⟨c131, rfl, Nq131, K131, gw131, zw131, Ew131, Fw131_0, Fw131_1, Fw131_2, Fw131_3⟩ := hQ131
              have N131 := Fr.app N102 Nq131
              have O131 : Old Z n0 T131.heap := O102.keep K131 all0
              have hk131 : T131.heap.size ≤ T131.heap.size := Nat.le_of_eq (by rfl)
              refine OWW.tr (B := T131.setTop (mkF m 117 #[.val (.int n1), .val (.int n2), .val (.int n3), .val (.int n4), .val (.int n5), .val (.ref a92), .val (.ref a93), .val (.ref a94), .val (.int f0), .val (.int f1), .val (.int f2), .val (.int f3), .val (.int f4), .val (.int mx), .val (.ref b101), .unset, .unset, .unset, .unset] [(.ref c131)])) (st131) ?_
              refine OWW.st (B := T131.setTop (mkF m 119 #[.val (.int n1), .val (.int n2), .val (.int n3), .val (.int n4), .val (.int n5), .val (.ref a92), .val (.ref a93), .val (.ref a94), .val (.int f0), .val (.int f1), .val (.int f2), .val (.int f3), .val (.int f4), .val (.int mx), .val (.ref c131), .unset, .unset, .unset, .unset] [])) (fun _ kk_ => XS.astore X131.here hx rfl (hb hby at_117) rfl rfl (l' := #[.val (.int n1), .val (.int n2), .val (.int n3), .val (.int n4), .val (.int n5), .val (.ref a92), .val (.ref a93), .val (.ref a94), .val (.int f0), .val (.int f1), .val (.int f2), .val (.int f3), .val (.int f4), .val (.int mx), .val (.ref c131), .unset, .unset, .unset, .unset]) rfl kk_) ?_
              exact J103 _ _ _ T131.vm _ X131 N131 rfl O131 hS131 hk131 hZ131 hown131 _ _ _ Ew131 gw131 (Ea_EMPTY.ext O131.2) Fw131_0 Fw131_1 Fw131_2 Fw131_3 (by simp [hc130])
          refine OWW.st (B := T98.setTop (mkF m 72 #[.val (.int n1), .val (.int n2), .val (.int n3), .val (.int n4), .val (.int n5), .val (.ref a92), .val (.ref a93), .val (.ref a94), .val (.int f0), .val (.int f1), .val (.int f2), .val (.int f3), .unset, .unset, .unset, .unset, .unset, .unset, .unset] [(.int n4)])) (fun _ kk_ => XS.iloadN X98.here hx rfl (hb hby at_71) rfl kk_) ?_
          refine OWW.st (B := T98.setTop (mkF m 74 #[.val (.int n1), .val (.int n2), .val (.int n3), .val (.int n4), .val (.int n5), .val (.ref a92), .val (.ref a93), .val (.ref a94), .val (.int f0), .val (.int f1), .val (.int f2), .val (.int f3), .unset, .unset, .unset, .unset, .unset, .unset, .unset] [(.int (16 : Int32)), (.int n4)])) (fun _ kk_ => XS.bipush X98.here hx rfl (hb hby at_72) kk_) ?_
          refine OWW.st (B := T98.setTop (mkF m 75 #[.val (.int n1), .val (.int n2), .val (.int n3), .val (.int n4), .val (.int n5), .val (.ref a92), .val (.ref a93), .val (.ref a94), .val (.int f0), .val (.int f1), .val (.int f2), .val (.int f3), .unset, .unset, .unset, .unset, .unset, .unset, .unset] [(.int (n4 &&& (16 : Int32)))])) (fun _ kk_ => XS.iand X98.here hx rfl (hb hby at_74) rfl kk_) ?_
          by_cases hc132 : (n4 &&& (16 : Int32)) = (0 : Int32)
          · refine OWW.st (B := T98.setTop (mkF m 82 #[.val (.int n1), .val (.int n2), .val (.int n3), .val (.int n4), .val (.int n5), .val (.ref a92), .val (.ref a93), .val (.ref a94), .val (.int f0), .val (.int f1), .val (.int f2), .val (.int f3), .unset, .unset, .unset, .unset, .unset, .unset, .unset] [])) (fun _ kk_ => XS.ifYes X98.here hx rfl (pc0 := 75) (pc' := 82) rfl (hb hby at_75) rfl ((if0 _ _).trans (teq hc132).1) (by decide) (by decide) kk_) ?_
            refine OWW.st (B := T98.setTop (mkF m 83 #[.val (.int n1), .val (.int n2), .val (.int n3), .val (.int n4), .val (.int n5), .val (.ref a92), .val (.ref a93), .val (.ref a94), .val (.int f0), .val (.int f1), .val (.int f2), .val (.int f3), .unset, .unset, .unset, .unset, .unset, .unset, .unset] [(.int (0 : Int32))])) (fun _ kk_ => XS.iconst X98.here hx rfl (hb hby at_82) kk_) ?_
            exact J99 _ _ X98 N98 e98 _ (by decide)
          · refine OWW.st (B := T98.setTop (mkF m 78 #[.val (.int n1), .val (.int n2), .val (.int n3), .val (.int n4), .val (.int n5), .val (.ref a92), .val (.ref a93), .val (.ref a94), .val (.int f0), .val (.int f1), .val (.int f2), .val (.int f3), .unset, .unset, .unset, .unset, .unset, .unset, .unset] [])) (fun _ kk_ => XS.ifNo X98.here hx rfl (hb hby at_75) rfl ((if0 _ _).trans (feq hc132).1) kk_) ?_
            refine OWW.st (B := T98.setTop (mkF m 79 #[.val (.int n1), .val (.int n2), .val (.int n3), .val (.int n4), .val (.int n5), .val (.ref a92), .val (.ref a93), .val (.ref a94), .val (.int f0), .val (.int f1), .val (.int f2), .val (.int f3), .unset, .unset, .unset, .unset, .unset, .unset, .unset] [(.int (1 : Int32))])) (fun _ kk_ => XS.iconst X98.here hx rfl (hb hby at_78) kk_) ?_
            refine OWW.st (B := T98.setTop (mkF m 83 #[.val (.int n1), .val (.int n2), .val (.int n3), .val (.int n4), .val (.int n5), .val (.ref a92), .val (.ref a93), .val (.ref a94), .val (.int f0), .val (.int f1), .val (.int f2), .val (.int f3), .unset, .unset, .unset, .unset, .unset, .unset, .unset] [(.int (1 : Int32))])) (fun _ kk_ => XS.goto X98.here hx rfl (pc0 := 79) (pc' := 83) rfl (hb hby at_79) (by decide) (by decide) kk_) ?_
            exact J99 _ _ X98 N98 e98 _ (by decide)
        refine OWW.st (B := T97.setTop (mkF m 58 #[.val (.int n1), .val (.int n2), .val (.int n3), .val (.int n4), .val (.int n5), .val (.ref a92), .val (.ref a93), .val (.ref a94), .val (.int f0), .val (.int f1), .val (.int f2), .unset, .unset, .unset, .unset, .unset, .unset, .unset, .unset] [(.int n4)])) (fun _ kk_ => XS.iloadN X97.here hx rfl (hb hby at_57) rfl kk_) ?_
        refine OWW.st (B := T97.setTop (mkF m 60 #[.val (.int n1), .val (.int n2), .val (.int n3), .val (.int n4), .val (.int n5), .val (.ref a92), .val (.ref a93), .val (.ref a94), .val (.int f0), .val (.int f1), .val (.int f2), .unset, .unset, .unset, .unset, .unset, .unset, .unset, .unset] [(.int (8 : Int32)), (.int n4)])) (fun _ kk_ => XS.bipush X97.here hx rfl (hb hby at_58) kk_) ?_
        refine OWW.st (B := T97.setTop (mkF m 61 #[.val (.int n1), .val (.int n2), .val (.int n3), .val (.int n4), .val (.int n5), .val (.ref a92), .val (.ref a93), .val (.ref a94), .val (.int f0), .val (.int f1), .val (.int f2), .unset, .unset, .unset, .unset, .unset, .unset, .unset, .unset] [(.int (n4 &&& (8 : Int32)))])) (fun _ kk_ => XS.iand X97.here hx rfl (hb hby at_60) rfl kk_) ?_
        by_cases hc133 : (n4 &&& (8 : Int32)) = (0 : Int32)
        · refine OWW.st (B := T97.setTop (mkF m 68 #[.val (.int n1), .val (.int n2), .val (.int n3), .val (.int n4), .val (.int n5), .val (.ref a92), .val (.ref a93), .val (.ref a94), .val (.int f0), .val (.int f1), .val (.int f2), .unset, .unset, .unset, .unset, .unset, .unset, .unset, .unset] [])) (fun _ kk_ => XS.ifYes X97.here hx rfl (pc0 := 61) (pc' := 68) rfl (hb hby at_61) rfl ((if0 _ _).trans (teq hc133).1) (by decide) (by decide) kk_) ?_
          refine OWW.st (B := T97.setTop (mkF m 69 #[.val (.int n1), .val (.int n2), .val (.int n3), .val (.int n4), .val (.int n5), .val (.ref a92), .val (.ref a93), .val (.ref a94), .val (.int f0), .val (.int f1), .val (.int f2), .unset, .unset, .unset, .unset, .unset, .unset, .unset, .unset] [(.int (0 : Int32))])) (fun _ kk_ => XS.iconst X97.here hx rfl (hb hby at_68) kk_) ?_
          exact J98 _ _ X97 N97 e97 _ (by decide)
        · refine OWW.st (B := T97.setTop (mkF m 64 #[.val (.int n1), .val (.int n2), .val (.int n3), .val (.int n4), .val (.int n5), .val (.ref a92), .val (.ref a93), .val (.ref a94), .val (.int f0), .val (.int f1), .val (.int f2), .unset, .unset, .unset, .unset, .unset, .unset, .unset, .unset] [])) (fun _ kk_ => XS.ifNo X97.here hx rfl (hb hby at_61) rfl ((if0 _ _).trans (feq hc133).1) kk_) ?_
          refine OWW.st (B := T97.setTop (mkF m 65 #[.val (.int n1), .val (.int n2), .val (.int n3), .val (.int n4), .val (.int n5), .val (.ref a92), .val (.ref a93), .val (.ref a94), .val (.int f0), .val (.int f1), .val (.int f2), .unset, .unset, .unset, .unset, .unset, .unset, .unset, .unset] [(.int (1 : Int32))])) (fun _ kk_ => XS.iconst X97.here hx rfl (hb hby at_64) kk_) ?_
          refine OWW.st (B := T97.setTop (mkF m 69 #[.val (.int n1), .val (.int n2), .val (.int n3), .val (.int n4), .val (.int n5), .val (.ref a92), .val (.ref a93), .val (.ref a94), .val (.int f0), .val (.int f1), .val (.int f2), .unset, .unset, .unset, .unset, .unset, .unset, .unset, .unset] [(.int (1 : Int32))])) (fun _ kk_ => XS.goto X97.here hx rfl (pc0 := 65) (pc' := 69) rfl (hb hby at_65) (by decide) (by decide) kk_) ?_
          exact J98 _ _ X97 N97 e97 _ (by decide)
      refine OWW.st (B := T96.setTop (mkF m 45 #[.val (.int n1), .val (.int n2), .val (.int n3), .val (.int n4), .val (.int n5), .val (.ref a92), .val (.ref a93), .val (.ref a94), .val (.int f0), .val (.int f1), .unset, .unset, .unset, .unset, .unset, .unset, .unset, .unset, .unset] [(.int n4)])) (fun _ kk_ => XS.iloadN X96.here hx rfl (hb hby at_44) rfl kk_) ?_
      refine OWW.st (B := T96.setTop (mkF m 46 #[.val (.int n1), .val (.int n2), .val (.int n3), .val (.int n4), .val (.int n5), .val (.ref a92), .val (.ref a93), .val (.ref a94), .val (.int f0), .val (.int f1), .unset, .unset, .unset, .unset, .unset, .unset, .unset, .unset, .unset] [(.int (4 : Int32)), (.int n4)])) (fun _ kk_ => XS.iconst X96.here hx rfl (hb hby at_45) kk_) ?_
      refine OWW.st (B := T96.setTop (mkF m 47 #[.val (.int n1), .val (.int n2), .val (.int n3), .val (.int n4), .val (.int n5), .val (.ref a92), .val (.ref a93), .val (.ref a94), .val (.int f0), .val (.int f1), .unset, .unset, .unset, .unset, .unset, .unset, .unset, .unset, .unset] [(.int (n4 &&& (4 : Int32)))])) (fun _ kk_ => XS.iand X96.here hx rfl (hb hby at_46) rfl kk_) ?_
      by_cases hc134 : (n4 &&& (4 : Int32)) = (0 : Int32)
      · refine OWW.st (B := T96.setTop (mkF m 54 #[.val (.int n1), .val (.int n2), .val (.int n3), .val (.int n4), .val (.int n5), .val (.ref a92), .val (.ref a93), .val (.ref a94), .val (.int f0), .val (.int f1), .unset, .unset, .unset, .unset, .unset, .unset, .unset, .unset, .unset] [])) (fun _ kk_ => XS.ifYes X96.here hx rfl (pc0 := 47) (pc' := 54) rfl (hb hby at_47) rfl ((if0 _ _).trans (teq hc134).1) (by decide) (by decide) kk_) ?_
        refine OWW.st (B := T96.setTop (mkF m 55 #[.val (.int n1), .val (.int n2), .val (.int n3), .val (.int n4), .val (.int n5), .val (.ref a92), .val (.ref a93), .val (.ref a94), .val (.int f0), .val (.int f1), .unset, .unset, .unset, .unset, .unset, .unset, .unset, .unset, .unset] [(.int (0 : Int32))])) (fun _ kk_ => XS.iconst X96.here hx rfl (hb hby at_54) kk_) ?_
        exact J97 _ _ X96 N96 e96 _ (by decide)
      · refine OWW.st (B := T96.setTop (mkF m 50 #[.val (.int n1), .val (.int n2), .val (.int n3), .val (.int n4), .val (.int n5), .val (.ref a92), .val (.ref a93), .val (.ref a94), .val (.int f0), .val (.int f1), .unset, .unset, .unset, .unset, .unset, .unset, .unset, .unset, .unset] [])) (fun _ kk_ => XS.ifNo X96.here hx rfl (hb hby at_47) rfl ((if0 _ _).trans (feq hc134).1) kk_) ?_
        refine OWW.st (B := T96.setTop (mkF m 51 #[.val (.int n1), .val (.int n2), .val (.int n3), .val (.int n4), .val (.int n5), .val (.ref a92), .val (.ref a93), .val (.ref a94), .val (.int f0), .val (.int f1), .unset, .unset, .unset, .unset, .unset, .unset, .unset, .unset, .unset] [(.int (1 : Int32))])) (fun _ kk_ => XS.iconst X96.here hx rfl (hb hby at_50) kk_) ?_
        refine OWW.st (B := T96.setTop (mkF m 55 #[.val (.int n1), .val (.int n2), .val (.int n3), .val (.int n4), .val (.int n5), .val (.ref a92), .val (.ref a93), .val (.ref a94), .val (.int f0), .val (.int f1), .unset, .unset, .unset, .unset, .unset, .unset, .unset, .unset, .unset] [(.int (1 : Int32))])) (fun _ kk_ => XS.goto X96.here hx rfl (pc0 := 51) (pc' := 55) rfl (hb hby at_51) (by decide) (by decide) kk_) ?_
        exact J97 _ _ X96 N96 e96 _ (by decide)
    refine OWW.st (B := T95.setTop (mkF m 32 #[.val (.int n1), .val (.int n2), .val (.int n3), .val (.int n4), .val (.int n5), .val (.ref a92), .val (.ref a93), .val (.ref a94), .val (.int f0), .unset, .unset, .unset, .unset, .unset, .unset, .unset, .unset, .unset, .unset] [(.int n4)])) (fun _ kk_ => XS.iloadN X95.here hx rfl (hb hby at_31) rfl kk_) ?_
    refine OWW.st (B := T95.setTop (mkF m 33 #[.val (.int n1), .val (.int n2), .val (.int n3), .val (.int n4), .val (.int n5), .val (.ref a92), .val (.ref a93), .val (.ref a94), .val (.int f0), .unset, .unset, .unset, .unset, .unset, .unset, .unset, .unset, .unset, .unset] [(.int (2 : Int32)), (.int n4)])) (fun _ kk_ => XS.iconst X95.here hx rfl (hb hby at_32) kk_) ?_
    refine OWW.st (B := T95.setTop (mkF m 34 #[.val (.int n1), .val (.int n2), .val (.int n3), .val (.int n4), .val (.int n5), .val (.ref a92), .val (.ref a93), .val (.ref a94), .val (.int f0), .unset, .unset, .unset, .unset, .unset, .unset, .unset, .unset, .unset, .unset] [(.int (n4 &&& (2 : Int32)))])) (fun _ kk_ => XS.iand X95.here hx rfl (hb hby at_33) rfl kk_) ?_
    by_cases hc135 : (n4 &&& (2 : Int32)) = (0 : Int32)
    · refine OWW.st (B := T95.setTop (mkF m 41 #[.val (.int n1), .val (.int n2), .val (.int n3), .val (.int n4), .val (.int n5), .val (.ref a92), .val (.ref a93), .val (.ref a94), .val (.int f0), .unset, .unset, .unset, .unset, .unset, .unset, .unset, .unset, .unset, .unset] [])) (fun _ kk_ => XS.ifYes X95.here hx rfl (pc0 := 34) (pc' := 41) rfl (hb hby at_34) rfl ((if0 _ _).trans (teq hc135).1) (by decide) (by decide) kk_) ?_
      refine OWW.st (B := T95.setTop (mkF m 42 #[.val (.int n1), .val (.int n2), .val (.int n3), .val (.int n4), .val (.int n5), .val (.ref a92), .val (.ref a93), .val (.ref a94), .val (.int f0), .unset, .unset, .unset, .unset, .unset, .unset, .unset, .unset, .unset, .unset] [(.int (0 : Int32))])) (fun _ kk_ => XS.iconst X95.here hx rfl (hb hby at_41) kk_) ?_
      exact J96 _ _ X95 N95 e95 _ (by decide)
    · refine OWW.st (B := T95.setTop (mkF m 37 #[.val (.int n1), .val (.int n2), .val (.int n3), .val (.int n4), .val (.int n5), .val (.ref a92), .val (.ref a93), .val (.ref a94), .val (.int f0), .unset, .unset, .unset, .unset, .unset, .unset, .unset, .unset, .unset, .unset] [])) (fun _ kk_ => XS.ifNo X95.here hx rfl (hb hby at_34) rfl ((if0 _ _).trans (feq hc135).1) kk_) ?_
      refine OWW.st (B := T95.setTop (mkF m 38 #[.val (.int n1), .val (.int n2), .val (.int n3), .val (.int n4), .val (.int n5), .val (.ref a92), .val (.ref a93), .val (.ref a94), .val (.int f0), .unset, .unset, .unset, .unset, .unset, .unset, .unset, .unset, .unset, .unset] [(.int (1 : Int32))])) (fun _ kk_ => XS.iconst X95.here hx rfl (hb hby at_37) kk_) ?_
      refine OWW.st (B := T95.setTop (mkF m 42 #[.val (.int n1), .val (.int n2), .val (.int n3), .val (.int n4), .val (.int n5), .val (.ref a92), .val (.ref a93), .val (.ref a94), .val (.int f0), .unset, .unset, .unset, .unset, .unset, .unset, .unset, .unset, .unset, .unset] [(.int (1 : Int32))])) (fun _ kk_ => XS.goto X95.here hx rfl (pc0 := 38) (pc' := 42) rfl (hb hby at_38) (by decide) (by decide) kk_) ?_
      exact J96 _ _ X95 N95 e95 _ (by decide)
  refine OWW.st (B := T94.setTop (mkF m 19 #[.val (.int n1), .val (.int n2), .val (.int n3), .val (.int n4), .val (.int n5), .val (.ref a92), .val (.ref a93), .val (.ref a94), .unset, .unset, .unset, .unset, .unset, .unset, .unset, .unset, .unset, .unset, .unset] [(.int n4)])) (fun _ kk_ => XS.iloadN X94.here hx rfl (hb hby at_18) rfl kk_) ?_
  refine OWW.st (B := T94.setTop (mkF m 20 #[.val (.int n1), .val (.int n2), .val (.int n3), .val (.int n4), .val (.int n5), .val (.ref a92), .val (.ref a93), .val (.ref a94), .unset, .unset, .unset, .unset, .unset, .unset, .unset, .unset, .unset, .unset, .unset] [(.int (1 : Int32)), (.int n4)])) (fun _ kk_ => XS.iconst X94.here hx rfl (hb hby at_19) kk_) ?_
  refine OWW.st (B := T94.setTop (mkF m 21 #[.val (.int n1), .val (.int n2), .val (.int n3), .val (.int n4), .val (.int n5), .val (.ref a92), .val (.ref a93), .val (.ref a94), .unset, .unset, .unset, .unset, .unset, .unset, .unset, .unset, .unset, .unset, .unset] [(.int (n4 &&& (1 : Int32)))])) (fun _ kk_ => XS.iand X94.here hx rfl (hb hby at_20) rfl kk_) ?_
  by_cases hc136 : (n4 &&& (1 : Int32)) = (0 : Int32)
  · refine OWW.st (B := T94.setTop (mkF m 28 #[.val (.int n1), .val (.int n2), .val (.int n3), .val (.int n4), .val (.int n5), .val (.ref a92), .val (.ref a93), .val (.ref a94), .unset, .unset, .unset, .unset, .unset, .unset, .unset, .unset, .unset, .unset, .unset] [])) (fun _ kk_ => XS.ifYes X94.here hx rfl (pc0 := 21) (pc' := 28) rfl (hb hby at_21) rfl ((if0 _ _).trans (teq hc136).1) (by decide) (by decide) kk_) ?_
    refine OWW.st (B := T94.setTop (mkF m 29 #[.val (.int n1), .val (.int n2), .val (.int n3), .val (.int n4), .val (.int n5), .val (.ref a92), .val (.ref a93), .val (.ref a94), .unset, .unset, .unset, .unset, .unset, .unset, .unset, .unset, .unset, .unset, .unset] [(.int (0 : Int32))])) (fun _ kk_ => XS.iconst X94.here hx rfl (hb hby at_28) kk_) ?_
    exact J95 _ _ X94 N94 e94 _ (by decide)
  · refine OWW.st (B := T94.setTop (mkF m 24 #[.val (.int n1), .val (.int n2), .val (.int n3), .val (.int n4), .val (.int n5), .val (.ref a92), .val (.ref a93), .val (.ref a94), .unset, .unset, .unset, .unset, .unset, .unset, .unset, .unset, .unset, .unset, .unset] [])) (fun _ kk_ => XS.ifNo X94.here hx rfl (hb hby at_21) rfl ((if0 _ _).trans (feq hc136).1) kk_) ?_
    refine OWW.st (B := T94.setTop (mkF m 25 #[.val (.int n1), .val (.int n2), .val (.int n3), .val (.int n4), .val (.int n5), .val (.ref a92), .val (.ref a93), .val (.ref a94), .unset, .unset, .unset, .unset, .unset, .unset, .unset, .unset, .unset, .unset, .unset] [(.int (1 : Int32))])) (fun _ kk_ => XS.iconst X94.here hx rfl (hb hby at_24) kk_) ?_
    refine OWW.st (B := T94.setTop (mkF m 29 #[.val (.int n1), .val (.int n2), .val (.int n3), .val (.int n4), .val (.int n5), .val (.ref a92), .val (.ref a93), .val (.ref a94), .unset, .unset, .unset, .unset, .unset, .unset, .unset, .unset, .unset, .unset, .unset] [(.int (1 : Int32))])) (fun _ kk_ => XS.goto X94.here hx rfl (pc0 := 25) (pc' := 29) rfl (hb hby at_25) (by decide) (by decide) kk_) ?_
    exact J95 _ _ X94 N94 e94 _ (by decide)
set_option maxRecDepth 65536 in
set_option maxHeartbeats 40000000 in
theorem comes_1 {Post : Tables → Env → Array Value → State → Outcome → State → Prop} (hpost : ∀ tb e args s v u, (limb_1_1.after args s (.returned v) u = true ∧ limb_1_2.after args s (.returned v) u = true ∧ True) → ReturnedEndW s (.returned v) u (Jvm.fieldLocs frame_1_writes args s ++ Jvm.arrayLocs frame_1_arrays args s ++ Jvm.staticLocs frame_1_statics s) 32 2176 → Post tb e args s (.returned v) u) :
    ArmFor flags0 classFile x code maxLocals ret World_1 tables_1 room_1 Calls_1 rest_1 Pre_1 Post := by
  intro l hfl _ _ p e ha hc hk s m args below hf hA hF happ hP
  obtain ⟨hcalls, hrest, hpre⟩ := hP
  obtain ⟨-, -, -, hnamed, -, -, -, hat⟩ := (Spec.applies_iff hf).mp happ
  obtain ⟨hg, hn⟩ := and_e (Cond.before_iff.mp (show (Jvm.Cond.and given_1 narrow_1).before args s = true from hpre))
  obtain ⟨k137, k138⟩ := and_e hg
  obtain ⟨k139, k140⟩ := and_e k138
  obtain ⟨k141, k142⟩ := and_e k140
  obtain ⟨k143, k144⟩ := and_e k142
  obtain ⟨k145, k146⟩ := and_e k144
  obtain ⟨w0, w1, w2, w3, w4, rfl⟩ : ∃ w0 w1 w2 w3 w4 : Value, args = #[w0, w1, w2, w3, w4] := by
    have hs : args.size = 5 := by simpa [Cond.value, given_1] using k137
    obtain ⟨L⟩ := args
    match L, hs with
    | [w0, w1, w2, w3, w4], _ => exact ⟨w0, w1, w2, w3, w4, rfl⟩
  have hw := fun d (hd : d ∈ tables_1) => atoms_spec (ws := Jvm.Cond.code x code maxLocals ret :: tables_1) hat d (List.mem_cons_of_mem _ hd)
  have hfit : Fit s := fun {y c} hc i hi => by
    obtain ⟨ha, rfl⟩ := Array.getElem?_eq_some_iff.mp hc
    have q := List.all_eq_true.mp ((Array.all_eq_true_iff_forall_mem.mp hF) _ (Array.getElem_mem ha)) i (List.mem_range.mpr hi)
    simpa [Array.getElem?_eq_getElem hi] using q
  obtain ⟨i0, ei0⟩ := is_v k139
  obtain rfl : w0 = (.int i0) := Option.some.inj ei0
  obtain ⟨i1, ei1⟩ := is_v k141
  obtain rfl : w1 = (.int i1) := Option.some.inj ei1
  obtain ⟨i2, ei2⟩ := is_v k143
  obtain rfl : w2 = (.int i2) := Option.some.inj ei2
  obtain ⟨i3, ei3⟩ := is_v k145
  obtain rfl : w3 = (.int i3) := Option.some.inj ei3
  obtain ⟨i4, ei4⟩ := is_v k146
  obtain rfl : w4 = (.int i4) := Option.some.inj ei4
  obtain ⟨hsets, hown0⟩ := atoms_of _ (rest_1_c_eq ▸ (show rest_1_c.before _ s = true from hrest))
  have hr0 := Cond.before_iff.mp hown0
  obtain ⟨k1, k2⟩ := and_e hn
  obtain ⟨k3, k4⟩ := and_e k2
  obtain ⟨k5, k6⟩ := and_e k4
  obtain ⟨k7, k8⟩ := and_e k6
  obtain ⟨k9, k10⟩ := and_e k8
  obtain ⟨k11, k12⟩ := and_e k10
  obtain ⟨k13, k14⟩ := and_e k12
  obtain ⟨k15, k16⟩ := and_e k14
  obtain ⟨k17, k18⟩ := and_e k16
  obtain ⟨k19, k20⟩ := and_e k18
  obtain ⟨k21, k22⟩ := and_e k20
  obtain ⟨a_DEFAULT, eva_DEFAULT⟩ := exa_v k1
  obtain ⟨a_REPEATABLE_READ, eva_REPEATABLE_READ⟩ := exa_v k3
  obtain ⟨a_MANDATORY, eva_MANDATORY⟩ := exa_v k5
  obtain ⟨a_REQUIRED, eva_REQUIRED⟩ := exa_v k7
  obtain ⟨a_SERIALIZABLE, eva_SERIALIZABLE⟩ := exa_v k9
  obtain ⟨a_REQUIRES_NEW, eva_REQUIRES_NEW⟩ := exa_v k11
  obtain ⟨a_READ_COMMITTED, eva_READ_COMMITTED⟩ := exa_v k13
  obtain ⟨a_READ_UNCOMMITTED, eva_READ_UNCOMMITTED⟩ := exa_v k15
  obtain ⟨a_NEVER, eva_NEVER⟩ := exa_v k17
  obtain ⟨a_NOT_SUPPORTED, eva_NOT_SUPPORTED⟩ := exa_v k19
  obtain ⟨a_SUPPORTS, eva_SUPPORTS⟩ := exa_v k21
  obtain ⟨a_NESTED, eva_NESTED⟩ := exa_v k22
  obtain ⟨a_EMPTY, eva_EMPTY⟩ := exa_v (Cond.before_iff.mp (hsets _ (List.mem_of_getElem? (i := 2) rfl)))
  have hS : OwnS s a_DEFAULT a_REPEATABLE_READ a_MANDATORY a_REQUIRED a_SERIALIZABLE a_REQUIRES_NEW a_READ_COMMITTED a_READ_UNCOMMITTED a_NEVER a_NOT_SUPPORTED a_SUPPORTS a_NESTED a_EMPTY := ⟨Sta.start eva_DEFAULT (Or.inr ⟨(w_6 hw), (w_7 hw)⟩), Exa.start eva_DEFAULT k1, Sta.start eva_REPEATABLE_READ (Or.inr ⟨(w_6 hw), (w_9 hw)⟩), Exa.start eva_REPEATABLE_READ k3, Sta.start eva_MANDATORY (Or.inr ⟨(w_14 hw), (w_15 hw)⟩), Exa.start eva_MANDATORY k5, Sta.start eva_REQUIRED (Or.inr ⟨(w_14 hw), (w_27 hw)⟩), Exa.start eva_REQUIRED k7, Sta.start eva_SERIALIZABLE (Or.inr ⟨(w_6 hw), (w_102 hw)⟩), Exa.start eva_SERIALIZABLE k9, Sta.start eva_REQUIRES_NEW (Or.inr ⟨(w_14 hw), (w_104 hw)⟩), Exa.start eva_REQUIRES_NEW k11, Sta.start eva_READ_COMMITTED (Or.inr ⟨(w_6 hw), (w_130 hw)⟩), Exa.start eva_READ_COMMITTED k13, Sta.start eva_READ_UNCOMMITTED (Or.inr ⟨(w_6 hw), (w_132 hw)⟩), Exa.start eva_READ_UNCOMMITTED k15, Sta.start eva_NEVER (Or.inr ⟨(w_14 hw), (w_134 hw)⟩), Exa.start eva_NEVER k17, Sta.start eva_NOT_SUPPORTED (Or.inr ⟨(w_14 hw), (w_137 hw)⟩), Exa.start eva_NOT_SUPPORTED k19, Sta.start eva_SUPPORTS (Or.inr ⟨(w_14 hw), (w_139 hw)⟩), Exa.start eva_SUPPORTS k21, Sta.start eva_NESTED (Or.inr ⟨(w_14 hw), (w_141 hw)⟩), Exa.start eva_NESTED k22, Sta.start eva_EMPTY (Or.inl (hsets _ (List.mem_of_getElem? (i := 1) rfl))), Exa.start eva_EMPTY (Cond.before_iff.mp (hsets _ (List.mem_of_getElem? (i := 2) rfl))), Fld.start ((fld_at eva_EMPTY).symm.trans (own_eq_int (Cond.before_iff.mp (hsets _ (List.mem_of_getElem? (i := 3) rfl))))), Fld.start ((fld_at eva_EMPTY).symm.trans (own_eq_int (Cond.before_iff.mp (hsets _ (List.mem_of_getElem? (i := 4) rfl)))))⟩
  obtain ⟨n, o, h1, h2, h3, _, L, rfl, ⟨rfl, N⟩, hq⟩ := rm0 l s _ hw tables_1 i0 i1 i2 i3 i4 a_DEFAULT a_REPEATABLE_READ a_MANDATORY a_REQUIRED a_SERIALIZABLE a_REQUIRES_NEW a_READ_COMMITTED a_READ_UNCOMMITTED a_NEVER a_NOT_SUPPORTED a_SUPPORTS a_NESTED a_EMPTY s.heap s.heap.size (Old.start s) hS p e ha hc hk s m _ below hf ((Spec.applies_iff_loose hf).mp happ).1 ⟨rfl, State.Warmed39.refl s, rfl⟩ trivial
  refine ⟨n, _, h1, h2, h3, hpost _ _ _ _ _ _ ⟨Cond.after_iff.mpr rfl, Cond.after_iff.mpr (eq_i res_at (Term.int_eval (1)) rfl), trivial⟩ ⟨hq.1, hq.2.1, hq.2.2.1, (hq.2.2.2.sift fun y hy => Or.inr (N y hy)).mono (by decide) (by decide)⟩⟩
theorem main_1_1 : Claimed_1_1 := comes_1 fun _ _ _ _ _ _ h hF => ⟨h.1, hF⟩
theorem main_1_2 : Claimed_1_2 := comes_1 fun _ _ _ _ _ _ h hF => ⟨h.2.1, hF⟩
end Jvm.Pilot.@@N@@
namespace Jvm.Pilot.@@N@@
open Jvm Jvm.ClassFile Sem Op Lib Jvm.Free Jvm.Stand Jvm.Pilot.@@N@@.Jvm.D
/-! MADE BY PROGRAM (witnessworld.py) out of the Statement's table words and the real class files: 20 classes; the members and pool entries that the words name. The judged class is class 1, her method 3. -/
namespace start1
open Jvm.ClassFile
def u (s : String) : CpInfo := .utf8 (stringToUtf16 s)
/-- a pool by its gaps: so many unusable entries, then the entry; so many at the end -/
def gap : Nat → List CpInfo → List CpInfo
  | 0, r => r
  | n + 1, r => .unusable :: gap n r
def poolList (es : List (Nat × CpInfo)) (last : Nat) : List CpInfo := es.foldr (fun e r => gap e.1 (e.2 :: r)) (gap last [])
def pool (es : List (Nat × CpInfo)) (last : Nat) : Array CpInfo := ⟨poolList es last⟩
def fileOf (pool : Array CpInfo) (this : Nat) (attrs : Array Attribute := #[]) (ms : Array MethodInfo := #[]) (fl : Nat := 33) (sup : Nat := 0) (ifs : Array Nat := #[]) (fds : Array FieldInfo := #[]) : ClassFile where
  minorVersion := 0
  majorVersion := 65
  constantPool := pool
  accessFlags := fl
  thisClass := this
  superClass := sup
  interfaces := ifs
  fields := fds
  methods := ms
  attributes := attrs
def plain (name : String) (sup : Option ClassId) : Class where
  name := name
  kind := .ordinary
  loader := none
  accessFlags := 33
  super := sup
  interfaces := #[]
  cf := none
  fields := #[]
  methods := #[]
  instanceTypes := #[]
  staticTypes := #[]
  resolved := #[]
  callSites := []
  init := .initialized
  statics := none
  mirror := none

def pool0 : Array CpInfo := pool [(5, u "<init>"), (0, u "()V"), (1, .class_ 10), (1, u "java/lang/Object")] 113

def k0c0 : Code := { maxStack := 0, maxLocals := 1, code := object_method_1_code, exceptionTable := #[], attributes := #[] }
def k0m0 : Method := { name := "<init>", desc := "()V", sig := { parameters := [], returnType := none }, accessFlags := 1, code := some k0c0 }
/-- java/lang/Object -/
def k0 : Class := { plain "java/lang/Object" none with
  accessFlags := 33
  interfaces := #[]
  cf := some (fileOf pool0 8 #[] #[{ accessFlags := 1, nameIndex := 5, descriptorIndex := 6, attributes := #[] }] 33 0 #[] #[])
  fields := #[]
  methods := #[k0m0]
  instanceTypes := #[]
  staticTypes := #[]
  resolved := Array.replicate 124 none
  statics := none }

def pool1 : Array CpInfo := pool [(2, .class_ 4), (0, .nameAndType 5 6), (0, u "java/lang/Object"), (0, u "<init>"), (0, u "()V"), (0, .integer 2147483647), (0, .fieldref 9 10), (0, .class_ 11), (0, .nameAndType 12 13), (0, u "com/example/demarcate/demarcate/Isolation"), (0, u "DEFAULT"), (0, u "Lcom/example/demarcate/demarcate/Isolation;"), (0, .fieldref 9 15), (0, .nameAndType 16 13), (0, u "READ_UNCOMMITTED"), (0, .fieldref 9 18), (0, .nameAndType 19 13), (0, u "READ_COMMITTED"), (0, .fieldref 9 21), (0, .nameAndType 22 13), (0, u "REPEATABLE_READ"), (0, .fieldref 9 24), (0, .nameAndType 25 13), (0, u "SERIALIZABLE"), (0, .fieldref 27 28), (0, .class_ 29), (0, .nameAndType 30 31), (0, u "com/example/demarcate/demarcate/Propagation"), (0, u "REQUIRED"), (0, u "Lcom/example/demarcate/demarcate/Propagation;"), (0, .fieldref 27 33), (0, .nameAndType 34 31), (0, u "SUPPORTS"), (0, .fieldref 27 36), (0, .nameAndType 37 31), (0, u "MANDATORY"), (0, .fieldref 27 39), (0, .nameAndType 40 31), (0, u "REQUIRES_NEW"), (0, .fieldref 27 42), (0, .nameAndType 43 31), (0, u "NOT_SUPPORTED"), (0, .fieldref 27 45), (0, .nameAndType 46 31), (0, u "NEVER"), (0, .fieldref 27 48), (0, .nameAndType 49 31), (0, u "NESTED"), (0, .methodref 51 52), (0, .class_ 53), (0, .nameAndType 54 55), (0, u "com/example/demarcate/demarcate/TransactionDefinitionWithIsolationPinLaw"), (0, u "iso"), (0, u "(I)Lcom/example/demarcate/demarcate/Isolation;"), (0, .methodref 51 57), (0, .nameAndType 58 59), (0, u "prop"), (0, u "(I)Lcom/example/demarcate/demarcate/Propagation;"), (0, .methodref 61 62), (0, .class_ 63), (0, .nameAndType 64 65), (0, u "java/lang/Math"), (0, u "max"), (0, u "(II)I"), (0, .class_ 67), (0, u "com/example/demarcate/demarcate/TransactionDefinition"), (0, .methodref 66 3), (0, .methodref 66 70), (0, .nameAndType 71 72), (0, u "withPropagation"), (0, u "(Lcom/example/demarcate/demarcate/Propagation;)Lcom/example/demarcate/demarcate/TransactionDefinition;"), (0, .methodref 66 74), (0, .nameAndType 75 76), (0, u "withReadOnly"), (0, u "(Z)Lcom/example/demarcate/demarcate/TransactionDefinition;"), (0, .methodref 66 78), (0, .nameAndType 79 80), (0, u "withTimeout"), (0, u "(I)Lcom/example/demarcate/demarcate/TransactionDefinition;"), (0, .methodref 66 82), (0, .nameAndType 83 84), (0, u "withIsolation"), (0, u "(Lcom/example/demarcate/demarcate/Isolation;)Lcom/example/demarcate/demarcate/TransactionDefinition;"), (0, .methodref 66 86), (0, .nameAndType 87 88), (0, u "isolation"), (0, u "()Lcom/example/demarcate/demarcate/Isolation;"), (0, .methodref 66 90), (0, .nameAndType 91 92), (0, u "propagation"), (0, u "()Lcom/example/demarcate/demarcate/Propagation;"), (0, .methodref 66 94), (0, .nameAndType 95 96), (0, u "isReadOnly"), (0, u "()Z"), (0, .methodref 66 98), (0, .nameAndType 99 100), (0, u "timeout"), (0, u "()Ljava/util/OptionalInt;"), (0, .methodref 102 103), (0, .class_ 104), (0, .nameAndType 105 106), (0, u "java/util/OptionalInt"), (0, u "equals"), (0, u "(Ljava/lang/Object;)Z"), (3, u "law"), (0, u "(IIIII)Z")] 2

def k1m0 : Method := { name := "<init>", desc := "()V", sig := { parameters := [], returnType := none }, accessFlags := 1, code := none }
def k1c1 : Code := { maxStack := 2, maxLocals := 2, code := method_2_code, exceptionTable := #[], attributes := #[] }
def k1m1 : Method := { name := "iso", desc := "(I)Lcom/example/demarcate/demarcate/Isolation;", sig := { parameters := [.int], returnType := some (.object "com/example/demarcate/demarcate/Isolation") }, accessFlags := 10, code := some k1c1 }
def k1c2 : Code := { maxStack := 2, maxLocals := 2, code := method_3_code, exceptionTable := #[], attributes := #[] }
def k1m2 : Method := { name := "prop", desc := "(I)Lcom/example/demarcate/demarcate/Propagation;", sig := { parameters := [.int], returnType := some (.object "com/example/demarcate/demarcate/Propagation") }, accessFlags := 10, code := some k1c2 }
def k1c3 : Code := { maxStack := 3, maxLocals := 19, code := code, exceptionTable := #[], attributes := #[] }
def k1m3 : Method := { name := "law", desc := "(IIIII)Z", sig := { parameters := [.int, .int, .int, .int, .int], returnType := some .boolean }, accessFlags := 9, code := some k1c3 }
/-- com/example/demarcate/demarcate/TransactionDefinitionWithIsolationPinLaw -/
def k1 : Class := { plain "com/example/demarcate/demarcate/TransactionDefinitionWithIsolationPinLaw" (some 0) with
  accessFlags := 49
  interfaces := #[]
  cf := some (fileOf pool1 51 #[] #[{ accessFlags := 1, nameIndex := 5, descriptorIndex := 6, attributes := #[] }, { accessFlags := 10, nameIndex := 54, descriptorIndex := 55, attributes := #[] }, { accessFlags := 10, nameIndex := 58, descriptorIndex := 59, attributes := #[] }, { accessFlags := 9, nameIndex := 110, descriptorIndex := 111, attributes := #[] }] 49 2 #[] #[])
  fields := #[]
  methods := #[k1m0, k1m1, k1m2, k1m3]
  instanceTypes := #[]
  staticTypes := #[]
  resolved := Array.replicate 114 none
  statics := none }

def pool2 : Array CpInfo := pool [(1, .class_ 2), (0, u "java/lang/constant/Constable"), (0, .class_ 4), (0, u "java/lang/Object")] 6

/-- java/lang/constant/Constable -/
def k2 : Class := { plain "java/lang/constant/Constable" (some 0) with
  accessFlags := 1537
  interfaces := #[]
  cf := some (fileOf pool2 1 #[] #[] 1537 3 #[] #[])
  fields := #[]
  methods := #[]
  instanceTypes := #[]
  staticTypes := #[]
  resolved := Array.replicate 11 none
  statics := none }

def pool3 : Array CpInfo := pool [(1, .class_ 2), (0, u "java/lang/Comparable"), (0, .class_ 4), (0, u "java/lang/Object")] 7

/-- java/lang/Comparable -/
def k3 : Class := { plain "java/lang/Comparable" (some 0) with
  accessFlags := 1537
  interfaces := #[]
  cf := some (fileOf pool3 1 #[] #[] 1537 3 #[] #[])
  fields := #[]
  methods := #[]
  instanceTypes := #[]
  staticTypes := #[]
  resolved := Array.replicate 12 none
  statics := none }

def pool4 : Array CpInfo := pool [(1, .class_ 2), (0, u "java/io/Serializable"), (0, .class_ 4), (0, u "java/lang/Object")] 2

/-- java/io/Serializable -/
def k4 : Class := { plain "java/io/Serializable" (some 0) with
  accessFlags := 1537
  interfaces := #[]
  cf := some (fileOf pool4 1 #[] #[] 1537 3 #[] #[])
  fields := #[]
  methods := #[]
  instanceTypes := #[]
  staticTypes := #[]
  resolved := Array.replicate 7 none
  statics := none }

def pool5 : Array CpInfo := pool [(2, .class_ 4), (1, u "java/lang/Enum"), (0, u "name"), (0, u "Ljava/lang/String;"), (2, u "ordinal"), (0, u "I"), (1, .class_ 14), (1, u "java/lang/Object"), (4, u "hash"), (86, .class_ 108), (1, u "java/lang/Enum$EnumDesc"), (2, .class_ 112), (0, u "java/lang/constant/Constable"), (0, .class_ 114), (0, u "java/lang/Comparable"), (0, .class_ 116), (0, u "java/io/Serializable")] 87

/-- java/lang/Enum -/
def k5 : Class := { plain "java/lang/Enum" (some 0) with
  accessFlags := 1057
  interfaces := #[2, 3, 4]
  cf := some (fileOf pool5 2 #[.nestMembers #[106]] #[] 1057 12 #[111, 113, 115] #[{ accessFlags := 18, nameIndex := 5, descriptorIndex := 6, attributes := #[] }, { accessFlags := 18, nameIndex := 9, descriptorIndex := 10, attributes := #[] }, { accessFlags := 2, nameIndex := 19, descriptorIndex := 10, attributes := #[] }])
  fields := #[{ name := "name", type := (.object "java/lang/String"), accessFlags := 18, slot := 0, constantValue := 0 }, { name := "ordinal", type := .int, accessFlags := 18, slot := 1, constantValue := 0 }, { name := "hash", type := .int, accessFlags := 2, slot := 2, constantValue := 0 }]
  methods := #[]
  instanceTypes := #[(.object "java/lang/String"), .int, .int]
  staticTypes := #[]
  resolved := Array.replicate 204 none
  statics := none }

def pool6 : Array CpInfo := pool [(1, .class_ 2), (0, u "com/example/demarcate/demarcate/Isolation"), (2, u "DEFAULT"), (0, u "Lcom/example/demarcate/demarcate/Isolation;"), (2, u "READ_UNCOMMITTED"), (2, u "READ_COMMITTED"), (2, u "REPEATABLE_READ"), (2, u "SERIALIZABLE"), (2, u "$VALUES"), (0, u "[Lcom/example/demarcate/demarcate/Isolation;"), (6, .class_ 31), (1, u "java/lang/Enum"), (8, u "jdbcLevel"), (0, u "Ljava/util/OptionalInt;")] 36

/-- com/example/demarcate/demarcate/Isolation -/
def k6 : Class := { plain "com/example/demarcate/demarcate/Isolation" (some 5) with
  accessFlags := 16433
  interfaces := #[]
  cf := some (fileOf pool6 1 #[] #[] 16433 29 #[] #[{ accessFlags := 16409, nameIndex := 5, descriptorIndex := 6, attributes := #[] }, { accessFlags := 16409, nameIndex := 9, descriptorIndex := 6, attributes := #[] }, { accessFlags := 16409, nameIndex := 12, descriptorIndex := 6, attributes := #[] }, { accessFlags := 16409, nameIndex := 15, descriptorIndex := 6, attributes := #[] }, { accessFlags := 16409, nameIndex := 18, descriptorIndex := 6, attributes := #[] }, { accessFlags := 18, nameIndex := 40, descriptorIndex := 41, attributes := #[] }, { accessFlags := 4122, nameIndex := 21, descriptorIndex := 22, attributes := #[] }])
  fields := #[{ name := "DEFAULT", type := (.object "com/example/demarcate/demarcate/Isolation"), accessFlags := 16409, slot := 0, constantValue := 0 }, { name := "READ_UNCOMMITTED", type := (.object "com/example/demarcate/demarcate/Isolation"), accessFlags := 16409, slot := 1, constantValue := 0 }, { name := "READ_COMMITTED", type := (.object "com/example/demarcate/demarcate/Isolation"), accessFlags := 16409, slot := 2, constantValue := 0 }, { name := "REPEATABLE_READ", type := (.object "com/example/demarcate/demarcate/Isolation"), accessFlags := 16409, slot := 3, constantValue := 0 }, { name := "SERIALIZABLE", type := (.object "com/example/demarcate/demarcate/Isolation"), accessFlags := 16409, slot := 4, constantValue := 0 }, { name := "jdbcLevel", type := (.object "java/util/OptionalInt"), accessFlags := 18, slot := 3, constantValue := 0 }, { name := "$VALUES", type := (.array (.object "com/example/demarcate/demarcate/Isolation")), accessFlags := 4122, slot := 5, constantValue := 0 }]
  methods := #[]
  instanceTypes := #[(.object "java/lang/String"), .int, .int, (.object "java/util/OptionalInt")]
  staticTypes := #[(.object "com/example/demarcate/demarcate/Isolation"), (.object "com/example/demarcate/demarcate/Isolation"), (.object "com/example/demarcate/demarcate/Isolation"), (.object "com/example/demarcate/demarcate/Isolation"), (.object "com/example/demarcate/demarcate/Isolation"), (.array (.object "com/example/demarcate/demarcate/Isolation"))]
  resolved := Array.replicate 78 none
  statics := some 0 }

def pool7 : Array CpInfo := pool [(1, .class_ 2), (0, u "com/example/demarcate/demarcate/Propagation"), (2, u "REQUIRED"), (0, u "Lcom/example/demarcate/demarcate/Propagation;"), (2, u "SUPPORTS"), (2, u "MANDATORY"), (2, u "REQUIRES_NEW"), (2, u "NOT_SUPPORTED"), (2, u "NEVER"), (2, u "NESTED"), (2, u "$VALUES"), (0, u "[Lcom/example/demarcate/demarcate/Propagation;"), (6, .class_ 37), (1, u "java/lang/Enum")] 29

/-- com/example/demarcate/demarcate/Propagation -/
def k7 : Class := { plain "com/example/demarcate/demarcate/Propagation" (some 5) with
  accessFlags := 16433
  interfaces := #[]
  cf := some (fileOf pool7 1 #[] #[] 16433 35 #[] #[{ accessFlags := 16409, nameIndex := 5, descriptorIndex := 6, attributes := #[] }, { accessFlags := 16409, nameIndex := 9, descriptorIndex := 6, attributes := #[] }, { accessFlags := 16409, nameIndex := 12, descriptorIndex := 6, attributes := #[] }, { accessFlags := 16409, nameIndex := 15, descriptorIndex := 6, attributes := #[] }, { accessFlags := 16409, nameIndex := 18, descriptorIndex := 6, attributes := #[] }, { accessFlags := 16409, nameIndex := 21, descriptorIndex := 6, attributes := #[] }, { accessFlags := 16409, nameIndex := 24, descriptorIndex := 6, attributes := #[] }, { accessFlags := 4122, nameIndex := 27, descriptorIndex := 28, attributes := #[] }])
  fields := #[{ name := "REQUIRED", type := (.object "com/example/demarcate/demarcate/Propagation"), accessFlags := 16409, slot := 0, constantValue := 0 }, { name := "SUPPORTS", type := (.object "com/example/demarcate/demarcate/Propagation"), accessFlags := 16409, slot := 1, constantValue := 0 }, { name := "MANDATORY", type := (.object "com/example/demarcate/demarcate/Propagation"), accessFlags := 16409, slot := 2, constantValue := 0 }, { name := "REQUIRES_NEW", type := (.object "com/example/demarcate/demarcate/Propagation"), accessFlags := 16409, slot := 3, constantValue := 0 }, { name := "NOT_SUPPORTED", type := (.object "com/example/demarcate/demarcate/Propagation"), accessFlags := 16409, slot := 4, constantValue := 0 }, { name := "NEVER", type := (.object "com/example/demarcate/demarcate/Propagation"), accessFlags := 16409, slot := 5, constantValue := 0 }, { name := "NESTED", type := (.object "com/example/demarcate/demarcate/Propagation"), accessFlags := 16409, slot := 6, constantValue := 0 }, { name := "$VALUES", type := (.array (.object "com/example/demarcate/demarcate/Propagation")), accessFlags := 4122, slot := 7, constantValue := 0 }]
  methods := #[]
  instanceTypes := #[(.object "java/lang/String"), .int, .int]
  staticTypes := #[(.object "com/example/demarcate/demarcate/Propagation"), (.object "com/example/demarcate/demarcate/Propagation"), (.object "com/example/demarcate/demarcate/Propagation"), (.object "com/example/demarcate/demarcate/Propagation"), (.object "com/example/demarcate/demarcate/Propagation"), (.object "com/example/demarcate/demarcate/Propagation"), (.object "com/example/demarcate/demarcate/Propagation"), (.array (.object "com/example/demarcate/demarcate/Propagation"))]
  resolved := Array.replicate 67 none
  statics := some 1 }

def pool8 : Array CpInfo := pool [(1, .class_ 2), (0, u "java/lang/Math"), (1, .class_ 6), (1, u "java/lang/Object"), (0, u "<init>"), (0, u "()V"), (89, .class_ 100), (1, u "java/lang/Math$RandomNumberGeneratorHolder"), (71, u "negativeZeroFloatBits"), (0, u "J"), (2, u "negativeZeroDoubleBits"), (21, u "max"), (46, u "$assertionsDisabled"), (0, u "Z"), (88, u "(II)I"), (2, u "twoToTheDoubleScaleDown"), (0, u "D"), (4, u "twoToTheDoubleScaleUp"), (9, u "E"), (3, u "PI"), (2, u "TAU"), (2, u "DEGREES_TO_RADIANS"), (0, u "RADIANS_TO_DEGREES")] 94

def k8m0 : Method := { name := "<init>", desc := "()V", sig := { parameters := [], returnType := none }, accessFlags := 2, code := none }
def k8c1 : Code := { maxStack := 2, maxLocals := 2, code := jdk_29_method_65_code, exceptionTable := #[], attributes := #[] }
def k8m1 : Method := { name := "max", desc := "(II)I", sig := { parameters := [.int, .int], returnType := some .int }, accessFlags := 9, code := some k8c1 }
/-- java/lang/Math -/
def k8 : Class := { plain "java/lang/Math" (some 0) with
  accessFlags := 49
  interfaces := #[]
  cf := some (fileOf pool8 1 #[.nestMembers #[98]] #[{ accessFlags := 2, nameIndex := 7, descriptorIndex := 8, attributes := #[] }, { accessFlags := 9, nameIndex := 198, descriptorIndex := 335, attributes := #[] }] 49 4 #[] #[{ accessFlags := 25, nameIndex := 354, descriptorIndex := 339, attributes := #[] }, { accessFlags := 25, nameIndex := 358, descriptorIndex := 339, attributes := #[] }, { accessFlags := 25, nameIndex := 361, descriptorIndex := 339, attributes := #[] }, { accessFlags := 26, nameIndex := 364, descriptorIndex := 339, attributes := #[] }, { accessFlags := 26, nameIndex := 365, descriptorIndex := 339, attributes := #[] }, { accessFlags := 26, nameIndex := 172, descriptorIndex := 173, attributes := #[] }, { accessFlags := 26, nameIndex := 176, descriptorIndex := 173, attributes := #[] }, { accessFlags := 8, nameIndex := 344, descriptorIndex := 339, attributes := #[] }, { accessFlags := 8, nameIndex := 338, descriptorIndex := 339, attributes := #[] }, { accessFlags := 4120, nameIndex := 245, descriptorIndex := 246, attributes := #[] }])
  fields := #[{ name := "E", type := .double, accessFlags := 25, slot := 0, constantValue := 0 }, { name := "PI", type := .double, accessFlags := 25, slot := 1, constantValue := 0 }, { name := "TAU", type := .double, accessFlags := 25, slot := 2, constantValue := 0 }, { name := "DEGREES_TO_RADIANS", type := .double, accessFlags := 26, slot := 3, constantValue := 0 }, { name := "RADIANS_TO_DEGREES", type := .double, accessFlags := 26, slot := 4, constantValue := 0 }, { name := "negativeZeroFloatBits", type := .long, accessFlags := 26, slot := 5, constantValue := 0 }, { name := "negativeZeroDoubleBits", type := .long, accessFlags := 26, slot := 6, constantValue := 0 }, { name := "twoToTheDoubleScaleUp", type := .double, accessFlags := 8, slot := 7, constantValue := 0 }, { name := "twoToTheDoubleScaleDown", type := .double, accessFlags := 8, slot := 8, constantValue := 0 }, { name := "$assertionsDisabled", type := .boolean, accessFlags := 4120, slot := 9, constantValue := 0 }]
  methods := #[k8m0, k8m1]
  instanceTypes := #[]
  staticTypes := #[.double, .double, .double, .double, .double, .long, .long, .double, .double, .boolean]
  resolved := Array.replicate 460 none
  statics := none }

def pool9 : Array CpInfo := pool [(1, .fieldref 2 3), (0, .class_ 4), (0, .nameAndType 5 6), (0, u "com/example/demarcate/demarcate/Propagation"), (0, u "REQUIRED"), (0, u "Lcom/example/demarcate/demarcate/Propagation;"), (0, .fieldref 8 9), (0, .class_ 10), (0, .nameAndType 11 12), (0, u "com/example/demarcate/demarcate/Isolation"), (0, u "DEFAULT"), (0, u "Lcom/example/demarcate/demarcate/Isolation;"), (0, .methodref 14 15), (0, .class_ 16), (0, .nameAndType 17 18), (0, u "java/util/OptionalInt"), (0, u "empty"), (0, u "()Ljava/util/OptionalInt;"), (0, .methodref 20 21), (0, .class_ 22), (0, .nameAndType 23 24), (0, u "com/example/demarcate/demarcate/TransactionDefinition"), (0, u "<init>"), (0, u "(Lcom/example/demarcate/demarcate/Propagation;Lcom/example/demarcate/demarcate/Isolation;ZLjava/util/OptionalInt;)V"), (0, .methodref 26 27), (0, .class_ 28), (0, .nameAndType 23 29), (0, u "java/lang/Object"), (0, u "()V"), (0, .fieldref 20 31), (0, .nameAndType 32 6), (0, u "propagation"), (0, .fieldref 20 34), (0, .nameAndType 35 12), (0, u "isolation"), (0, .fieldref 20 37), (0, .nameAndType 38 39), (0, u "readOnly"), (0, u "Z"), (0, .fieldref 20 41), (0, .nameAndType 42 43), (0, u "timeout"), (0, u "Ljava/util/OptionalInt;"), (0, .string 32), (0, .methodref 46 47), (0, .class_ 48), (0, .nameAndType 49 50), (0, u "java/util/Objects"), (0, u "requireNonNull"), (0, u "(Ljava/lang/Object;Ljava/lang/String;)Ljava/lang/Object;"), (0, .string 35), (9, .methodref 14 62), (0, .nameAndType 63 64), (0, u "of"), (0, u "(I)Ljava/util/OptionalInt;"), (2, u "withPropagation"), (0, u "(Lcom/example/demarcate/demarcate/Propagation;)Lcom/example/demarcate/demarcate/TransactionDefinition;"), (0, u "withIsolation"), (0, u "(Lcom/example/demarcate/demarcate/Isolation;)Lcom/example/demarcate/demarcate/TransactionDefinition;"), (0, u "withReadOnly"), (0, u "(Z)Lcom/example/demarcate/demarcate/TransactionDefinition;"), (0, u "withTimeout"), (0, u "(I)Lcom/example/demarcate/demarcate/TransactionDefinition;"), (1, u "()Lcom/example/demarcate/demarcate/Propagation;"), (0, u "()Lcom/example/demarcate/demarcate/Isolation;"), (0, u "isReadOnly"), (0, u "()Z")] 17

def k9c0 : Code := { maxStack := 5, maxLocals := 1, code := prog_19_method_1_code, exceptionTable := #[], attributes := #[] }
def k9m0 : Method := { name := "<init>", desc := "()V", sig := { parameters := [], returnType := none }, accessFlags := 1, code := some k9c0 }
def k9c1 : Code := { maxStack := 2, maxLocals := 5, code := prog_19_method_2_code, exceptionTable := #[], attributes := #[] }
def k9m1 : Method := { name := "<init>", desc := "(Lcom/example/demarcate/demarcate/Propagation;Lcom/example/demarcate/demarcate/Isolation;ZLjava/util/OptionalInt;)V", sig := { parameters := [(.object "com/example/demarcate/demarcate/Propagation"), (.object "com/example/demarcate/demarcate/Isolation"), .boolean, (.object "java/util/OptionalInt")], returnType := none }, accessFlags := 2, code := some k9c1 }
def k9c2 : Code := { maxStack := 6, maxLocals := 2, code := prog_19_method_3_code, exceptionTable := #[], attributes := #[] }
def k9m2 : Method := { name := "withPropagation", desc := "(Lcom/example/demarcate/demarcate/Propagation;)Lcom/example/demarcate/demarcate/TransactionDefinition;", sig := { parameters := [(.object "com/example/demarcate/demarcate/Propagation")], returnType := some (.object "com/example/demarcate/demarcate/TransactionDefinition") }, accessFlags := 1, code := some k9c2 }
def k9c3 : Code := { maxStack := 6, maxLocals := 2, code := prog_19_method_4_code, exceptionTable := #[], attributes := #[] }
def k9m3 : Method := { name := "withIsolation", desc := "(Lcom/example/demarcate/demarcate/Isolation;)Lcom/example/demarcate/demarcate/TransactionDefinition;", sig := { parameters := [(.object "com/example/demarcate/demarcate/Isolation")], returnType := some (.object "com/example/demarcate/demarcate/TransactionDefinition") }, accessFlags := 1, code := some k9c3 }
def k9c4 : Code := { maxStack := 6, maxLocals := 2, code := prog_19_method_5_code, exceptionTable := #[], attributes := #[] }
def k9m4 : Method := { name := "withReadOnly", desc := "(Z)Lcom/example/demarcate/demarcate/TransactionDefinition;", sig := { parameters := [.boolean], returnType := some (.object "com/example/demarcate/demarcate/TransactionDefinition") }, accessFlags := 1, code := some k9c4 }
def k9c5 : Code := { maxStack := 6, maxLocals := 2, code := prog_19_method_6_code, exceptionTable := #[], attributes := #[] }
def k9m5 : Method := { name := "withTimeout", desc := "(I)Lcom/example/demarcate/demarcate/TransactionDefinition;", sig := { parameters := [.int], returnType := some (.object "com/example/demarcate/demarcate/TransactionDefinition") }, accessFlags := 1, code := some k9c5 }
def k9c6 : Code := { maxStack := 1, maxLocals := 1, code := prog_19_method_7_code, exceptionTable := #[], attributes := #[] }
def k9m6 : Method := { name := "propagation", desc := "()Lcom/example/demarcate/demarcate/Propagation;", sig := { parameters := [], returnType := some (.object "com/example/demarcate/demarcate/Propagation") }, accessFlags := 1, code := some k9c6 }
def k9c7 : Code := { maxStack := 1, maxLocals := 1, code := prog_19_method_8_code, exceptionTable := #[], attributes := #[] }
def k9m7 : Method := { name := "isolation", desc := "()Lcom/example/demarcate/demarcate/Isolation;", sig := { parameters := [], returnType := some (.object "com/example/demarcate/demarcate/Isolation") }, accessFlags := 1, code := some k9c7 }
def k9c8 : Code := { maxStack := 1, maxLocals := 1, code := prog_19_method_9_code, exceptionTable := #[], attributes := #[] }
def k9m8 : Method := { name := "isReadOnly", desc := "()Z", sig := { parameters := [], returnType := some .boolean }, accessFlags := 1, code := some k9c8 }
def k9c9 : Code := { maxStack := 1, maxLocals := 1, code := prog_19_method_10_code, exceptionTable := #[], attributes := #[] }
def k9m9 : Method := { name := "timeout", desc := "()Ljava/util/OptionalInt;", sig := { parameters := [], returnType := some (.object "java/util/OptionalInt") }, accessFlags := 1, code := some k9c9 }
/-- com/example/demarcate/demarcate/TransactionDefinition -/
def k9 : Class := { plain "com/example/demarcate/demarcate/TransactionDefinition" (some 0) with
  accessFlags := 33
  interfaces := #[]
  cf := some (fileOf pool9 20 #[] #[{ accessFlags := 1, nameIndex := 23, descriptorIndex := 29, attributes := #[] }, { accessFlags := 2, nameIndex := 23, descriptorIndex := 24, attributes := #[] }, { accessFlags := 1, nameIndex := 67, descriptorIndex := 68, attributes := #[] }, { accessFlags := 1, nameIndex := 69, descriptorIndex := 70, attributes := #[] }, { accessFlags := 1, nameIndex := 71, descriptorIndex := 72, attributes := #[] }, { accessFlags := 1, nameIndex := 73, descriptorIndex := 74, attributes := #[] }, { accessFlags := 1, nameIndex := 32, descriptorIndex := 76, attributes := #[] }, { accessFlags := 1, nameIndex := 35, descriptorIndex := 77, attributes := #[] }, { accessFlags := 1, nameIndex := 78, descriptorIndex := 79, attributes := #[] }, { accessFlags := 1, nameIndex := 42, descriptorIndex := 18, attributes := #[] }] 33 26 #[] #[{ accessFlags := 18, nameIndex := 32, descriptorIndex := 6, attributes := #[] }, { accessFlags := 18, nameIndex := 35, descriptorIndex := 12, attributes := #[] }, { accessFlags := 18, nameIndex := 38, descriptorIndex := 39, attributes := #[] }, { accessFlags := 18, nameIndex := 42, descriptorIndex := 43, attributes := #[] }])
  fields := #[{ name := "propagation", type := (.object "com/example/demarcate/demarcate/Propagation"), accessFlags := 18, slot := 0, constantValue := 0 }, { name := "isolation", type := (.object "com/example/demarcate/demarcate/Isolation"), accessFlags := 18, slot := 1, constantValue := 0 }, { name := "readOnly", type := .boolean, accessFlags := 18, slot := 2, constantValue := 0 }, { name := "timeout", type := (.object "java/util/OptionalInt"), accessFlags := 18, slot := 3, constantValue := 0 }]
  methods := #[k9m0, k9m1, k9m2, k9m3, k9m4, k9m5, k9m6, k9m7, k9m8, k9m9]
  instanceTypes := #[(.object "com/example/demarcate/demarcate/Propagation"), (.object "com/example/demarcate/demarcate/Isolation"), .boolean, (.object "java/util/OptionalInt")]
  staticTypes := #[]
  resolved := Array.replicate 97 none
  statics := none }

def pool10 : Array CpInfo := pool [(1, .methodref 2 3), (0, .class_ 4), (0, .nameAndType 5 6), (0, u "java/lang/Object"), (0, u "<init>"), (0, u "()V"), (0, .fieldref 8 9), (0, .class_ 10), (0, .nameAndType 11 12), (0, u "java/util/OptionalInt"), (0, u "isPresent"), (0, u "Z"), (0, .fieldref 8 14), (0, .nameAndType 15 16), (0, u "value"), (0, u "I"), (0, .fieldref 8 18), (0, .nameAndType 19 20), (0, u "EMPTY"), (0, u "Ljava/util/OptionalInt;"), (0, .methodref 8 22), (0, .nameAndType 5 23), (0, u "(I)V"), (21, u "of"), (3, u "empty"), (46, u "()Ljava/util/OptionalInt;"), (0, u "(I)Ljava/util/OptionalInt;"), (27, u "equals"), (0, u "(Ljava/lang/Object;)Z")] 9

def k10m0 : Method := { name := "<init>", desc := "()V", sig := { parameters := [], returnType := none }, accessFlags := 2, code := none }
def k10c1 : Code := { maxStack := 1, maxLocals := 0, code := jdk_2649_method_2_code, exceptionTable := #[], attributes := #[] }
def k10m1 : Method := { name := "empty", desc := "()Ljava/util/OptionalInt;", sig := { parameters := [], returnType := some (.object "java/util/OptionalInt") }, accessFlags := 9, code := some k10c1 }
def k10c2 : Code := { maxStack := 2, maxLocals := 2, code := jdk_2649_method_3_code, exceptionTable := #[], attributes := #[] }
def k10m2 : Method := { name := "<init>", desc := "(I)V", sig := { parameters := [.int], returnType := none }, accessFlags := 2, code := some k10c2 }
def k10c3 : Code := { maxStack := 3, maxLocals := 1, code := jdk_2649_method_4_code, exceptionTable := #[], attributes := #[] }
def k10m3 : Method := { name := "of", desc := "(I)Ljava/util/OptionalInt;", sig := { parameters := [.int], returnType := some (.object "java/util/OptionalInt") }, accessFlags := 9, code := some k10c3 }
def k10c4 : Code := { maxStack := 2, maxLocals := 3, code := jdk_2649_method_15_code, exceptionTable := #[], attributes := #[] }
def k10m4 : Method := { name := "equals", desc := "(Ljava/lang/Object;)Z", sig := { parameters := [(.object "java/lang/Object")], returnType := some .boolean }, accessFlags := 1, code := some k10c4 }
/-- java/util/OptionalInt -/
def k10 : Class := { plain "java/util/OptionalInt" (some 0) with
  accessFlags := 49
  interfaces := #[]
  cf := some (fileOf pool10 8 #[] #[{ accessFlags := 2, nameIndex := 5, descriptorIndex := 6, attributes := #[] }, { accessFlags := 9, nameIndex := 49, descriptorIndex := 96, attributes := #[] }, { accessFlags := 2, nameIndex := 5, descriptorIndex := 23, attributes := #[] }, { accessFlags := 9, nameIndex := 45, descriptorIndex := 97, attributes := #[] }, { accessFlags := 1, nameIndex := 125, descriptorIndex := 126, attributes := #[] }] 49 2 #[] #[{ accessFlags := 26, nameIndex := 19, descriptorIndex := 20, attributes := #[] }, { accessFlags := 18, nameIndex := 11, descriptorIndex := 12, attributes := #[] }, { accessFlags := 18, nameIndex := 15, descriptorIndex := 16, attributes := #[] }])
  fields := #[{ name := "EMPTY", type := (.object "java/util/OptionalInt"), accessFlags := 26, slot := 0, constantValue := 0 }, { name := "isPresent", type := .boolean, accessFlags := 18, slot := 0, constantValue := 0 }, { name := "value", type := .int, accessFlags := 18, slot := 1, constantValue := 0 }]
  methods := #[k10m0, k10m1, k10m2, k10m3, k10m4]
  instanceTypes := #[.boolean, .int]
  staticTypes := #[(.object "java/util/OptionalInt")]
  resolved := Array.replicate 136 none
  statics := some 2 }

def pool11 : Array CpInfo := pool [(2, .class_ 4), (1, u "java/lang/CharSequence"), (42, .class_ 48), (0, u "java/lang/CharSequence$1CodePointIterator"), (10, .class_ 60), (0, u "java/lang/CharSequence$1CharIterator"), (5, .class_ 67), (0, u "java/lang/Object")] 63

/-- java/lang/CharSequence -/
def k11 : Class := { plain "java/lang/CharSequence" (some 0) with
  accessFlags := 1537
  interfaces := #[]
  cf := some (fileOf pool11 2 #[.nestMembers #[47, 59]] #[] 1537 66 #[] #[])
  fields := #[]
  methods := #[]
  instanceTypes := #[]
  staticTypes := #[]
  resolved := Array.replicate 131 none
  statics := none }

def pool12 : Array CpInfo := pool [(1, .class_ 2), (0, u "java/lang/constant/ConstantDesc"), (0, .class_ 4), (0, u "java/lang/Object")] 32

/-- java/lang/constant/ConstantDesc -/
def k12 : Class := { plain "java/lang/constant/ConstantDesc" (some 0) with
  accessFlags := 1537
  interfaces := #[]
  cf := some (fileOf pool12 1 #[] #[] 1537 3 #[] #[])
  fields := #[]
  methods := #[]
  instanceTypes := #[]
  staticTypes := #[]
  resolved := Array.replicate 37 none
  statics := none }

def pool13 : Array CpInfo := pool [(2, .class_ 4), (1, u "java/lang/Object"), (0, u "<init>"), (0, u "()V"), (3, .class_ 12), (1, u "java/lang/String"), (0, u "value"), (0, u "[B"), (2, u "coder"), (0, u "B"), (2, u "hash"), (0, u "I"), (2, u "hashIsZero"), (0, u "Z"), (13, u "COMPACT_STRINGS"), (534, .class_ 576), (0, u "java/lang/CharSequence"), (22, u "CASE_INSENSITIVE_ORDER"), (0, u "Ljava/util/Comparator;"), (500, u "serialPersistentFields"), (0, u "[Ljava/io/ObjectStreamField;"), (0, .class_ 1104), (0, u "java/lang/String$CaseInsensitiveComparator"), (1, .class_ 1107), (0, u "java/io/Serializable"), (0, .class_ 1109), (0, u "java/lang/Comparable"), (0, .class_ 1111), (0, u "java/lang/constant/Constable"), (0, .class_ 1113), (0, u "java/lang/constant/ConstantDesc"), (2, u "serialVersionUID"), (0, u "J"), (3, u "REPL"), (0, u "C"), (2, u "LATIN1"), (1, u "UTF16")] 323

def k13m0 : Method := { name := "<init>", desc := "()V", sig := { parameters := [], returnType := none }, accessFlags := 1, code := none }
/-- java/lang/String -/
def k13 : Class := { plain "java/lang/String" (some 0) with
  accessFlags := 49
  interfaces := #[4, 3, 11, 2, 12]
  cf := some (fileOf pool13 10 #[.nestMembers #[1103]] #[{ accessFlags := 1, nameIndex := 5, descriptorIndex := 6, attributes := #[] }] 49 2 #[1106, 1108, 575, 1110, 1112] #[{ accessFlags := 18, nameIndex := 13, descriptorIndex := 14, attributes := #[] }, { accessFlags := 18, nameIndex := 17, descriptorIndex := 18, attributes := #[] }, { accessFlags := 2, nameIndex := 21, descriptorIndex := 22, attributes := #[] }, { accessFlags := 2, nameIndex := 25, descriptorIndex := 26, attributes := #[] }, { accessFlags := 26, nameIndex := 1116, descriptorIndex := 1117, attributes := #[] }, { accessFlags := 24, nameIndex := 40, descriptorIndex := 26, attributes := #[] }, { accessFlags := 26, nameIndex := 1101, descriptorIndex := 1102, attributes := #[] }, { accessFlags := 26, nameIndex := 1121, descriptorIndex := 1122, attributes := #[] }, { accessFlags := 25, nameIndex := 599, descriptorIndex := 600, attributes := #[] }, { accessFlags := 24, nameIndex := 1125, descriptorIndex := 18, attributes := #[] }, { accessFlags := 24, nameIndex := 1127, descriptorIndex := 18, attributes := #[] }])
  fields := #[{ name := "value", type := (.array .byte), accessFlags := 18, slot := 0, constantValue := 0 }, { name := "coder", type := .byte, accessFlags := 18, slot := 1, constantValue := 0 }, { name := "hash", type := .int, accessFlags := 2, slot := 2, constantValue := 0 }, { name := "hashIsZero", type := .boolean, accessFlags := 2, slot := 3, constantValue := 0 }, { name := "serialVersionUID", type := .long, accessFlags := 26, slot := 0, constantValue := 0 }, { name := "COMPACT_STRINGS", type := .boolean, accessFlags := 24, slot := 1, constantValue := 0 }, { name := "serialPersistentFields", type := (.array (.object "java/io/ObjectStreamField")), accessFlags := 26, slot := 2, constantValue := 0 }, { name := "REPL", type := .char, accessFlags := 26, slot := 3, constantValue := 0 }, { name := "CASE_INSENSITIVE_ORDER", type := (.object "java/util/Comparator"), accessFlags := 25, slot := 4, constantValue := 0 }, { name := "LATIN1", type := .byte, accessFlags := 24, slot := 5, constantValue := 0 }, { name := "UTF16", type := .byte, accessFlags := 24, slot := 6, constantValue := 0 }]
  methods := #[k13m0]
  instanceTypes := #[(.array .byte), .byte, .int, .boolean]
  staticTypes := #[.long, .boolean, (.array (.object "java/io/ObjectStreamField")), .char, (.object "java/util/Comparator"), .byte, .byte]
  resolved := Array.replicate 1451 none
  statics := none }

def pool14 : Array CpInfo := pool [(2, .class_ 4), (1, u "java/lang/Object"), (0, u "<init>"), (0, u "()V"), (35, .class_ 44), (1, u "java/util/Objects"), (0, u "requireNonNull"), (48, u "(Ljava/lang/Object;Ljava/lang/String;)Ljava/lang/Object;")] 89

def k14m0 : Method := { name := "<init>", desc := "()V", sig := { parameters := [], returnType := none }, accessFlags := 2, code := none }
def k14c1 : Code := { maxStack := 3, maxLocals := 2, code := jdk_31_method_11_code, exceptionTable := #[], attributes := #[] }
def k14m1 : Method := { name := "requireNonNull", desc := "(Ljava/lang/Object;Ljava/lang/String;)Ljava/lang/Object;", sig := { parameters := [(.object "java/lang/Object"), (.object "java/lang/String")], returnType := some (.object "java/lang/Object") }, accessFlags := 9, code := some k14c1 }
/-- java/util/Objects -/
def k14 : Class := { plain "java/util/Objects" (some 0) with
  accessFlags := 49
  interfaces := #[]
  cf := some (fileOf pool14 42 #[] #[{ accessFlags := 2, nameIndex := 5, descriptorIndex := 6, attributes := #[] }, { accessFlags := 9, nameIndex := 45, descriptorIndex := 94, attributes := #[] }] 49 2 #[] #[])
  fields := #[]
  methods := #[k14m0, k14m1]
  instanceTypes := #[]
  staticTypes := #[]
  resolved := Array.replicate 184 none
  statics := none }

def pool15 : Array CpInfo := pool [(1, u "java/lang/Cloneable"), (0, .class_ 1), (0, u "java/lang/Object"), (0, .class_ 3)] 3

/-- java/lang/Cloneable -/
def k15 : Class := { plain "java/lang/Cloneable" (some 0) with
  accessFlags := 1537
  interfaces := #[]
  cf := some (fileOf pool15 2 #[] #[] 1537 4 #[] #[])
  fields := #[]
  methods := #[]
  instanceTypes := #[]
  staticTypes := #[]
  resolved := Array.replicate 8 none
  statics := none }

/-- the primitive byte -/
def k16 : Class := { plain "byte" none with kind := .primitive 'B', accessFlags := 0x411 }
/-- [B -/
def k17 : Class := { plain "[B" (some 0) with kind := .array 16 .byte, interfaces := #[15, 4], accessFlags := 1041 }

/-- the primitive int -/
def k18 : Class := { plain "int" none with kind := .primitive 'I', accessFlags := 0x411 }
/-- [I -/
def k19 : Class := { plain "[I" (some 0) with kind := .array 18 .int, interfaces := #[15, 4], accessFlags := 1041 }

def heap : Heap := #[{ cls := 6, slots := #[.ref 3, .ref 10, .ref 9, .ref 4, .ref 7, .null], vm := .statics 6 },
  { cls := 7, slots := #[.ref 6, .ref 13, .ref 5, .ref 8, .ref 12, .ref 11, .ref 14, .null], vm := .statics 7 },
  { cls := 10, slots := #[.ref 15], vm := .statics 10 },
  { cls := 6, slots := #[.null, .int 0, .int 0, .null], vm := .none },
  { cls := 6, slots := #[.null, .int 0, .int 0, .null], vm := .none },
  { cls := 7, slots := #[.null, .int 0, .int 0], vm := .none },
  { cls := 7, slots := #[.null, .int 0, .int 0], vm := .none },
  { cls := 6, slots := #[.null, .int 0, .int 0, .null], vm := .none },
  { cls := 7, slots := #[.null, .int 0, .int 0], vm := .none },
  { cls := 6, slots := #[.null, .int 0, .int 0, .null], vm := .none },
  { cls := 6, slots := #[.null, .int 0, .int 0, .null], vm := .none },
  { cls := 7, slots := #[.null, .int 0, .int 0], vm := .none },
  { cls := 7, slots := #[.null, .int 0, .int 0], vm := .none },
  { cls := 7, slots := #[.null, .int 0, .int 0], vm := .none },
  { cls := 7, slots := #[.null, .int 0, .int 0], vm := .none },
  { cls := 10, slots := #[.int 0, .int 0], vm := .none }]
def classes : Array Class := #[k0, k1, k2, k3, k4, k5, k6, k7, k8, k9, k10, k11, k12, k13, k14, k15, k16, k17, k18, k19]
def interned : List (Array UInt16 × Addr) := []
def slotsUsed : Nat := 58
def theMethod : MethodId := ⟨1, 3⟩
def args0 : Array Value := #[.int 5, .int 7, .int 1, .int 2, .int 3]
def aboutOver (below : List Frame) : State where
  vm := { classes := classes, interned := interned.toArray }
  heap := heap
  slotsUsed := slotsUsed
  threads := #[{ frames := .invoking theMethod args0 :: below }]
def below0 : List Frame := [.native { method := ⟨0, 0⟩, args := #[] }]
def about1 : State := aboutOver below0
def p0 : Program := .bare "" "" ""
def e0 : Env := launch0.env 0 0 0
theorem w_frames : about1.frames = Frame.invoking theMethod args0 :: below0 := rfl
set_option maxRecDepth 65536 in
theorem w_args : argsFit about1.vm theMethod args0 = true := by decide +kernel
set_option maxRecDepth 65536 in
theorem w_heap : heapFits about1 = true := by decide +kernel
set_option maxRecDepth 65536 in
theorem w_runnable : about1.curStatus? = some .runnable := by decide +kernel
set_option maxRecDepth 65536 in
theorem w_alone : about1.alone = true := by decide +kernel
set_option maxRecDepth 65536 in
theorem w_named : about1.methodNamed? x = some theMethod := by decide +kernel
set_option maxRecDepth 65536 in
theorem w_hears : about1.hears theMethod below0 = true := by decide +kernel
set_option maxRecDepth 65536 in
theorem w_ripe : about1.ripe theMethod args0 below0 = true := by decide +kernel
theorem w_running : about1.status = .running := rfl
set_option maxRecDepth 65536 in
theorem w_room : about1.hasRoom e0.platform room_1 = true :=
  launch0.hasRoom_least _ room_1 (by decide +kernel) (by decide +kernel) (by decide +kernel) (by decide +kernel) (by decide +kernel) (by decide +kernel)
theorem allAtoms_all (ts : List Jvm.Cond) (a : Array Jvm.Value) (st : Jvm.State) : (allAtoms ts).before a st = ts.all (fun c => c.before a st) := by
  induction ts with
  | nil => rfl
  | cons c t ih =>
    show (Jvm.Cond.and c (allAtoms t)).before a st = _
    rw [Jvm.Cond.before_and, ih, List.all_cons]
def words1 : List Jvm.Cond := Jvm.Cond.code x code maxLocals ret :: tables_1
/-- a 'code' word, met by the world's own term for the bytes: nothing is compared byte by byte -/
theorem code_word {y : MethodName} {bytes : ByteArray} {mx : Nat} {rt : Option FieldType} {a : Array Value} {s : State} {m : MethodId} {meth : Method} {c : Code} (h1 : s.methodNamed? y = some m) (h2 : s.vm.method? m = some meth) (h3 : meth.code = some c) (h4 : c.code = bytes)
    (h5 : (c.maxLocals == mx && c.exceptionTable.isEmpty && decide (c.maxStack ≤ mostOperands) && decide (meth.sig.returnType = rt) && !meth.locks && decide (parseMethodDescriptor y.desc = some meth.sig)) = true) : (Jvm.Cond.code y bytes mx rt).before a s = true := by
  simp only [Bool.and_eq_true, beq_iff_eq, Bool.not_eq_true', decide_eq_true_eq] at h5
  obtain ⟨⟨⟨⟨⟨g1, g2⟩, g3⟩, g4⟩, g5⟩, g6⟩ := h5
  simp [Cond.before, Cond.holds, Cond.value, h1, h2, h3, h4, g1, g2, g3, g4, g5, g6]
def isCode : Jvm.Cond → Bool
  | .code _ _ _ _ => true
  | _ => false
theorem all_split {L : List Jvm.Cond} {P : Jvm.Cond → Bool} (h1 : L.all (fun c => isCode c || P c) = true) (h2 : ∀ c ∈ L.filter isCode, P c = true) : L.all P = true := by
  refine List.all_eq_true.mpr fun c hc => ?_
  have h := List.all_eq_true.mp h1 c hc
  rcases Bool.eq_false_or_eq_true (isCode c) with hi | hi
  · exact h2 c (List.mem_filter.mpr ⟨hc, hi⟩)
  · simpa [hi] using h
set_option maxRecDepth 65536 in
theorem w_c0 : (Jvm.Cond.code x code maxLocals ret).before args0 about1 = true := code_word (m := ⟨1, 3⟩) (meth := k1m3) (c := k1c3) (by decide +kernel) rfl rfl rfl (by decide +kernel)
set_option maxRecDepth 65536 in
theorem w_c1 : (Jvm.Cond.code ({ cls := "com/example/demarcate/demarcate/TransactionDefinitionWithIsolationPinLaw", name := "iso", desc := "(I)Lcom/example/demarcate/demarcate/Isolation;" } : Jvm.MethodName) method_2_code (2 : Nat) (Option.some (Jvm.ClassFile.FieldType.object "com/example/demarcate/demarcate/Isolation"))).before args0 about1 = true := code_word (m := ⟨1, 1⟩) (meth := k1m1) (c := k1c1) (by decide +kernel) rfl rfl rfl (by decide +kernel)
set_option maxRecDepth 65536 in
theorem w_c2 : (Jvm.Cond.code ({ cls := "com/example/demarcate/demarcate/TransactionDefinitionWithIsolationPinLaw", name := "prop", desc := "(I)Lcom/example/demarcate/demarcate/Propagation;" } : Jvm.MethodName) method_3_code (2 : Nat) (Option.some (Jvm.ClassFile.FieldType.object "com/example/demarcate/demarcate/Propagation"))).before args0 about1 = true := code_word (m := ⟨1, 2⟩) (meth := k1m2) (c := k1c2) (by decide +kernel) rfl rfl rfl (by decide +kernel)
set_option maxRecDepth 65536 in
theorem w_c3 : (Jvm.Cond.code ({ cls := "java/lang/Math", name := "max", desc := "(II)I" } : Jvm.MethodName) jdk_29_method_65_code (2 : Nat) (Option.some Jvm.ClassFile.FieldType.int)).before args0 about1 = true := code_word (m := ⟨8, 1⟩) (meth := k8m1) (c := k8c1) (by decide +kernel) rfl rfl rfl (by decide +kernel)
set_option maxRecDepth 65536 in
theorem w_c4 : (Jvm.Cond.code ({ cls := "com/example/demarcate/demarcate/TransactionDefinition", name := "<init>", desc := "()V" } : Jvm.MethodName) prog_19_method_1_code (1 : Nat) (Option.none : Option Jvm.ClassFile.FieldType)).before args0 about1 = true := code_word (m := ⟨9, 0⟩) (meth := k9m0) (c := k9c0) (by decide +kernel) rfl rfl rfl (by decide +kernel)
set_option maxRecDepth 65536 in
theorem w_c5 : (Jvm.Cond.code ({ cls := "java/util/OptionalInt", name := "empty", desc := "()Ljava/util/OptionalInt;" } : Jvm.MethodName) jdk_2649_method_2_code (0 : Nat) (Option.some (Jvm.ClassFile.FieldType.object "java/util/OptionalInt"))).before args0 about1 = true := code_word (m := ⟨10, 1⟩) (meth := k10m1) (c := k10c1) (by decide +kernel) rfl rfl rfl (by decide +kernel)
set_option maxRecDepth 65536 in
theorem w_c6 : (Jvm.Cond.code ({ cls := "com/example/demarcate/demarcate/TransactionDefinition", name := "<init>", desc := "(Lcom/example/demarcate/demarcate/Propagation;Lcom/example/demarcate/demarcate/Isolation;ZLjava/util/OptionalInt;)V" } : Jvm.MethodName) prog_19_method_2_code (5 : Nat) (Option.none : Option Jvm.ClassFile.FieldType)).before args0 about1 = true := code_word (m := ⟨9, 1⟩) (meth := k9m1) (c := k9c1) (by decide +kernel) rfl rfl rfl (by decide +kernel)
set_option maxRecDepth 65536 in
theorem w_c7 : (Jvm.Cond.code ({ cls := "java/lang/Object", name := "<init>", desc := "()V" } : Jvm.MethodName) object_method_1_code (1 : Nat) (Option.none : Option Jvm.ClassFile.FieldType)).before args0 about1 = true := code_word (m := ⟨0, 0⟩) (meth := k0m0) (c := k0c0) (by decide +kernel) rfl rfl rfl (by decide +kernel)
set_option maxRecDepth 65536 in
theorem w_c8 : (Jvm.Cond.code ({ cls := "com/example/demarcate/demarcate/TransactionDefinition", name := "withPropagation", desc := "(Lcom/example/demarcate/demarcate/Propagation;)Lcom/example/demarcate/demarcate/TransactionDefinition;" } : Jvm.MethodName) prog_19_method_3_code (2 : Nat) (Option.some (Jvm.ClassFile.FieldType.object "com/example/demarcate/demarcate/TransactionDefinition"))).before args0 about1 = true := code_word (m := ⟨9, 2⟩) (meth := k9m2) (c := k9c2) (by decide +kernel) rfl rfl rfl (by decide +kernel)
set_option maxRecDepth 65536 in
theorem w_c9 : (Jvm.Cond.code ({ cls := "java/util/Objects", name := "requireNonNull", desc := "(Ljava/lang/Object;Ljava/lang/String;)Ljava/lang/Object;" } : Jvm.MethodName) jdk_31_method_11_code (2 : Nat) (Option.some (Jvm.ClassFile.FieldType.object "java/lang/Object"))).before args0 about1 = true := code_word (m := ⟨14, 1⟩) (meth := k14m1) (c := k14c1) (by decide +kernel) rfl rfl rfl (by decide +kernel)
set_option maxRecDepth 65536 in
theorem w_c10 : (Jvm.Cond.code ({ cls := "com/example/demarcate/demarcate/TransactionDefinition", name := "withIsolation", desc := "(Lcom/example/demarcate/demarcate/Isolation;)Lcom/example/demarcate/demarcate/TransactionDefinition;" } : Jvm.MethodName) prog_19_method_4_code (2 : Nat) (Option.some (Jvm.ClassFile.FieldType.object "com/example/demarcate/demarcate/TransactionDefinition"))).before args0 about1 = true := code_word (m := ⟨9, 3⟩) (meth := k9m3) (c := k9c3) (by decide +kernel) rfl rfl rfl (by decide +kernel)
set_option maxRecDepth 65536 in
theorem w_c11 : (Jvm.Cond.code ({ cls := "com/example/demarcate/demarcate/TransactionDefinition", name := "isolation", desc := "()Lcom/example/demarcate/demarcate/Isolation;" } : Jvm.MethodName) prog_19_method_8_code (1 : Nat) (Option.some (Jvm.ClassFile.FieldType.object "com/example/demarcate/demarcate/Isolation"))).before args0 about1 = true := code_word (m := ⟨9, 7⟩) (meth := k9m7) (c := k9c7) (by decide +kernel) rfl rfl rfl (by decide +kernel)
set_option maxRecDepth 65536 in
theorem w_c12 : (Jvm.Cond.code ({ cls := "com/example/demarcate/demarcate/TransactionDefinition", name := "propagation", desc := "()Lcom/example/demarcate/demarcate/Propagation;" } : Jvm.MethodName) prog_19_method_7_code (1 : Nat) (Option.some (Jvm.ClassFile.FieldType.object "com/example/demarcate/demarcate/Propagation"))).before args0 about1 = true := code_word (m := ⟨9, 6⟩) (meth := k9m6) (c := k9c6) (by decide +kernel) rfl rfl rfl (by decide +kernel)
set_option maxRecDepth 65536 in
theorem w_c13 : (Jvm.Cond.code ({ cls := "com/example/demarcate/demarcate/TransactionDefinition", name := "isReadOnly", desc := "()Z" } : Jvm.MethodName) prog_19_method_9_code (1 : Nat) (Option.some Jvm.ClassFile.FieldType.boolean)).before args0 about1 = true := code_word (m := ⟨9, 8⟩) (meth := k9m8) (c := k9c8) (by decide +kernel) rfl rfl rfl (by decide +kernel)
set_option maxRecDepth 65536 in
theorem w_c14 : (Jvm.Cond.code ({ cls := "com/example/demarcate/demarcate/TransactionDefinition", name := "timeout", desc := "()Ljava/util/OptionalInt;" } : Jvm.MethodName) prog_19_method_10_code (1 : Nat) (Option.some (Jvm.ClassFile.FieldType.object "java/util/OptionalInt"))).before args0 about1 = true := code_word (m := ⟨9, 9⟩) (meth := k9m9) (c := k9c9) (by decide +kernel) rfl rfl rfl (by decide +kernel)
set_option maxRecDepth 65536 in
theorem w_c15 : (Jvm.Cond.code ({ cls := "java/util/OptionalInt", name := "equals", desc := "(Ljava/lang/Object;)Z" } : Jvm.MethodName) jdk_2649_method_15_code (3 : Nat) (Option.some Jvm.ClassFile.FieldType.boolean)).before args0 about1 = true := code_word (m := ⟨10, 4⟩) (meth := k10m4) (c := k10c4) (by decide +kernel) rfl rfl rfl (by decide +kernel)
set_option maxRecDepth 65536 in
theorem w_c16 : (Jvm.Cond.code ({ cls := "com/example/demarcate/demarcate/TransactionDefinition", name := "withReadOnly", desc := "(Z)Lcom/example/demarcate/demarcate/TransactionDefinition;" } : Jvm.MethodName) prog_19_method_5_code (2 : Nat) (Option.some (Jvm.ClassFile.FieldType.object "com/example/demarcate/demarcate/TransactionDefinition"))).before args0 about1 = true := code_word (m := ⟨9, 4⟩) (meth := k9m4) (c := k9c4) (by decide +kernel) rfl rfl rfl (by decide +kernel)
set_option maxRecDepth 65536 in
theorem w_c17 : (Jvm.Cond.code ({ cls := "com/example/demarcate/demarcate/TransactionDefinition", name := "withTimeout", desc := "(I)Lcom/example/demarcate/demarcate/TransactionDefinition;" } : Jvm.MethodName) prog_19_method_6_code (2 : Nat) (Option.some (Jvm.ClassFile.FieldType.object "com/example/demarcate/demarcate/TransactionDefinition"))).before args0 about1 = true := code_word (m := ⟨9, 5⟩) (meth := k9m5) (c := k9c5) (by decide +kernel) rfl rfl rfl (by decide +kernel)
set_option maxRecDepth 65536 in
theorem w_c18 : (Jvm.Cond.code ({ cls := "java/util/OptionalInt", name := "of", desc := "(I)Ljava/util/OptionalInt;" } : Jvm.MethodName) jdk_2649_method_4_code (1 : Nat) (Option.some (Jvm.ClassFile.FieldType.object "java/util/OptionalInt"))).before args0 about1 = true := code_word (m := ⟨10, 3⟩) (meth := k10m3) (c := k10c3) (by decide +kernel) rfl rfl rfl (by decide +kernel)
set_option maxRecDepth 65536 in
theorem w_c19 : (Jvm.Cond.code ({ cls := "java/util/OptionalInt", name := "<init>", desc := "(I)V" } : Jvm.MethodName) jdk_2649_method_3_code (2 : Nat) (Option.none : Option Jvm.ClassFile.FieldType)).before args0 about1 = true := code_word (m := ⟨10, 2⟩) (meth := k10m2) (c := k10c2) (by decide +kernel) rfl rfl rfl (by decide +kernel)
def codes1 : List Jvm.Cond := [Jvm.Cond.code x code maxLocals ret, Jvm.Cond.code ({ cls := "com/example/demarcate/demarcate/TransactionDefinitionWithIsolationPinLaw", name := "iso", desc := "(I)Lcom/example/demarcate/demarcate/Isolation;" } : Jvm.MethodName) method_2_code (2 : Nat) (Option.some (Jvm.ClassFile.FieldType.object "com/example/demarcate/demarcate/Isolation")), Jvm.Cond.code ({ cls := "com/example/demarcate/demarcate/TransactionDefinitionWithIsolationPinLaw", name := "prop", desc := "(I)Lcom/example/demarcate/demarcate/Propagation;" } : Jvm.MethodName) method_3_code (2 : Nat) (Option.some (Jvm.ClassFile.FieldType.object "com/example/demarcate/demarcate/Propagation")), Jvm.Cond.code ({ cls := "java/lang/Math", name := "max", desc := "(II)I" } : Jvm.MethodName) jdk_29_method_65_code (2 : Nat) (Option.some Jvm.ClassFile.FieldType.int), Jvm.Cond.code ({ cls := "com/example/demarcate/demarcate/TransactionDefinition", name := "<init>", desc := "()V" } : Jvm.MethodName) prog_19_method_1_code (1 : Nat) (Option.none : Option Jvm.ClassFile.FieldType), Jvm.Cond.code ({ cls := "java/util/OptionalInt", name := "empty", desc := "()Ljava/util/OptionalInt;" } : Jvm.MethodName) jdk_2649_method_2_code (0 : Nat) (Option.some (Jvm.ClassFile.FieldType.object "java/util/OptionalInt")), Jvm.Cond.code ({ cls := "com/example/demarcate/demarcate/TransactionDefinition", name := "<init>", desc := "(Lcom/example/demarcate/demarcate/Propagation;Lcom/example/demarcate/demarcate/Isolation;ZLjava/util/OptionalInt;)V" } : Jvm.MethodName) prog_19_method_2_code (5 : Nat) (Option.none : Option Jvm.ClassFile.FieldType), Jvm.Cond.code ({ cls := "java/lang/Object", name := "<init>", desc := "()V" } : Jvm.MethodName) object_method_1_code (1 : Nat) (Option.none : Option Jvm.ClassFile.FieldType), Jvm.Cond.code ({ cls := "com/example/demarcate/demarcate/TransactionDefinition", name := "withPropagation", desc := "(Lcom/example/demarcate/demarcate/Propagation;)Lcom/example/demarcate/demarcate/TransactionDefinition;" } : Jvm.MethodName) prog_19_method_3_code (2 : Nat) (Option.some (Jvm.ClassFile.FieldType.object "com/example/demarcate/demarcate/TransactionDefinition")), Jvm.Cond.code ({ cls := "java/util/Objects", name := "requireNonNull", desc := "(Ljava/lang/Object;Ljava/lang/String;)Ljava/lang/Object;" } : Jvm.MethodName) jdk_31_method_11_code (2 : Nat) (Option.some (Jvm.ClassFile.FieldType.object "java/lang/Object")), Jvm.Cond.code ({ cls := "com/example/demarcate/demarcate/TransactionDefinition", name := "withIsolation", desc := "(Lcom/example/demarcate/demarcate/Isolation;)Lcom/example/demarcate/demarcate/TransactionDefinition;" } : Jvm.MethodName) prog_19_method_4_code (2 : Nat) (Option.some (Jvm.ClassFile.FieldType.object "com/example/demarcate/demarcate/TransactionDefinition")), Jvm.Cond.code ({ cls := "com/example/demarcate/demarcate/TransactionDefinition", name := "isolation", desc := "()Lcom/example/demarcate/demarcate/Isolation;" } : Jvm.MethodName) prog_19_method_8_code (1 : Nat) (Option.some (Jvm.ClassFile.FieldType.object "com/example/demarcate/demarcate/Isolation")), Jvm.Cond.code ({ cls := "com/example/demarcate/demarcate/TransactionDefinition", name := "propagation", desc := "()Lcom/example/demarcate/demarcate/Propagation;" } : Jvm.MethodName) prog_19_method_7_code (1 : Nat) (Option.some (Jvm.ClassFile.FieldType.object "com/example/demarcate/demarcate/Propagation")), Jvm.Cond.code ({ cls := "com/example/demarcate/demarcate/TransactionDefinition", name := "isReadOnly", desc := "()Z" } : Jvm.MethodName) prog_19_method_9_code (1 : Nat) (Option.some Jvm.ClassFile.FieldType.boolean), Jvm.Cond.code ({ cls := "com/example/demarcate/demarcate/TransactionDefinition", name := "timeout", desc := "()Ljava/util/OptionalInt;" } : Jvm.MethodName) prog_19_method_10_code (1 : Nat) (Option.some (Jvm.ClassFile.FieldType.object "java/util/OptionalInt")), Jvm.Cond.code ({ cls := "java/util/OptionalInt", name := "equals", desc := "(Ljava/lang/Object;)Z" } : Jvm.MethodName) jdk_2649_method_15_code (3 : Nat) (Option.some Jvm.ClassFile.FieldType.boolean), Jvm.Cond.code ({ cls := "com/example/demarcate/demarcate/TransactionDefinition", name := "withReadOnly", desc := "(Z)Lcom/example/demarcate/demarcate/TransactionDefinition;" } : Jvm.MethodName) prog_19_method_5_code (2 : Nat) (Option.some (Jvm.ClassFile.FieldType.object "com/example/demarcate/demarcate/TransactionDefinition")), Jvm.Cond.code ({ cls := "com/example/demarcate/demarcate/TransactionDefinition", name := "withTimeout", desc := "(I)Lcom/example/demarcate/demarcate/TransactionDefinition;" } : Jvm.MethodName) prog_19_method_6_code (2 : Nat) (Option.some (Jvm.ClassFile.FieldType.object "com/example/demarcate/demarcate/TransactionDefinition")), Jvm.Cond.code ({ cls := "java/util/OptionalInt", name := "of", desc := "(I)Ljava/util/OptionalInt;" } : Jvm.MethodName) jdk_2649_method_4_code (1 : Nat) (Option.some (Jvm.ClassFile.FieldType.object "java/util/OptionalInt")), Jvm.Cond.code ({ cls := "java/util/OptionalInt", name := "<init>", desc := "(I)V" } : Jvm.MethodName) jdk_2649_method_3_code (2 : Nat) (Option.none : Option Jvm.ClassFile.FieldType)]
set_option maxRecDepth 65536 in
theorem codes_eq : words1.filter isCode = codes1 := rfl
theorem w_codes : ∀ c ∈ words1.filter isCode, c.before args0 about1 = true := by
  rw [codes_eq]
  intro c hc
  simp only [codes1, List.mem_cons, List.not_mem_nil, or_false] at hc
  rcases hc with rfl | rfl | rfl | rfl | rfl | rfl | rfl | rfl | rfl | rfl | rfl | rfl | rfl | rfl | rfl | rfl | rfl | rfl | rfl | rfl
  · exact w_c0
  · exact w_c1
  · exact w_c2
  · exact w_c3
  · exact w_c4
  · exact w_c5
  · exact w_c6
  · exact w_c7
  · exact w_c8
  · exact w_c9
  · exact w_c10
  · exact w_c11
  · exact w_c12
  · exact w_c13
  · exact w_c14
  · exact w_c15
  · exact w_c16
  · exact w_c17
  · exact w_c18
  · exact w_c19
set_option maxRecDepth 65536 in
theorem w_t1 : (words1.take 24).all (fun c => isCode c || c.before args0 about1) = true := by decide +kernel
set_option maxRecDepth 65536 in
theorem w_t2 : ((words1.drop 24).take 24).all (fun c => isCode c || c.before args0 about1) = true := by decide +kernel
set_option maxRecDepth 65536 in
theorem w_t3 : (((words1.drop 24).drop 24).take 24).all (fun c => isCode c || c.before args0 about1) = true := by decide +kernel
set_option maxRecDepth 65536 in
theorem w_t4 : ((((words1.drop 24).drop 24).drop 24).take 24).all (fun c => isCode c || c.before args0 about1) = true := by decide +kernel
set_option maxRecDepth 65536 in
theorem w_t5 : (((((words1.drop 24).drop 24).drop 24).drop 24).take 24).all (fun c => isCode c || c.before args0 about1) = true := by decide +kernel
set_option maxRecDepth 65536 in
theorem w_t6 : (((((words1.drop 24).drop 24).drop 24).drop 24).drop 24).all (fun c => isCode c || c.before args0 about1) = true := by decide +kernel
theorem w_tables : (allAtoms (Jvm.Cond.code x code maxLocals ret :: tables_1)).before args0 about1 = true := by
  rw [allAtoms_all]
  show words1.all (fun c => c.before args0 about1) = true
  refine all_split ?_ w_codes
  rw [← List.take_append_drop 24 words1, List.all_append, w_t1, ← List.take_append_drop 24 (words1.drop 24), List.all_append, w_t2, ← List.take_append_drop 24 ((words1.drop 24).drop 24), List.all_append, w_t3, ← List.take_append_drop 24 (((words1.drop 24).drop 24).drop 24), List.all_append, w_t4, ← List.take_append_drop 24 ((((words1.drop 24).drop 24).drop 24).drop 24), List.all_append, w_t5, w_t6]
  rfl
set_option maxRecDepth 65536 in
theorem w_rest : rest_1_c.before args0 about1 = true := by decide +kernel
set_option maxRecDepth 65536 in
theorem w_case : (Jvm.Cond.and given_1 narrow_1).before args0 about1 = true := by decide +kernel
theorem w_applies : (headSpec (Jvm.Cond.code x code maxLocals ret :: tables_1) room_1).applies x e0.platform about1 = true :=
  (Spec.applies_iff w_frames).mpr ⟨w_running, w_runnable, w_alone, w_named, w_hears, w_ripe, w_room, w_tables⟩
theorem atStart : AtStart classFile x code maxLocals ret World_1 tables_1 room_1 Calls_1 rest_1 Pre_1 launch0 p0 e0 about1 theMethod args0 below0 :=
  ⟨lists_1, trivial, launch0.admits_env _ _ _, launch0.least_env, fairChoices_fair.cas, fairChoices_fair.clock, w_frames, w_args, w_heap, w_applies, trivial, w_rest, w_case⟩
end start1
theorem witness_1 : WitnessClaimed_1 := ⟨start1.p0, start1.e0, start1.about1, start1.theMethod, start1.args0, start1.below0, start1.atStart⟩
end Jvm.Pilot.@@N@@
