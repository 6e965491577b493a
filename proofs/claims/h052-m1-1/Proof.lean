import JvmDerived
import JvmDerived.Pilot.@@N@@Statement
import JvmDerived.Pilot.@@N@@Code
set_option linter.unusedVariables false
set_option linter.unusedSimpArgs false
namespace Jvm.Pilot.@@N@@
open Jvm Jvm.ClassFile Sem Op Lib Jvm.Free Jvm.Stand Jvm.LawKit Jvm.RoadKit Bundle Jvm.Pilot.@@N@@.Jvm.D
section OwnKit
variable {p : Program} {l : Launch} {e : Env} {R : Room} {s : State} {m : MethodId} {args : Array Value} {below : List Frame} {meth : Method} {c : Code} {T : State} {locs : List Loc} {cells slots kc ks : Nat} {Q : Option Value → Heap → List Loc → Prop} {A B : State}
/-- the rest of a walk: from the state A the run comes to a return that Q describes -/
def OW (p : Program) (e : Env) (below : List Frame) (s : State) (Q : Option Value → Heap → List Loc → Prop) (kc ks : Nat) (A : State) : Prop :=
  ∃ s₂ o, Steps p.tables e below A s₂ ∧ s₂.status = .running ∧ Ended s₂ below o ∧ ∃ v L, o = .returned v ∧ Q v s₂.heap L ∧ FrameEnd s o s₂ L kc ks
theorem OW.st (h : ∀ t, Steps p.tables e below B t → Steps p.tables e below A t) (k : OW p e below s Q kc ks B) : OW p e below s Q kc ks A := by
  obtain ⟨a, o, h1, h2⟩ := k; exact ⟨a, o, h _ h1, h2⟩
theorem OW.tr (h : Steps p.tables e below A B) (k : OW p e below s Q kc ks B) : OW p e below s Q kc ks A := by
  obtain ⟨a, o, h1, h2⟩ := k; exact ⟨a, o, h.trans h1, h2⟩
theorem OW.ret (X : Stand p l e R s m args below meth c T locs cells slots) (hx : p.tables.exec = Jvm.exec) (hlk : meth.locks = false) {pc : Nat} {Ls : Array Slot} {w : Value} {t : FieldType} {i : Instr} {rest : List Value} (hret : meth.sig.returnType = some t) (hn : narrow t w = w)
    (hi : (i = .ireturn ∧ (t = .int ∨ t = .boolean ∨ t = .byte ∨ t = .char ∨ t = .short) ∧ ∃ z, w = .int z) ∨ (i = .lreturn ∧ t = .long ∧ ∃ z, w = .long z) ∨ (i = .dreturn ∧ t = .double ∧ ∃ z, w = .double z) ∨ (i = .freturn ∧ t = .float ∧ ∃ z, w = .float z) ∨ (i = .areturn ∧ t.isReference = true ∧ w.isRef = true))
    (hd : decode c.code pc = .ok (i, 1)) {h : Heap} (eT : T.heap = h) (hc : cells ≤ kc) (hs : slots ≤ ks) (q : Q (some w) h locs) : OW p e below s Q kc ks (T.setTop (mkF m pc Ls (w :: rest))) := by
  obtain ⟨fs, hr, hrun, hended, hW, hsame⟩ := X.leave (v := some w) (fun h => by rw [hret] at h; cases h) hlk
  subst eT
  exact ⟨_, _, retOut X hx hret hn hi hd hr, hrun, hended, _, _, rfl, q, ⟨_, rfl⟩, hW, hsame.mono hc hs⟩
theorem OW.retV (X : Stand p l e R s m args below meth c T locs cells slots) (hx : p.tables.exec = Jvm.exec) (hlk : meth.locks = false) {pc : Nat} {Ls : Array Slot} (hret : meth.sig.returnType = none)
    (hd : decode c.code pc = .ok (.return_, 1)) {h : Heap} (eT : T.heap = h) (hc : cells ≤ kc) (hs : slots ≤ ks) (q : Q none h locs) : OW p e below s Q kc ks (T.setTop (mkF m pc Ls [])) := by
  obtain ⟨fs, hr, hrun, hended, hW, hsame⟩ := X.leave (v := none) (fun _ => rfl) hlk
  subst eT
  exact ⟨_, _, X.returnOut hx hret hd hr, hrun, hended, _, _, rfl, q, ⟨_, rfl⟩, hW, hsame.mono hc hs⟩
/-- the same for a walk that may intern: its Stand is over 's.setVm vm0' -/
def OWW (p : Program) (e : Env) (below : List Frame) (s : State) (Q : Option Value → Heap → List Loc → Prop) (kc ks : Nat) (A : State) : Prop :=
  ∃ s₂ o, Steps p.tables e below A s₂ ∧ s₂.status = .running ∧ Ended s₂ below o ∧ ∃ v L, o = .returned v ∧ Q v s₂.heap L ∧ ReturnedEndW s o s₂ L kc ks
theorem OWW.st (h : ∀ t, Steps p.tables e below B t → Steps p.tables e below A t) (k : OWW p e below s Q kc ks B) : OWW p e below s Q kc ks A := by
  obtain ⟨a, o, h1, h2⟩ := k; exact ⟨a, o, h _ h1, h2⟩
theorem OWW.tr (h : Steps p.tables e below A B) (k : OWW p e below s Q kc ks B) : OWW p e below s Q kc ks A := by
  obtain ⟨a, o, h1, h2⟩ := k; exact ⟨a, o, h.trans h1, h2⟩
theorem OWW.ret {vm0 : Vm} {k0 : Nat} (X : Stand p l e R (s.setVm vm0) m args below meth c T locs cells slots) {h : Heap} (hS : s.Since vm0 k0) (hk : k0 ≤ h.size) (hx : p.tables.exec = Jvm.exec) (hlk : meth.locks = false) {pc : Nat} {Ls : Array Slot} {w : Value} {t : FieldType} {i : Instr} {rest : List Value} (hret : meth.sig.returnType = some t) (hn : narrow t w = w)
    (hi : (i = .ireturn ∧ (t = .int ∨ t = .boolean ∨ t = .byte ∨ t = .char ∨ t = .short) ∧ ∃ z, w = .int z) ∨ (i = .lreturn ∧ t = .long ∧ ∃ z, w = .long z) ∨ (i = .dreturn ∧ t = .double ∧ ∃ z, w = .double z) ∨ (i = .freturn ∧ t = .float ∧ ∃ z, w = .float z) ∨ (i = .areturn ∧ t.isReference = true ∧ w.isRef = true))
    (hd : decode c.code pc = .ok (i, 1)) (eT : T.heap = h) (hc : cells ≤ kc) (hs : slots ≤ ks) (q : Q (some w) h locs) : OWW p e below s Q kc ks (T.setTop (mkF m pc Ls (w :: rest))) := by
  obtain ⟨fs, hr, hrun, hended, hW, hsame⟩ := X.leave (v := some w) (fun h => by rw [hret] at h; cases h) hlk
  subst eT
  obtain ⟨g1, g2, g3⟩ := hS.ended (U := T.setFrames fs) hW hk hsame
  exact ⟨_, _, retOut X hx hret hn hi hd hr, hrun, hended, _, _, rfl, q, ⟨_, rfl⟩, g1, g2, g3.mono hc hs⟩
theorem OWW.retV {vm0 : Vm} {k0 : Nat} (X : Stand p l e R (s.setVm vm0) m args below meth c T locs cells slots) {h : Heap} (hS : s.Since vm0 k0) (hk : k0 ≤ h.size) (hx : p.tables.exec = Jvm.exec) (hlk : meth.locks = false) {pc : Nat} {Ls : Array Slot} (hret : meth.sig.returnType = none)
    (hd : decode c.code pc = .ok (.return_, 1)) (eT : T.heap = h) (hc : cells ≤ kc) (hs : slots ≤ ks) (q : Q none h locs) : OWW p e below s Q kc ks (T.setTop (mkF m pc Ls [])) := by
  obtain ⟨fs, hr, hrun, hended, hW, hsame⟩ := X.leave (v := none) (fun _ => rfl) hlk
  subst eT
  obtain ⟨g1, g2, g3⟩ := hS.ended (U := T.setFrames fs) hW hk hsame
  exact ⟨_, _, X.returnOut hx hret hd hr, hrun, hended, _, _, rfl, q, ⟨_, rfl⟩, g1, g2, g3.mono hc hs⟩
end OwnKit
section OwnWords
variable {args : Array Value} {first s : State} {o : Option Outcome} {idx : List Nat} {t : Term}
theorem own_eq_int {k : Int32} (h : (Jvm.Cond.eq t (.int k)).value args first o s idx = some true) : t.eval args first o idx s = some (.int k) := by
  obtain ⟨x, y, h1, h2, k1, k2⟩ := cmp_v (Or.inl h)
  rw [Term.int_eval] at h2
  cases h2
  obtain ⟨z, rfl⟩ := k2
  rw [h1, gotT (Cond.eq_ints h1 (Term.int_eval k)) h]
theorem own_eq_ref {u : Term} {a : Addr} (h : (Jvm.Cond.eq t u).value args first o s idx = some true) (hu : u.eval args first o idx s = some (.ref a)) : t.eval args first o idx s = some (.ref a) := by
  obtain ⟨x, y, h1, h2, k1, k2⟩ := cmp_v (Or.inl h)
  cases hu.symm.trans h2
  have q := gotT (eq_R h1 hu k2.2 rfl) h
  rw [h1, q]
theorem own_arr {ty : FieldType} {a : Addr} {z : Int32} (ev : t.eval args s none [] s = some (.ref a)) (ha : (Jvm.Cond.arrayOf t ty).value args s none s [] = some true) (hl : (Term.length t).eval args s none [] s = some (.int z)) :
    ∃ cl : Cell, Arr s s.heap a cl ty ∧ cl.slots.size < 2 ^ 31 ∧ cl.slots.size.toInt32 = z ∧ ∀ j : Int32, ¬ j < 0 → ∀ v, (Term.elem t (.int j)).eval args s none [] s = some v → cl.slots[j.toNatClampNeg]? = some v := by
  obtain ⟨cl, A⟩ := Arr.start ev ha
  have hat := A.fin (Vm.Alike.refl _)
  have hlt : cl.slots.size < 2 ^ 31 := by
    refine Decidable.byContradiction fun q => ?_
    simp [Term.eval, ev, hat, q] at hl
  refine ⟨cl, A, hlt, ?_, fun j hj v hv => ?_⟩
  · rw [len_f ev hat hlt] at hl; exact Value.int.inj (Option.some.inj hl)
  · rw [elem_f ev (Term.int_eval j) hat hj] at hv; exact hv
end OwnWords
theorem own_oldle {Z : State} {n0 : Nat} {h : Heap} (X : Old Z n0 h) : n0 ≤ h.size := X.1 ▸ X.2.1
theorem own_cat {v : Value} (h : v.isRef = true) : v.category = 1 := by cases v <;> first | rfl | simp [Value.isRef] at h
theorem own_nar {v : Value} {t : FieldType} (h : v.isRef = true) (ht : t.isReference = true) : narrow t v = v := by cases t <;> first | (cases ht; done) | (cases v <;> first | rfl | simp [Value.isRef] at h)
theorem own_fit {v : Value} {t : FieldType} (h : v.isRef = true) (ht : t.isReference = true) : fits t v = true := by cases t <;> first | (cases ht; done) | (cases v <;> first | rfl | simp [Value.isRef] at h)

theorem own_nz {r : Int32} (h : r = 0 ∨ r = 1) : narrow .boolean (.int r) = .int r := by rcases h with rfl | rfl <;> rfl
theorem own_fz {r : Int32} (h : r = 0 ∨ r = 1) : fits .boolean (.int r) = true := by rcases h with rfl | rfl <;> rfl
theorem w_0 {a0 : Array Value} {Z : State} (hw : ∀ d ∈ tables_1, d.before a0 Z = true) : (Jvm.Cond.classLink "com/example/filter_to_where/filtertowhere/tree/OperandAllowsPinLaw" (10 : Nat) "com/example/filter_to_where/filtertowhere/tree/Operand").before a0 Z = true := hw _ (List.mem_of_getElem? (i := 0) rfl)
theorem w_1 {a0 : Array Value} {Z : State} (hw : ∀ d ∈ tables_1, d.before a0 Z = true) : (Jvm.Cond.arrayOver (Jvm.ClassFile.FieldType.object "com/example/filter_to_where/filtertowhere/tree/Operand")).before a0 Z = true := hw _ (List.mem_of_getElem? (i := 1) rfl)
theorem w_2 {a0 : Array Value} {Z : State} (hw : ∀ d ∈ tables_1, d.before a0 Z = true) : (Jvm.Cond.fieldLink "com/example/filter_to_where/filtertowhere/tree/OperandAllowsPinLaw" (12 : Nat) "com/example/filter_to_where/filtertowhere/tree/Operand" "NONE" "Lcom/example/filter_to_where/filtertowhere/tree/Operand;").before a0 Z = true := hw _ (List.mem_of_getElem? (i := 2) rfl)
theorem w_3 {a0 : Array Value} {Z : State} (hw : ∀ d ∈ tables_1, d.before a0 Z = true) : (Jvm.Cond.initialized "com/example/filter_to_where/filtertowhere/tree/Operand").before a0 Z = true := hw _ (List.mem_of_getElem? (i := 3) rfl)
theorem w_4 {a0 : Array Value} {Z : State} (hw : ∀ d ∈ tables_1, d.before a0 Z = true) : (Jvm.Cond.laysStatic "com/example/filter_to_where/filtertowhere/tree/Operand" "NONE" "Lcom/example/filter_to_where/filtertowhere/tree/Operand;").before a0 Z = true := hw _ (List.mem_of_getElem? (i := 4) rfl)
theorem w_6 {a0 : Array Value} {Z : State} (hw : ∀ d ∈ tables_1, d.before a0 Z = true) : (Jvm.Cond.fieldLink "com/example/filter_to_where/filtertowhere/tree/OperandAllowsPinLaw" (16 : Nat) "com/example/filter_to_where/filtertowhere/tree/Operand" "ONE" "Lcom/example/filter_to_where/filtertowhere/tree/Operand;").before a0 Z = true := hw _ (List.mem_of_getElem? (i := 6) rfl)
theorem w_7 {a0 : Array Value} {Z : State} (hw : ∀ d ∈ tables_1, d.before a0 Z = true) : (Jvm.Cond.laysStatic "com/example/filter_to_where/filtertowhere/tree/Operand" "ONE" "Lcom/example/filter_to_where/filtertowhere/tree/Operand;").before a0 Z = true := hw _ (List.mem_of_getElem? (i := 7) rfl)
theorem w_8 {a0 : Array Value} {Z : State} (hw : ∀ d ∈ tables_1, d.before a0 Z = true) : (Jvm.Cond.fieldLink "com/example/filter_to_where/filtertowhere/tree/OperandAllowsPinLaw" (19 : Nat) "com/example/filter_to_where/filtertowhere/tree/Operand" "LIST" "Lcom/example/filter_to_where/filtertowhere/tree/Operand;").before a0 Z = true := hw _ (List.mem_of_getElem? (i := 8) rfl)
theorem w_9 {a0 : Array Value} {Z : State} (hw : ∀ d ∈ tables_1, d.before a0 Z = true) : (Jvm.Cond.laysStatic "com/example/filter_to_where/filtertowhere/tree/Operand" "LIST" "Lcom/example/filter_to_where/filtertowhere/tree/Operand;").before a0 Z = true := hw _ (List.mem_of_getElem? (i := 9) rfl)
theorem w_10 {a0 : Array Value} {Z : State} (hw : ∀ d ∈ tables_1, d.before a0 Z = true) : (Jvm.Cond.fieldLink "com/example/filter_to_where/filtertowhere/tree/OperandAllowsPinLaw" (22 : Nat) "com/example/filter_to_where/filtertowhere/tree/Operand" "PAIR" "Lcom/example/filter_to_where/filtertowhere/tree/Operand;").before a0 Z = true := hw _ (List.mem_of_getElem? (i := 10) rfl)
theorem w_11 {a0 : Array Value} {Z : State} (hw : ∀ d ∈ tables_1, d.before a0 Z = true) : (Jvm.Cond.laysStatic "com/example/filter_to_where/filtertowhere/tree/Operand" "PAIR" "Lcom/example/filter_to_where/filtertowhere/tree/Operand;").before a0 Z = true := hw _ (List.mem_of_getElem? (i := 11) rfl)
theorem w_12 {a0 : Array Value} {Z : State} (hw : ∀ d ∈ tables_1, d.before a0 Z = true) : (Jvm.Cond.methodLink "com/example/filter_to_where/filtertowhere/tree/OperandAllowsPinLaw" (25 : Nat) ({ cls := "com/example/filter_to_where/filtertowhere/tree/Operand", name := "allows", desc := "(I)Z" } : Jvm.MethodName)).before a0 Z = true := hw _ (List.mem_of_getElem? (i := 12) rfl)
theorem w_13 {a0 : Array Value} {Z : State} (hw : ∀ d ∈ tables_1, d.before a0 Z = true) : (Jvm.Cond.declares ({ cls := "com/example/filter_to_where/filtertowhere/tree/Operand", name := "allows", desc := "(I)Z" } : Jvm.MethodName)).before a0 Z = true := hw _ (List.mem_of_getElem? (i := 13) rfl)
theorem w_14 {a0 : Array Value} {Z : State} (hw : ∀ d ∈ tables_1, d.before a0 Z = true) : (Jvm.Cond.instanceMethod ({ cls := "com/example/filter_to_where/filtertowhere/tree/Operand", name := "allows", desc := "(I)Z" } : Jvm.MethodName)).before a0 Z = true := hw _ (List.mem_of_getElem? (i := 14) rfl)
theorem w_15 {a0 : Array Value} {Z : State} (hw : ∀ d ∈ tables_1, d.before a0 Z = true) : (Jvm.Cond.selects "com/example/filter_to_where/filtertowhere/tree/Operand" ({ cls := "com/example/filter_to_where/filtertowhere/tree/Operand", name := "allows", desc := "(I)Z" } : Jvm.MethodName) ({ cls := "com/example/filter_to_where/filtertowhere/tree/Operand", name := "allows", desc := "(I)Z" } : Jvm.MethodName)).before a0 Z = true := hw _ (List.mem_of_getElem? (i := 15) rfl)
theorem w_16 {a0 : Array Value} {Z : State} (hw : ∀ d ∈ tables_1, d.before a0 Z = true) : (Jvm.Cond.code ({ cls := "com/example/filter_to_where/filtertowhere/tree/Operand", name := "allows", desc := "(I)Z" } : Jvm.MethodName) prog_55_method_4_code (2 : Nat) (Option.some Jvm.ClassFile.FieldType.boolean)).before a0 Z = true := hw _ (List.mem_of_getElem? (i := 16) rfl)
theorem w_17 {a0 : Array Value} {Z : State} (hw : ∀ d ∈ tables_1, d.before a0 Z = true) : (Jvm.Cond.methodLink "com/example/filter_to_where/filtertowhere/tree/Operand" (35 : Nat) ({ cls := "com/example/filter_to_where/filtertowhere/tree/Operand", name := "ordinal", desc := "()I" } : Jvm.MethodName)).before a0 Z = true := hw _ (List.mem_of_getElem? (i := 17) rfl)
theorem w_18 {a0 : Array Value} {Z : State} (hw : ∀ d ∈ tables_1, d.before a0 Z = true) : (Jvm.Cond.sameMethod "com/example/filter_to_where/filtertowhere/tree/Operand" "java/lang/Enum" "ordinal" "()I").before a0 Z = true := hw _ (List.mem_of_getElem? (i := 18) rfl)
theorem w_19 {a0 : Array Value} {Z : State} (hw : ∀ d ∈ tables_1, d.before a0 Z = true) : (Jvm.Cond.declares ({ cls := "java/lang/Enum", name := "ordinal", desc := "()I" } : Jvm.MethodName)).before a0 Z = true := hw _ (List.mem_of_getElem? (i := 19) rfl)
theorem w_20 {a0 : Array Value} {Z : State} (hw : ∀ d ∈ tables_1, d.before a0 Z = true) : (Jvm.Cond.instanceMethod ({ cls := "java/lang/Enum", name := "ordinal", desc := "()I" } : Jvm.MethodName)).before a0 Z = true := hw _ (List.mem_of_getElem? (i := 20) rfl)
theorem w_21 {a0 : Array Value} {Z : State} (hw : ∀ d ∈ tables_1, d.before a0 Z = true) : (Jvm.Cond.selects "com/example/filter_to_where/filtertowhere/tree/Operand" ({ cls := "com/example/filter_to_where/filtertowhere/tree/Operand", name := "ordinal", desc := "()I" } : Jvm.MethodName) ({ cls := "java/lang/Enum", name := "ordinal", desc := "()I" } : Jvm.MethodName)).before a0 Z = true := hw _ (List.mem_of_getElem? (i := 21) rfl)
theorem w_22 {a0 : Array Value} {Z : State} (hw : ∀ d ∈ tables_1, d.before a0 Z = true) : (Jvm.Cond.initialized "java/lang/Enum").before a0 Z = true := hw _ (List.mem_of_getElem? (i := 22) rfl)
theorem w_23 {a0 : Array Value} {Z : State} (hw : ∀ d ∈ tables_1, d.before a0 Z = true) : (Jvm.Cond.code ({ cls := "java/lang/Enum", name := "ordinal", desc := "()I" } : Jvm.MethodName) jdk_37_method_2_code (1 : Nat) (Option.some Jvm.ClassFile.FieldType.int)).before a0 Z = true := hw _ (List.mem_of_getElem? (i := 23) rfl)
theorem w_24 {a0 : Array Value} {Z : State} (hw : ∀ d ∈ tables_1, d.before a0 Z = true) : (Jvm.Cond.fieldLink "java/lang/Enum" (7 : Nat) "java/lang/Enum" "ordinal" "I").before a0 Z = true := hw _ (List.mem_of_getElem? (i := 24) rfl)
theorem w_26 {a0 : Array Value} {Z : State} (hw : ∀ d ∈ tables_1, d.before a0 Z = true) : (Jvm.Cond.methodLink "com/example/filter_to_where/filtertowhere/tree/OperandAllowsPinLaw" (29 : Nat) ({ cls := "com/example/filter_to_where/filtertowhere/tree/OperandAllowsPinLaw", name := "expected", desc := "(II)Z" } : Jvm.MethodName)).before a0 Z = true := hw _ (List.mem_of_getElem? (i := 26) rfl)
theorem w_27 {a0 : Array Value} {Z : State} (hw : ∀ d ∈ tables_1, d.before a0 Z = true) : (Jvm.Cond.static ({ cls := "com/example/filter_to_where/filtertowhere/tree/OperandAllowsPinLaw", name := "expected", desc := "(II)Z" } : Jvm.MethodName)).before a0 Z = true := hw _ (List.mem_of_getElem? (i := 27) rfl)
theorem w_28 {a0 : Array Value} {Z : State} (hw : ∀ d ∈ tables_1, d.before a0 Z = true) : (Jvm.Cond.initialized "com/example/filter_to_where/filtertowhere/tree/OperandAllowsPinLaw").before a0 Z = true := hw _ (List.mem_of_getElem? (i := 28) rfl)
theorem w_29 {a0 : Array Value} {Z : State} (hw : ∀ d ∈ tables_1, d.before a0 Z = true) : (Jvm.Cond.code ({ cls := "com/example/filter_to_where/filtertowhere/tree/OperandAllowsPinLaw", name := "expected", desc := "(II)Z" } : Jvm.MethodName) method_2_code (4 : Nat) (Option.some Jvm.ClassFile.FieldType.boolean)).before a0 Z = true := hw _ (List.mem_of_getElem? (i := 29) rfl)
theorem w_30 {a0 : Array Value} {Z : State} (hw : ∀ d ∈ tables_1, d.before a0 Z = true) : (Jvm.Cond.constant "com/example/filter_to_where/filtertowhere/tree/OperandAllowsPinLaw" (9 : Nat) (2147483647 : Int32)).before a0 Z = true := hw _ (List.mem_of_getElem? (i := 30) rfl)
theorem d1_0 : decode prog_55_method_4_code 0 = .ok (.aload_n 0, 1) := by decide +kernel
theorem d1_1 : decode prog_55_method_4_code 1 = .ok (.invokevirtual 35, 3) := by decide +kernel
theorem d1_4 : decode prog_55_method_4_code 4 = .ok (.tableswitch 32 0 3 #[42, 54, 67, 80], 32) := by decide +kernel
theorem d1_46 : decode prog_55_method_4_code 46 = .ok (.iload_n 1, 1) := by decide +kernel
theorem d1_47 : decode prog_55_method_4_code 47 = .ok (.ifCond .ne 7, 3) := by decide +kernel
theorem d1_50 : decode prog_55_method_4_code 50 = .ok (.iconst 1, 1) := by decide +kernel
theorem d1_51 : decode prog_55_method_4_code 51 = .ok (.goto 43, 3) := by decide +kernel
theorem d1_54 : decode prog_55_method_4_code 54 = .ok (.iconst 0, 1) := by decide +kernel
theorem d1_55 : decode prog_55_method_4_code 55 = .ok (.goto 39, 3) := by decide +kernel
theorem d1_58 : decode prog_55_method_4_code 58 = .ok (.iload_n 1, 1) := by decide +kernel
theorem d1_59 : decode prog_55_method_4_code 59 = .ok (.iconst 1, 1) := by decide +kernel
theorem d1_60 : decode prog_55_method_4_code 60 = .ok (.if_icmp .ne 7, 3) := by decide +kernel
theorem d1_63 : decode prog_55_method_4_code 63 = .ok (.iconst 1, 1) := by decide +kernel
theorem d1_64 : decode prog_55_method_4_code 64 = .ok (.goto 30, 3) := by decide +kernel
theorem d1_67 : decode prog_55_method_4_code 67 = .ok (.iconst 0, 1) := by decide +kernel
theorem d1_68 : decode prog_55_method_4_code 68 = .ok (.goto 26, 3) := by decide +kernel
theorem d1_71 : decode prog_55_method_4_code 71 = .ok (.iload_n 1, 1) := by decide +kernel
theorem d1_72 : decode prog_55_method_4_code 72 = .ok (.iconst 1, 1) := by decide +kernel
theorem d1_73 : decode prog_55_method_4_code 73 = .ok (.if_icmp .lt 7, 3) := by decide +kernel
theorem d1_76 : decode prog_55_method_4_code 76 = .ok (.iconst 1, 1) := by decide +kernel
theorem d1_77 : decode prog_55_method_4_code 77 = .ok (.goto 17, 3) := by decide +kernel
theorem d1_80 : decode prog_55_method_4_code 80 = .ok (.iconst 0, 1) := by decide +kernel
theorem d1_81 : decode prog_55_method_4_code 81 = .ok (.goto 13, 3) := by decide +kernel
theorem d1_84 : decode prog_55_method_4_code 84 = .ok (.iload_n 1, 1) := by decide +kernel
theorem d1_85 : decode prog_55_method_4_code 85 = .ok (.iconst 2, 1) := by decide +kernel
theorem d1_86 : decode prog_55_method_4_code 86 = .ok (.if_icmp .ne 7, 3) := by decide +kernel
theorem d1_89 : decode prog_55_method_4_code 89 = .ok (.iconst 1, 1) := by decide +kernel
theorem d1_90 : decode prog_55_method_4_code 90 = .ok (.goto 4, 3) := by decide +kernel
theorem d1_93 : decode prog_55_method_4_code 93 = .ok (.iconst 0, 1) := by decide +kernel
theorem d1_94 : decode prog_55_method_4_code 94 = .ok (.ireturn, 1) := by decide +kernel
theorem d2_0 : decode jdk_37_method_2_code 0 = .ok (.aload_n 0, 1) := by decide +kernel
theorem d2_1 : decode jdk_37_method_2_code 1 = .ok (.getfield 7, 3) := by decide +kernel
theorem d2_4 : decode jdk_37_method_2_code 4 = .ok (.ireturn, 1) := by decide +kernel
theorem d3_0 : decode method_2_code 0 = .ok (.iload_n 0, 1) := by decide +kernel
theorem d3_1 : decode method_2_code 1 = .ok (.ifCond .ne 10, 3) := by decide +kernel
theorem d3_4 : decode method_2_code 4 = .ok (.iconst 0, 1) := by decide +kernel
theorem d3_5 : decode method_2_code 5 = .ok (.istore_n 2, 1) := by decide +kernel
theorem d3_6 : decode method_2_code 6 = .ok (.iconst 0, 1) := by decide +kernel
theorem d3_7 : decode method_2_code 7 = .ok (.istore_n 3, 1) := by decide +kernel
theorem d3_8 : decode method_2_code 8 = .ok (.goto 32, 3) := by decide +kernel
theorem d3_11 : decode method_2_code 11 = .ok (.iload_n 0, 1) := by decide +kernel
theorem d3_12 : decode method_2_code 12 = .ok (.iconst 1, 1) := by decide +kernel
theorem d3_13 : decode method_2_code 13 = .ok (.if_icmp .ne 10, 3) := by decide +kernel
theorem d3_16 : decode method_2_code 16 = .ok (.iconst 1, 1) := by decide +kernel
theorem d3_17 : decode method_2_code 17 = .ok (.istore_n 2, 1) := by decide +kernel
theorem d3_18 : decode method_2_code 18 = .ok (.iconst 1, 1) := by decide +kernel
theorem d3_19 : decode method_2_code 19 = .ok (.istore_n 3, 1) := by decide +kernel
theorem d3_20 : decode method_2_code 20 = .ok (.goto 20, 3) := by decide +kernel
theorem d3_23 : decode method_2_code 23 = .ok (.iload_n 0, 1) := by decide +kernel
theorem d3_24 : decode method_2_code 24 = .ok (.iconst 2, 1) := by decide +kernel
theorem d3_25 : decode method_2_code 25 = .ok (.if_icmp .ne 11, 3) := by decide +kernel
theorem d3_28 : decode method_2_code 28 = .ok (.iconst 1, 1) := by decide +kernel
theorem d3_29 : decode method_2_code 29 = .ok (.istore_n 2, 1) := by decide +kernel
theorem d3_30 : decode method_2_code 30 = .ok (.ldc 9, 2) := by decide +kernel
theorem d3_32 : decode method_2_code 32 = .ok (.istore_n 3, 1) := by decide +kernel
theorem d3_33 : decode method_2_code 33 = .ok (.goto 7, 3) := by decide +kernel
theorem d3_36 : decode method_2_code 36 = .ok (.iconst 2, 1) := by decide +kernel
theorem d3_37 : decode method_2_code 37 = .ok (.istore_n 2, 1) := by decide +kernel
theorem d3_38 : decode method_2_code 38 = .ok (.iconst 2, 1) := by decide +kernel
theorem d3_39 : decode method_2_code 39 = .ok (.istore_n 3, 1) := by decide +kernel
theorem d3_40 : decode method_2_code 40 = .ok (.iload_n 2, 1) := by decide +kernel
theorem d3_41 : decode method_2_code 41 = .ok (.iload_n 1, 1) := by decide +kernel
theorem d3_42 : decode method_2_code 42 = .ok (.if_icmp .gt 12, 3) := by decide +kernel
theorem d3_45 : decode method_2_code 45 = .ok (.iload_n 1, 1) := by decide +kernel
theorem d3_46 : decode method_2_code 46 = .ok (.iload_n 3, 1) := by decide +kernel
theorem d3_47 : decode method_2_code 47 = .ok (.if_icmp .gt 7, 3) := by decide +kernel
theorem d3_50 : decode method_2_code 50 = .ok (.iconst 1, 1) := by decide +kernel
theorem d3_51 : decode method_2_code 51 = .ok (.goto 4, 3) := by decide +kernel
theorem d3_54 : decode method_2_code 54 = .ok (.iconst 0, 1) := by decide +kernel
theorem d3_55 : decode method_2_code 55 = .ok (.ireturn, 1) := by decide +kernel
theorem pn_0 : plainName "java/lang/Enum" = true := by first | (simp [plainName, overriddenIn]; done) | decide +kernel
theorem pn_1 : plainName "com/example/filter_to_where/filtertowhere/tree/Operand" = true := by first | (simp [plainName, overriddenIn]; done) | decide +kernel
theorem pn_2 : plainName "com/example/filter_to_where/filtertowhere/tree/OperandAllowsPinLaw" = true := by first | (simp [plainName, overriddenIn]; done) | decide +kernel
theorem pd_0 : parseMethodDescriptor "()I" = some ⟨[], some .int⟩ := by decide +kernel
theorem pd_1 : parseMethodDescriptor "(I)Z" = some ⟨[.int], some .boolean⟩ := by decide +kernel
theorem pd_2 : parseMethodDescriptor "(II)Z" = some ⟨[.int, .int], some .boolean⟩ := by decide +kernel
def OwnS (Z : State) (a_NONE : Addr) (a_ONE : Addr) (a_LIST : Addr) (a_PAIR : Addr) : Prop := (Sta Z Z.heap "com/example/filter_to_where/filtertowhere/tree/Operand" "NONE" "Lcom/example/filter_to_where/filtertowhere/tree/Operand;" (.ref a_NONE)) ∧ (Exa Z Z.heap a_NONE "com/example/filter_to_where/filtertowhere/tree/Operand") ∧ (Sta Z Z.heap "com/example/filter_to_where/filtertowhere/tree/Operand" "ONE" "Lcom/example/filter_to_where/filtertowhere/tree/Operand;" (.ref a_ONE)) ∧ (Exa Z Z.heap a_ONE "com/example/filter_to_where/filtertowhere/tree/Operand") ∧ (Sta Z Z.heap "com/example/filter_to_where/filtertowhere/tree/Operand" "LIST" "Lcom/example/filter_to_where/filtertowhere/tree/Operand;" (.ref a_LIST)) ∧ (Exa Z Z.heap a_LIST "com/example/filter_to_where/filtertowhere/tree/Operand") ∧ (Sta Z Z.heap "com/example/filter_to_where/filtertowhere/tree/Operand" "PAIR" "Lcom/example/filter_to_where/filtertowhere/tree/Operand;" (.ref a_PAIR)) ∧ (Exa Z Z.heap a_PAIR "com/example/filter_to_where/filtertowhere/tree/Operand") ∧ (Fld Z Z.heap a_NONE "java/lang/Enum" "ordinal" "I" (.int (0 : Int32))) ∧ (Fld Z Z.heap a_LIST "java/lang/Enum" "ordinal" "I" (.int (2 : Int32))) ∧ (Fld Z Z.heap a_ONE "java/lang/Enum" "ordinal" "I" (.int (1 : Int32))) ∧ (Fld Z Z.heap a_PAIR "java/lang/Enum" "ordinal" "I" (.int (3 : Int32)))
def own_al (k c : Int32) : Int32 := if k = 0 then (if c = 0 then 1 else 0) else if k = 1 then (if c = 1 then 1 else 0) else if k = 2 then (if c < 1 then 0 else 1) else (if c = 2 then 1 else 0)
def own_lo (k : Int32) : Int32 := if k = 0 then 0 else if k = 1 then 1 else if k = 2 then 1 else 2
def own_hi (k : Int32) : Int32 := if k = 0 then 0 else if k = 1 then 1 else if k = 2 then 2147483647 else 2
def own_ex (k c : Int32) : Int32 := if c < own_lo k then 0 else if own_hi k < c then 0 else 1
theorem own_same (k c : Int32) (hk : k = 0 ∨ k = 1 ∨ k = 2 ∨ k = 3) : own_al k c = own_ex k c := by
  have r := rng32 c
  have e (z : Int32) : c = z ↔ c.toInt = z.toInt := Int32.toInt_inj.symm
  have z0 : (0 : Int32).toInt = 0 := by decide
  have z1 : (1 : Int32).toInt = 1 := by decide
  have z2 : (2 : Int32).toInt = 2 := by decide
  have z3 : (2147483647 : Int32).toInt = 2147483647 := by decide
  rcases hk with rfl | rfl | rfl | rfl
  · simp only [own_al, own_ex, own_lo, own_hi, e, Int32.lt_iff_toInt_lt, z0, if_true]
    split <;> split <;> first | rfl | (split <;> first | rfl | omega) | omega
  · simp +decide only [own_al, own_ex, own_lo, own_hi, e, Int32.lt_iff_toInt_lt, z1, if_true, if_false]
    split <;> split <;> first | rfl | (split <;> first | rfl | omega) | omega
  · simp +decide only [own_al, own_ex, own_lo, own_hi, e, Int32.lt_iff_toInt_lt, z1, z3, if_true, if_false]
    split <;> first | rfl | (split <;> first | rfl | omega) | omega
  · simp +decide only [own_al, own_ex, own_lo, own_hi, e, Int32.lt_iff_toInt_lt, z2, if_true, if_false]
    split <;> split <;> first | rfl | (split <;> first | rfl | omega) | omega
theorem own_and3 (x : Int32) : x &&& 3 = 0 ∨ x &&& 3 = 1 ∨ x &&& 3 = 2 ∨ x &&& 3 = 3 := by
  have h3 := c_and x 3 (by decide)
  rw [show (3 : Int32).toInt = 3 by decide] at h3
  generalize x &&& 3 = k at h3
  have h4 : k.toInt = 0 ∨ k.toInt = 1 ∨ k.toInt = 2 ∨ k.toInt = 3 := by omega
  rcases h4 with h | h | h | h
  · exact Or.inl (Int32.toInt_inj.mp h)
  · exact Or.inr (Or.inl (Int32.toInt_inj.mp h))
  · exact Or.inr (Or.inr (Or.inl (Int32.toInt_inj.mp h)))
  · exact Or.inr (Or.inr (Or.inr (Int32.toInt_inj.mp h)))
theorem ef_O (m : MethodId) (x0 : Addr) : entryFrame m #[(.ref x0)] 1 = mkF m 0 #[.val (.ref x0)] [] := by first | (simp [entryFrame, mkF, argsToLocals, Value.category]; done) | rfl
def QO (Z : State) (a : Addr) (k : Int32) (h0 : Heap) (n0 : Nat) (v : Option Value) (h : Heap) (L : List Loc) : Prop := v = some (.int k) ∧ Fr n0 L ∧ h = h0
set_option maxRecDepth 65536 in
set_option maxHeartbeats 40000000 in
theorem rmO (l : Launch) (Z : State) (a0 : Array Value) (hw : ∀ d ∈ tables_1, d.before a0 Z = true) (ws : List Jvm.Cond) (a : Addr) (k : Int32) (h0 : Heap) (n0 : Nat) (O0 : Old Z n0 h0) (F : Fld Z h0 a "java/lang/Enum" "ordinal" "I" (.int k)) :
    MetFree l (⟨"java/lang/Enum", "ordinal", "()I"⟩ : MethodName) (head1 (Jvm.Cond.code (⟨"java/lang/Enum", "ordinal", "()I"⟩ : MethodName) jdk_37_method_2_code 1 (some .int) :: ws) ({ frames := 0, cells := 0, slots := 0, locals := 0 } : Room)) (fun aa_ UU_ => aa_ = #[(.ref a)] ∧ Z.Warmed39 UU_.vm ∧ UU_.heap = h0) (fun _ _ _ _ _ => True) (fun _ UU_ oo_ UV_ => ∃ vv_ LL_, oo_ = .returned vv_ ∧ QO Z a k h0 n0 vv_ UV_.heap LL_ ∧ FrameEnd UU_ oo_ UV_ LL_ ({ frames := 0, cells := 0, slots := 0, locals := 0 } : Room).cells ({ frames := 0, cells := 0, slots := 0, locals := 0 } : Room).slots) := by
  refine MetFree.of_bodySF (plainFor_of_name pn_0) hisR ?_
  intro p e s m args below meth c s₁ Bd hml0 hP hK
  obtain ⟨rfl, hZ, hh⟩ := hP
  have hx := Bd.exec
  have hby := Bd.bytes
  have hlk := BodyLoose.notSynchronized Bd
  have hml : c.maxLocals = 1 := hml0
  have hown : s.vm.findClass "java/lang/Enum" = some m.cls := findClass_of_methodNamed Bd.named
  have hnm := (name_of_methodNamed Bd.named Bd.method).1
  have X0 : Stand p l e ({ frames := 0, cells := 0, slots := 0, locals := 0 } : Room) s m #[(.ref a)] below meth c s₁ [] 0 0 := Stand.of_body Bd
  have e0 : s₁.heap = h0 := by rw [← hh, Bd.state]; rfl
  have N0 := Fr.nil n0
  suffices hOW : OW p e below s (QO Z a k h0 n0) 0 0 (s₁.setTop (mkF m 0 #[.val (.ref a)] [])) by
    obtain ⟨q1, q2, q3, q4⟩ := hOW
    exact ⟨q1, q2, castTop (ef_O m a) q3, q4⟩
  refine OW.st (B := s₁.setTop (mkF m 1 #[.val (.ref a)] [(.ref a)])) (fun _ kk_ => XS.aloadN X0.here hx rfl (hb hby d2_0) rfl rfl kk_) ?_
  obtain ⟨T15, X15, e15, st15⟩ := getF X0 hx hZ hown (host := "") (Or.inl (w_24 hw)) Via.refl e0 F (g := (mkF m 1 #[.val (.ref a)] [(.ref a)])) rfl rfl (hb hby d2_1)
  refine OW.st (B := T15.setTop (mkF m 4 #[.val (.ref a)] [(.int k)])) (st15) ?_
  exact OW.ret X15 hx hlk (i := .ireturn) Bd.returns rfl (Or.inl ⟨rfl, Or.inl rfl, _, rfl⟩) (hb hby d2_4) e15 (by decide) (by decide) ⟨rfl, N0, rfl⟩
theorem ef_A (m : MethodId) (x0 : Addr) (x1 : Int32) : entryFrame m #[(.ref x0), (.int x1)] 2 = mkF m 0 #[.val (.ref x0), .val (.int x1)] [] := by first | (simp [entryFrame, mkF, argsToLocals, Value.category]; done) | rfl
def QA (Z : State) (a : Addr) (k : Int32) (z1 : Int32) (h0 : Heap) (n0 : Nat) (v : Option Value) (h : Heap) (L : List Loc) : Prop := v = some (.int (own_al k z1)) ∧ Fr n0 L ∧ h = h0
set_option maxRecDepth 65536 in
set_option maxHeartbeats 40000000 in
theorem rmA (l : Launch) (Z : State) (a0 : Array Value) (hw : ∀ d ∈ tables_1, d.before a0 Z = true) (ws : List Jvm.Cond) (a : Addr) (k : Int32) (z1 : Int32) (h0 : Heap) (n0 : Nat) (O0 : Old Z n0 h0) (E : Exa Z h0 a "com/example/filter_to_where/filtertowhere/tree/Operand") (F : Fld Z h0 a "java/lang/Enum" "ordinal" "I" (.int k)) (hk : k = 0 ∨ k = 1 ∨ k = 2 ∨ k = 3) :
    MetFree l (⟨"com/example/filter_to_where/filtertowhere/tree/Operand", "allows", "(I)Z"⟩ : MethodName) (head1 (Jvm.Cond.code (⟨"com/example/filter_to_where/filtertowhere/tree/Operand", "allows", "(I)Z"⟩ : MethodName) prog_55_method_4_code 2 (some .boolean) :: ws) ({ frames := 1, cells := 0, slots := 0, locals := 12 } : Room)) (fun aa_ UU_ => aa_ = #[(.ref a), (.int z1)] ∧ Z.Warmed39 UU_.vm ∧ UU_.heap = h0) (fun _ _ _ _ _ => True) (fun _ UU_ oo_ UV_ => ∃ vv_ LL_, oo_ = .returned vv_ ∧ QA Z a k z1 h0 n0 vv_ UV_.heap LL_ ∧ FrameEnd UU_ oo_ UV_ LL_ ({ frames := 1, cells := 0, slots := 0, locals := 12 } : Room).cells ({ frames := 1, cells := 0, slots := 0, locals := 12 } : Room).slots) := by
  refine MetFree.of_bodySF (plainFor_of_name pn_1) hisR ?_
  intro p e s m args below meth c s₁ Bd hml0 hP hK
  obtain ⟨rfl, hZ, hh⟩ := hP
  have hx := Bd.exec
  have hby := Bd.bytes
  have hlk := BodyLoose.notSynchronized Bd
  have hml : c.maxLocals = 2 := hml0
  have hown : s.vm.findClass "com/example/filter_to_where/filtertowhere/tree/Operand" = some m.cls := findClass_of_methodNamed Bd.named
  have hnm := (name_of_methodNamed Bd.named Bd.method).1
  have X0 : Stand p l e ({ frames := 1, cells := 0, slots := 0, locals := 12 } : Room) s m #[(.ref a), (.int z1)] below meth c s₁ [] 0 0 := Stand.of_body Bd
  have e0 : s₁.heap = h0 := by rw [← hh, Bd.state]; rfl
  have N0 := Fr.nil n0
  suffices hOW : OW p e below s (QA Z a k z1 h0 n0) 0 0 (s₁.setTop (mkF m 0 #[.val (.ref a), .val (.int z1)] [])) by
    obtain ⟨q1, q2, q3, q4⟩ := hOW
    exact ⟨q1, q2, castTop (ef_A m a z1) q3, q4⟩
  rcases hk with rfl | rfl | rfl | rfl
  · refine OW.st (B := s₁.setTop (mkF m 1 #[.val (.ref a), .val (.int z1)] [(.ref a)])) (fun _ kk_ => XS.aloadN X0.here hx rfl (hb hby d1_0) rfl rfl kk_) ?_
    obtain ⟨cq16, kq16, q16a, q16b, q16c⟩ := isOf hZ e0 E
    obtain ⟨_, _, ⟨T16, L16, k16, n16⟩, -, X16, ⟨Lc16, hQ16, l16, y16, z16⟩, st16⟩ := X0.virtualBackUp hx (x := (⟨"com/example/filter_to_where/filtertowhere/tree/Operand", "ordinal", "()I"⟩ : MethodName)) (y := (⟨"java/lang/Enum", "ordinal", "()I"⟩ : MethodName)) (owner := "java/lang/Enum") hown (mvT hZ (w_17 hw)) (mvT hZ (w_18 hw)) (mvT hZ (w_19 hw)) (by decide) (mvT hZ (w_21 hw)) (mvT hZ (w_20 hw)) (backOf (W := 0) (rmO l Z a0 hw [] a (0 : Int32) h0 n0 O0 F) hZ (w_23 hw) (w_22 hw) (by decide) (by decide)) q16a q16c (g := (mkF m 1 #[.val (.ref a), .val (.int z1)] [(.ref a)])) rfl (by rw [hml]; rfl) (Steps.refl _) (argsL := []) (rest := []) (lenOf pd_0 rfl) rfl (by show 2 * 0 + _ ≤ _; exact Nat.le_of_eq rfl) (hb hby d1_1) (fun _ _ => ⟨rfl, e0, (by decide : 0 + 0 ≤ _), (by decide : 0 + 0 ≤ _)⟩)
    dsimp only [Pt.U, Pt.locs, Pt.cells, Pt.slots] at X16 l16 y16 z16 st16 hQ16
    subst l16 y16 z16
    obtain ⟨rfl, Nq16, e16⟩ := hQ16
    have N16 := Fr.app N0 Nq16
    refine OW.tr (B := T16.setTop (mkF m 4 #[.val (.ref a), .val (.int z1)] [(.int (0 : Int32))])) (st16) ?_
    refine OW.st (B := T16.setTop (mkF m 46 #[.val (.ref a), .val (.int z1)] [])) (fun _ kk_ => XS.tswIn X16.here hx rfl (pc0 := 4) (pc' := 46) rfl (hb hby d1_4) rfl (by decide) rfl (by decide) (by decide) kk_) ?_
    refine OW.st (B := T16.setTop (mkF m 47 #[.val (.ref a), .val (.int z1)] [(.int z1)])) (fun _ kk_ => XS.iloadN X16.here hx rfl (hb hby d1_46) rfl kk_) ?_
    by_cases hc17 : z1 = (0 : Int32)
    · refine OW.st (B := T16.setTop (mkF m 50 #[.val (.ref a), .val (.int z1)] [])) (fun _ kk_ => XS.ifNo X16.here hx rfl (hb hby d1_47) rfl ((if0 _ _).trans (teq hc17).2) kk_) ?_
      refine OW.st (B := T16.setTop (mkF m 51 #[.val (.ref a), .val (.int z1)] [(.int (1 : Int32))])) (fun _ kk_ => XS.iconst X16.here hx rfl (hb hby d1_50) kk_) ?_
      refine OW.st (B := T16.setTop (mkF m 94 #[.val (.ref a), .val (.int z1)] [(.int (1 : Int32))])) (fun _ kk_ => XS.goto X16.here hx rfl (pc0 := 51) (pc' := 94) rfl (hb hby d1_51) (by decide) (by decide) kk_) ?_
      exact OW.ret X16 hx hlk (i := .ireturn) Bd.returns rfl (Or.inl ⟨rfl, Or.inr (Or.inl rfl), _, rfl⟩) (hb hby d1_94) e16 (by decide) (by decide) ⟨by simp [own_al, hc17], N16, rfl⟩
    · refine OW.st (B := T16.setTop (mkF m 54 #[.val (.ref a), .val (.int z1)] [])) (fun _ kk_ => XS.ifYes X16.here hx rfl (pc0 := 47) (pc' := 54) rfl (hb hby d1_47) rfl ((if0 _ _).trans (feq hc17).2) (by decide) (by decide) kk_) ?_
      refine OW.st (B := T16.setTop (mkF m 55 #[.val (.ref a), .val (.int z1)] [(.int (0 : Int32))])) (fun _ kk_ => XS.iconst X16.here hx rfl (hb hby d1_54) kk_) ?_
      refine OW.st (B := T16.setTop (mkF m 94 #[.val (.ref a), .val (.int z1)] [(.int (0 : Int32))])) (fun _ kk_ => XS.goto X16.here hx rfl (pc0 := 55) (pc' := 94) rfl (hb hby d1_55) (by decide) (by decide) kk_) ?_
      exact OW.ret X16 hx hlk (i := .ireturn) Bd.returns rfl (Or.inl ⟨rfl, Or.inr (Or.inl rfl), _, rfl⟩) (hb hby d1_94) e16 (by decide) (by decide) ⟨by simp [own_al, hc17], N16, rfl⟩
  · refine OW.st (B := s₁.setTop (mkF m 1 #[.val (.ref a), .val (.int z1)] [(.ref a)])) (fun _ kk_ => XS.aloadN X0.here hx rfl (hb hby d1_0) rfl rfl kk_) ?_
    obtain ⟨cq18, kq18, q18a, q18b, q18c⟩ := isOf hZ e0 E
    obtain ⟨_, _, ⟨T18, L18, k18, n18⟩, -, X18, ⟨Lc18, hQ18, l18, y18, z18⟩, st18⟩ := X0.virtualBackUp hx (x := (⟨"com/example/filter_to_where/filtertowhere/tree/Operand", "ordinal", "()I"⟩ : MethodName)) (y := (⟨"java/lang/Enum", "ordinal", "()I"⟩ : MethodName)) (owner := "java/lang/Enum") hown (mvT hZ (w_17 hw)) (mvT hZ (w_18 hw)) (mvT hZ (w_19 hw)) (by decide) (mvT hZ (w_21 hw)) (mvT hZ (w_20 hw)) (backOf (W := 0) (rmO l Z a0 hw [] a (1 : Int32) h0 n0 O0 F) hZ (w_23 hw) (w_22 hw) (by decide) (by decide)) q18a q18c (g := (mkF m 1 #[.val (.ref a), .val (.int z1)] [(.ref a)])) rfl (by rw [hml]; rfl) (Steps.refl _) (argsL := []) (rest := []) (lenOf pd_0 rfl) rfl (by show 2 * 0 + _ ≤ _; exact Nat.le_of_eq rfl) (hb hby d1_1) (fun _ _ => ⟨rfl, e0, (by decide : 0 + 0 ≤ _), (by decide : 0 + 0 ≤ _)⟩)
    dsimp only [Pt.U, Pt.locs, Pt.cells, Pt.slots] at X18 l18 y18 z18 st18 hQ18
    subst l18 y18 z18
    obtain ⟨rfl, Nq18, e18⟩ := hQ18
    have N18 := Fr.app N0 Nq18
    refine OW.tr (B := T18.setTop (mkF m 4 #[.val (.ref a), .val (.int z1)] [(.int (1 : Int32))])) (st18) ?_
    refine OW.st (B := T18.setTop (mkF m 58 #[.val (.ref a), .val (.int z1)] [])) (fun _ kk_ => XS.tswIn X18.here hx rfl (pc0 := 4) (pc' := 58) rfl (hb hby d1_4) rfl (by decide) rfl (by decide) (by decide) kk_) ?_
    refine OW.st (B := T18.setTop (mkF m 59 #[.val (.ref a), .val (.int z1)] [(.int z1)])) (fun _ kk_ => XS.iloadN X18.here hx rfl (hb hby d1_58) rfl kk_) ?_
    refine OW.st (B := T18.setTop (mkF m 60 #[.val (.ref a), .val (.int z1)] [(.int (1 : Int32)), (.int z1)])) (fun _ kk_ => XS.iconst X18.here hx rfl (hb hby d1_59) kk_) ?_
    by_cases hc19 : z1 = (1 : Int32)
    · refine OW.st (B := T18.setTop (mkF m 63 #[.val (.ref a), .val (.int z1)] [])) (fun _ kk_ => XS.icmpNo X18.here hx rfl (hb hby d1_60) rfl (teq hc19).2 kk_) ?_
      refine OW.st (B := T18.setTop (mkF m 64 #[.val (.ref a), .val (.int z1)] [(.int (1 : Int32))])) (fun _ kk_ => XS.iconst X18.here hx rfl (hb hby d1_63) kk_) ?_
      refine OW.st (B := T18.setTop (mkF m 94 #[.val (.ref a), .val (.int z1)] [(.int (1 : Int32))])) (fun _ kk_ => XS.goto X18.here hx rfl (pc0 := 64) (pc' := 94) rfl (hb hby d1_64) (by decide) (by decide) kk_) ?_
      exact OW.ret X18 hx hlk (i := .ireturn) Bd.returns rfl (Or.inl ⟨rfl, Or.inr (Or.inl rfl), _, rfl⟩) (hb hby d1_94) e18 (by decide) (by decide) ⟨by simp [own_al, hc19], N18, rfl⟩
    · refine OW.st (B := T18.setTop (mkF m 67 #[.val (.ref a), .val (.int z1)] [])) (fun _ kk_ => XS.icmpYes X18.here hx rfl (pc0 := 60) (pc' := 67) rfl (hb hby d1_60) rfl (feq hc19).2 (by decide) (by decide) kk_) ?_
      refine OW.st (B := T18.setTop (mkF m 68 #[.val (.ref a), .val (.int z1)] [(.int (0 : Int32))])) (fun _ kk_ => XS.iconst X18.here hx rfl (hb hby d1_67) kk_) ?_
      refine OW.st (B := T18.setTop (mkF m 94 #[.val (.ref a), .val (.int z1)] [(.int (0 : Int32))])) (fun _ kk_ => XS.goto X18.here hx rfl (pc0 := 68) (pc' := 94) rfl (hb hby d1_68) (by decide) (by decide) kk_) ?_
      exact OW.ret X18 hx hlk (i := .ireturn) Bd.returns rfl (Or.inl ⟨rfl, Or.inr (Or.inl rfl), _, rfl⟩) (hb hby d1_94) e18 (by decide) (by decide) ⟨by simp [own_al, hc19], N18, rfl⟩
  · refine OW.st (B := s₁.setTop (mkF m 1 #[.val (.ref a), .val (.int z1)] [(.ref a)])) (fun _ kk_ => XS.aloadN X0.here hx rfl (hb hby d1_0) rfl rfl kk_) ?_
    obtain ⟨cq20, kq20, q20a, q20b, q20c⟩ := isOf hZ e0 E
    obtain ⟨_, _, ⟨T20, L20, k20, n20⟩, -, X20, ⟨Lc20, hQ20, l20, y20, z20⟩, st20⟩ := X0.virtualBackUp hx (x := (⟨"com/example/filter_to_where/filtertowhere/tree/Operand", "ordinal", "()I"⟩ : MethodName)) (y := (⟨"java/lang/Enum", "ordinal", "()I"⟩ : MethodName)) (owner := "java/lang/Enum") hown (mvT hZ (w_17 hw)) (mvT hZ (w_18 hw)) (mvT hZ (w_19 hw)) (by decide) (mvT hZ (w_21 hw)) (mvT hZ (w_20 hw)) (backOf (W := 0) (rmO l Z a0 hw [] a (2 : Int32) h0 n0 O0 F) hZ (w_23 hw) (w_22 hw) (by decide) (by decide)) q20a q20c (g := (mkF m 1 #[.val (.ref a), .val (.int z1)] [(.ref a)])) rfl (by rw [hml]; rfl) (Steps.refl _) (argsL := []) (rest := []) (lenOf pd_0 rfl) rfl (by show 2 * 0 + _ ≤ _; exact Nat.le_of_eq rfl) (hb hby d1_1) (fun _ _ => ⟨rfl, e0, (by decide : 0 + 0 ≤ _), (by decide : 0 + 0 ≤ _)⟩)
    dsimp only [Pt.U, Pt.locs, Pt.cells, Pt.slots] at X20 l20 y20 z20 st20 hQ20
    subst l20 y20 z20
    obtain ⟨rfl, Nq20, e20⟩ := hQ20
    have N20 := Fr.app N0 Nq20
    refine OW.tr (B := T20.setTop (mkF m 4 #[.val (.ref a), .val (.int z1)] [(.int (2 : Int32))])) (st20) ?_
    refine OW.st (B := T20.setTop (mkF m 71 #[.val (.ref a), .val (.int z1)] [])) (fun _ kk_ => XS.tswIn X20.here hx rfl (pc0 := 4) (pc' := 71) rfl (hb hby d1_4) rfl (by decide) rfl (by decide) (by decide) kk_) ?_
    refine OW.st (B := T20.setTop (mkF m 72 #[.val (.ref a), .val (.int z1)] [(.int z1)])) (fun _ kk_ => XS.iloadN X20.here hx rfl (hb hby d1_71) rfl kk_) ?_
    refine OW.st (B := T20.setTop (mkF m 73 #[.val (.ref a), .val (.int z1)] [(.int (1 : Int32)), (.int z1)])) (fun _ kk_ => XS.iconst X20.here hx rfl (hb hby d1_72) kk_) ?_
    by_cases hc21 : z1 < (1 : Int32)
    · refine OW.st (B := T20.setTop (mkF m 80 #[.val (.ref a), .val (.int z1)] [])) (fun _ kk_ => XS.icmpYes X20.here hx rfl (pc0 := 73) (pc' := 80) rfl (hb hby d1_73) rfl (tlt hc21).1 (by decide) (by decide) kk_) ?_
      refine OW.st (B := T20.setTop (mkF m 81 #[.val (.ref a), .val (.int z1)] [(.int (0 : Int32))])) (fun _ kk_ => XS.iconst X20.here hx rfl (hb hby d1_80) kk_) ?_
      refine OW.st (B := T20.setTop (mkF m 94 #[.val (.ref a), .val (.int z1)] [(.int (0 : Int32))])) (fun _ kk_ => XS.goto X20.here hx rfl (pc0 := 81) (pc' := 94) rfl (hb hby d1_81) (by decide) (by decide) kk_) ?_
      exact OW.ret X20 hx hlk (i := .ireturn) Bd.returns rfl (Or.inl ⟨rfl, Or.inr (Or.inl rfl), _, rfl⟩) (hb hby d1_94) e20 (by decide) (by decide) ⟨by simp [own_al, hc21], N20, rfl⟩
    · refine OW.st (B := T20.setTop (mkF m 76 #[.val (.ref a), .val (.int z1)] [])) (fun _ kk_ => XS.icmpNo X20.here hx rfl (hb hby d1_73) rfl (flt hc21).1 kk_) ?_
      refine OW.st (B := T20.setTop (mkF m 77 #[.val (.ref a), .val (.int z1)] [(.int (1 : Int32))])) (fun _ kk_ => XS.iconst X20.here hx rfl (hb hby d1_76) kk_) ?_
      refine OW.st (B := T20.setTop (mkF m 94 #[.val (.ref a), .val (.int z1)] [(.int (1 : Int32))])) (fun _ kk_ => XS.goto X20.here hx rfl (pc0 := 77) (pc' := 94) rfl (hb hby d1_77) (by decide) (by decide) kk_) ?_
      exact OW.ret X20 hx hlk (i := .ireturn) Bd.returns rfl (Or.inl ⟨rfl, Or.inr (Or.inl rfl), _, rfl⟩) (hb hby d1_94) e20 (by decide) (by decide) ⟨by simp [own_al, hc21], N20, rfl⟩
  · refine OW.st (B := s₁.setTop (mkF m 1 #[.val (.ref a), .val (.int z1)] [(.ref a)])) (fun _ kk_ => XS.aloadN X0.here hx rfl (hb hby d1_0) rfl rfl kk_) ?_
    obtain ⟨cq22, kq22, q22a, q22b, q22c⟩ := isOf hZ e0 E
    obtain ⟨_, _, ⟨T22, L22, k22, n22⟩, -, X22, ⟨Lc22, hQ22, l22, y22, z22⟩, st22⟩ := X0.virtualBackUp hx (x := (⟨"com/example/filter_to_where/filtertowhere/tree/Operand", "ordinal", "()I"⟩ : MethodName)) (y := (⟨"java/lang/Enum", "ordinal", "()I"⟩ : MethodName)) (owner := "java/lang/Enum") hown (mvT hZ (w_17 hw)) (mvT hZ (w_18 hw)) (mvT hZ (w_19 hw)) (by decide) (mvT hZ (w_21 hw)) (mvT hZ (w_20 hw)) (backOf (W := 0) (rmO l Z a0 hw [] a (3 : Int32) h0 n0 O0 F) hZ (w_23 hw) (w_22 hw) (by decide) (by decide)) q22a q22c (g := (mkF m 1 #[.val (.ref a), .val (.int z1)] [(.ref a)])) rfl (by rw [hml]; rfl) (Steps.refl _) (argsL := []) (rest := []) (lenOf pd_0 rfl) rfl (by show 2 * 0 + _ ≤ _; exact Nat.le_of_eq rfl) (hb hby d1_1) (fun _ _ => ⟨rfl, e0, (by decide : 0 + 0 ≤ _), (by decide : 0 + 0 ≤ _)⟩)
    dsimp only [Pt.U, Pt.locs, Pt.cells, Pt.slots] at X22 l22 y22 z22 st22 hQ22
    subst l22 y22 z22
    obtain ⟨rfl, Nq22, e22⟩ := hQ22
    have N22 := Fr.app N0 Nq22
    refine OW.tr (B := T22.setTop (mkF m 4 #[.val (.ref a), .val (.int z1)] [(.int (3 : Int32))])) (st22) ?_
    refine OW.st (B := T22.setTop (mkF m 84 #[.val (.ref a), .val (.int z1)] [])) (fun _ kk_ => XS.tswIn X22.here hx rfl (pc0 := 4) (pc' := 84) rfl (hb hby d1_4) rfl (by decide) rfl (by decide) (by decide) kk_) ?_
    refine OW.st (B := T22.setTop (mkF m 85 #[.val (.ref a), .val (.int z1)] [(.int z1)])) (fun _ kk_ => XS.iloadN X22.here hx rfl (hb hby d1_84) rfl kk_) ?_
    refine OW.st (B := T22.setTop (mkF m 86 #[.val (.ref a), .val (.int z1)] [(.int (2 : Int32)), (.int z1)])) (fun _ kk_ => XS.iconst X22.here hx rfl (hb hby d1_85) kk_) ?_
    by_cases hc23 : z1 = (2 : Int32)
    · refine OW.st (B := T22.setTop (mkF m 89 #[.val (.ref a), .val (.int z1)] [])) (fun _ kk_ => XS.icmpNo X22.here hx rfl (hb hby d1_86) rfl (teq hc23).2 kk_) ?_
      refine OW.st (B := T22.setTop (mkF m 90 #[.val (.ref a), .val (.int z1)] [(.int (1 : Int32))])) (fun _ kk_ => XS.iconst X22.here hx rfl (hb hby d1_89) kk_) ?_
      refine OW.st (B := T22.setTop (mkF m 94 #[.val (.ref a), .val (.int z1)] [(.int (1 : Int32))])) (fun _ kk_ => XS.goto X22.here hx rfl (pc0 := 90) (pc' := 94) rfl (hb hby d1_90) (by decide) (by decide) kk_) ?_
      exact OW.ret X22 hx hlk (i := .ireturn) Bd.returns rfl (Or.inl ⟨rfl, Or.inr (Or.inl rfl), _, rfl⟩) (hb hby d1_94) e22 (by decide) (by decide) ⟨by simp [own_al, hc23], N22, rfl⟩
    · refine OW.st (B := T22.setTop (mkF m 93 #[.val (.ref a), .val (.int z1)] [])) (fun _ kk_ => XS.icmpYes X22.here hx rfl (pc0 := 86) (pc' := 93) rfl (hb hby d1_86) rfl (feq hc23).2 (by decide) (by decide) kk_) ?_
      refine OW.st (B := T22.setTop (mkF m 94 #[.val (.ref a), .val (.int z1)] [(.int (0 : Int32))])) (fun _ kk_ => XS.iconst X22.here hx rfl (hb hby d1_93) kk_) ?_
      exact OW.ret X22 hx hlk (i := .ireturn) Bd.returns rfl (Or.inl ⟨rfl, Or.inr (Or.inl rfl), _, rfl⟩) (hb hby d1_94) e22 (by decide) (by decide) ⟨by simp [own_al, hc23], N22, rfl⟩
theorem ef_X (m : MethodId) (x0 : Int32) (x1 : Int32) : entryFrame m #[(.int x0), (.int x1)] 4 = mkF m 0 #[.val (.int x0), .val (.int x1), .unset, .unset] [] := by first | (simp [entryFrame, mkF, argsToLocals, Value.category]; done) | rfl
def QX (Z : State) (k : Int32) (z1 : Int32) (h0 : Heap) (n0 : Nat) (v : Option Value) (h : Heap) (L : List Loc) : Prop := v = some (.int (own_ex k z1)) ∧ Fr n0 L ∧ h = h0
set_option maxRecDepth 65536 in
set_option maxHeartbeats 40000000 in
theorem rmX (l : Launch) (Z : State) (a0 : Array Value) (hw : ∀ d ∈ tables_1, d.before a0 Z = true) (ws : List Jvm.Cond) (k : Int32) (z1 : Int32) (h0 : Heap) (n0 : Nat) (O0 : Old Z n0 h0) (hk : k = 0 ∨ k = 1 ∨ k = 2 ∨ k = 3) :
    MetFree l (⟨"com/example/filter_to_where/filtertowhere/tree/OperandAllowsPinLaw", "expected", "(II)Z"⟩ : MethodName) (head1 (Jvm.Cond.code (⟨"com/example/filter_to_where/filtertowhere/tree/OperandAllowsPinLaw", "expected", "(II)Z"⟩ : MethodName) method_2_code 4 (some .boolean) :: ws) ({ frames := 0, cells := 0, slots := 0, locals := 0 } : Room)) (fun aa_ UU_ => aa_ = #[(.int k), (.int z1)] ∧ Z.Warmed39 UU_.vm ∧ UU_.heap = h0) (fun _ _ _ _ _ => True) (fun _ UU_ oo_ UV_ => ∃ vv_ LL_, oo_ = .returned vv_ ∧ QX Z k z1 h0 n0 vv_ UV_.heap LL_ ∧ FrameEnd UU_ oo_ UV_ LL_ ({ frames := 0, cells := 0, slots := 0, locals := 0 } : Room).cells ({ frames := 0, cells := 0, slots := 0, locals := 0 } : Room).slots) := by
  refine MetFree.of_bodySF (plainFor_of_name pn_2) hisR ?_
  intro p e s m args below meth c s₁ Bd hml0 hP hK
  obtain ⟨rfl, hZ, hh⟩ := hP
  have hx := Bd.exec
  have hby := Bd.bytes
  have hlk := BodyLoose.notSynchronized Bd
  have hml : c.maxLocals = 4 := hml0
  have hown : s.vm.findClass "com/example/filter_to_where/filtertowhere/tree/OperandAllowsPinLaw" = some m.cls := findClass_of_methodNamed Bd.named
  have hnm := (name_of_methodNamed Bd.named Bd.method).1
  have X0 : Stand p l e ({ frames := 0, cells := 0, slots := 0, locals := 0 } : Room) s m #[(.int k), (.int z1)] below meth c s₁ [] 0 0 := Stand.of_body Bd
  have e0 : s₁.heap = h0 := by rw [← hh, Bd.state]; rfl
  have N0 := Fr.nil n0
  suffices hOW : OW p e below s (QX Z k z1 h0 n0) 0 0 (s₁.setTop (mkF m 0 #[.val (.int k), .val (.int z1), .unset, .unset] [])) by
    obtain ⟨q1, q2, q3, q4⟩ := hOW
    exact ⟨q1, q2, castTop (ef_X m k z1) q3, q4⟩
  rcases hk with rfl | rfl | rfl | rfl
  · refine OW.st (B := s₁.setTop (mkF m 1 #[.val (.int (0 : Int32)), .val (.int z1), .unset, .unset] [(.int (0 : Int32))])) (fun _ kk_ => XS.iloadN X0.here hx rfl (hb hby d3_0) rfl kk_) ?_
    refine OW.st (B := s₁.setTop (mkF m 4 #[.val (.int (0 : Int32)), .val (.int z1), .unset, .unset] [])) (fun _ kk_ => XS.ifNo X0.here hx rfl (hb hby d3_1) rfl ((if0 _ _).trans (teq (by decide)).2) kk_) ?_
    refine OW.st (B := s₁.setTop (mkF m 5 #[.val (.int (0 : Int32)), .val (.int z1), .unset, .unset] [(.int (0 : Int32))])) (fun _ kk_ => XS.iconst X0.here hx rfl (hb hby d3_4) kk_) ?_
    refine OW.st (B := s₁.setTop (mkF m 6 #[.val (.int (0 : Int32)), .val (.int z1), .val (.int (0 : Int32)), .unset] [])) (fun _ kk_ => XS.istoreN X0.here hx rfl (hb hby d3_5) rfl (l' := #[.val (.int (0 : Int32)), .val (.int z1), .val (.int (0 : Int32)), .unset]) rfl kk_) ?_
    refine OW.st (B := s₁.setTop (mkF m 7 #[.val (.int (0 : Int32)), .val (.int z1), .val (.int (0 : Int32)), .unset] [(.int (0 : Int32))])) (fun _ kk_ => XS.iconst X0.here hx rfl (hb hby d3_6) kk_) ?_
    refine OW.st (B := s₁.setTop (mkF m 8 #[.val (.int (0 : Int32)), .val (.int z1), .val (.int (0 : Int32)), .val (.int (0 : Int32))] [])) (fun _ kk_ => XS.istoreN X0.here hx rfl (hb hby d3_7) rfl (l' := #[.val (.int (0 : Int32)), .val (.int z1), .val (.int (0 : Int32)), .val (.int (0 : Int32))]) rfl kk_) ?_
    refine OW.st (B := s₁.setTop (mkF m 40 #[.val (.int (0 : Int32)), .val (.int z1), .val (.int (0 : Int32)), .val (.int (0 : Int32))] [])) (fun _ kk_ => XS.goto X0.here hx rfl (pc0 := 8) (pc' := 40) rfl (hb hby d3_8) (by decide) (by decide) kk_) ?_
    refine OW.st (B := s₁.setTop (mkF m 41 #[.val (.int (0 : Int32)), .val (.int z1), .val (.int (0 : Int32)), .val (.int (0 : Int32))] [(.int (0 : Int32))])) (fun _ kk_ => XS.iloadN X0.here hx rfl (hb hby d3_40) rfl kk_) ?_
    refine OW.st (B := s₁.setTop (mkF m 42 #[.val (.int (0 : Int32)), .val (.int z1), .val (.int (0 : Int32)), .val (.int (0 : Int32))] [(.int z1), (.int (0 : Int32))])) (fun _ kk_ => XS.iloadN X0.here hx rfl (hb hby d3_41) rfl kk_) ?_
    by_cases hc24 : z1 < (0 : Int32)
    · refine OW.st (B := s₁.setTop (mkF m 54 #[.val (.int (0 : Int32)), .val (.int z1), .val (.int (0 : Int32)), .val (.int (0 : Int32))] [])) (fun _ kk_ => XS.icmpYes X0.here hx rfl (pc0 := 42) (pc' := 54) rfl (hb hby d3_42) rfl (tlt hc24).2.2.1 (by decide) (by decide) kk_) ?_
      refine OW.st (B := s₁.setTop (mkF m 55 #[.val (.int (0 : Int32)), .val (.int z1), .val (.int (0 : Int32)), .val (.int (0 : Int32))] [(.int (0 : Int32))])) (fun _ kk_ => XS.iconst X0.here hx rfl (hb hby d3_54) kk_) ?_
      exact OW.ret X0 hx hlk (i := .ireturn) Bd.returns rfl (Or.inl ⟨rfl, Or.inr (Or.inl rfl), _, rfl⟩) (hb hby d3_55) e0 (by decide) (by decide) ⟨by simp [own_ex, own_lo, own_hi, hc24], N0, rfl⟩
    · refine OW.st (B := s₁.setTop (mkF m 45 #[.val (.int (0 : Int32)), .val (.int z1), .val (.int (0 : Int32)), .val (.int (0 : Int32))] [])) (fun _ kk_ => XS.icmpNo X0.here hx rfl (hb hby d3_42) rfl (flt hc24).2.2.1 kk_) ?_
      refine OW.st (B := s₁.setTop (mkF m 46 #[.val (.int (0 : Int32)), .val (.int z1), .val (.int (0 : Int32)), .val (.int (0 : Int32))] [(.int z1)])) (fun _ kk_ => XS.iloadN X0.here hx rfl (hb hby d3_45) rfl kk_) ?_
      refine OW.st (B := s₁.setTop (mkF m 47 #[.val (.int (0 : Int32)), .val (.int z1), .val (.int (0 : Int32)), .val (.int (0 : Int32))] [(.int (0 : Int32)), (.int z1)])) (fun _ kk_ => XS.iloadN X0.here hx rfl (hb hby d3_46) rfl kk_) ?_
      by_cases hc25 : (0 : Int32) < z1
      · refine OW.st (B := s₁.setTop (mkF m 54 #[.val (.int (0 : Int32)), .val (.int z1), .val (.int (0 : Int32)), .val (.int (0 : Int32))] [])) (fun _ kk_ => XS.icmpYes X0.here hx rfl (pc0 := 47) (pc' := 54) rfl (hb hby d3_47) rfl (tlt hc25).2.2.1 (by decide) (by decide) kk_) ?_
        refine OW.st (B := s₁.setTop (mkF m 55 #[.val (.int (0 : Int32)), .val (.int z1), .val (.int (0 : Int32)), .val (.int (0 : Int32))] [(.int (0 : Int32))])) (fun _ kk_ => XS.iconst X0.here hx rfl (hb hby d3_54) kk_) ?_
        exact OW.ret X0 hx hlk (i := .ireturn) Bd.returns rfl (Or.inl ⟨rfl, Or.inr (Or.inl rfl), _, rfl⟩) (hb hby d3_55) e0 (by decide) (by decide) ⟨by simp [own_ex, own_lo, own_hi, hc24, hc25], N0, rfl⟩
      · refine OW.st (B := s₁.setTop (mkF m 50 #[.val (.int (0 : Int32)), .val (.int z1), .val (.int (0 : Int32)), .val (.int (0 : Int32))] [])) (fun _ kk_ => XS.icmpNo X0.here hx rfl (hb hby d3_47) rfl (flt hc25).2.2.1 kk_) ?_
        refine OW.st (B := s₁.setTop (mkF m 51 #[.val (.int (0 : Int32)), .val (.int z1), .val (.int (0 : Int32)), .val (.int (0 : Int32))] [(.int (1 : Int32))])) (fun _ kk_ => XS.iconst X0.here hx rfl (hb hby d3_50) kk_) ?_
        refine OW.st (B := s₁.setTop (mkF m 55 #[.val (.int (0 : Int32)), .val (.int z1), .val (.int (0 : Int32)), .val (.int (0 : Int32))] [(.int (1 : Int32))])) (fun _ kk_ => XS.goto X0.here hx rfl (pc0 := 51) (pc' := 55) rfl (hb hby d3_51) (by decide) (by decide) kk_) ?_
        exact OW.ret X0 hx hlk (i := .ireturn) Bd.returns rfl (Or.inl ⟨rfl, Or.inr (Or.inl rfl), _, rfl⟩) (hb hby d3_55) e0 (by decide) (by decide) ⟨by simp [own_ex, own_lo, own_hi, hc24, hc25], N0, rfl⟩
  · refine OW.st (B := s₁.setTop (mkF m 1 #[.val (.int (1 : Int32)), .val (.int z1), .unset, .unset] [(.int (1 : Int32))])) (fun _ kk_ => XS.iloadN X0.here hx rfl (hb hby d3_0) rfl kk_) ?_
    refine OW.st (B := s₁.setTop (mkF m 11 #[.val (.int (1 : Int32)), .val (.int z1), .unset, .unset] [])) (fun _ kk_ => XS.ifYes X0.here hx rfl (pc0 := 1) (pc' := 11) rfl (hb hby d3_1) rfl ((if0 _ _).trans (feq (by decide)).2) (by decide) (by decide) kk_) ?_
    refine OW.st (B := s₁.setTop (mkF m 12 #[.val (.int (1 : Int32)), .val (.int z1), .unset, .unset] [(.int (1 : Int32))])) (fun _ kk_ => XS.iloadN X0.here hx rfl (hb hby d3_11) rfl kk_) ?_
    refine OW.st (B := s₁.setTop (mkF m 13 #[.val (.int (1 : Int32)), .val (.int z1), .unset, .unset] [(.int (1 : Int32)), (.int (1 : Int32))])) (fun _ kk_ => XS.iconst X0.here hx rfl (hb hby d3_12) kk_) ?_
    refine OW.st (B := s₁.setTop (mkF m 16 #[.val (.int (1 : Int32)), .val (.int z1), .unset, .unset] [])) (fun _ kk_ => XS.icmpNo X0.here hx rfl (hb hby d3_13) rfl (teq (by decide)).2 kk_) ?_
    refine OW.st (B := s₁.setTop (mkF m 17 #[.val (.int (1 : Int32)), .val (.int z1), .unset, .unset] [(.int (1 : Int32))])) (fun _ kk_ => XS.iconst X0.here hx rfl (hb hby d3_16) kk_) ?_
    refine OW.st (B := s₁.setTop (mkF m 18 #[.val (.int (1 : Int32)), .val (.int z1), .val (.int (1 : Int32)), .unset] [])) (fun _ kk_ => XS.istoreN X0.here hx rfl (hb hby d3_17) rfl (l' := #[.val (.int (1 : Int32)), .val (.int z1), .val (.int (1 : Int32)), .unset]) rfl kk_) ?_
    refine OW.st (B := s₁.setTop (mkF m 19 #[.val (.int (1 : Int32)), .val (.int z1), .val (.int (1 : Int32)), .unset] [(.int (1 : Int32))])) (fun _ kk_ => XS.iconst X0.here hx rfl (hb hby d3_18) kk_) ?_
    refine OW.st (B := s₁.setTop (mkF m 20 #[.val (.int (1 : Int32)), .val (.int z1), .val (.int (1 : Int32)), .val (.int (1 : Int32))] [])) (fun _ kk_ => XS.istoreN X0.here hx rfl (hb hby d3_19) rfl (l' := #[.val (.int (1 : Int32)), .val (.int z1), .val (.int (1 : Int32)), .val (.int (1 : Int32))]) rfl kk_) ?_
    refine OW.st (B := s₁.setTop (mkF m 40 #[.val (.int (1 : Int32)), .val (.int z1), .val (.int (1 : Int32)), .val (.int (1 : Int32))] [])) (fun _ kk_ => XS.goto X0.here hx rfl (pc0 := 20) (pc' := 40) rfl (hb hby d3_20) (by decide) (by decide) kk_) ?_
    refine OW.st (B := s₁.setTop (mkF m 41 #[.val (.int (1 : Int32)), .val (.int z1), .val (.int (1 : Int32)), .val (.int (1 : Int32))] [(.int (1 : Int32))])) (fun _ kk_ => XS.iloadN X0.here hx rfl (hb hby d3_40) rfl kk_) ?_
    refine OW.st (B := s₁.setTop (mkF m 42 #[.val (.int (1 : Int32)), .val (.int z1), .val (.int (1 : Int32)), .val (.int (1 : Int32))] [(.int z1), (.int (1 : Int32))])) (fun _ kk_ => XS.iloadN X0.here hx rfl (hb hby d3_41) rfl kk_) ?_
    by_cases hc26 : z1 < (1 : Int32)
    · refine OW.st (B := s₁.setTop (mkF m 54 #[.val (.int (1 : Int32)), .val (.int z1), .val (.int (1 : Int32)), .val (.int (1 : Int32))] [])) (fun _ kk_ => XS.icmpYes X0.here hx rfl (pc0 := 42) (pc' := 54) rfl (hb hby d3_42) rfl (tlt hc26).2.2.1 (by decide) (by decide) kk_) ?_
      refine OW.st (B := s₁.setTop (mkF m 55 #[.val (.int (1 : Int32)), .val (.int z1), .val (.int (1 : Int32)), .val (.int (1 : Int32))] [(.int (0 : Int32))])) (fun _ kk_ => XS.iconst X0.here hx rfl (hb hby d3_54) kk_) ?_
      exact OW.ret X0 hx hlk (i := .ireturn) Bd.returns rfl (Or.inl ⟨rfl, Or.inr (Or.inl rfl), _, rfl⟩) (hb hby d3_55) e0 (by decide) (by decide) ⟨by simp [own_ex, own_lo, own_hi, hc26], N0, rfl⟩
    · refine OW.st (B := s₁.setTop (mkF m 45 #[.val (.int (1 : Int32)), .val (.int z1), .val (.int (1 : Int32)), .val (.int (1 : Int32))] [])) (fun _ kk_ => XS.icmpNo X0.here hx rfl (hb hby d3_42) rfl (flt hc26).2.2.1 kk_) ?_
      refine OW.st (B := s₁.setTop (mkF m 46 #[.val (.int (1 : Int32)), .val (.int z1), .val (.int (1 : Int32)), .val (.int (1 : Int32))] [(.int z1)])) (fun _ kk_ => XS.iloadN X0.here hx rfl (hb hby d3_45) rfl kk_) ?_
      refine OW.st (B := s₁.setTop (mkF m 47 #[.val (.int (1 : Int32)), .val (.int z1), .val (.int (1 : Int32)), .val (.int (1 : Int32))] [(.int (1 : Int32)), (.int z1)])) (fun _ kk_ => XS.iloadN X0.here hx rfl (hb hby d3_46) rfl kk_) ?_
      by_cases hc27 : (1 : Int32) < z1
      · refine OW.st (B := s₁.setTop (mkF m 54 #[.val (.int (1 : Int32)), .val (.int z1), .val (.int (1 : Int32)), .val (.int (1 : Int32))] [])) (fun _ kk_ => XS.icmpYes X0.here hx rfl (pc0 := 47) (pc' := 54) rfl (hb hby d3_47) rfl (tlt hc27).2.2.1 (by decide) (by decide) kk_) ?_
        refine OW.st (B := s₁.setTop (mkF m 55 #[.val (.int (1 : Int32)), .val (.int z1), .val (.int (1 : Int32)), .val (.int (1 : Int32))] [(.int (0 : Int32))])) (fun _ kk_ => XS.iconst X0.here hx rfl (hb hby d3_54) kk_) ?_
        exact OW.ret X0 hx hlk (i := .ireturn) Bd.returns rfl (Or.inl ⟨rfl, Or.inr (Or.inl rfl), _, rfl⟩) (hb hby d3_55) e0 (by decide) (by decide) ⟨by simp [own_ex, own_lo, own_hi, hc26, hc27], N0, rfl⟩
      · refine OW.st (B := s₁.setTop (mkF m 50 #[.val (.int (1 : Int32)), .val (.int z1), .val (.int (1 : Int32)), .val (.int (1 : Int32))] [])) (fun _ kk_ => XS.icmpNo X0.here hx rfl (hb hby d3_47) rfl (flt hc27).2.2.1 kk_) ?_
        refine OW.st (B := s₁.setTop (mkF m 51 #[.val (.int (1 : Int32)), .val (.int z1), .val (.int (1 : Int32)), .val (.int (1 : Int32))] [(.int (1 : Int32))])) (fun _ kk_ => XS.iconst X0.here hx rfl (hb hby d3_50) kk_) ?_
        refine OW.st (B := s₁.setTop (mkF m 55 #[.val (.int (1 : Int32)), .val (.int z1), .val (.int (1 : Int32)), .val (.int (1 : Int32))] [(.int (1 : Int32))])) (fun _ kk_ => XS.goto X0.here hx rfl (pc0 := 51) (pc' := 55) rfl (hb hby d3_51) (by decide) (by decide) kk_) ?_
        exact OW.ret X0 hx hlk (i := .ireturn) Bd.returns rfl (Or.inl ⟨rfl, Or.inr (Or.inl rfl), _, rfl⟩) (hb hby d3_55) e0 (by decide) (by decide) ⟨by simp [own_ex, own_lo, own_hi, hc26, hc27], N0, rfl⟩
  · refine OW.st (B := s₁.setTop (mkF m 1 #[.val (.int (2 : Int32)), .val (.int z1), .unset, .unset] [(.int (2 : Int32))])) (fun _ kk_ => XS.iloadN X0.here hx rfl (hb hby d3_0) rfl kk_) ?_
    refine OW.st (B := s₁.setTop (mkF m 11 #[.val (.int (2 : Int32)), .val (.int z1), .unset, .unset] [])) (fun _ kk_ => XS.ifYes X0.here hx rfl (pc0 := 1) (pc' := 11) rfl (hb hby d3_1) rfl ((if0 _ _).trans (feq (by decide)).2) (by decide) (by decide) kk_) ?_
    refine OW.st (B := s₁.setTop (mkF m 12 #[.val (.int (2 : Int32)), .val (.int z1), .unset, .unset] [(.int (2 : Int32))])) (fun _ kk_ => XS.iloadN X0.here hx rfl (hb hby d3_11) rfl kk_) ?_
    refine OW.st (B := s₁.setTop (mkF m 13 #[.val (.int (2 : Int32)), .val (.int z1), .unset, .unset] [(.int (1 : Int32)), (.int (2 : Int32))])) (fun _ kk_ => XS.iconst X0.here hx rfl (hb hby d3_12) kk_) ?_
    refine OW.st (B := s₁.setTop (mkF m 23 #[.val (.int (2 : Int32)), .val (.int z1), .unset, .unset] [])) (fun _ kk_ => XS.icmpYes X0.here hx rfl (pc0 := 13) (pc' := 23) rfl (hb hby d3_13) rfl (feq (by decide)).2 (by decide) (by decide) kk_) ?_
    refine OW.st (B := s₁.setTop (mkF m 24 #[.val (.int (2 : Int32)), .val (.int z1), .unset, .unset] [(.int (2 : Int32))])) (fun _ kk_ => XS.iloadN X0.here hx rfl (hb hby d3_23) rfl kk_) ?_
    refine OW.st (B := s₁.setTop (mkF m 25 #[.val (.int (2 : Int32)), .val (.int z1), .unset, .unset] [(.int (2 : Int32)), (.int (2 : Int32))])) (fun _ kk_ => XS.iconst X0.here hx rfl (hb hby d3_24) kk_) ?_
    refine OW.st (B := s₁.setTop (mkF m 28 #[.val (.int (2 : Int32)), .val (.int z1), .unset, .unset] [])) (fun _ kk_ => XS.icmpNo X0.here hx rfl (hb hby d3_25) rfl (teq (by decide)).2 kk_) ?_
    refine OW.st (B := s₁.setTop (mkF m 29 #[.val (.int (2 : Int32)), .val (.int z1), .unset, .unset] [(.int (1 : Int32))])) (fun _ kk_ => XS.iconst X0.here hx rfl (hb hby d3_28) kk_) ?_
    refine OW.st (B := s₁.setTop (mkF m 30 #[.val (.int (2 : Int32)), .val (.int z1), .val (.int (1 : Int32)), .unset] [])) (fun _ kk_ => XS.istoreN X0.here hx rfl (hb hby d3_29) rfl (l' := #[.val (.int (2 : Int32)), .val (.int z1), .val (.int (1 : Int32)), .unset]) rfl kk_) ?_
    refine OW.st (B := s₁.setTop (mkF m 32 #[.val (.int (2 : Int32)), .val (.int z1), .val (.int (1 : Int32)), .unset] [(.int (2147483647 : Int32))])) (X0.ldcInt hx hown (mvT hZ (w_30 hw)) (g := (mkF m 30 #[.val (.int (2 : Int32)), .val (.int z1), .val (.int (1 : Int32)), .unset] [])) rfl (hb hby d3_30)) ?_
    refine OW.st (B := s₁.setTop (mkF m 33 #[.val (.int (2 : Int32)), .val (.int z1), .val (.int (1 : Int32)), .val (.int (2147483647 : Int32))] [])) (fun _ kk_ => XS.istoreN X0.here hx rfl (hb hby d3_32) rfl (l' := #[.val (.int (2 : Int32)), .val (.int z1), .val (.int (1 : Int32)), .val (.int (2147483647 : Int32))]) rfl kk_) ?_
    refine OW.st (B := s₁.setTop (mkF m 40 #[.val (.int (2 : Int32)), .val (.int z1), .val (.int (1 : Int32)), .val (.int (2147483647 : Int32))] [])) (fun _ kk_ => XS.goto X0.here hx rfl (pc0 := 33) (pc' := 40) rfl (hb hby d3_33) (by decide) (by decide) kk_) ?_
    refine OW.st (B := s₁.setTop (mkF m 41 #[.val (.int (2 : Int32)), .val (.int z1), .val (.int (1 : Int32)), .val (.int (2147483647 : Int32))] [(.int (1 : Int32))])) (fun _ kk_ => XS.iloadN X0.here hx rfl (hb hby d3_40) rfl kk_) ?_
    refine OW.st (B := s₁.setTop (mkF m 42 #[.val (.int (2 : Int32)), .val (.int z1), .val (.int (1 : Int32)), .val (.int (2147483647 : Int32))] [(.int z1), (.int (1 : Int32))])) (fun _ kk_ => XS.iloadN X0.here hx rfl (hb hby d3_41) rfl kk_) ?_
    by_cases hc28 : z1 < (1 : Int32)
    · refine OW.st (B := s₁.setTop (mkF m 54 #[.val (.int (2 : Int32)), .val (.int z1), .val (.int (1 : Int32)), .val (.int (2147483647 : Int32))] [])) (fun _ kk_ => XS.icmpYes X0.here hx rfl (pc0 := 42) (pc' := 54) rfl (hb hby d3_42) rfl (tlt hc28).2.2.1 (by decide) (by decide) kk_) ?_
      refine OW.st (B := s₁.setTop (mkF m 55 #[.val (.int (2 : Int32)), .val (.int z1), .val (.int (1 : Int32)), .val (.int (2147483647 : Int32))] [(.int (0 : Int32))])) (fun _ kk_ => XS.iconst X0.here hx rfl (hb hby d3_54) kk_) ?_
      exact OW.ret X0 hx hlk (i := .ireturn) Bd.returns rfl (Or.inl ⟨rfl, Or.inr (Or.inl rfl), _, rfl⟩) (hb hby d3_55) e0 (by decide) (by decide) ⟨by simp [own_ex, own_lo, own_hi, hc28], N0, rfl⟩
    · refine OW.st (B := s₁.setTop (mkF m 45 #[.val (.int (2 : Int32)), .val (.int z1), .val (.int (1 : Int32)), .val (.int (2147483647 : Int32))] [])) (fun _ kk_ => XS.icmpNo X0.here hx rfl (hb hby d3_42) rfl (flt hc28).2.2.1 kk_) ?_
      refine OW.st (B := s₁.setTop (mkF m 46 #[.val (.int (2 : Int32)), .val (.int z1), .val (.int (1 : Int32)), .val (.int (2147483647 : Int32))] [(.int z1)])) (fun _ kk_ => XS.iloadN X0.here hx rfl (hb hby d3_45) rfl kk_) ?_
      refine OW.st (B := s₁.setTop (mkF m 47 #[.val (.int (2 : Int32)), .val (.int z1), .val (.int (1 : Int32)), .val (.int (2147483647 : Int32))] [(.int (2147483647 : Int32)), (.int z1)])) (fun _ kk_ => XS.iloadN X0.here hx rfl (hb hby d3_46) rfl kk_) ?_
      by_cases hc29 : (2147483647 : Int32) < z1
      · refine OW.st (B := s₁.setTop (mkF m 54 #[.val (.int (2 : Int32)), .val (.int z1), .val (.int (1 : Int32)), .val (.int (2147483647 : Int32))] [])) (fun _ kk_ => XS.icmpYes X0.here hx rfl (pc0 := 47) (pc' := 54) rfl (hb hby d3_47) rfl (tlt hc29).2.2.1 (by decide) (by decide) kk_) ?_
        refine OW.st (B := s₁.setTop (mkF m 55 #[.val (.int (2 : Int32)), .val (.int z1), .val (.int (1 : Int32)), .val (.int (2147483647 : Int32))] [(.int (0 : Int32))])) (fun _ kk_ => XS.iconst X0.here hx rfl (hb hby d3_54) kk_) ?_
        exact OW.ret X0 hx hlk (i := .ireturn) Bd.returns rfl (Or.inl ⟨rfl, Or.inr (Or.inl rfl), _, rfl⟩) (hb hby d3_55) e0 (by decide) (by decide) ⟨by simp [own_ex, own_lo, own_hi, hc28, hc29], N0, rfl⟩
      · refine OW.st (B := s₁.setTop (mkF m 50 #[.val (.int (2 : Int32)), .val (.int z1), .val (.int (1 : Int32)), .val (.int (2147483647 : Int32))] [])) (fun _ kk_ => XS.icmpNo X0.here hx rfl (hb hby d3_47) rfl (flt hc29).2.2.1 kk_) ?_
        refine OW.st (B := s₁.setTop (mkF m 51 #[.val (.int (2 : Int32)), .val (.int z1), .val (.int (1 : Int32)), .val (.int (2147483647 : Int32))] [(.int (1 : Int32))])) (fun _ kk_ => XS.iconst X0.here hx rfl (hb hby d3_50) kk_) ?_
        refine OW.st (B := s₁.setTop (mkF m 55 #[.val (.int (2 : Int32)), .val (.int z1), .val (.int (1 : Int32)), .val (.int (2147483647 : Int32))] [(.int (1 : Int32))])) (fun _ kk_ => XS.goto X0.here hx rfl (pc0 := 51) (pc' := 55) rfl (hb hby d3_51) (by decide) (by decide) kk_) ?_
        exact OW.ret X0 hx hlk (i := .ireturn) Bd.returns rfl (Or.inl ⟨rfl, Or.inr (Or.inl rfl), _, rfl⟩) (hb hby d3_55) e0 (by decide) (by decide) ⟨by simp [own_ex, own_lo, own_hi, hc28, hc29], N0, rfl⟩
  · refine OW.st (B := s₁.setTop (mkF m 1 #[.val (.int (3 : Int32)), .val (.int z1), .unset, .unset] [(.int (3 : Int32))])) (fun _ kk_ => XS.iloadN X0.here hx rfl (hb hby d3_0) rfl kk_) ?_
    refine OW.st (B := s₁.setTop (mkF m 11 #[.val (.int (3 : Int32)), .val (.int z1), .unset, .unset] [])) (fun _ kk_ => XS.ifYes X0.here hx rfl (pc0 := 1) (pc' := 11) rfl (hb hby d3_1) rfl ((if0 _ _).trans (feq (by decide)).2) (by decide) (by decide) kk_) ?_
    refine OW.st (B := s₁.setTop (mkF m 12 #[.val (.int (3 : Int32)), .val (.int z1), .unset, .unset] [(.int (3 : Int32))])) (fun _ kk_ => XS.iloadN X0.here hx rfl (hb hby d3_11) rfl kk_) ?_
    refine OW.st (B := s₁.setTop (mkF m 13 #[.val (.int (3 : Int32)), .val (.int z1), .unset, .unset] [(.int (1 : Int32)), (.int (3 : Int32))])) (fun _ kk_ => XS.iconst X0.here hx rfl (hb hby d3_12) kk_) ?_
    refine OW.st (B := s₁.setTop (mkF m 23 #[.val (.int (3 : Int32)), .val (.int z1), .unset, .unset] [])) (fun _ kk_ => XS.icmpYes X0.here hx rfl (pc0 := 13) (pc' := 23) rfl (hb hby d3_13) rfl (feq (by decide)).2 (by decide) (by decide) kk_) ?_
    refine OW.st (B := s₁.setTop (mkF m 24 #[.val (.int (3 : Int32)), .val (.int z1), .unset, .unset] [(.int (3 : Int32))])) (fun _ kk_ => XS.iloadN X0.here hx rfl (hb hby d3_23) rfl kk_) ?_
    refine OW.st (B := s₁.setTop (mkF m 25 #[.val (.int (3 : Int32)), .val (.int z1), .unset, .unset] [(.int (2 : Int32)), (.int (3 : Int32))])) (fun _ kk_ => XS.iconst X0.here hx rfl (hb hby d3_24) kk_) ?_
    refine OW.st (B := s₁.setTop (mkF m 36 #[.val (.int (3 : Int32)), .val (.int z1), .unset, .unset] [])) (fun _ kk_ => XS.icmpYes X0.here hx rfl (pc0 := 25) (pc' := 36) rfl (hb hby d3_25) rfl (feq (by decide)).2 (by decide) (by decide) kk_) ?_
    refine OW.st (B := s₁.setTop (mkF m 37 #[.val (.int (3 : Int32)), .val (.int z1), .unset, .unset] [(.int (2 : Int32))])) (fun _ kk_ => XS.iconst X0.here hx rfl (hb hby d3_36) kk_) ?_
    refine OW.st (B := s₁.setTop (mkF m 38 #[.val (.int (3 : Int32)), .val (.int z1), .val (.int (2 : Int32)), .unset] [])) (fun _ kk_ => XS.istoreN X0.here hx rfl (hb hby d3_37) rfl (l' := #[.val (.int (3 : Int32)), .val (.int z1), .val (.int (2 : Int32)), .unset]) rfl kk_) ?_
    refine OW.st (B := s₁.setTop (mkF m 39 #[.val (.int (3 : Int32)), .val (.int z1), .val (.int (2 : Int32)), .unset] [(.int (2 : Int32))])) (fun _ kk_ => XS.iconst X0.here hx rfl (hb hby d3_38) kk_) ?_
    refine OW.st (B := s₁.setTop (mkF m 40 #[.val (.int (3 : Int32)), .val (.int z1), .val (.int (2 : Int32)), .val (.int (2 : Int32))] [])) (fun _ kk_ => XS.istoreN X0.here hx rfl (hb hby d3_39) rfl (l' := #[.val (.int (3 : Int32)), .val (.int z1), .val (.int (2 : Int32)), .val (.int (2 : Int32))]) rfl kk_) ?_
    refine OW.st (B := s₁.setTop (mkF m 41 #[.val (.int (3 : Int32)), .val (.int z1), .val (.int (2 : Int32)), .val (.int (2 : Int32))] [(.int (2 : Int32))])) (fun _ kk_ => XS.iloadN X0.here hx rfl (hb hby d3_40) rfl kk_) ?_
    refine OW.st (B := s₁.setTop (mkF m 42 #[.val (.int (3 : Int32)), .val (.int z1), .val (.int (2 : Int32)), .val (.int (2 : Int32))] [(.int z1), (.int (2 : Int32))])) (fun _ kk_ => XS.iloadN X0.here hx rfl (hb hby d3_41) rfl kk_) ?_
    by_cases hc30 : z1 < (2 : Int32)
    · refine OW.st (B := s₁.setTop (mkF m 54 #[.val (.int (3 : Int32)), .val (.int z1), .val (.int (2 : Int32)), .val (.int (2 : Int32))] [])) (fun _ kk_ => XS.icmpYes X0.here hx rfl (pc0 := 42) (pc' := 54) rfl (hb hby d3_42) rfl (tlt hc30).2.2.1 (by decide) (by decide) kk_) ?_
      refine OW.st (B := s₁.setTop (mkF m 55 #[.val (.int (3 : Int32)), .val (.int z1), .val (.int (2 : Int32)), .val (.int (2 : Int32))] [(.int (0 : Int32))])) (fun _ kk_ => XS.iconst X0.here hx rfl (hb hby d3_54) kk_) ?_
      exact OW.ret X0 hx hlk (i := .ireturn) Bd.returns rfl (Or.inl ⟨rfl, Or.inr (Or.inl rfl), _, rfl⟩) (hb hby d3_55) e0 (by decide) (by decide) ⟨by simp [own_ex, own_lo, own_hi, hc30], N0, rfl⟩
    · refine OW.st (B := s₁.setTop (mkF m 45 #[.val (.int (3 : Int32)), .val (.int z1), .val (.int (2 : Int32)), .val (.int (2 : Int32))] [])) (fun _ kk_ => XS.icmpNo X0.here hx rfl (hb hby d3_42) rfl (flt hc30).2.2.1 kk_) ?_
      refine OW.st (B := s₁.setTop (mkF m 46 #[.val (.int (3 : Int32)), .val (.int z1), .val (.int (2 : Int32)), .val (.int (2 : Int32))] [(.int z1)])) (fun _ kk_ => XS.iloadN X0.here hx rfl (hb hby d3_45) rfl kk_) ?_
      refine OW.st (B := s₁.setTop (mkF m 47 #[.val (.int (3 : Int32)), .val (.int z1), .val (.int (2 : Int32)), .val (.int (2 : Int32))] [(.int (2 : Int32)), (.int z1)])) (fun _ kk_ => XS.iloadN X0.here hx rfl (hb hby d3_46) rfl kk_) ?_
      by_cases hc31 : (2 : Int32) < z1
      · refine OW.st (B := s₁.setTop (mkF m 54 #[.val (.int (3 : Int32)), .val (.int z1), .val (.int (2 : Int32)), .val (.int (2 : Int32))] [])) (fun _ kk_ => XS.icmpYes X0.here hx rfl (pc0 := 47) (pc' := 54) rfl (hb hby d3_47) rfl (tlt hc31).2.2.1 (by decide) (by decide) kk_) ?_
        refine OW.st (B := s₁.setTop (mkF m 55 #[.val (.int (3 : Int32)), .val (.int z1), .val (.int (2 : Int32)), .val (.int (2 : Int32))] [(.int (0 : Int32))])) (fun _ kk_ => XS.iconst X0.here hx rfl (hb hby d3_54) kk_) ?_
        exact OW.ret X0 hx hlk (i := .ireturn) Bd.returns rfl (Or.inl ⟨rfl, Or.inr (Or.inl rfl), _, rfl⟩) (hb hby d3_55) e0 (by decide) (by decide) ⟨by simp [own_ex, own_lo, own_hi, hc30, hc31], N0, rfl⟩
      · refine OW.st (B := s₁.setTop (mkF m 50 #[.val (.int (3 : Int32)), .val (.int z1), .val (.int (2 : Int32)), .val (.int (2 : Int32))] [])) (fun _ kk_ => XS.icmpNo X0.here hx rfl (hb hby d3_47) rfl (flt hc31).2.2.1 kk_) ?_
        refine OW.st (B := s₁.setTop (mkF m 51 #[.val (.int (3 : Int32)), .val (.int z1), .val (.int (2 : Int32)), .val (.int (2 : Int32))] [(.int (1 : Int32))])) (fun _ kk_ => XS.iconst X0.here hx rfl (hb hby d3_50) kk_) ?_
        refine OW.st (B := s₁.setTop (mkF m 55 #[.val (.int (3 : Int32)), .val (.int z1), .val (.int (2 : Int32)), .val (.int (2 : Int32))] [(.int (1 : Int32))])) (fun _ kk_ => XS.goto X0.here hx rfl (pc0 := 51) (pc' := 55) rfl (hb hby d3_51) (by decide) (by decide) kk_) ?_
        exact OW.ret X0 hx hlk (i := .ireturn) Bd.returns rfl (Or.inl ⟨rfl, Or.inr (Or.inl rfl), _, rfl⟩) (hb hby d3_55) e0 (by decide) (by decide) ⟨by simp [own_ex, own_lo, own_hi, hc30, hc31], N0, rfl⟩
theorem ef_0 (m : MethodId) (x0 : Int32) (x1 : Int32) : entryFrame m #[(.int x0), (.int x1)] maxLocals = mkF m 0 #[.val (.int x0), .val (.int x1), .unset, .unset, .unset, .unset, .unset, .unset] [] := by first | (simp [entryFrame, mkF, argsToLocals, Value.category, maxLocals]; done) | rfl
def Q0 (Z : State) (n1 : Int32) (n2 : Int32) (a_NONE : Addr) (a_ONE : Addr) (a_LIST : Addr) (a_PAIR : Addr) (h0 : Heap) (n0 : Nat) (v : Option Value) (h : Heap) (L : List Loc) : Prop := v = some (.int 1) ∧ Fr n0 L
set_option maxRecDepth 65536 in
set_option maxHeartbeats 40000000 in
theorem rm0 (l : Launch) (Z : State) (a0 : Array Value) (hw : ∀ d ∈ tables_1, d.before a0 Z = true) (ws : List Jvm.Cond) (n1 : Int32) (n2 : Int32) (a_NONE : Addr) (a_ONE : Addr) (a_LIST : Addr) (a_PAIR : Addr) (h0 : Heap) (n0 : Nat) (O0 : Old Z n0 h0) (hS : OwnS Z a_NONE a_ONE a_LIST a_PAIR) :
    MetFree l x (head1 (Jvm.Cond.code x code maxLocals ret :: ws) room_1) (fun aa_ UU_ => aa_ = #[(.int n1), (.int n2)] ∧ Z.Warmed39 UU_.vm ∧ UU_.heap = h0) (fun _ _ _ _ _ => True) (fun _ UU_ oo_ UV_ => ∃ vv_ LL_, oo_ = .returned vv_ ∧ Q0 Z n1 n2 a_NONE a_ONE a_LIST a_PAIR h0 n0 vv_ UV_.heap LL_ ∧ FrameEnd UU_ oo_ UV_ LL_ 1 4) := by
  refine MetFree.of_bodySF (plainFor_of_name pn_2) hisR ?_
  intro p e s m args below meth c s₁ Bd hml0 hP hK
  obtain ⟨rfl, hZ, hh⟩ := hP
  have hx := Bd.exec
  have hby := Bd.bytes
  have hlk := BodyLoose.notSynchronized Bd
  have hml : c.maxLocals = 8 := hml0
  have hown : s.vm.findClass "com/example/filter_to_where/filtertowhere/tree/OperandAllowsPinLaw" = some m.cls := findClass_of_methodNamed Bd.named
  have hnm := (name_of_methodNamed Bd.named Bd.method).1
  have X0 : Stand p l e room_1 s m #[(.int n1), (.int n2)] below meth c s₁ [] 0 0 := Stand.of_body Bd
  have e0 : s₁.heap = h0 := by rw [← hh, Bd.state]; rfl
  have N0 := Fr.nil n0
  suffices hOW : OW p e below s (Q0 Z n1 n2 a_NONE a_ONE a_LIST a_PAIR h0 n0) 1 4 (s₁.setTop (mkF m 0 #[.val (.int n1), .val (.int n2), .unset, .unset, .unset, .unset, .unset, .unset] [])) by
    obtain ⟨q1, q2, q3, q4⟩ := hOW
    exact ⟨q1, q2, castTop (ef_0 m n1 n2) q3, q4⟩
  have hS' := hS
  obtain ⟨Sa_NONE, Ea_NONE, Sa_ONE, Ea_ONE, Sa_LIST, Ea_LIST, Sa_PAIR, Ea_PAIR, Fa_NONE_ordinal, Fa_LIST_ordinal, Fa_ONE_ordinal, Fa_PAIR_ordinal⟩ := hS'
  refine OW.st (B := s₁.setTop (mkF m 1 #[.val (.int n1), .val (.int n2), .unset, .unset, .unset, .unset, .unset, .unset] [(.int (4 : Int32))])) (fun _ kk_ => XS.iconst X0.here hx rfl (hb hby at_0) kk_) ?_
  obtain ⟨T32, h32, k32, X32, e32, E32, A32, Ov32, st32⟩ := newR X0 hx hZ hown (w_0 hw) (w_1 hw) e0 (g := (mkF m 1 #[.val (.int n1), .val (.int n2), .unset, .unset, .unset, .unset, .unset, .unset] [(.int (4 : Int32))])) rfl (hb hby at_1) rfl (by decide) (cap := 4) (by decide) (by decide) (by decide) (by decide)
  obtain ⟨b32, g32⟩ : ∃ z, z = h0.size := ⟨_, rfl⟩
  rw [← g32] at A32 st32
  have n_b32 : n0 ≤ b32 := Nat.le_trans (own_oldle O0) (Nat.le_of_eq g32.symm)
  have O32 : Old Z n0 h32 := O0.ext E32
  have V32 : Arv Z h32 b32 k32 (.object "com/example/filter_to_where/filtertowhere/tree/Operand") (4 : Int32) [.null, .null, .null, .null] .null := (Arv.new A32 (by decide)).pad (pad_rep [] .null 4)
  refine OW.st (B := T32.setTop (mkF m 4 #[.val (.int n1), .val (.int n2), .unset, .unset, .unset, .unset, .unset, .unset] [(.ref b32)])) (st32) ?_
  refine OW.st (B := T32.setTop (mkF m 5 #[.val (.int n1), .val (.int n2), .unset, .unset, .unset, .unset, .unset, .unset] [(.ref b32), (.ref b32)])) (fun _ kk_ => XS.dup X32.here hx rfl (hb hby at_4) rfl rfl kk_) ?_
  refine OW.st (B := T32.setTop (mkF m 6 #[.val (.int n1), .val (.int n2), .unset, .unset, .unset, .unset, .unset, .unset] [(.int (0 : Int32)), (.ref b32), (.ref b32)])) (fun _ kk_ => XS.iconst X32.here hx rfl (hb hby at_5) kk_) ?_
  obtain ⟨T33, X33, e33, st33⟩ := getS2 X32 hx hZ hown (host := "") (Or.inl (w_2 hw)) Via.refl e32 (Sa_NONE.ext O32.2) (g := (mkF m 6 #[.val (.int n1), .val (.int n2), .unset, .unset, .unset, .unset, .unset, .unset] [(.int (0 : Int32)), (.ref b32), (.ref b32)])) rfl (hb hby at_6)
  refine OW.st (B := T33.setTop (mkF m 9 #[.val (.int n1), .val (.int n2), .unset, .unset, .unset, .unset, .unset, .unset] [(.ref a_NONE), (.int (0 : Int32)), (.ref b32), (.ref b32)])) (st33) ?_
  obtain ⟨cl34, Ar34, q34, S34, Ng34, Hs34, G34⟩ := V32
  have hin34 : ¬ ((0 : Int32) < 0 ∨ cl34.slots.size ≤ ((0 : Int32)).toNatClampNeg) := inb_of S34 ⟨by decide, by decide⟩
  obtain ⟨T35, h35, X35, e35, W35, st35⟩ := stR X33 hx hZ e33 Ar34 (j := (0 : Int32)) hin34 rfl (Sto.ofV Ar34 q34 Ov32 (Ins.self (Ea_NONE.ext O32.2))) (g := (mkF m 9 #[.val (.int n1), .val (.int n2), .unset, .unset, .unset, .unset, .unset, .unset] [(.ref a_NONE), (.int (0 : Int32)), (.ref b32), (.ref b32)])) rfl rfl (hb hby at_9)
  have N35 := Fr.snoc X35 N0 n_b32
  have O35 : Old Z n0 h35 := O32.wr W35 n_b32
  have V35 : Arv Z h35 b32 k32 (.object "com/example/filter_to_where/filtertowhere/tree/Operand") (4 : Int32) [(.ref a_NONE), .null, .null, .null] .null := Arv.set Ar34 q34 S34 Ng34 Hs34 G34 rfl W35 0 rfl (Nat.le_of_ble_eq_true rfl)
  refine OW.st (B := T35.setTop (mkF m 10 #[.val (.int n1), .val (.int n2), .unset, .unset, .unset, .unset, .unset, .unset] [(.ref b32)])) (st35) ?_
  refine OW.st (B := T35.setTop (mkF m 11 #[.val (.int n1), .val (.int n2), .unset, .unset, .unset, .unset, .unset, .unset] [(.ref b32), (.ref b32)])) (fun _ kk_ => XS.dup X35.here hx rfl (hb hby at_10) rfl rfl kk_) ?_
  refine OW.st (B := T35.setTop (mkF m 12 #[.val (.int n1), .val (.int n2), .unset, .unset, .unset, .unset, .unset, .unset] [(.int (1 : Int32)), (.ref b32), (.ref b32)])) (fun _ kk_ => XS.iconst X35.here hx rfl (hb hby at_11) kk_) ?_
  obtain ⟨T36, X36, e36, st36⟩ := getS2 X35 hx hZ hown (host := "") (Or.inl (w_6 hw)) Via.refl e35 (Sa_ONE.ext O35.2) (g := (mkF m 12 #[.val (.int n1), .val (.int n2), .unset, .unset, .unset, .unset, .unset, .unset] [(.int (1 : Int32)), (.ref b32), (.ref b32)])) rfl (hb hby at_12)
  refine OW.st (B := T36.setTop (mkF m 15 #[.val (.int n1), .val (.int n2), .unset, .unset, .unset, .unset, .unset, .unset] [(.ref a_ONE), (.int (1 : Int32)), (.ref b32), (.ref b32)])) (st36) ?_
  obtain ⟨cl37, Ar37, q37, S37, Ng37, Hs37, G37⟩ := V35
  have hin37 : ¬ ((1 : Int32) < 0 ∨ cl37.slots.size ≤ ((1 : Int32)).toNatClampNeg) := inb_of S37 ⟨by decide, by decide⟩
  obtain ⟨T38, h38, X38, e38, W38, st38⟩ := stR X36 hx hZ e36 Ar37 (j := (1 : Int32)) hin37 rfl (Sto.ofV Ar37 q37 Ov32 (Ins.self (Ea_ONE.ext O35.2))) (g := (mkF m 15 #[.val (.int n1), .val (.int n2), .unset, .unset, .unset, .unset, .unset, .unset] [(.ref a_ONE), (.int (1 : Int32)), (.ref b32), (.ref b32)])) rfl rfl (hb hby at_15)
  have N38 := Fr.snoc X38 N35 n_b32
  have O38 : Old Z n0 h38 := O35.wr W38 n_b32
  have V38 : Arv Z h38 b32 k32 (.object "com/example/filter_to_where/filtertowhere/tree/Operand") (4 : Int32) [(.ref a_NONE), (.ref a_ONE), .null, .null] .null := Arv.set Ar37 q37 S37 Ng37 Hs37 G37 rfl W38 1 rfl (Nat.le_of_ble_eq_true rfl)
  refine OW.st (B := T38.setTop (mkF m 16 #[.val (.int n1), .val (.int n2), .unset, .unset, .unset, .unset, .unset, .unset] [(.ref b32)])) (st38) ?_
  refine OW.st (B := T38.setTop (mkF m 17 #[.val (.int n1), .val (.int n2), .unset, .unset, .unset, .unset, .unset, .unset] [(.ref b32), (.ref b32)])) (fun _ kk_ => XS.dup X38.here hx rfl (hb hby at_16) rfl rfl kk_) ?_
  refine OW.st (B := T38.setTop (mkF m 18 #[.val (.int n1), .val (.int n2), .unset, .unset, .unset, .unset, .unset, .unset] [(.int (2 : Int32)), (.ref b32), (.ref b32)])) (fun _ kk_ => XS.iconst X38.here hx rfl (hb hby at_17) kk_) ?_
  obtain ⟨T39, X39, e39, st39⟩ := getS2 X38 hx hZ hown (host := "") (Or.inl (w_8 hw)) Via.refl e38 (Sa_LIST.ext O38.2) (g := (mkF m 18 #[.val (.int n1), .val (.int n2), .unset, .unset, .unset, .unset, .unset, .unset] [(.int (2 : Int32)), (.ref b32), (.ref b32)])) rfl (hb hby at_18)
  refine OW.st (B := T39.setTop (mkF m 21 #[.val (.int n1), .val (.int n2), .unset, .unset, .unset, .unset, .unset, .unset] [(.ref a_LIST), (.int (2 : Int32)), (.ref b32), (.ref b32)])) (st39) ?_
  obtain ⟨cl40, Ar40, q40, S40, Ng40, Hs40, G40⟩ := V38
  have hin40 : ¬ ((2 : Int32) < 0 ∨ cl40.slots.size ≤ ((2 : Int32)).toNatClampNeg) := inb_of S40 ⟨by decide, by decide⟩
  obtain ⟨T41, h41, X41, e41, W41, st41⟩ := stR X39 hx hZ e39 Ar40 (j := (2 : Int32)) hin40 rfl (Sto.ofV Ar40 q40 Ov32 (Ins.self (Ea_LIST.ext O38.2))) (g := (mkF m 21 #[.val (.int n1), .val (.int n2), .unset, .unset, .unset, .unset, .unset, .unset] [(.ref a_LIST), (.int (2 : Int32)), (.ref b32), (.ref b32)])) rfl rfl (hb hby at_21)
  have N41 := Fr.snoc X41 N38 n_b32
  have O41 : Old Z n0 h41 := O38.wr W41 n_b32
  have V41 : Arv Z h41 b32 k32 (.object "com/example/filter_to_where/filtertowhere/tree/Operand") (4 : Int32) [(.ref a_NONE), (.ref a_ONE), (.ref a_LIST), .null] .null := Arv.set Ar40 q40 S40 Ng40 Hs40 G40 rfl W41 2 rfl (Nat.le_of_ble_eq_true rfl)
  refine OW.st (B := T41.setTop (mkF m 22 #[.val (.int n1), .val (.int n2), .unset, .unset, .unset, .unset, .unset, .unset] [(.ref b32)])) (st41) ?_
  refine OW.st (B := T41.setTop (mkF m 23 #[.val (.int n1), .val (.int n2), .unset, .unset, .unset, .unset, .unset, .unset] [(.ref b32), (.ref b32)])) (fun _ kk_ => XS.dup X41.here hx rfl (hb hby at_22) rfl rfl kk_) ?_
  refine OW.st (B := T41.setTop (mkF m 24 #[.val (.int n1), .val (.int n2), .unset, .unset, .unset, .unset, .unset, .unset] [(.int (3 : Int32)), (.ref b32), (.ref b32)])) (fun _ kk_ => XS.iconst X41.here hx rfl (hb hby at_23) kk_) ?_
  obtain ⟨T42, X42, e42, st42⟩ := getS2 X41 hx hZ hown (host := "") (Or.inl (w_10 hw)) Via.refl e41 (Sa_PAIR.ext O41.2) (g := (mkF m 24 #[.val (.int n1), .val (.int n2), .unset, .unset, .unset, .unset, .unset, .unset] [(.int (3 : Int32)), (.ref b32), (.ref b32)])) rfl (hb hby at_24)
  refine OW.st (B := T42.setTop (mkF m 27 #[.val (.int n1), .val (.int n2), .unset, .unset, .unset, .unset, .unset, .unset] [(.ref a_PAIR), (.int (3 : Int32)), (.ref b32), (.ref b32)])) (st42) ?_
  obtain ⟨cl43, Ar43, q43, S43, Ng43, Hs43, G43⟩ := V41
  have hin43 : ¬ ((3 : Int32) < 0 ∨ cl43.slots.size ≤ ((3 : Int32)).toNatClampNeg) := inb_of S43 ⟨by decide, by decide⟩
  obtain ⟨T44, h44, X44, e44, W44, st44⟩ := stR X42 hx hZ e42 Ar43 (j := (3 : Int32)) hin43 rfl (Sto.ofV Ar43 q43 Ov32 (Ins.self (Ea_PAIR.ext O41.2))) (g := (mkF m 27 #[.val (.int n1), .val (.int n2), .unset, .unset, .unset, .unset, .unset, .unset] [(.ref a_PAIR), (.int (3 : Int32)), (.ref b32), (.ref b32)])) rfl rfl (hb hby at_27)
  have N44 := Fr.snoc X44 N41 n_b32
  have O44 : Old Z n0 h44 := O41.wr W44 n_b32
  have V44 : Arv Z h44 b32 k32 (.object "com/example/filter_to_where/filtertowhere/tree/Operand") (4 : Int32) [(.ref a_NONE), (.ref a_ONE), (.ref a_LIST), (.ref a_PAIR)] .null := Arv.set Ar43 q43 S43 Ng43 Hs43 G43 rfl W44 3 rfl (Nat.le_of_ble_eq_true rfl)
  refine OW.st (B := T44.setTop (mkF m 28 #[.val (.int n1), .val (.int n2), .unset, .unset, .unset, .unset, .unset, .unset] [(.ref b32)])) (st44) ?_
  refine OW.st (B := T44.setTop (mkF m 29 #[.val (.int n1), .val (.int n2), .val (.ref b32), .unset, .unset, .unset, .unset, .unset] [])) (fun _ kk_ => XS.astoreN X44.here hx rfl (hb hby at_28) rfl rfl (l' := #[.val (.int n1), .val (.int n2), .val (.ref b32), .unset, .unset, .unset, .unset, .unset]) rfl kk_) ?_
  refine OW.st (B := T44.setTop (mkF m 30 #[.val (.int n1), .val (.int n2), .val (.ref b32), .unset, .unset, .unset, .unset, .unset] [(.int n1)])) (fun _ kk_ => XS.iloadN X44.here hx rfl (hb hby at_29) rfl kk_) ?_
  refine OW.st (B := T44.setTop (mkF m 31 #[.val (.int n1), .val (.int n2), .val (.ref b32), .unset, .unset, .unset, .unset, .unset] [(.int (3 : Int32)), (.int n1)])) (fun _ kk_ => XS.iconst X44.here hx rfl (hb hby at_30) kk_) ?_
  refine OW.st (B := T44.setTop (mkF m 32 #[.val (.int n1), .val (.int n2), .val (.ref b32), .unset, .unset, .unset, .unset, .unset] [(.int (n1 &&& (3 : Int32)))])) (fun _ kk_ => XS.iand X44.here hx rfl (hb hby at_31) rfl kk_) ?_
  suffices J : ∀ k : Int32, (k = 0 ∨ k = 1 ∨ k = 2 ∨ k = 3) → OW p e below s (Q0 Z n1 n2 a_NONE a_ONE a_LIST a_PAIR h0 n0) 1 4 (T44.setTop (mkF m 32 #[.val (.int n1), .val (.int n2), .val (.ref b32), .unset, .unset, .unset, .unset, .unset] [(.int k)])) from J _ (own_and3 n1)
  intro k hk
  rcases hk with rfl | rfl | rfl | rfl
  · refine OW.st (B := T44.setTop (mkF m 33 #[.val (.int n1), .val (.int n2), .val (.ref b32), .val (.int (0 : Int32)), .unset, .unset, .unset, .unset] [])) (fun _ kk_ => XS.istoreN X44.here hx rfl (hb hby at_32) rfl (l' := #[.val (.int n1), .val (.int n2), .val (.ref b32), .val (.int (0 : Int32)), .unset, .unset, .unset, .unset]) rfl kk_) ?_
    refine OW.st (B := T44.setTop (mkF m 34 #[.val (.int n1), .val (.int n2), .val (.ref b32), .val (.int (0 : Int32)), .unset, .unset, .unset, .unset] [(.ref b32)])) (fun _ kk_ => XS.aloadN X44.here hx rfl (hb hby at_33) rfl rfl kk_) ?_
    refine OW.st (B := T44.setTop (mkF m 35 #[.val (.int n1), .val (.int n2), .val (.ref b32), .val (.int (0 : Int32)), .unset, .unset, .unset, .unset] [(.int (0 : Int32)), (.ref b32)])) (fun _ kk_ => XS.iloadN X44.here hx rfl (hb hby at_34) rfl kk_) ?_
    obtain ⟨cl45, Ar45, q45, S45, Ng45, Hs45, G45⟩ := V44
    have hin45 : ¬ ((0 : Int32) < 0 ∨ cl45.slots.size ≤ ((0 : Int32)).toNatClampNeg) := inb_of S45 ⟨by decide, by decide⟩
    refine OW.st (B := T44.setTop (mkF m 36 #[.val (.int n1), .val (.int n2), .val (.ref b32), .val (.int (0 : Int32)), .unset, .unset, .unset, .unset] [(.ref a_NONE)])) (X44.aaload hx (j := (0 : Int32)) (v := (.ref a_NONE)) (by rw [e44]; exact Ar45.1) (State.isArrayOf_alike hZ.alike Ar45.2.1) rfl Ar45.2.2 hin45 (Has.at Hs45 hin45 rfl) (g := (mkF m 35 #[.val (.int n1), .val (.int n2), .val (.ref b32), .val (.int (0 : Int32)), .unset, .unset, .unset, .unset] [(.int (0 : Int32)), (.ref b32)])) rfl rfl (hb hby at_35)) ?_
    refine OW.st (B := T44.setTop (mkF m 38 #[.val (.int n1), .val (.int n2), .val (.ref b32), .val (.int (0 : Int32)), .val (.ref a_NONE), .unset, .unset, .unset] [])) (fun _ kk_ => XS.astore X44.here hx rfl (hb hby at_36) rfl rfl (l' := #[.val (.int n1), .val (.int n2), .val (.ref b32), .val (.int (0 : Int32)), .val (.ref a_NONE), .unset, .unset, .unset]) rfl kk_) ?_
    refine OW.st (B := T44.setTop (mkF m 39 #[.val (.int n1), .val (.int n2), .val (.ref b32), .val (.int (0 : Int32)), .val (.ref a_NONE), .unset, .unset, .unset] [(.int n2)])) (fun _ kk_ => XS.iloadN X44.here hx rfl (hb hby at_38) rfl kk_) ?_
    refine OW.st (B := T44.setTop (mkF m 40 #[.val (.int n1), .val (.int n2), .val (.ref b32), .val (.int (0 : Int32)), .val (.ref a_NONE), .unset, .unset, .unset] [(.int (3 : Int32)), (.int n2)])) (fun _ kk_ => XS.iconst X44.here hx rfl (hb hby at_39) kk_) ?_
    refine OW.st (B := T44.setTop (mkF m 41 #[.val (.int n1), .val (.int n2), .val (.ref b32), .val (.int (0 : Int32)), .val (.ref a_NONE), .unset, .unset, .unset] [(.int (n2 &&& (3 : Int32)))])) (fun _ kk_ => XS.iand X44.here hx rfl (hb hby at_40) rfl kk_) ?_
    refine OW.st (B := T44.setTop (mkF m 42 #[.val (.int n1), .val (.int n2), .val (.ref b32), .val (.int (0 : Int32)), .val (.ref a_NONE), .unset, .unset, .unset] [(.int (1 : Int32)), (.int (n2 &&& (3 : Int32)))])) (fun _ kk_ => XS.iconst X44.here hx rfl (hb hby at_41) kk_) ?_
    refine OW.st (B := T44.setTop (mkF m 43 #[.val (.int n1), .val (.int n2), .val (.ref b32), .val (.int (0 : Int32)), .val (.ref a_NONE), .unset, .unset, .unset] [(.int ((n2 &&& (3 : Int32)) - (1 : Int32)))])) (fun _ kk_ => XS.isub X44.here hx rfl (hb hby at_42) rfl kk_) ?_
    refine OW.st (B := T44.setTop (mkF m 45 #[.val (.int n1), .val (.int n2), .val (.ref b32), .val (.int (0 : Int32)), .val (.ref a_NONE), .val (.int ((n2 &&& (3 : Int32)) - (1 : Int32))), .unset, .unset] [])) (fun _ kk_ => XS.istore X44.here hx rfl (hb hby at_43) rfl (l' := #[.val (.int n1), .val (.int n2), .val (.ref b32), .val (.int (0 : Int32)), .val (.ref a_NONE), .val (.int ((n2 &&& (3 : Int32)) - (1 : Int32))), .unset, .unset]) rfl kk_) ?_
    refine OW.st (B := T44.setTop (mkF m 47 #[.val (.int n1), .val (.int n2), .val (.ref b32), .val (.int (0 : Int32)), .val (.ref a_NONE), .val (.int ((n2 &&& (3 : Int32)) - (1 : Int32))), .unset, .unset] [(.ref a_NONE)])) (fun _ kk_ => XS.aload X44.here hx rfl (hb hby at_45) rfl rfl kk_) ?_
    refine OW.st (B := T44.setTop (mkF m 48 #[.val (.int n1), .val (.int n2), .val (.ref b32), .val (.int (0 : Int32)), .val (.ref a_NONE), .val (.int ((n2 &&& (3 : Int32)) - (1 : Int32))), .unset, .unset] [(.int n2), (.ref a_NONE)])) (fun _ kk_ => XS.iloadN X44.here hx rfl (hb hby at_47) rfl kk_) ?_
    obtain ⟨cq46, kq46, q46a, q46b, q46c⟩ := isOf hZ e44 (Ea_NONE.ext O44.2)
    obtain ⟨_, _, ⟨T46, L46, k46, n46⟩, -, X46, ⟨Lc46, hQ46, l46, y46, z46⟩, st46⟩ := X44.virtualBack hx (y := (⟨"com/example/filter_to_where/filtertowhere/tree/Operand", "allows", "(I)Z"⟩ : MethodName)) (z := (⟨"com/example/filter_to_where/filtertowhere/tree/Operand", "allows", "(I)Z"⟩ : MethodName)) hown (mvT hZ (w_12 hw)) (mvT hZ (w_13 hw)) (notFace_of_selects (args := #[]) (mvT hZ (w_15 hw))) (mvT hZ (w_15 hw)) (mvT hZ (w_14 hw)) (by decide) (backOf (W := 0) (rmA l Z a0 hw [] a_NONE (0 : Int32) n2 h44 n0 O44 (Ea_NONE.ext O44.2) (Fa_NONE_ordinal.ext O44.2) (by decide)) hZ (w_16 hw) (w_3 hw) (by decide) (by decide)) q46a q46c (g := (mkF m 48 #[.val (.int n1), .val (.int n2), .val (.ref b32), .val (.int (0 : Int32)), .val (.ref a_NONE), .val (.int ((n2 &&& (3 : Int32)) - (1 : Int32))), .unset, .unset] [(.int n2), (.ref a_NONE)])) rfl (by rw [hml]; rfl) (Steps.refl _) (argsL := [(.int n2)]) (rest := []) (lenOf pd_1 rfl) rfl (by show 2 * 0 + _ ≤ _; exact Nat.le_of_eq rfl) (hb hby at_48) (fun _ _ => ⟨rfl, e44, (by decide : 1 + 0 ≤ _), (by decide : 4 + 0 ≤ _)⟩)
    dsimp only [Pt.U, Pt.locs, Pt.cells, Pt.slots] at X46 l46 y46 z46 st46 hQ46
    subst l46 y46 z46
    obtain ⟨rfl, Nq46, e46⟩ := hQ46
    have N46 := Fr.app N44 Nq46
    refine OW.tr (B := T46.setTop (mkF m 51 #[.val (.int n1), .val (.int n2), .val (.ref b32), .val (.int (0 : Int32)), .val (.ref a_NONE), .val (.int ((n2 &&& (3 : Int32)) - (1 : Int32))), .unset, .unset] [(.int (own_al (0 : Int32) n2))])) (st46) ?_
    refine OW.st (B := T46.setTop (mkF m 52 #[.val (.int n1), .val (.int n2), .val (.ref b32), .val (.int (0 : Int32)), .val (.ref a_NONE), .val (.int ((n2 &&& (3 : Int32)) - (1 : Int32))), .unset, .unset] [(.int (0 : Int32)), (.int (own_al (0 : Int32) n2))])) (fun _ kk_ => XS.iloadN X46.here hx rfl (hb hby at_51) rfl kk_) ?_
    refine OW.st (B := T46.setTop (mkF m 53 #[.val (.int n1), .val (.int n2), .val (.ref b32), .val (.int (0 : Int32)), .val (.ref a_NONE), .val (.int ((n2 &&& (3 : Int32)) - (1 : Int32))), .unset, .unset] [(.int n2), (.int (0 : Int32)), (.int (own_al (0 : Int32) n2))])) (fun _ kk_ => XS.iloadN X46.here hx rfl (hb hby at_52) rfl kk_) ?_
    obtain ⟨_, _, ⟨T47, L47, k47, n47⟩, -, X47, ⟨Lc47, hQ47, l47, y47, z47⟩, st47⟩ := Jvm.LawKit.callS X46 hx (y := (⟨"com/example/filter_to_where/filtertowhere/tree/OperandAllowsPinLaw", "expected", "(II)Z"⟩ : MethodName)) hown (mvT hZ (w_26 hw)) (mvT hZ (w_27 hw)) (mvT hZ (w_28 hw)) (mvT hZ (w_29 hw)) (by decide) (backOf (W := 1) (rmX l Z a0 hw [] (0 : Int32) n2 h44 n0 O44 (by decide)) hZ (w_29 hw) (w_28 hw) (by decide) (by decide)) (g := (mkF m 53 #[.val (.int n1), .val (.int n2), .val (.ref b32), .val (.int (0 : Int32)), .val (.ref a_NONE), .val (.int ((n2 &&& (3 : Int32)) - (1 : Int32))), .unset, .unset] [(.int n2), (.int (0 : Int32)), (.int (own_al (0 : Int32) n2))])) rfl (by rw [hml]; rfl) (argsL := [(.int (0 : Int32)), (.int n2)]) (rest := [(.int (own_al (0 : Int32) n2))]) (lenOf pd_2 rfl) rfl (by show 2 * 0 + _ ≤ _; exact Nat.le_of_eq rfl) (hb hby at_53) (fun _ _ => ⟨rfl, e46, (by decide : 1 + 0 ≤ _), (by decide : 4 + 0 ≤ _)⟩)
    dsimp only [Pt.U, Pt.locs, Pt.cells, Pt.slots] at X47 l47 y47 z47 st47 hQ47
    subst l47 y47 z47
    obtain ⟨rfl, Nq47, e47⟩ := hQ47
    have N47 := Fr.app N46 Nq47
    refine OW.st (B := T47.setTop (mkF m 56 #[.val (.int n1), .val (.int n2), .val (.ref b32), .val (.int (0 : Int32)), .val (.ref a_NONE), .val (.int ((n2 &&& (3 : Int32)) - (1 : Int32))), .unset, .unset] [(.int (own_ex (0 : Int32) n2)), (.int (own_al (0 : Int32) n2))])) (st47) ?_
    refine OW.st (B := T47.setTop (mkF m 59 #[.val (.int n1), .val (.int n2), .val (.ref b32), .val (.int (0 : Int32)), .val (.ref a_NONE), .val (.int ((n2 &&& (3 : Int32)) - (1 : Int32))), .unset, .unset] [])) (fun _ kk_ => XS.icmpNo X47.here hx rfl (hb hby at_56) rfl (teq (own_same _ _ (by decide))).2 kk_) ?_
    refine OW.st (B := T47.setTop (mkF m 60 #[.val (.int n1), .val (.int n2), .val (.ref b32), .val (.int (0 : Int32)), .val (.ref a_NONE), .val (.int ((n2 &&& (3 : Int32)) - (1 : Int32))), .unset, .unset] [(.int (1 : Int32))])) (fun _ kk_ => XS.iconst X47.here hx rfl (hb hby at_59) kk_) ?_
    refine OW.st (B := T47.setTop (mkF m 64 #[.val (.int n1), .val (.int n2), .val (.ref b32), .val (.int (0 : Int32)), .val (.ref a_NONE), .val (.int ((n2 &&& (3 : Int32)) - (1 : Int32))), .unset, .unset] [(.int (1 : Int32))])) (fun _ kk_ => XS.goto X47.here hx rfl (pc0 := 60) (pc' := 64) rfl (hb hby at_60) (by decide) (by decide) kk_) ?_
    refine OW.st (B := T47.setTop (mkF m 66 #[.val (.int n1), .val (.int n2), .val (.ref b32), .val (.int (0 : Int32)), .val (.ref a_NONE), .val (.int ((n2 &&& (3 : Int32)) - (1 : Int32))), .val (.int (1 : Int32)), .unset] [])) (fun _ kk_ => XS.istore X47.here hx rfl (hb hby at_64) rfl (l' := #[.val (.int n1), .val (.int n2), .val (.ref b32), .val (.int (0 : Int32)), .val (.ref a_NONE), .val (.int ((n2 &&& (3 : Int32)) - (1 : Int32))), .val (.int (1 : Int32)), .unset]) rfl kk_) ?_
    refine OW.st (B := T47.setTop (mkF m 68 #[.val (.int n1), .val (.int n2), .val (.ref b32), .val (.int (0 : Int32)), .val (.ref a_NONE), .val (.int ((n2 &&& (3 : Int32)) - (1 : Int32))), .val (.int (1 : Int32)), .unset] [(.ref a_NONE)])) (fun _ kk_ => XS.aload X47.here hx rfl (hb hby at_66) rfl rfl kk_) ?_
    refine OW.st (B := T47.setTop (mkF m 70 #[.val (.int n1), .val (.int n2), .val (.ref b32), .val (.int (0 : Int32)), .val (.ref a_NONE), .val (.int ((n2 &&& (3 : Int32)) - (1 : Int32))), .val (.int (1 : Int32)), .unset] [(.int ((n2 &&& (3 : Int32)) - (1 : Int32))), (.ref a_NONE)])) (fun _ kk_ => XS.iload X47.here hx rfl (hb hby at_68) rfl kk_) ?_
    obtain ⟨cq48, kq48, q48a, q48b, q48c⟩ := isOf hZ e47 (Ea_NONE.ext O44.2)
    obtain ⟨_, _, ⟨T48, L48, k48, n48⟩, -, X48, ⟨Lc48, hQ48, l48, y48, z48⟩, st48⟩ := X47.virtualBack hx (y := (⟨"com/example/filter_to_where/filtertowhere/tree/Operand", "allows", "(I)Z"⟩ : MethodName)) (z := (⟨"com/example/filter_to_where/filtertowhere/tree/Operand", "allows", "(I)Z"⟩ : MethodName)) hown (mvT hZ (w_12 hw)) (mvT hZ (w_13 hw)) (notFace_of_selects (args := #[]) (mvT hZ (w_15 hw))) (mvT hZ (w_15 hw)) (mvT hZ (w_14 hw)) (by decide) (backOf (W := 0) (rmA l Z a0 hw [] a_NONE (0 : Int32) ((n2 &&& (3 : Int32)) - (1 : Int32)) h44 n0 O44 (Ea_NONE.ext O44.2) (Fa_NONE_ordinal.ext O44.2) (by decide)) hZ (w_16 hw) (w_3 hw) (by decide) (by decide)) q48a q48c (g := (mkF m 70 #[.val (.int n1), .val (.int n2), .val (.ref b32), .val (.int (0 : Int32)), .val (.ref a_NONE), .val (.int ((n2 &&& (3 : Int32)) - (1 : Int32))), .val (.int (1 : Int32)), .unset] [(.int ((n2 &&& (3 : Int32)) - (1 : Int32))), (.ref a_NONE)])) rfl (by rw [hml]; rfl) (Steps.refl _) (argsL := [(.int ((n2 &&& (3 : Int32)) - (1 : Int32)))]) (rest := []) (lenOf pd_1 rfl) rfl (by show 2 * 0 + _ ≤ _; exact Nat.le_of_eq rfl) (hb hby at_70) (fun _ _ => ⟨rfl, e47, (by decide : 1 + 0 ≤ _), (by decide : 4 + 0 ≤ _)⟩)
    dsimp only [Pt.U, Pt.locs, Pt.cells, Pt.slots] at X48 l48 y48 z48 st48 hQ48
    subst l48 y48 z48
    obtain ⟨rfl, Nq48, e48⟩ := hQ48
    have N48 := Fr.app N47 Nq48
    refine OW.tr (B := T48.setTop (mkF m 73 #[.val (.int n1), .val (.int n2), .val (.ref b32), .val (.int (0 : Int32)), .val (.ref a_NONE), .val (.int ((n2 &&& (3 : Int32)) - (1 : Int32))), .val (.int (1 : Int32)), .unset] [(.int (own_al (0 : Int32) ((n2 &&& (3 : Int32)) - (1 : Int32))))])) (st48) ?_
    refine OW.st (B := T48.setTop (mkF m 74 #[.val (.int n1), .val (.int n2), .val (.ref b32), .val (.int (0 : Int32)), .val (.ref a_NONE), .val (.int ((n2 &&& (3 : Int32)) - (1 : Int32))), .val (.int (1 : Int32)), .unset] [(.int (0 : Int32)), (.int (own_al (0 : Int32) ((n2 &&& (3 : Int32)) - (1 : Int32))))])) (fun _ kk_ => XS.iloadN X48.here hx rfl (hb hby at_73) rfl kk_) ?_
    refine OW.st (B := T48.setTop (mkF m 76 #[.val (.int n1), .val (.int n2), .val (.ref b32), .val (.int (0 : Int32)), .val (.ref a_NONE), .val (.int ((n2 &&& (3 : Int32)) - (1 : Int32))), .val (.int (1 : Int32)), .unset] [(.int ((n2 &&& (3 : Int32)) - (1 : Int32))), (.int (0 : Int32)), (.int (own_al (0 : Int32) ((n2 &&& (3 : Int32)) - (1 : Int32))))])) (fun _ kk_ => XS.iload X48.here hx rfl (hb hby at_74) rfl kk_) ?_
    obtain ⟨_, _, ⟨T49, L49, k49, n49⟩, -, X49, ⟨Lc49, hQ49, l49, y49, z49⟩, st49⟩ := Jvm.LawKit.callS X48 hx (y := (⟨"com/example/filter_to_where/filtertowhere/tree/OperandAllowsPinLaw", "expected", "(II)Z"⟩ : MethodName)) hown (mvT hZ (w_26 hw)) (mvT hZ (w_27 hw)) (mvT hZ (w_28 hw)) (mvT hZ (w_29 hw)) (by decide) (backOf (W := 1) (rmX l Z a0 hw [] (0 : Int32) ((n2 &&& (3 : Int32)) - (1 : Int32)) h44 n0 O44 (by decide)) hZ (w_29 hw) (w_28 hw) (by decide) (by decide)) (g := (mkF m 76 #[.val (.int n1), .val (.int n2), .val (.ref b32), .val (.int (0 : Int32)), .val (.ref a_NONE), .val (.int ((n2 &&& (3 : Int32)) - (1 : Int32))), .val (.int (1 : Int32)), .unset] [(.int ((n2 &&& (3 : Int32)) - (1 : Int32))), (.int (0 : Int32)), (.int (own_al (0 : Int32) ((n2 &&& (3 : Int32)) - (1 : Int32))))])) rfl (by rw [hml]; rfl) (argsL := [(.int (0 : Int32)), (.int ((n2 &&& (3 : Int32)) - (1 : Int32)))]) (rest := [(.int (own_al (0 : Int32) ((n2 &&& (3 : Int32)) - (1 : Int32))))]) (lenOf pd_2 rfl) rfl (by show 2 * 0 + _ ≤ _; exact Nat.le_of_eq rfl) (hb hby at_76) (fun _ _ => ⟨rfl, e48, (by decide : 1 + 0 ≤ _), (by decide : 4 + 0 ≤ _)⟩)
    dsimp only [Pt.U, Pt.locs, Pt.cells, Pt.slots] at X49 l49 y49 z49 st49 hQ49
    subst l49 y49 z49
    obtain ⟨rfl, Nq49, e49⟩ := hQ49
    have N49 := Fr.app N48 Nq49
    refine OW.st (B := T49.setTop (mkF m 79 #[.val (.int n1), .val (.int n2), .val (.ref b32), .val (.int (0 : Int32)), .val (.ref a_NONE), .val (.int ((n2 &&& (3 : Int32)) - (1 : Int32))), .val (.int (1 : Int32)), .unset] [(.int (own_ex (0 : Int32) ((n2 &&& (3 : Int32)) - (1 : Int32)))), (.int (own_al (0 : Int32) ((n2 &&& (3 : Int32)) - (1 : Int32))))])) (st49) ?_
    refine OW.st (B := T49.setTop (mkF m 82 #[.val (.int n1), .val (.int n2), .val (.ref b32), .val (.int (0 : Int32)), .val (.ref a_NONE), .val (.int ((n2 &&& (3 : Int32)) - (1 : Int32))), .val (.int (1 : Int32)), .unset] [])) (fun _ kk_ => XS.icmpNo X49.here hx rfl (hb hby at_79) rfl (teq (own_same _ _ (by decide))).2 kk_) ?_
    refine OW.st (B := T49.setTop (mkF m 83 #[.val (.int n1), .val (.int n2), .val (.ref b32), .val (.int (0 : Int32)), .val (.ref a_NONE), .val (.int ((n2 &&& (3 : Int32)) - (1 : Int32))), .val (.int (1 : Int32)), .unset] [(.int (1 : Int32))])) (fun _ kk_ => XS.iconst X49.here hx rfl (hb hby at_82) kk_) ?_
    refine OW.st (B := T49.setTop (mkF m 87 #[.val (.int n1), .val (.int n2), .val (.ref b32), .val (.int (0 : Int32)), .val (.ref a_NONE), .val (.int ((n2 &&& (3 : Int32)) - (1 : Int32))), .val (.int (1 : Int32)), .unset] [(.int (1 : Int32))])) (fun _ kk_ => XS.goto X49.here hx rfl (pc0 := 83) (pc' := 87) rfl (hb hby at_83) (by decide) (by decide) kk_) ?_
    refine OW.st (B := T49.setTop (mkF m 89 #[.val (.int n1), .val (.int n2), .val (.ref b32), .val (.int (0 : Int32)), .val (.ref a_NONE), .val (.int ((n2 &&& (3 : Int32)) - (1 : Int32))), .val (.int (1 : Int32)), .val (.int (1 : Int32))] [])) (fun _ kk_ => XS.istore X49.here hx rfl (hb hby at_87) rfl (l' := #[.val (.int n1), .val (.int n2), .val (.ref b32), .val (.int (0 : Int32)), .val (.ref a_NONE), .val (.int ((n2 &&& (3 : Int32)) - (1 : Int32))), .val (.int (1 : Int32)), .val (.int (1 : Int32))]) rfl kk_) ?_
    refine OW.st (B := T49.setTop (mkF m 91 #[.val (.int n1), .val (.int n2), .val (.ref b32), .val (.int (0 : Int32)), .val (.ref a_NONE), .val (.int ((n2 &&& (3 : Int32)) - (1 : Int32))), .val (.int (1 : Int32)), .val (.int (1 : Int32))] [(.int (1 : Int32))])) (fun _ kk_ => XS.iload X49.here hx rfl (hb hby at_89) rfl kk_) ?_
    refine OW.st (B := T49.setTop (mkF m 94 #[.val (.int n1), .val (.int n2), .val (.ref b32), .val (.int (0 : Int32)), .val (.ref a_NONE), .val (.int ((n2 &&& (3 : Int32)) - (1 : Int32))), .val (.int (1 : Int32)), .val (.int (1 : Int32))] [])) (fun _ kk_ => XS.ifNo X49.here hx rfl (hb hby at_91) rfl ((if0 _ _).trans (feq (by decide)).1) kk_) ?_
    refine OW.st (B := T49.setTop (mkF m 96 #[.val (.int n1), .val (.int n2), .val (.ref b32), .val (.int (0 : Int32)), .val (.ref a_NONE), .val (.int ((n2 &&& (3 : Int32)) - (1 : Int32))), .val (.int (1 : Int32)), .val (.int (1 : Int32))] [(.int (1 : Int32))])) (fun _ kk_ => XS.iload X49.here hx rfl (hb hby at_94) rfl kk_) ?_
    refine OW.st (B := T49.setTop (mkF m 99 #[.val (.int n1), .val (.int n2), .val (.ref b32), .val (.int (0 : Int32)), .val (.ref a_NONE), .val (.int ((n2 &&& (3 : Int32)) - (1 : Int32))), .val (.int (1 : Int32)), .val (.int (1 : Int32))] [])) (fun _ kk_ => XS.ifNo X49.here hx rfl (hb hby at_96) rfl ((if0 _ _).trans (feq (by decide)).1) kk_) ?_
    refine OW.st (B := T49.setTop (mkF m 100 #[.val (.int n1), .val (.int n2), .val (.ref b32), .val (.int (0 : Int32)), .val (.ref a_NONE), .val (.int ((n2 &&& (3 : Int32)) - (1 : Int32))), .val (.int (1 : Int32)), .val (.int (1 : Int32))] [(.int (1 : Int32))])) (fun _ kk_ => XS.iconst X49.here hx rfl (hb hby at_99) kk_) ?_
    refine OW.st (B := T49.setTop (mkF m 104 #[.val (.int n1), .val (.int n2), .val (.ref b32), .val (.int (0 : Int32)), .val (.ref a_NONE), .val (.int ((n2 &&& (3 : Int32)) - (1 : Int32))), .val (.int (1 : Int32)), .val (.int (1 : Int32))] [(.int (1 : Int32))])) (fun _ kk_ => XS.goto X49.here hx rfl (pc0 := 100) (pc' := 104) rfl (hb hby at_100) (by decide) (by decide) kk_) ?_
    exact OW.ret X49 hx hlk (i := .ireturn) Bd.returns rfl (Or.inl ⟨rfl, Or.inr (Or.inl rfl), _, rfl⟩) (hb hby at_104) e49 (by decide) (by decide) ⟨rfl, N49⟩
  · refine OW.st (B := T44.setTop (mkF m 33 #[.val (.int n1), .val (.int n2), .val (.ref b32), .val (.int (1 : Int32)), .unset, .unset, .unset, .unset] [])) (fun _ kk_ => XS.istoreN X44.here hx rfl (hb hby at_32) rfl (l' := #[.val (.int n1), .val (.int n2), .val (.ref b32), .val (.int (1 : Int32)), .unset, .unset, .unset, .unset]) rfl kk_) ?_
    refine OW.st (B := T44.setTop (mkF m 34 #[.val (.int n1), .val (.int n2), .val (.ref b32), .val (.int (1 : Int32)), .unset, .unset, .unset, .unset] [(.ref b32)])) (fun _ kk_ => XS.aloadN X44.here hx rfl (hb hby at_33) rfl rfl kk_) ?_
    refine OW.st (B := T44.setTop (mkF m 35 #[.val (.int n1), .val (.int n2), .val (.ref b32), .val (.int (1 : Int32)), .unset, .unset, .unset, .unset] [(.int (1 : Int32)), (.ref b32)])) (fun _ kk_ => XS.iloadN X44.here hx rfl (hb hby at_34) rfl kk_) ?_
    obtain ⟨cl50, Ar50, q50, S50, Ng50, Hs50, G50⟩ := V44
    have hin50 : ¬ ((1 : Int32) < 0 ∨ cl50.slots.size ≤ ((1 : Int32)).toNatClampNeg) := inb_of S50 ⟨by decide, by decide⟩
    refine OW.st (B := T44.setTop (mkF m 36 #[.val (.int n1), .val (.int n2), .val (.ref b32), .val (.int (1 : Int32)), .unset, .unset, .unset, .unset] [(.ref a_ONE)])) (X44.aaload hx (j := (1 : Int32)) (v := (.ref a_ONE)) (by rw [e44]; exact Ar50.1) (State.isArrayOf_alike hZ.alike Ar50.2.1) rfl Ar50.2.2 hin50 (Has.at Hs50 hin50 rfl) (g := (mkF m 35 #[.val (.int n1), .val (.int n2), .val (.ref b32), .val (.int (1 : Int32)), .unset, .unset, .unset, .unset] [(.int (1 : Int32)), (.ref b32)])) rfl rfl (hb hby at_35)) ?_
    refine OW.st (B := T44.setTop (mkF m 38 #[.val (.int n1), .val (.int n2), .val (.ref b32), .val (.int (1 : Int32)), .val (.ref a_ONE), .unset, .unset, .unset] [])) (fun _ kk_ => XS.astore X44.here hx rfl (hb hby at_36) rfl rfl (l' := #[.val (.int n1), .val (.int n2), .val (.ref b32), .val (.int (1 : Int32)), .val (.ref a_ONE), .unset, .unset, .unset]) rfl kk_) ?_
    refine OW.st (B := T44.setTop (mkF m 39 #[.val (.int n1), .val (.int n2), .val (.ref b32), .val (.int (1 : Int32)), .val (.ref a_ONE), .unset, .unset, .unset] [(.int n2)])) (fun _ kk_ => XS.iloadN X44.here hx rfl (hb hby at_38) rfl kk_) ?_
    refine OW.st (B := T44.setTop (mkF m 40 #[.val (.int n1), .val (.int n2), .val (.ref b32), .val (.int (1 : Int32)), .val (.ref a_ONE), .unset, .unset, .unset] [(.int (3 : Int32)), (.int n2)])) (fun _ kk_ => XS.iconst X44.here hx rfl (hb hby at_39) kk_) ?_
    refine OW.st (B := T44.setTop (mkF m 41 #[.val (.int n1), .val (.int n2), .val (.ref b32), .val (.int (1 : Int32)), .val (.ref a_ONE), .unset, .unset, .unset] [(.int (n2 &&& (3 : Int32)))])) (fun _ kk_ => XS.iand X44.here hx rfl (hb hby at_40) rfl kk_) ?_
    refine OW.st (B := T44.setTop (mkF m 42 #[.val (.int n1), .val (.int n2), .val (.ref b32), .val (.int (1 : Int32)), .val (.ref a_ONE), .unset, .unset, .unset] [(.int (1 : Int32)), (.int (n2 &&& (3 : Int32)))])) (fun _ kk_ => XS.iconst X44.here hx rfl (hb hby at_41) kk_) ?_
    refine OW.st (B := T44.setTop (mkF m 43 #[.val (.int n1), .val (.int n2), .val (.ref b32), .val (.int (1 : Int32)), .val (.ref a_ONE), .unset, .unset, .unset] [(.int ((n2 &&& (3 : Int32)) - (1 : Int32)))])) (fun _ kk_ => XS.isub X44.here hx rfl (hb hby at_42) rfl kk_) ?_
    refine OW.st (B := T44.setTop (mkF m 45 #[.val (.int n1), .val (.int n2), .val (.ref b32), .val (.int (1 : Int32)), .val (.ref a_ONE), .val (.int ((n2 &&& (3 : Int32)) - (1 : Int32))), .unset, .unset] [])) (fun _ kk_ => XS.istore X44.here hx rfl (hb hby at_43) rfl (l' := #[.val (.int n1), .val (.int n2), .val (.ref b32), .val (.int (1 : Int32)), .val (.ref a_ONE), .val (.int ((n2 &&& (3 : Int32)) - (1 : Int32))), .unset, .unset]) rfl kk_) ?_
    refine OW.st (B := T44.setTop (mkF m 47 #[.val (.int n1), .val (.int n2), .val (.ref b32), .val (.int (1 : Int32)), .val (.ref a_ONE), .val (.int ((n2 &&& (3 : Int32)) - (1 : Int32))), .unset, .unset] [(.ref a_ONE)])) (fun _ kk_ => XS.aload X44.here hx rfl (hb hby at_45) rfl rfl kk_) ?_
    refine OW.st (B := T44.setTop (mkF m 48 #[.val (.int n1), .val (.int n2), .val (.ref b32), .val (.int (1 : Int32)), .val (.ref a_ONE), .val (.int ((n2 &&& (3 : Int32)) - (1 : Int32))), .unset, .unset] [(.int n2), (.ref a_ONE)])) (fun _ kk_ => XS.iloadN X44.here hx rfl (hb hby at_47) rfl kk_) ?_
    obtain ⟨cq51, kq51, q51a, q51b, q51c⟩ := isOf hZ e44 (Ea_ONE.ext O44.2)
    obtain ⟨_, _, ⟨T51, L51, k51, n51⟩, -, X51, ⟨Lc51, hQ51, l51, y51, z51⟩, st51⟩ := X44.virtualBack hx (y := (⟨"com/example/filter_to_where/filtertowhere/tree/Operand", "allows", "(I)Z"⟩ : MethodName)) (z := (⟨"com/example/filter_to_where/filtertowhere/tree/Operand", "allows", "(I)Z"⟩ : MethodName)) hown (mvT hZ (w_12 hw)) (mvT hZ (w_13 hw)) (notFace_of_selects (args := #[]) (mvT hZ (w_15 hw))) (mvT hZ (w_15 hw)) (mvT hZ (w_14 hw)) (by decide) (backOf (W := 0) (rmA l Z a0 hw [] a_ONE (1 : Int32) n2 h44 n0 O44 (Ea_ONE.ext O44.2) (Fa_ONE_ordinal.ext O44.2) (by decide)) hZ (w_16 hw) (w_3 hw) (by decide) (by decide)) q51a q51c (g := (mkF m 48 #[.val (.int n1), .val (.int n2), .val (.ref b32), .val (.int (1 : Int32)), .val (.ref a_ONE), .val (.int ((n2 &&& (3 : Int32)) - (1 : Int32))), .unset, .unset] [(.int n2), (.ref a_ONE)])) rfl (by rw [hml]; rfl) (Steps.refl _) (argsL := [(.int n2)]) (rest := []) (lenOf pd_1 rfl) rfl (by show 2 * 0 + _ ≤ _; exact Nat.le_of_eq rfl) (hb hby at_48) (fun _ _ => ⟨rfl, e44, (by decide : 1 + 0 ≤ _), (by decide : 4 + 0 ≤ _)⟩)
    dsimp only [Pt.U, Pt.locs, Pt.cells, Pt.slots] at X51 l51 y51 z51 st51 hQ51
    subst l51 y51 z51
    obtain ⟨rfl, Nq51, e51⟩ := hQ51
    have N51 := Fr.app N44 Nq51
    refine OW.tr (B := T51.setTop (mkF m 51 #[.val (.int n1), .val (.int n2), .val (.ref b32), .val (.int (1 : Int32)), .val (.ref a_ONE), .val (.int ((n2 &&& (3 : Int32)) - (1 : Int32))), .unset, .unset] [(.int (own_al (1 : Int32) n2))])) (st51) ?_
    refine OW.st (B := T51.setTop (mkF m 52 #[.val (.int n1), .val (.int n2), .val (.ref b32), .val (.int (1 : Int32)), .val (.ref a_ONE), .val (.int ((n2 &&& (3 : Int32)) - (1 : Int32))), .unset, .unset] [(.int (1 : Int32)), (.int (own_al (1 : Int32) n2))])) (fun _ kk_ => XS.iloadN X51.here hx rfl (hb hby at_51) rfl kk_) ?_
    refine OW.st (B := T51.setTop (mkF m 53 #[.val (.int n1), .val (.int n2), .val (.ref b32), .val (.int (1 : Int32)), .val (.ref a_ONE), .val (.int ((n2 &&& (3 : Int32)) - (1 : Int32))), .unset, .unset] [(.int n2), (.int (1 : Int32)), (.int (own_al (1 : Int32) n2))])) (fun _ kk_ => XS.iloadN X51.here hx rfl (hb hby at_52) rfl kk_) ?_
    obtain ⟨_, _, ⟨T52, L52, k52, n52⟩, -, X52, ⟨Lc52, hQ52, l52, y52, z52⟩, st52⟩ := Jvm.LawKit.callS X51 hx (y := (⟨"com/example/filter_to_where/filtertowhere/tree/OperandAllowsPinLaw", "expected", "(II)Z"⟩ : MethodName)) hown (mvT hZ (w_26 hw)) (mvT hZ (w_27 hw)) (mvT hZ (w_28 hw)) (mvT hZ (w_29 hw)) (by decide) (backOf (W := 1) (rmX l Z a0 hw [] (1 : Int32) n2 h44 n0 O44 (by decide)) hZ (w_29 hw) (w_28 hw) (by decide) (by decide)) (g := (mkF m 53 #[.val (.int n1), .val (.int n2), .val (.ref b32), .val (.int (1 : Int32)), .val (.ref a_ONE), .val (.int ((n2 &&& (3 : Int32)) - (1 : Int32))), .unset, .unset] [(.int n2), (.int (1 : Int32)), (.int (own_al (1 : Int32) n2))])) rfl (by rw [hml]; rfl) (argsL := [(.int (1 : Int32)), (.int n2)]) (rest := [(.int (own_al (1 : Int32) n2))]) (lenOf pd_2 rfl) rfl (by show 2 * 0 + _ ≤ _; exact Nat.le_of_eq rfl) (hb hby at_53) (fun _ _ => ⟨rfl, e51, (by decide : 1 + 0 ≤ _), (by decide : 4 + 0 ≤ _)⟩)
    dsimp only [Pt.U, Pt.locs, Pt.cells, Pt.slots] at X52 l52 y52 z52 st52 hQ52
    subst l52 y52 z52
    obtain ⟨rfl, Nq52, e52⟩ := hQ52
    have N52 := Fr.app N51 Nq52
    refine OW.st (B := T52.setTop (mkF m 56 #[.val (.int n1), .val (.int n2), .val (.ref b32), .val (.int (1 : Int32)), .val (.ref a_ONE), .val (.int ((n2 &&& (3 : Int32)) - (1 : Int32))), .unset, .unset] [(.int (own_ex (1 : Int32) n2)), (.int (own_al (1 : Int32) n2))])) (st52) ?_
    refine OW.st (B := T52.setTop (mkF m 59 #[.val (.int n1), .val (.int n2), .val (.ref b32), .val (.int (1 : Int32)), .val (.ref a_ONE), .val (.int ((n2 &&& (3 : Int32)) - (1 : Int32))), .unset, .unset] [])) (fun _ kk_ => XS.icmpNo X52.here hx rfl (hb hby at_56) rfl (teq (own_same _ _ (by decide))).2 kk_) ?_
    refine OW.st (B := T52.setTop (mkF m 60 #[.val (.int n1), .val (.int n2), .val (.ref b32), .val (.int (1 : Int32)), .val (.ref a_ONE), .val (.int ((n2 &&& (3 : Int32)) - (1 : Int32))), .unset, .unset] [(.int (1 : Int32))])) (fun _ kk_ => XS.iconst X52.here hx rfl (hb hby at_59) kk_) ?_
    refine OW.st (B := T52.setTop (mkF m 64 #[.val (.int n1), .val (.int n2), .val (.ref b32), .val (.int (1 : Int32)), .val (.ref a_ONE), .val (.int ((n2 &&& (3 : Int32)) - (1 : Int32))), .unset, .unset] [(.int (1 : Int32))])) (fun _ kk_ => XS.goto X52.here hx rfl (pc0 := 60) (pc' := 64) rfl (hb hby at_60) (by decide) (by decide) kk_) ?_
    refine OW.st (B := T52.setTop (mkF m 66 #[.val (.int n1), .val (.int n2), .val (.ref b32), .val (.int (1 : Int32)), .val (.ref a_ONE), .val (.int ((n2 &&& (3 : Int32)) - (1 : Int32))), .val (.int (1 : Int32)), .unset] [])) (fun _ kk_ => XS.istore X52.here hx rfl (hb hby at_64) rfl (l' := #[.val (.int n1), .val (.int n2), .val (.ref b32), .val (.int (1 : Int32)), .val (.ref a_ONE), .val (.int ((n2 &&& (3 : Int32)) - (1 : Int32))), .val (.int (1 : Int32)), .unset]) rfl kk_) ?_
    refine OW.st (B := T52.setTop (mkF m 68 #[.val (.int n1), .val (.int n2), .val (.ref b32), .val (.int (1 : Int32)), .val (.ref a_ONE), .val (.int ((n2 &&& (3 : Int32)) - (1 : Int32))), .val (.int (1 : Int32)), .unset] [(.ref a_ONE)])) (fun _ kk_ => XS.aload X52.here hx rfl (hb hby at_66) rfl rfl kk_) ?_
    refine OW.st (B := T52.setTop (mkF m 70 #[.val (.int n1), .val (.int n2), .val (.ref b32), .val (.int (1 : Int32)), .val (.ref a_ONE), .val (.int ((n2 &&& (3 : Int32)) - (1 : Int32))), .val (.int (1 : Int32)), .unset] [(.int ((n2 &&& (3 : Int32)) - (1 : Int32))), (.ref a_ONE)])) (fun _ kk_ => XS.iload X52.here hx rfl (hb hby at_68) rfl kk_) ?_
    obtain ⟨cq53, kq53, q53a, q53b, q53c⟩ := isOf hZ e52 (Ea_ONE.ext O44.2)
    obtain ⟨_, _, ⟨T53, L53, k53, n53⟩, -, X53, ⟨Lc53, hQ53, l53, y53, z53⟩, st53⟩ := X52.virtualBack hx (y := (⟨"com/example/filter_to_where/filtertowhere/tree/Operand", "allows", "(I)Z"⟩ : MethodName)) (z := (⟨"com/example/filter_to_where/filtertowhere/tree/Operand", "allows", "(I)Z"⟩ : MethodName)) hown (mvT hZ (w_12 hw)) (mvT hZ (w_13 hw)) (notFace_of_selects (args := #[]) (mvT hZ (w_15 hw))) (mvT hZ (w_15 hw)) (mvT hZ (w_14 hw)) (by decide) (backOf (W := 0) (rmA l Z a0 hw [] a_ONE (1 : Int32) ((n2 &&& (3 : Int32)) - (1 : Int32)) h44 n0 O44 (Ea_ONE.ext O44.2) (Fa_ONE_ordinal.ext O44.2) (by decide)) hZ (w_16 hw) (w_3 hw) (by decide) (by decide)) q53a q53c (g := (mkF m 70 #[.val (.int n1), .val (.int n2), .val (.ref b32), .val (.int (1 : Int32)), .val (.ref a_ONE), .val (.int ((n2 &&& (3 : Int32)) - (1 : Int32))), .val (.int (1 : Int32)), .unset] [(.int ((n2 &&& (3 : Int32)) - (1 : Int32))), (.ref a_ONE)])) rfl (by rw [hml]; rfl) (Steps.refl _) (argsL := [(.int ((n2 &&& (3 : Int32)) - (1 : Int32)))]) (rest := []) (lenOf pd_1 rfl) rfl (by show 2 * 0 + _ ≤ _; exact Nat.le_of_eq rfl) (hb hby at_70) (fun _ _ => ⟨rfl, e52, (by decide : 1 + 0 ≤ _), (by decide : 4 + 0 ≤ _)⟩)
    dsimp only [Pt.U, Pt.locs, Pt.cells, Pt.slots] at X53 l53 y53 z53 st53 hQ53
    subst l53 y53 z53
    obtain ⟨rfl, Nq53, e53⟩ := hQ53
    have N53 := Fr.app N52 Nq53
    refine OW.tr (B := T53.setTop (mkF m 73 #[.val (.int n1), .val (.int n2), .val (.ref b32), .val (.int (1 : Int32)), .val (.ref a_ONE), .val (.int ((n2 &&& (3 : Int32)) - (1 : Int32))), .val (.int (1 : Int32)), .unset] [(.int (own_al (1 : Int32) ((n2 &&& (3 : Int32)) - (1 : Int32))))])) (st53) ?_
    refine OW.st (B := T53.setTop (mkF m 74 #[.val (.int n1), .val (.int n2), .val (.ref b32), .val (.int (1 : Int32)), .val (.ref a_ONE), .val (.int ((n2 &&& (3 : Int32)) - (1 : Int32))), .val (.int (1 : Int32)), .unset] [(.int (1 : Int32)), (.int (own_al (1 : Int32) ((n2 &&& (3 : Int32)) - (1 : Int32))))])) (fun _ kk_ => XS.iloadN X53.here hx rfl (hb hby at_73) rfl kk_) ?_
    refine OW.st (B := T53.setTop (mkF m 76 #[.val (.int n1), .val (.int n2), .val (.ref b32), .val (.int (1 : Int32)), .val (.ref a_ONE), .val (.int ((n2 &&& (3 : Int32)) - (1 : Int32))), .val (.int (1 : Int32)), .unset] [(.int ((n2 &&& (3 : Int32)) - (1 : Int32))), (.int (1 : Int32)), (.int (own_al (1 : Int32) ((n2 &&& (3 : Int32)) - (1 : Int32))))])) (fun _ kk_ => XS.iload X53.here hx rfl (hb hby at_74) rfl kk_) ?_
    obtain ⟨_, _, ⟨T54, L54, k54, n54⟩, -, X54, ⟨Lc54, hQ54, l54, y54, z54⟩, st54⟩ := Jvm.LawKit.callS X53 hx (y := (⟨"com/example/filter_to_where/filtertowhere/tree/OperandAllowsPinLaw", "expected", "(II)Z"⟩ : MethodName)) hown (mvT hZ (w_26 hw)) (mvT hZ (w_27 hw)) (mvT hZ (w_28 hw)) (mvT hZ (w_29 hw)) (by decide) (backOf (W := 1) (rmX l Z a0 hw [] (1 : Int32) ((n2 &&& (3 : Int32)) - (1 : Int32)) h44 n0 O44 (by decide)) hZ (w_29 hw) (w_28 hw) (by decide) (by decide)) (g := (mkF m 76 #[.val (.int n1), .val (.int n2), .val (.ref b32), .val (.int (1 : Int32)), .val (.ref a_ONE), .val (.int ((n2 &&& (3 : Int32)) - (1 : Int32))), .val (.int (1 : Int32)), .unset] [(.int ((n2 &&& (3 : Int32)) - (1 : Int32))), (.int (1 : Int32)), (.int (own_al (1 : Int32) ((n2 &&& (3 : Int32)) - (1 : Int32))))])) rfl (by rw [hml]; rfl) (argsL := [(.int (1 : Int32)), (.int ((n2 &&& (3 : Int32)) - (1 : Int32)))]) (rest := [(.int (own_al (1 : Int32) ((n2 &&& (3 : Int32)) - (1 : Int32))))]) (lenOf pd_2 rfl) rfl (by show 2 * 0 + _ ≤ _; exact Nat.le_of_eq rfl) (hb hby at_76) (fun _ _ => ⟨rfl, e53, (by decide : 1 + 0 ≤ _), (by decide : 4 + 0 ≤ _)⟩)
    dsimp only [Pt.U, Pt.locs, Pt.cells, Pt.slots] at X54 l54 y54 z54 st54 hQ54
    subst l54 y54 z54
    obtain ⟨rfl, Nq54, e54⟩ := hQ54
    have N54 := Fr.app N53 Nq54
    refine OW.st (B := T54.setTop (mkF m 79 #[.val (.int n1), .val (.int n2), .val (.ref b32), .val (.int (1 : Int32)), .val (.ref a_ONE), .val (.int ((n2 &&& (3 : Int32)) - (1 : Int32))), .val (.int (1 : Int32)), .unset] [(.int (own_ex (1 : Int32) ((n2 &&& (3 : Int32)) - (1 : Int32)))), (.int (own_al (1 : Int32) ((n2 &&& (3 : Int32)) - (1 : Int32))))])) (st54) ?_
    refine OW.st (B := T54.setTop (mkF m 82 #[.val (.int n1), .val (.int n2), .val (.ref b32), .val (.int (1 : Int32)), .val (.ref a_ONE), .val (.int ((n2 &&& (3 : Int32)) - (1 : Int32))), .val (.int (1 : Int32)), .unset] [])) (fun _ kk_ => XS.icmpNo X54.here hx rfl (hb hby at_79) rfl (teq (own_same _ _ (by decide))).2 kk_) ?_
    refine OW.st (B := T54.setTop (mkF m 83 #[.val (.int n1), .val (.int n2), .val (.ref b32), .val (.int (1 : Int32)), .val (.ref a_ONE), .val (.int ((n2 &&& (3 : Int32)) - (1 : Int32))), .val (.int (1 : Int32)), .unset] [(.int (1 : Int32))])) (fun _ kk_ => XS.iconst X54.here hx rfl (hb hby at_82) kk_) ?_
    refine OW.st (B := T54.setTop (mkF m 87 #[.val (.int n1), .val (.int n2), .val (.ref b32), .val (.int (1 : Int32)), .val (.ref a_ONE), .val (.int ((n2 &&& (3 : Int32)) - (1 : Int32))), .val (.int (1 : Int32)), .unset] [(.int (1 : Int32))])) (fun _ kk_ => XS.goto X54.here hx rfl (pc0 := 83) (pc' := 87) rfl (hb hby at_83) (by decide) (by decide) kk_) ?_
    refine OW.st (B := T54.setTop (mkF m 89 #[.val (.int n1), .val (.int n2), .val (.ref b32), .val (.int (1 : Int32)), .val (.ref a_ONE), .val (.int ((n2 &&& (3 : Int32)) - (1 : Int32))), .val (.int (1 : Int32)), .val (.int (1 : Int32))] [])) (fun _ kk_ => XS.istore X54.here hx rfl (hb hby at_87) rfl (l' := #[.val (.int n1), .val (.int n2), .val (.ref b32), .val (.int (1 : Int32)), .val (.ref a_ONE), .val (.int ((n2 &&& (3 : Int32)) - (1 : Int32))), .val (.int (1 : Int32)), .val (.int (1 : Int32))]) rfl kk_) ?_
    refine OW.st (B := T54.setTop (mkF m 91 #[.val (.int n1), .val (.int n2), .val (.ref b32), .val (.int (1 : Int32)), .val (.ref a_ONE), .val (.int ((n2 &&& (3 : Int32)) - (1 : Int32))), .val (.int (1 : Int32)), .val (.int (1 : Int32))] [(.int (1 : Int32))])) (fun _ kk_ => XS.iload X54.here hx rfl (hb hby at_89) rfl kk_) ?_
    refine OW.st (B := T54.setTop (mkF m 94 #[.val (.int n1), .val (.int n2), .val (.ref b32), .val (.int (1 : Int32)), .val (.ref a_ONE), .val (.int ((n2 &&& (3 : Int32)) - (1 : Int32))), .val (.int (1 : Int32)), .val (.int (1 : Int32))] [])) (fun _ kk_ => XS.ifNo X54.here hx rfl (hb hby at_91) rfl ((if0 _ _).trans (feq (by decide)).1) kk_) ?_
    refine OW.st (B := T54.setTop (mkF m 96 #[.val (.int n1), .val (.int n2), .val (.ref b32), .val (.int (1 : Int32)), .val (.ref a_ONE), .val (.int ((n2 &&& (3 : Int32)) - (1 : Int32))), .val (.int (1 : Int32)), .val (.int (1 : Int32))] [(.int (1 : Int32))])) (fun _ kk_ => XS.iload X54.here hx rfl (hb hby at_94) rfl kk_) ?_
    refine OW.st (B := T54.setTop (mkF m 99 #[.val (.int n1), .val (.int n2), .val (.ref b32), .val (.int (1 : Int32)), .val (.ref a_ONE), .val (.int ((n2 &&& (3 : Int32)) - (1 : Int32))), .val (.int (1 : Int32)), .val (.int (1 : Int32))] [])) (fun _ kk_ => XS.ifNo X54.here hx rfl (hb hby at_96) rfl ((if0 _ _).trans (feq (by decide)).1) kk_) ?_
    refine OW.st (B := T54.setTop (mkF m 100 #[.val (.int n1), .val (.int n2), .val (.ref b32), .val (.int (1 : Int32)), .val (.ref a_ONE), .val (.int ((n2 &&& (3 : Int32)) - (1 : Int32))), .val (.int (1 : Int32)), .val (.int (1 : Int32))] [(.int (1 : Int32))])) (fun _ kk_ => XS.iconst X54.here hx rfl (hb hby at_99) kk_) ?_
    refine OW.st (B := T54.setTop (mkF m 104 #[.val (.int n1), .val (.int n2), .val (.ref b32), .val (.int (1 : Int32)), .val (.ref a_ONE), .val (.int ((n2 &&& (3 : Int32)) - (1 : Int32))), .val (.int (1 : Int32)), .val (.int (1 : Int32))] [(.int (1 : Int32))])) (fun _ kk_ => XS.goto X54.here hx rfl (pc0 := 100) (pc' := 104) rfl (hb hby at_100) (by decide) (by decide) kk_) ?_
    exact OW.ret X54 hx hlk (i := .ireturn) Bd.returns rfl (Or.inl ⟨rfl, Or.inr (Or.inl rfl), _, rfl⟩) (hb hby at_104) e54 (by decide) (by decide) ⟨rfl, N54⟩
  · refine OW.st (B := T44.setTop (mkF m 33 #[.val (.int n1), .val (.int n2), .val (.ref b32), .val (.int (2 : Int32)), .unset, .unset, .unset, .unset] [])) (fun _ kk_ => XS.istoreN X44.here hx rfl (hb hby at_32) rfl (l' := #[.val (.int n1), .val (.int n2), .val (.ref b32), .val (.int (2 : Int32)), .unset, .unset, .unset, .unset]) rfl kk_) ?_
    refine OW.st (B := T44.setTop (mkF m 34 #[.val (.int n1), .val (.int n2), .val (.ref b32), .val (.int (2 : Int32)), .unset, .unset, .unset, .unset] [(.ref b32)])) (fun _ kk_ => XS.aloadN X44.here hx rfl (hb hby at_33) rfl rfl kk_) ?_
    refine OW.st (B := T44.setTop (mkF m 35 #[.val (.int n1), .val (.int n2), .val (.ref b32), .val (.int (2 : Int32)), .unset, .unset, .unset, .unset] [(.int (2 : Int32)), (.ref b32)])) (fun _ kk_ => XS.iloadN X44.here hx rfl (hb hby at_34) rfl kk_) ?_
    obtain ⟨cl55, Ar55, q55, S55, Ng55, Hs55, G55⟩ := V44
    have hin55 : ¬ ((2 : Int32) < 0 ∨ cl55.slots.size ≤ ((2 : Int32)).toNatClampNeg) := inb_of S55 ⟨by decide, by decide⟩
    refine OW.st (B := T44.setTop (mkF m 36 #[.val (.int n1), .val (.int n2), .val (.ref b32), .val (.int (2 : Int32)), .unset, .unset, .unset, .unset] [(.ref a_LIST)])) (X44.aaload hx (j := (2 : Int32)) (v := (.ref a_LIST)) (by rw [e44]; exact Ar55.1) (State.isArrayOf_alike hZ.alike Ar55.2.1) rfl Ar55.2.2 hin55 (Has.at Hs55 hin55 rfl) (g := (mkF m 35 #[.val (.int n1), .val (.int n2), .val (.ref b32), .val (.int (2 : Int32)), .unset, .unset, .unset, .unset] [(.int (2 : Int32)), (.ref b32)])) rfl rfl (hb hby at_35)) ?_
    refine OW.st (B := T44.setTop (mkF m 38 #[.val (.int n1), .val (.int n2), .val (.ref b32), .val (.int (2 : Int32)), .val (.ref a_LIST), .unset, .unset, .unset] [])) (fun _ kk_ => XS.astore X44.here hx rfl (hb hby at_36) rfl rfl (l' := #[.val (.int n1), .val (.int n2), .val (.ref b32), .val (.int (2 : Int32)), .val (.ref a_LIST), .unset, .unset, .unset]) rfl kk_) ?_
    refine OW.st (B := T44.setTop (mkF m 39 #[.val (.int n1), .val (.int n2), .val (.ref b32), .val (.int (2 : Int32)), .val (.ref a_LIST), .unset, .unset, .unset] [(.int n2)])) (fun _ kk_ => XS.iloadN X44.here hx rfl (hb hby at_38) rfl kk_) ?_
    refine OW.st (B := T44.setTop (mkF m 40 #[.val (.int n1), .val (.int n2), .val (.ref b32), .val (.int (2 : Int32)), .val (.ref a_LIST), .unset, .unset, .unset] [(.int (3 : Int32)), (.int n2)])) (fun _ kk_ => XS.iconst X44.here hx rfl (hb hby at_39) kk_) ?_
    refine OW.st (B := T44.setTop (mkF m 41 #[.val (.int n1), .val (.int n2), .val (.ref b32), .val (.int (2 : Int32)), .val (.ref a_LIST), .unset, .unset, .unset] [(.int (n2 &&& (3 : Int32)))])) (fun _ kk_ => XS.iand X44.here hx rfl (hb hby at_40) rfl kk_) ?_
    refine OW.st (B := T44.setTop (mkF m 42 #[.val (.int n1), .val (.int n2), .val (.ref b32), .val (.int (2 : Int32)), .val (.ref a_LIST), .unset, .unset, .unset] [(.int (1 : Int32)), (.int (n2 &&& (3 : Int32)))])) (fun _ kk_ => XS.iconst X44.here hx rfl (hb hby at_41) kk_) ?_
    refine OW.st (B := T44.setTop (mkF m 43 #[.val (.int n1), .val (.int n2), .val (.ref b32), .val (.int (2 : Int32)), .val (.ref a_LIST), .unset, .unset, .unset] [(.int ((n2 &&& (3 : Int32)) - (1 : Int32)))])) (fun _ kk_ => XS.isub X44.here hx rfl (hb hby at_42) rfl kk_) ?_
    refine OW.st (B := T44.setTop (mkF m 45 #[.val (.int n1), .val (.int n2), .val (.ref b32), .val (.int (2 : Int32)), .val (.ref a_LIST), .val (.int ((n2 &&& (3 : Int32)) - (1 : Int32))), .unset, .unset] [])) (fun _ kk_ => XS.istore X44.here hx rfl (hb hby at_43) rfl (l' := #[.val (.int n1), .val (.int n2), .val (.ref b32), .val (.int (2 : Int32)), .val (.ref a_LIST), .val (.int ((n2 &&& (3 : Int32)) - (1 : Int32))), .unset, .unset]) rfl kk_) ?_
    refine OW.st (B := T44.setTop (mkF m 47 #[.val (.int n1), .val (.int n2), .val (.ref b32), .val (.int (2 : Int32)), .val (.ref a_LIST), .val (.int ((n2 &&& (3 : Int32)) - (1 : Int32))), .unset, .unset] [(.ref a_LIST)])) (fun _ kk_ => XS.aload X44.here hx rfl (hb hby at_45) rfl rfl kk_) ?_
    refine OW.st (B := T44.setTop (mkF m 48 #[.val (.int n1), .val (.int n2), .val (.ref b32), .val (.int (2 : Int32)), .val (.ref a_LIST), .val (.int ((n2 &&& (3 : Int32)) - (1 : Int32))), .unset, .unset] [(.int n2), (.ref a_LIST)])) (fun _ kk_ => XS.iloadN X44.here hx rfl (hb hby at_47) rfl kk_) ?_
    obtain ⟨cq56, kq56, q56a, q56b, q56c⟩ := isOf hZ e44 (Ea_LIST.ext O44.2)
    obtain ⟨_, _, ⟨T56, L56, k56, n56⟩, -, X56, ⟨Lc56, hQ56, l56, y56, z56⟩, st56⟩ := X44.virtualBack hx (y := (⟨"com/example/filter_to_where/filtertowhere/tree/Operand", "allows", "(I)Z"⟩ : MethodName)) (z := (⟨"com/example/filter_to_where/filtertowhere/tree/Operand", "allows", "(I)Z"⟩ : MethodName)) hown (mvT hZ (w_12 hw)) (mvT hZ (w_13 hw)) (notFace_of_selects (args := #[]) (mvT hZ (w_15 hw))) (mvT hZ (w_15 hw)) (mvT hZ (w_14 hw)) (by decide) (backOf (W := 0) (rmA l Z a0 hw [] a_LIST (2 : Int32) n2 h44 n0 O44 (Ea_LIST.ext O44.2) (Fa_LIST_ordinal.ext O44.2) (by decide)) hZ (w_16 hw) (w_3 hw) (by decide) (by decide)) q56a q56c (g := (mkF m 48 #[.val (.int n1), .val (.int n2), .val (.ref b32), .val (.int (2 : Int32)), .val (.ref a_LIST), .val (.int ((n2 &&& (3 : Int32)) - (1 : Int32))), .unset, .unset] [(.int n2), (.ref a_LIST)])) rfl (by rw [hml]; rfl) (Steps.refl _) (argsL := [(.int n2)]) (rest := []) (lenOf pd_1 rfl) rfl (by show 2 * 0 + _ ≤ _; exact Nat.le_of_eq rfl) (hb hby at_48) (fun _ _ => ⟨rfl, e44, (by decide : 1 + 0 ≤ _), (by decide : 4 + 0 ≤ _)⟩)
    dsimp only [Pt.U, Pt.locs, Pt.cells, Pt.slots] at X56 l56 y56 z56 st56 hQ56
    subst l56 y56 z56
    obtain ⟨rfl, Nq56, e56⟩ := hQ56
    have N56 := Fr.app N44 Nq56
    refine OW.tr (B := T56.setTop (mkF m 51 #[.val (.int n1), .val (.int n2), .val (.ref b32), .val (.int (2 : Int32)), .val (.ref a_LIST), .val (.int ((n2 &&& (3 : Int32)) - (1 : Int32))), .unset, .unset] [(.int (own_al (2 : Int32) n2))])) (st56) ?_
    refine OW.st (B := T56.setTop (mkF m 52 #[.val (.int n1), .val (.int n2), .val (.ref b32), .val (.int (2 : Int32)), .val (.ref a_LIST), .val (.int ((n2 &&& (3 : Int32)) - (1 : Int32))), .unset, .unset] [(.int (2 : Int32)), (.int (own_al (2 : Int32) n2))])) (fun _ kk_ => XS.iloadN X56.here hx rfl (hb hby at_51) rfl kk_) ?_
    refine OW.st (B := T56.setTop (mkF m 53 #[.val (.int n1), .val (.int n2), .val (.ref b32), .val (.int (2 : Int32)), .val (.ref a_LIST), .val (.int ((n2 &&& (3 : Int32)) - (1 : Int32))), .unset, .unset] [(.int n2), (.int (2 : Int32)), (.int (own_al (2 : Int32) n2))])) (fun _ kk_ => XS.iloadN X56.here hx rfl (hb hby at_52) rfl kk_) ?_
    obtain ⟨_, _, ⟨T57, L57, k57, n57⟩, -, X57, ⟨Lc57, hQ57, l57, y57, z57⟩, st57⟩ := Jvm.LawKit.callS X56 hx (y := (⟨"com/example/filter_to_where/filtertowhere/tree/OperandAllowsPinLaw", "expected", "(II)Z"⟩ : MethodName)) hown (mvT hZ (w_26 hw)) (mvT hZ (w_27 hw)) (mvT hZ (w_28 hw)) (mvT hZ (w_29 hw)) (by decide) (backOf (W := 1) (rmX l Z a0 hw [] (2 : Int32) n2 h44 n0 O44 (by decide)) hZ (w_29 hw) (w_28 hw) (by decide) (by decide)) (g := (mkF m 53 #[.val (.int n1), .val (.int n2), .val (.ref b32), .val (.int (2 : Int32)), .val (.ref a_LIST), .val (.int ((n2 &&& (3 : Int32)) - (1 : Int32))), .unset, .unset] [(.int n2), (.int (2 : Int32)), (.int (own_al (2 : Int32) n2))])) rfl (by rw [hml]; rfl) (argsL := [(.int (2 : Int32)), (.int n2)]) (rest := [(.int (own_al (2 : Int32) n2))]) (lenOf pd_2 rfl) rfl (by show 2 * 0 + _ ≤ _; exact Nat.le_of_eq rfl) (hb hby at_53) (fun _ _ => ⟨rfl, e56, (by decide : 1 + 0 ≤ _), (by decide : 4 + 0 ≤ _)⟩)
    dsimp only [Pt.U, Pt.locs, Pt.cells, Pt.slots] at X57 l57 y57 z57 st57 hQ57
    subst l57 y57 z57
    obtain ⟨rfl, Nq57, e57⟩ := hQ57
    have N57 := Fr.app N56 Nq57
    refine OW.st (B := T57.setTop (mkF m 56 #[.val (.int n1), .val (.int n2), .val (.ref b32), .val (.int (2 : Int32)), .val (.ref a_LIST), .val (.int ((n2 &&& (3 : Int32)) - (1 : Int32))), .unset, .unset] [(.int (own_ex (2 : Int32) n2)), (.int (own_al (2 : Int32) n2))])) (st57) ?_
    refine OW.st (B := T57.setTop (mkF m 59 #[.val (.int n1), .val (.int n2), .val (.ref b32), .val (.int (2 : Int32)), .val (.ref a_LIST), .val (.int ((n2 &&& (3 : Int32)) - (1 : Int32))), .unset, .unset] [])) (fun _ kk_ => XS.icmpNo X57.here hx rfl (hb hby at_56) rfl (teq (own_same _ _ (by decide))).2 kk_) ?_
    refine OW.st (B := T57.setTop (mkF m 60 #[.val (.int n1), .val (.int n2), .val (.ref b32), .val (.int (2 : Int32)), .val (.ref a_LIST), .val (.int ((n2 &&& (3 : Int32)) - (1 : Int32))), .unset, .unset] [(.int (1 : Int32))])) (fun _ kk_ => XS.iconst X57.here hx rfl (hb hby at_59) kk_) ?_
    refine OW.st (B := T57.setTop (mkF m 64 #[.val (.int n1), .val (.int n2), .val (.ref b32), .val (.int (2 : Int32)), .val (.ref a_LIST), .val (.int ((n2 &&& (3 : Int32)) - (1 : Int32))), .unset, .unset] [(.int (1 : Int32))])) (fun _ kk_ => XS.goto X57.here hx rfl (pc0 := 60) (pc' := 64) rfl (hb hby at_60) (by decide) (by decide) kk_) ?_
    refine OW.st (B := T57.setTop (mkF m 66 #[.val (.int n1), .val (.int n2), .val (.ref b32), .val (.int (2 : Int32)), .val (.ref a_LIST), .val (.int ((n2 &&& (3 : Int32)) - (1 : Int32))), .val (.int (1 : Int32)), .unset] [])) (fun _ kk_ => XS.istore X57.here hx rfl (hb hby at_64) rfl (l' := #[.val (.int n1), .val (.int n2), .val (.ref b32), .val (.int (2 : Int32)), .val (.ref a_LIST), .val (.int ((n2 &&& (3 : Int32)) - (1 : Int32))), .val (.int (1 : Int32)), .unset]) rfl kk_) ?_
    refine OW.st (B := T57.setTop (mkF m 68 #[.val (.int n1), .val (.int n2), .val (.ref b32), .val (.int (2 : Int32)), .val (.ref a_LIST), .val (.int ((n2 &&& (3 : Int32)) - (1 : Int32))), .val (.int (1 : Int32)), .unset] [(.ref a_LIST)])) (fun _ kk_ => XS.aload X57.here hx rfl (hb hby at_66) rfl rfl kk_) ?_
    refine OW.st (B := T57.setTop (mkF m 70 #[.val (.int n1), .val (.int n2), .val (.ref b32), .val (.int (2 : Int32)), .val (.ref a_LIST), .val (.int ((n2 &&& (3 : Int32)) - (1 : Int32))), .val (.int (1 : Int32)), .unset] [(.int ((n2 &&& (3 : Int32)) - (1 : Int32))), (.ref a_LIST)])) (fun _ kk_ => XS.iload X57.here hx rfl (hb hby at_68) rfl kk_) ?_
    obtain ⟨cq58, kq58, q58a, q58b, q58c⟩ := isOf hZ e57 (Ea_LIST.ext O44.2)
    obtain ⟨_, _, ⟨T58, L58, k58, n58⟩, -, X58, ⟨Lc58, hQ58, l58, y58, z58⟩, st58⟩ := X57.virtualBack hx (y := (⟨"com/example/filter_to_where/filtertowhere/tree/Operand", "allows", "(I)Z"⟩ : MethodName)) (z := (⟨"com/example/filter_to_where/filtertowhere/tree/Operand", "allows", "(I)Z"⟩ : MethodName)) hown (mvT hZ (w_12 hw)) (mvT hZ (w_13 hw)) (notFace_of_selects (args := #[]) (mvT hZ (w_15 hw))) (mvT hZ (w_15 hw)) (mvT hZ (w_14 hw)) (by decide) (backOf (W := 0) (rmA l Z a0 hw [] a_LIST (2 : Int32) ((n2 &&& (3 : Int32)) - (1 : Int32)) h44 n0 O44 (Ea_LIST.ext O44.2) (Fa_LIST_ordinal.ext O44.2) (by decide)) hZ (w_16 hw) (w_3 hw) (by decide) (by decide)) q58a q58c (g := (mkF m 70 #[.val (.int n1), .val (.int n2), .val (.ref b32), .val (.int (2 : Int32)), .val (.ref a_LIST), .val (.int ((n2 &&& (3 : Int32)) - (1 : Int32))), .val (.int (1 : Int32)), .unset] [(.int ((n2 &&& (3 : Int32)) - (1 : Int32))), (.ref a_LIST)])) rfl (by rw [hml]; rfl) (Steps.refl _) (argsL := [(.int ((n2 &&& (3 : Int32)) - (1 : Int32)))]) (rest := []) (lenOf pd_1 rfl) rfl (by show 2 * 0 + _ ≤ _; exact Nat.le_of_eq rfl) (hb hby at_70) (fun _ _ => ⟨rfl, e57, (by decide : 1 + 0 ≤ _), (by decide : 4 + 0 ≤ _)⟩)
    dsimp only [Pt.U, Pt.locs, Pt.cells, Pt.slots] at X58 l58 y58 z58 st58 hQ58
    subst l58 y58 z58
    obtain ⟨rfl, Nq58, e58⟩ := hQ58
    have N58 := Fr.app N57 Nq58
    refine OW.tr (B := T58.setTop (mkF m 73 #[.val (.int n1), .val (.int n2), .val (.ref b32), .val (.int (2 : Int32)), .val (.ref a_LIST), .val (.int ((n2 &&& (3 : Int32)) - (1 : Int32))), .val (.int (1 : Int32)), .unset] [(.int (own_al (2 : Int32) ((n2 &&& (3 : Int32)) - (1 : Int32))))])) (st58) ?_
    refine OW.st (B := T58.setTop (mkF m 74 #[.val (.int n1), .val (.int n2), .val (.ref b32), .val (.int (2 : Int32)), .val (.ref a_LIST), .val (.int ((n2 &&& (3 : Int32)) - (1 : Int32))), .val (.int (1 : Int32)), .unset] [(.int (2 : Int32)), (.int (own_al (2 : Int32) ((n2 &&& (3 : Int32)) - (1 : Int32))))])) (fun _ kk_ => XS.iloadN X58.here hx rfl (hb hby at_73) rfl kk_) ?_
    refine OW.st (B := T58.setTop (mkF m 76 #[.val (.int n1), .val (.int n2), .val (.ref b32), .val (.int (2 : Int32)), .val (.ref a_LIST), .val (.int ((n2 &&& (3 : Int32)) - (1 : Int32))), .val (.int (1 : Int32)), .unset] [(.int ((n2 &&& (3 : Int32)) - (1 : Int32))), (.int (2 : Int32)), (.int (own_al (2 : Int32) ((n2 &&& (3 : Int32)) - (1 : Int32))))])) (fun _ kk_ => XS.iload X58.here hx rfl (hb hby at_74) rfl kk_) ?_
    obtain ⟨_, _, ⟨T59, L59, k59, n59⟩, -, X59, ⟨Lc59, hQ59, l59, y59, z59⟩, st59⟩ := Jvm.LawKit.callS X58 hx (y := (⟨"com/example/filter_to_where/filtertowhere/tree/OperandAllowsPinLaw", "expected", "(II)Z"⟩ : MethodName)) hown (mvT hZ (w_26 hw)) (mvT hZ (w_27 hw)) (mvT hZ (w_28 hw)) (mvT hZ (w_29 hw)) (by decide) (backOf (W := 1) (rmX l Z a0 hw [] (2 : Int32) ((n2 &&& (3 : Int32)) - (1 : Int32)) h44 n0 O44 (by decide)) hZ (w_29 hw) (w_28 hw) (by decide) (by decide)) (g := (mkF m 76 #[.val (.int n1), .val (.int n2), .val (.ref b32), .val (.int (2 : Int32)), .val (.ref a_LIST), .val (.int ((n2 &&& (3 : Int32)) - (1 : Int32))), .val (.int (1 : Int32)), .unset] [(.int ((n2 &&& (3 : Int32)) - (1 : Int32))), (.int (2 : Int32)), (.int (own_al (2 : Int32) ((n2 &&& (3 : Int32)) - (1 : Int32))))])) rfl (by rw [hml]; rfl) (argsL := [(.int (2 : Int32)), (.int ((n2 &&& (3 : Int32)) - (1 : Int32)))]) (rest := [(.int (own_al (2 : Int32) ((n2 &&& (3 : Int32)) - (1 : Int32))))]) (lenOf pd_2 rfl) rfl (by show 2 * 0 + _ ≤ _; exact Nat.le_of_eq rfl) (hb hby at_76) (fun _ _ => ⟨rfl, e58, (by decide : 1 + 0 ≤ _), (by decide : 4 + 0 ≤ _)⟩)
    dsimp only [Pt.U, Pt.locs, Pt.cells, Pt.slots] at X59 l59 y59 z59 st59 hQ59
    subst l59 y59 z59
    obtain ⟨rfl, Nq59, e59⟩ := hQ59
    have N59 := Fr.app N58 Nq59
    refine OW.st (B := T59.setTop (mkF m 79 #[.val (.int n1), .val (.int n2), .val (.ref b32), .val (.int (2 : Int32)), .val (.ref a_LIST), .val (.int ((n2 &&& (3 : Int32)) - (1 : Int32))), .val (.int (1 : Int32)), .unset] [(.int (own_ex (2 : Int32) ((n2 &&& (3 : Int32)) - (1 : Int32)))), (.int (own_al (2 : Int32) ((n2 &&& (3 : Int32)) - (1 : Int32))))])) (st59) ?_
    refine OW.st (B := T59.setTop (mkF m 82 #[.val (.int n1), .val (.int n2), .val (.ref b32), .val (.int (2 : Int32)), .val (.ref a_LIST), .val (.int ((n2 &&& (3 : Int32)) - (1 : Int32))), .val (.int (1 : Int32)), .unset] [])) (fun _ kk_ => XS.icmpNo X59.here hx rfl (hb hby at_79) rfl (teq (own_same _ _ (by decide))).2 kk_) ?_
    refine OW.st (B := T59.setTop (mkF m 83 #[.val (.int n1), .val (.int n2), .val (.ref b32), .val (.int (2 : Int32)), .val (.ref a_LIST), .val (.int ((n2 &&& (3 : Int32)) - (1 : Int32))), .val (.int (1 : Int32)), .unset] [(.int (1 : Int32))])) (fun _ kk_ => XS.iconst X59.here hx rfl (hb hby at_82) kk_) ?_
    refine OW.st (B := T59.setTop (mkF m 87 #[.val (.int n1), .val (.int n2), .val (.ref b32), .val (.int (2 : Int32)), .val (.ref a_LIST), .val (.int ((n2 &&& (3 : Int32)) - (1 : Int32))), .val (.int (1 : Int32)), .unset] [(.int (1 : Int32))])) (fun _ kk_ => XS.goto X59.here hx rfl (pc0 := 83) (pc' := 87) rfl (hb hby at_83) (by decide) (by decide) kk_) ?_
    refine OW.st (B := T59.setTop (mkF m 89 #[.val (.int n1), .val (.int n2), .val (.ref b32), .val (.int (2 : Int32)), .val (.ref a_LIST), .val (.int ((n2 &&& (3 : Int32)) - (1 : Int32))), .val (.int (1 : Int32)), .val (.int (1 : Int32))] [])) (fun _ kk_ => XS.istore X59.here hx rfl (hb hby at_87) rfl (l' := #[.val (.int n1), .val (.int n2), .val (.ref b32), .val (.int (2 : Int32)), .val (.ref a_LIST), .val (.int ((n2 &&& (3 : Int32)) - (1 : Int32))), .val (.int (1 : Int32)), .val (.int (1 : Int32))]) rfl kk_) ?_
    refine OW.st (B := T59.setTop (mkF m 91 #[.val (.int n1), .val (.int n2), .val (.ref b32), .val (.int (2 : Int32)), .val (.ref a_LIST), .val (.int ((n2 &&& (3 : Int32)) - (1 : Int32))), .val (.int (1 : Int32)), .val (.int (1 : Int32))] [(.int (1 : Int32))])) (fun _ kk_ => XS.iload X59.here hx rfl (hb hby at_89) rfl kk_) ?_
    refine OW.st (B := T59.setTop (mkF m 94 #[.val (.int n1), .val (.int n2), .val (.ref b32), .val (.int (2 : Int32)), .val (.ref a_LIST), .val (.int ((n2 &&& (3 : Int32)) - (1 : Int32))), .val (.int (1 : Int32)), .val (.int (1 : Int32))] [])) (fun _ kk_ => XS.ifNo X59.here hx rfl (hb hby at_91) rfl ((if0 _ _).trans (feq (by decide)).1) kk_) ?_
    refine OW.st (B := T59.setTop (mkF m 96 #[.val (.int n1), .val (.int n2), .val (.ref b32), .val (.int (2 : Int32)), .val (.ref a_LIST), .val (.int ((n2 &&& (3 : Int32)) - (1 : Int32))), .val (.int (1 : Int32)), .val (.int (1 : Int32))] [(.int (1 : Int32))])) (fun _ kk_ => XS.iload X59.here hx rfl (hb hby at_94) rfl kk_) ?_
    refine OW.st (B := T59.setTop (mkF m 99 #[.val (.int n1), .val (.int n2), .val (.ref b32), .val (.int (2 : Int32)), .val (.ref a_LIST), .val (.int ((n2 &&& (3 : Int32)) - (1 : Int32))), .val (.int (1 : Int32)), .val (.int (1 : Int32))] [])) (fun _ kk_ => XS.ifNo X59.here hx rfl (hb hby at_96) rfl ((if0 _ _).trans (feq (by decide)).1) kk_) ?_
    refine OW.st (B := T59.setTop (mkF m 100 #[.val (.int n1), .val (.int n2), .val (.ref b32), .val (.int (2 : Int32)), .val (.ref a_LIST), .val (.int ((n2 &&& (3 : Int32)) - (1 : Int32))), .val (.int (1 : Int32)), .val (.int (1 : Int32))] [(.int (1 : Int32))])) (fun _ kk_ => XS.iconst X59.here hx rfl (hb hby at_99) kk_) ?_
    refine OW.st (B := T59.setTop (mkF m 104 #[.val (.int n1), .val (.int n2), .val (.ref b32), .val (.int (2 : Int32)), .val (.ref a_LIST), .val (.int ((n2 &&& (3 : Int32)) - (1 : Int32))), .val (.int (1 : Int32)), .val (.int (1 : Int32))] [(.int (1 : Int32))])) (fun _ kk_ => XS.goto X59.here hx rfl (pc0 := 100) (pc' := 104) rfl (hb hby at_100) (by decide) (by decide) kk_) ?_
    exact OW.ret X59 hx hlk (i := .ireturn) Bd.returns rfl (Or.inl ⟨rfl, Or.inr (Or.inl rfl), _, rfl⟩) (hb hby at_104) e59 (by decide) (by decide) ⟨rfl, N59⟩
  · refine OW.st (B := T44.setTop (mkF m 33 #[.val (.int n1), .val (.int n2), .val (.ref b32), .val (.int (3 : Int32)), .unset, .unset, .unset, .unset] [])) (fun _ kk_ => XS.istoreN X44.here hx rfl (hb hby at_32) rfl (l' := #[.val (.int n1), .val (.int n2), .val (.ref b32), .val (.int (3 : Int32)), .unset, .unset, .unset, .unset]) rfl kk_) ?_
    refine OW.st (B := T44.setTop (mkF m 34 #[.val (.int n1), .val (.int n2), .val (.ref b32), .val (.int (3 : Int32)), .unset, .unset, .unset, .unset] [(.ref b32)])) (fun _ kk_ => XS.aloadN X44.here hx rfl (hb hby at_33) rfl rfl kk_) ?_
    refine OW.st (B := T44.setTop (mkF m 35 #[.val (.int n1), .val (.int n2), .val (.ref b32), .val (.int (3 : Int32)), .unset, .unset, .unset, .unset] [(.int (3 : Int32)), (.ref b32)])) (fun _ kk_ => XS.iloadN X44.here hx rfl (hb hby at_34) rfl kk_) ?_
    obtain ⟨cl60, Ar60, q60, S60, Ng60, Hs60, G60⟩ := V44
    have hin60 : ¬ ((3 : Int32) < 0 ∨ cl60.slots.size ≤ ((3 : Int32)).toNatClampNeg) := inb_of S60 ⟨by decide, by decide⟩
    refine OW.st (B := T44.setTop (mkF m 36 #[.val (.int n1), .val (.int n2), .val (.ref b32), .val (.int (3 : Int32)), .unset, .unset, .unset, .unset] [(.ref a_PAIR)])) (X44.aaload hx (j := (3 : Int32)) (v := (.ref a_PAIR)) (by rw [e44]; exact Ar60.1) (State.isArrayOf_alike hZ.alike Ar60.2.1) rfl Ar60.2.2 hin60 (Has.at Hs60 hin60 rfl) (g := (mkF m 35 #[.val (.int n1), .val (.int n2), .val (.ref b32), .val (.int (3 : Int32)), .unset, .unset, .unset, .unset] [(.int (3 : Int32)), (.ref b32)])) rfl rfl (hb hby at_35)) ?_
    refine OW.st (B := T44.setTop (mkF m 38 #[.val (.int n1), .val (.int n2), .val (.ref b32), .val (.int (3 : Int32)), .val (.ref a_PAIR), .unset, .unset, .unset] [])) (fun _ kk_ => XS.astore X44.here hx rfl (hb hby at_36) rfl rfl (l' := #[.val (.int n1), .val (.int n2), .val (.ref b32), .val (.int (3 : Int32)), .val (.ref a_PAIR), .unset, .unset, .unset]) rfl kk_) ?_
    refine OW.st (B := T44.setTop (mkF m 39 #[.val (.int n1), .val (.int n2), .val (.ref b32), .val (.int (3 : Int32)), .val (.ref a_PAIR), .unset, .unset, .unset] [(.int n2)])) (fun _ kk_ => XS.iloadN X44.here hx rfl (hb hby at_38) rfl kk_) ?_
    refine OW.st (B := T44.setTop (mkF m 40 #[.val (.int n1), .val (.int n2), .val (.ref b32), .val (.int (3 : Int32)), .val (.ref a_PAIR), .unset, .unset, .unset] [(.int (3 : Int32)), (.int n2)])) (fun _ kk_ => XS.iconst X44.here hx rfl (hb hby at_39) kk_) ?_
    refine OW.st (B := T44.setTop (mkF m 41 #[.val (.int n1), .val (.int n2), .val (.ref b32), .val (.int (3 : Int32)), .val (.ref a_PAIR), .unset, .unset, .unset] [(.int (n2 &&& (3 : Int32)))])) (fun _ kk_ => XS.iand X44.here hx rfl (hb hby at_40) rfl kk_) ?_
    refine OW.st (B := T44.setTop (mkF m 42 #[.val (.int n1), .val (.int n2), .val (.ref b32), .val (.int (3 : Int32)), .val (.ref a_PAIR), .unset, .unset, .unset] [(.int (1 : Int32)), (.int (n2 &&& (3 : Int32)))])) (fun _ kk_ => XS.iconst X44.here hx rfl (hb hby at_41) kk_) ?_
    refine OW.st (B := T44.setTop (mkF m 43 #[.val (.int n1), .val (.int n2), .val (.ref b32), .val (.int (3 : Int32)), .val (.ref a_PAIR), .unset, .unset, .unset] [(.int ((n2 &&& (3 : Int32)) - (1 : Int32)))])) (fun _ kk_ => XS.isub X44.here hx rfl (hb hby at_42) rfl kk_) ?_
    refine OW.st (B := T44.setTop (mkF m 45 #[.val (.int n1), .val (.int n2), .val (.ref b32), .val (.int (3 : Int32)), .val (.ref a_PAIR), .val (.int ((n2 &&& (3 : Int32)) - (1 : Int32))), .unset, .unset] [])) (fun _ kk_ => XS.istore X44.here hx rfl (hb hby at_43) rfl (l' := #[.val (.int n1), .val (.int n2), .val (.ref b32), .val (.int (3 : Int32)), .val (.ref a_PAIR), .val (.int ((n2 &&& (3 : Int32)) - (1 : Int32))), .unset, .unset]) rfl kk_) ?_
    refine OW.st (B := T44.setTop (mkF m 47 #[.val (.int n1), .val (.int n2), .val (.ref b32), .val (.int (3 : Int32)), .val (.ref a_PAIR), .val (.int ((n2 &&& (3 : Int32)) - (1 : Int32))), .unset, .unset] [(.ref a_PAIR)])) (fun _ kk_ => XS.aload X44.here hx rfl (hb hby at_45) rfl rfl kk_) ?_
    refine OW.st (B := T44.setTop (mkF m 48 #[.val (.int n1), .val (.int n2), .val (.ref b32), .val (.int (3 : Int32)), .val (.ref a_PAIR), .val (.int ((n2 &&& (3 : Int32)) - (1 : Int32))), .unset, .unset] [(.int n2), (.ref a_PAIR)])) (fun _ kk_ => XS.iloadN X44.here hx rfl (hb hby at_47) rfl kk_) ?_
    obtain ⟨cq61, kq61, q61a, q61b, q61c⟩ := isOf hZ e44 (Ea_PAIR.ext O44.2)
    obtain ⟨_, _, ⟨T61, L61, k61, n61⟩, -, X61, ⟨Lc61, hQ61, l61, y61, z61⟩, st61⟩ := X44.virtualBack hx (y := (⟨"com/example/filter_to_where/filtertowhere/tree/Operand", "allows", "(I)Z"⟩ : MethodName)) (z := (⟨"com/example/filter_to_where/filtertowhere/tree/Operand", "allows", "(I)Z"⟩ : MethodName)) hown (mvT hZ (w_12 hw)) (mvT hZ (w_13 hw)) (notFace_of_selects (args := #[]) (mvT hZ (w_15 hw))) (mvT hZ (w_15 hw)) (mvT hZ (w_14 hw)) (by decide) (backOf (W := 0) (rmA l Z a0 hw [] a_PAIR (3 : Int32) n2 h44 n0 O44 (Ea_PAIR.ext O44.2) (Fa_PAIR_ordinal.ext O44.2) (by decide)) hZ (w_16 hw) (w_3 hw) (by decide) (by decide)) q61a q61c (g := (mkF m 48 #[.val (.int n1), .val (.int n2), .val (.ref b32), .val (.int (3 : Int32)), .val (.ref a_PAIR), .val (.int ((n2 &&& (3 : Int32)) - (1 : Int32))), .unset, .unset] [(.int n2), (.ref a_PAIR)])) rfl (by rw [hml]; rfl) (Steps.refl _) (argsL := [(.int n2)]) (rest := []) (lenOf pd_1 rfl) rfl (by show 2 * 0 + _ ≤ _; exact Nat.le_of_eq rfl) (hb hby at_48) (fun _ _ => ⟨rfl, e44, (by decide : 1 + 0 ≤ _), (by decide : 4 + 0 ≤ _)⟩)
    dsimp only [Pt.U, Pt.locs, Pt.cells, Pt.slots] at X61 l61 y61 z61 st61 hQ61
    subst l61 y61 z61
    obtain ⟨rfl, Nq61, e61⟩ := hQ61
    have N61 := Fr.app N44 Nq61
    refine OW.tr (B := T61.setTop (mkF m 51 #[.val (.int n1), .val (.int n2), .val (.ref b32), .val (.int (3 : Int32)), .val (.ref a_PAIR), .val (.int ((n2 &&& (3 : Int32)) - (1 : Int32))), .unset, .unset] [(.int (own_al (3 : Int32) n2))])) (st61) ?_
    refine OW.st (B := T61.setTop (mkF m 52 #[.val (.int n1), .val (.int n2), .val (.ref b32), .val (.int (3 : Int32)), .val (.ref a_PAIR), .val (.int ((n2 &&& (3 : Int32)) - (1 : Int32))), .unset, .unset] [(.int (3 : Int32)), (.int (own_al (3 : Int32) n2))])) (fun _ kk_ => XS.iloadN X61.here hx rfl (hb hby at_51) rfl kk_) ?_
    refine OW.st (B := T61.setTop (mkF m 53 #[.val (.int n1), .val (.int n2), .val (.ref b32), .val (.int (3 : Int32)), .val (.ref a_PAIR), .val (.int ((n2 &&& (3 : Int32)) - (1 : Int32))), .unset, .unset] [(.int n2), (.int (3 : Int32)), (.int (own_al (3 : Int32) n2))])) (fun _ kk_ => XS.iloadN X61.here hx rfl (hb hby at_52) rfl kk_) ?_
    obtain ⟨_, _, ⟨T62, L62, k62, n62⟩, -, X62, ⟨Lc62, hQ62, l62, y62, z62⟩, st62⟩ := Jvm.LawKit.callS X61 hx (y := (⟨"com/example/filter_to_where/filtertowhere/tree/OperandAllowsPinLaw", "expected", "(II)Z"⟩ : MethodName)) hown (mvT hZ (w_26 hw)) (mvT hZ (w_27 hw)) (mvT hZ (w_28 hw)) (mvT hZ (w_29 hw)) (by decide) (backOf (W := 1) (rmX l Z a0 hw [] (3 : Int32) n2 h44 n0 O44 (by decide)) hZ (w_29 hw) (w_28 hw) (by decide) (by decide)) (g := (mkF m 53 #[.val (.int n1), .val (.int n2), .val (.ref b32), .val (.int (3 : Int32)), .val (.ref a_PAIR), .val (.int ((n2 &&& (3 : Int32)) - (1 : Int32))), .unset, .unset] [(.int n2), (.int (3 : Int32)), (.int (own_al (3 : Int32) n2))])) rfl (by rw [hml]; rfl) (argsL := [(.int (3 : Int32)), (.int n2)]) (rest := [(.int (own_al (3 : Int32) n2))]) (lenOf pd_2 rfl) rfl (by show 2 * 0 + _ ≤ _; exact Nat.le_of_eq rfl) (hb hby at_53) (fun _ _ => ⟨rfl, e61, (by decide : 1 + 0 ≤ _), (by decide : 4 + 0 ≤ _)⟩)
    dsimp only [Pt.U, Pt.locs, Pt.cells, Pt.slots] at X62 l62 y62 z62 st62 hQ62
    subst l62 y62 z62
    obtain ⟨rfl, Nq62, e62⟩ := hQ62
    have N62 := Fr.app N61 Nq62
    refine OW.st (B := T62.setTop (mkF m 56 #[.val (.int n1), .val (.int n2), .val (.ref b32), .val (.int (3 : Int32)), .val (.ref a_PAIR), .val (.int ((n2 &&& (3 : Int32)) - (1 : Int32))), .unset, .unset] [(.int (own_ex (3 : Int32) n2)), (.int (own_al (3 : Int32) n2))])) (st62) ?_
    refine OW.st (B := T62.setTop (mkF m 59 #[.val (.int n1), .val (.int n2), .val (.ref b32), .val (.int (3 : Int32)), .val (.ref a_PAIR), .val (.int ((n2 &&& (3 : Int32)) - (1 : Int32))), .unset, .unset] [])) (fun _ kk_ => XS.icmpNo X62.here hx rfl (hb hby at_56) rfl (teq (own_same _ _ (by decide))).2 kk_) ?_
    refine OW.st (B := T62.setTop (mkF m 60 #[.val (.int n1), .val (.int n2), .val (.ref b32), .val (.int (3 : Int32)), .val (.ref a_PAIR), .val (.int ((n2 &&& (3 : Int32)) - (1 : Int32))), .unset, .unset] [(.int (1 : Int32))])) (fun _ kk_ => XS.iconst X62.here hx rfl (hb hby at_59) kk_) ?_
    refine OW.st (B := T62.setTop (mkF m 64 #[.val (.int n1), .val (.int n2), .val (.ref b32), .val (.int (3 : Int32)), .val (.ref a_PAIR), .val (.int ((n2 &&& (3 : Int32)) - (1 : Int32))), .unset, .unset] [(.int (1 : Int32))])) (fun _ kk_ => XS.goto X62.here hx rfl (pc0 := 60) (pc' := 64) rfl (hb hby at_60) (by decide) (by decide) kk_) ?_
    refine OW.st (B := T62.setTop (mkF m 66 #[.val (.int n1), .val (.int n2), .val (.ref b32), .val (.int (3 : Int32)), .val (.ref a_PAIR), .val (.int ((n2 &&& (3 : Int32)) - (1 : Int32))), .val (.int (1 : Int32)), .unset] [])) (fun _ kk_ => XS.istore X62.here hx rfl (hb hby at_64) rfl (l' := #[.val (.int n1), .val (.int n2), .val (.ref b32), .val (.int (3 : Int32)), .val (.ref a_PAIR), .val (.int ((n2 &&& (3 : Int32)) - (1 : Int32))), .val (.int (1 : Int32)), .unset]) rfl kk_) ?_
    refine OW.st (B := T62.setTop (mkF m 68 #[.val (.int n1), .val (.int n2), .val (.ref b32), .val (.int (3 : Int32)), .val (.ref a_PAIR), .val (.int ((n2 &&& (3 : Int32)) - (1 : Int32))), .val (.int (1 : Int32)), .unset] [(.ref a_PAIR)])) (fun _ kk_ => XS.aload X62.here hx rfl (hb hby at_66) rfl rfl kk_) ?_
    refine OW.st (B := T62.setTop (mkF m 70 #[.val (.int n1), .val (.int n2), .val (.ref b32), .val (.int (3 : Int32)), .val (.ref a_PAIR), .val (.int ((n2 &&& (3 : Int32)) - (1 : Int32))), .val (.int (1 : Int32)), .unset] [(.int ((n2 &&& (3 : Int32)) - (1 : Int32))), (.ref a_PAIR)])) (fun _ kk_ => XS.iload X62.here hx rfl (hb hby at_68) rfl kk_) ?_
    obtain ⟨cq63, kq63, q63a, q63b, q63c⟩ := isOf hZ e62 (Ea_PAIR.ext O44.2)
    obtain ⟨_, _, ⟨T63, L63, k63, n63⟩, -, X63, ⟨Lc63, hQ63, l63, y63, z63⟩, st63⟩ := X62.virtualBack hx (y := (⟨"com/example/filter_to_where/filtertowhere/tree/Operand", "allows", "(I)Z"⟩ : MethodName)) (z := (⟨"com/example/filter_to_where/filtertowhere/tree/Operand", "allows", "(I)Z"⟩ : MethodName)) hown (mvT hZ (w_12 hw)) (mvT hZ (w_13 hw)) (notFace_of_selects (args := #[]) (mvT hZ (w_15 hw))) (mvT hZ (w_15 hw)) (mvT hZ (w_14 hw)) (by decide) (backOf (W := 0) (rmA l Z a0 hw [] a_PAIR (3 : Int32) ((n2 &&& (3 : Int32)) - (1 : Int32)) h44 n0 O44 (Ea_PAIR.ext O44.2) (Fa_PAIR_ordinal.ext O44.2) (by decide)) hZ (w_16 hw) (w_3 hw) (by decide) (by decide)) q63a q63c (g := (mkF m 70 #[.val (.int n1), .val (.int n2), .val (.ref b32), .val (.int (3 : Int32)), .val (.ref a_PAIR), .val (.int ((n2 &&& (3 : Int32)) - (1 : Int32))), .val (.int (1 : Int32)), .unset] [(.int ((n2 &&& (3 : Int32)) - (1 : Int32))), (.ref a_PAIR)])) rfl (by rw [hml]; rfl) (Steps.refl _) (argsL := [(.int ((n2 &&& (3 : Int32)) - (1 : Int32)))]) (rest := []) (lenOf pd_1 rfl) rfl (by show 2 * 0 + _ ≤ _; exact Nat.le_of_eq rfl) (hb hby at_70) (fun _ _ => ⟨rfl, e62, (by decide : 1 + 0 ≤ _), (by decide : 4 + 0 ≤ _)⟩)
    dsimp only [Pt.U, Pt.locs, Pt.cells, Pt.slots] at X63 l63 y63 z63 st63 hQ63
    subst l63 y63 z63
    obtain ⟨rfl, Nq63, e63⟩ := hQ63
    have N63 := Fr.app N62 Nq63
    refine OW.tr (B := T63.setTop (mkF m 73 #[.val (.int n1), .val (.int n2), .val (.ref b32), .val (.int (3 : Int32)), .val (.ref a_PAIR), .val (.int ((n2 &&& (3 : Int32)) - (1 : Int32))), .val (.int (1 : Int32)), .unset] [(.int (own_al (3 : Int32) ((n2 &&& (3 : Int32)) - (1 : Int32))))])) (st63) ?_
    refine OW.st (B := T63.setTop (mkF m 74 #[.val (.int n1), .val (.int n2), .val (.ref b32), .val (.int (3 : Int32)), .val (.ref a_PAIR), .val (.int ((n2 &&& (3 : Int32)) - (1 : Int32))), .val (.int (1 : Int32)), .unset] [(.int (3 : Int32)), (.int (own_al (3 : Int32) ((n2 &&& (3 : Int32)) - (1 : Int32))))])) (fun _ kk_ => XS.iloadN X63.here hx rfl (hb hby at_73) rfl kk_) ?_
    refine OW.st (B := T63.setTop (mkF m 76 #[.val (.int n1), .val (.int n2), .val (.ref b32), .val (.int (3 : Int32)), .val (.ref a_PAIR), .val (.int ((n2 &&& (3 : Int32)) - (1 : Int32))), .val (.int (1 : Int32)), .unset] [(.int ((n2 &&& (3 : Int32)) - (1 : Int32))), (.int (3 : Int32)), (.int (own_al (3 : Int32) ((n2 &&& (3 : Int32)) - (1 : Int32))))])) (fun _ kk_ => XS.iload X63.here hx rfl (hb hby at_74) rfl kk_) ?_
    obtain ⟨_, _, ⟨T64, L64, k64, n64⟩, -, X64, ⟨Lc64, hQ64, l64, y64, z64⟩, st64⟩ := Jvm.LawKit.callS X63 hx (y := (⟨"com/example/filter_to_where/filtertowhere/tree/OperandAllowsPinLaw", "expected", "(II)Z"⟩ : MethodName)) hown (mvT hZ (w_26 hw)) (mvT hZ (w_27 hw)) (mvT hZ (w_28 hw)) (mvT hZ (w_29 hw)) (by decide) (backOf (W := 1) (rmX l Z a0 hw [] (3 : Int32) ((n2 &&& (3 : Int32)) - (1 : Int32)) h44 n0 O44 (by decide)) hZ (w_29 hw) (w_28 hw) (by decide) (by decide)) (g := (mkF m 76 #[.val (.int n1), .val (.int n2), .val (.ref b32), .val (.int (3 : Int32)), .val (.ref a_PAIR), .val (.int ((n2 &&& (3 : Int32)) - (1 : Int32))), .val (.int (1 : Int32)), .unset] [(.int ((n2 &&& (3 : Int32)) - (1 : Int32))), (.int (3 : Int32)), (.int (own_al (3 : Int32) ((n2 &&& (3 : Int32)) - (1 : Int32))))])) rfl (by rw [hml]; rfl) (argsL := [(.int (3 : Int32)), (.int ((n2 &&& (3 : Int32)) - (1 : Int32)))]) (rest := [(.int (own_al (3 : Int32) ((n2 &&& (3 : Int32)) - (1 : Int32))))]) (lenOf pd_2 rfl) rfl (by show 2 * 0 + _ ≤ _; exact Nat.le_of_eq rfl) (hb hby at_76) (fun _ _ => ⟨rfl, e63, (by decide : 1 + 0 ≤ _), (by decide : 4 + 0 ≤ _)⟩)
    dsimp only [Pt.U, Pt.locs, Pt.cells, Pt.slots] at X64 l64 y64 z64 st64 hQ64
    subst l64 y64 z64
    obtain ⟨rfl, Nq64, e64⟩ := hQ64
    have N64 := Fr.app N63 Nq64
    refine OW.st (B := T64.setTop (mkF m 79 #[.val (.int n1), .val (.int n2), .val (.ref b32), .val (.int (3 : Int32)), .val (.ref a_PAIR), .val (.int ((n2 &&& (3 : Int32)) - (1 : Int32))), .val (.int (1 : Int32)), .unset] [(.int (own_ex (3 : Int32) ((n2 &&& (3 : Int32)) - (1 : Int32)))), (.int (own_al (3 : Int32) ((n2 &&& (3 : Int32)) - (1 : Int32))))])) (st64) ?_
    refine OW.st (B := T64.setTop (mkF m 82 #[.val (.int n1), .val (.int n2), .val (.ref b32), .val (.int (3 : Int32)), .val (.ref a_PAIR), .val (.int ((n2 &&& (3 : Int32)) - (1 : Int32))), .val (.int (1 : Int32)), .unset] [])) (fun _ kk_ => XS.icmpNo X64.here hx rfl (hb hby at_79) rfl (teq (own_same _ _ (by decide))).2 kk_) ?_
    refine OW.st (B := T64.setTop (mkF m 83 #[.val (.int n1), .val (.int n2), .val (.ref b32), .val (.int (3 : Int32)), .val (.ref a_PAIR), .val (.int ((n2 &&& (3 : Int32)) - (1 : Int32))), .val (.int (1 : Int32)), .unset] [(.int (1 : Int32))])) (fun _ kk_ => XS.iconst X64.here hx rfl (hb hby at_82) kk_) ?_
    refine OW.st (B := T64.setTop (mkF m 87 #[.val (.int n1), .val (.int n2), .val (.ref b32), .val (.int (3 : Int32)), .val (.ref a_PAIR), .val (.int ((n2 &&& (3 : Int32)) - (1 : Int32))), .val (.int (1 : Int32)), .unset] [(.int (1 : Int32))])) (fun _ kk_ => XS.goto X64.here hx rfl (pc0 := 83) (pc' := 87) rfl (hb hby at_83) (by decide) (by decide) kk_) ?_
    refine OW.st (B := T64.setTop (mkF m 89 #[.val (.int n1), .val (.int n2), .val (.ref b32), .val (.int (3 : Int32)), .val (.ref a_PAIR), .val (.int ((n2 &&& (3 : Int32)) - (1 : Int32))), .val (.int (1 : Int32)), .val (.int (1 : Int32))] [])) (fun _ kk_ => XS.istore X64.here hx rfl (hb hby at_87) rfl (l' := #[.val (.int n1), .val (.int n2), .val (.ref b32), .val (.int (3 : Int32)), .val (.ref a_PAIR), .val (.int ((n2 &&& (3 : Int32)) - (1 : Int32))), .val (.int (1 : Int32)), .val (.int (1 : Int32))]) rfl kk_) ?_
    refine OW.st (B := T64.setTop (mkF m 91 #[.val (.int n1), .val (.int n2), .val (.ref b32), .val (.int (3 : Int32)), .val (.ref a_PAIR), .val (.int ((n2 &&& (3 : Int32)) - (1 : Int32))), .val (.int (1 : Int32)), .val (.int (1 : Int32))] [(.int (1 : Int32))])) (fun _ kk_ => XS.iload X64.here hx rfl (hb hby at_89) rfl kk_) ?_
    refine OW.st (B := T64.setTop (mkF m 94 #[.val (.int n1), .val (.int n2), .val (.ref b32), .val (.int (3 : Int32)), .val (.ref a_PAIR), .val (.int ((n2 &&& (3 : Int32)) - (1 : Int32))), .val (.int (1 : Int32)), .val (.int (1 : Int32))] [])) (fun _ kk_ => XS.ifNo X64.here hx rfl (hb hby at_91) rfl ((if0 _ _).trans (feq (by decide)).1) kk_) ?_
    refine OW.st (B := T64.setTop (mkF m 96 #[.val (.int n1), .val (.int n2), .val (.ref b32), .val (.int (3 : Int32)), .val (.ref a_PAIR), .val (.int ((n2 &&& (3 : Int32)) - (1 : Int32))), .val (.int (1 : Int32)), .val (.int (1 : Int32))] [(.int (1 : Int32))])) (fun _ kk_ => XS.iload X64.here hx rfl (hb hby at_94) rfl kk_) ?_
    refine OW.st (B := T64.setTop (mkF m 99 #[.val (.int n1), .val (.int n2), .val (.ref b32), .val (.int (3 : Int32)), .val (.ref a_PAIR), .val (.int ((n2 &&& (3 : Int32)) - (1 : Int32))), .val (.int (1 : Int32)), .val (.int (1 : Int32))] [])) (fun _ kk_ => XS.ifNo X64.here hx rfl (hb hby at_96) rfl ((if0 _ _).trans (feq (by decide)).1) kk_) ?_
    refine OW.st (B := T64.setTop (mkF m 100 #[.val (.int n1), .val (.int n2), .val (.ref b32), .val (.int (3 : Int32)), .val (.ref a_PAIR), .val (.int ((n2 &&& (3 : Int32)) - (1 : Int32))), .val (.int (1 : Int32)), .val (.int (1 : Int32))] [(.int (1 : Int32))])) (fun _ kk_ => XS.iconst X64.here hx rfl (hb hby at_99) kk_) ?_
    refine OW.st (B := T64.setTop (mkF m 104 #[.val (.int n1), .val (.int n2), .val (.ref b32), .val (.int (3 : Int32)), .val (.ref a_PAIR), .val (.int ((n2 &&& (3 : Int32)) - (1 : Int32))), .val (.int (1 : Int32)), .val (.int (1 : Int32))] [(.int (1 : Int32))])) (fun _ kk_ => XS.goto X64.here hx rfl (pc0 := 100) (pc' := 104) rfl (hb hby at_100) (by decide) (by decide) kk_) ?_
    exact OW.ret X64 hx hlk (i := .ireturn) Bd.returns rfl (Or.inl ⟨rfl, Or.inr (Or.inl rfl), _, rfl⟩) (hb hby at_104) e64 (by decide) (by decide) ⟨rfl, N64⟩
set_option maxRecDepth 65536 in
set_option maxHeartbeats 40000000 in
theorem comes_1 {Post : Tables → Env → Array Value → State → Outcome → State → Prop} (hpost : ∀ tb e args s v u, (limb_1_1.after args s (.returned v) u = true ∧ limb_1_2.after args s (.returned v) u = true ∧ True) → FrameEnd s (.returned v) u (Jvm.fieldLocs frame_1_writes args s ++ Jvm.arrayLocs frame_1_arrays args s ++ Jvm.staticLocs frame_1_statics s) 16 128 → Post tb e args s (.returned v) u) :
    ArmFor flags0 classFile x code maxLocals ret World_1 tables_1 room_1 Calls_1 rest_1 Pre_1 Post := by
  intro l hfl _ _ p e ha hc hk s m args below hf hA hF happ hP
  obtain ⟨hcalls, hrest, hpre⟩ := hP
  obtain ⟨-, -, -, hnamed, -, -, -, hat⟩ := (Spec.applies_iff hf).mp happ
  obtain ⟨hg, hn⟩ := and_e (Cond.before_iff.mp (show (Jvm.Cond.and given_1 narrow_1).before args s = true from hpre))
  obtain ⟨k65, k66⟩ := and_e hg
  obtain ⟨k67, k68⟩ := and_e k66
  obtain ⟨w0, w1, rfl⟩ : ∃ w0 w1 : Value, args = #[w0, w1] := by
    have hs : args.size = 2 := by simpa [Cond.value, given_1] using k65
    obtain ⟨L⟩ := args
    match L, hs with
    | [w0, w1], _ => exact ⟨w0, w1, rfl⟩
  have hw := fun d (hd : d ∈ tables_1) => atoms_spec (ws := Jvm.Cond.code x code maxLocals ret :: tables_1) hat d (List.mem_cons_of_mem _ hd)
  have hfit : Fit s := fun {y c} hc i hi => by
    obtain ⟨ha, rfl⟩ := Array.getElem?_eq_some_iff.mp hc
    have q := List.all_eq_true.mp ((Array.all_eq_true_iff_forall_mem.mp hF) _ (Array.getElem_mem ha)) i (List.mem_range.mpr hi)
    simpa [Array.getElem?_eq_getElem hi] using q
  obtain ⟨i0, ei0⟩ := is_v k67
  obtain rfl : w0 = (.int i0) := Option.some.inj ei0
  obtain ⟨i1, ei1⟩ := is_v k68
  obtain rfl : w1 = (.int i1) := Option.some.inj ei1
  obtain ⟨k1, k2⟩ := and_e hn
  obtain ⟨k3, k4⟩ := and_e k2
  obtain ⟨k5, k6⟩ := and_e k4
  obtain ⟨k7, k8⟩ := and_e k6
  obtain ⟨k9, k10⟩ := and_e k8
  obtain ⟨k11, k12⟩ := and_e k10
  obtain ⟨k13, k14⟩ := and_e k12
  obtain ⟨a_NONE, eva_NONE⟩ := exa_v k1
  obtain ⟨a_ONE, eva_ONE⟩ := exa_v k3
  obtain ⟨a_LIST, eva_LIST⟩ := exa_v k5
  obtain ⟨a_PAIR, eva_PAIR⟩ := exa_v k7
  have hS : OwnS s a_NONE a_ONE a_LIST a_PAIR := ⟨Sta.start eva_NONE (Or.inr ⟨(w_3 hw), (w_4 hw)⟩), Exa.start eva_NONE k1, Sta.start eva_ONE (Or.inr ⟨(w_3 hw), (w_7 hw)⟩), Exa.start eva_ONE k3, Sta.start eva_LIST (Or.inr ⟨(w_3 hw), (w_9 hw)⟩), Exa.start eva_LIST k5, Sta.start eva_PAIR (Or.inr ⟨(w_3 hw), (w_11 hw)⟩), Exa.start eva_PAIR k7, Fld.start ((fld_at eva_NONE).symm.trans (own_eq_int k9)), Fld.start ((fld_at eva_LIST).symm.trans (own_eq_int k11)), Fld.start ((fld_at eva_ONE).symm.trans (own_eq_int k13)), Fld.start ((fld_at eva_PAIR).symm.trans (own_eq_int k14))⟩
  obtain ⟨n, o, h1, h2, h3, _, L, rfl, ⟨rfl, N⟩, hq⟩ := rm0 l s _ hw tables_1 i0 i1 a_NONE a_ONE a_LIST a_PAIR s.heap s.heap.size (Old.start s) hS p e ha hc hk s m _ below hf ((Spec.applies_iff_loose hf).mp happ).1 ⟨rfl, State.Warmed39.refl s, rfl⟩ trivial
  refine ⟨n, _, h1, h2, h3, hpost _ _ _ _ _ _ ⟨Cond.after_iff.mpr rfl, Cond.after_iff.mpr (eq_i res_at (Term.int_eval (1)) rfl), trivial⟩ ⟨hq.1, hq.2.1, (hq.2.2.sift fun y hy => Or.inr (N y hy)).mono (by decide) (by decide)⟩⟩
theorem main_1_1 : Claimed_1_1 := comes_1 fun _ _ _ _ _ _ h hF => ⟨h.1, hF⟩
theorem main_1_2 : Claimed_1_2 := comes_1 fun _ _ _ _ _ _ h hF => ⟨h.2.1, hF⟩
end Jvm.Pilot.@@N@@
namespace Jvm.Pilot.@@N@@
open Jvm Jvm.ClassFile Sem Op Lib Jvm.Free Jvm.Stand Jvm.Pilot.@@N@@.Jvm.D
/-! MADE BY PROGRAM (witnessworld.py) out of the Statement's table words and the real class files: 13 classes; the members and pool entries that the words name. The judged class is class 1, her method 2. -/
namespace start1
open Jvm.ClassFile
def u (s : String) : CpInfo := .utf8 (stringToUtf16 s)
/-- a pool by its gaps: so many unusable entries, then the entry; so many at the end -/
def gap : Nat → List CpInfo → List CpInfo
  | 0, r => r
  | n + 1, r => .unusable :: gap n r
def poolList (es : List (Nat × CpInfo)) (last : Nat) : List CpInfo := es.foldr (fun e r => gap e.1 (e.2 :: r)) (gap last [])
def pool (es : List (Nat × CpInfo)) (last : Nat) : Array CpInfo := ⟨poolList es last⟩
def fileOf (pool : Array CpInfo) (this : Nat) (attrs : Array Attribute := #[]) (ms : Array MethodInfo := #[]) (fl : Nat := 33) (sup : Nat := 0) (ifs : Array Nat := #[]) (fds : Array FieldInfo := #[]) : ClassFile where
  minorVersion := 0
  majorVersion := 65
  constantPool := pool
  accessFlags := fl
  thisClass := this
  superClass := sup
  interfaces := ifs
  fields := fds
  methods := ms
  attributes := attrs
def plain (name : String) (sup : Option ClassId) : Class where
  name := name
  kind := .ordinary
  loader := none
  accessFlags := 33
  super := sup
  interfaces := #[]
  cf := none
  fields := #[]
  methods := #[]
  instanceTypes := #[]
  staticTypes := #[]
  resolved := #[]
  callSites := []
  init := .initialized
  statics := none
  mirror := none

def pool0 : Array CpInfo := pool [(5, u "<init>"), (0, u "()V"), (1, .class_ 10), (1, u "java/lang/Object")] 113

def k0m0 : Method := { name := "<init>", desc := "()V", sig := { parameters := [], returnType := none }, accessFlags := 1, code := none }
/-- java/lang/Object -/
def k0 : Class := { plain "java/lang/Object" none with
  accessFlags := 33
  interfaces := #[]
  cf := some (fileOf pool0 8 #[] #[{ accessFlags := 1, nameIndex := 5, descriptorIndex := 6, attributes := #[] }] 33 0 #[] #[])
  fields := #[]
  methods := #[k0m0]
  instanceTypes := #[]
  staticTypes := #[]
  resolved := Array.replicate 124 none
  statics := none }

def pool1 : Array CpInfo := pool [(2, .class_ 4), (1, u "java/lang/Object"), (0, u "<init>"), (0, u "()V"), (2, .integer 2147483647), (0, .class_ 11), (0, u "com/example/filter_to_where/filtertowhere/tree/Operand"), (0, .fieldref 10 13), (0, .nameAndType 14 15), (0, u "NONE"), (0, u "Lcom/example/filter_to_where/filtertowhere/tree/Operand;"), (0, .fieldref 10 17), (0, .nameAndType 18 15), (0, u "ONE"), (0, .fieldref 10 20), (0, .nameAndType 21 15), (0, u "LIST"), (0, .fieldref 10 23), (0, .nameAndType 24 15), (0, u "PAIR"), (0, .methodref 10 26), (0, .nameAndType 27 28), (0, u "allows"), (0, u "(I)Z"), (0, .methodref 30 31), (0, .class_ 32), (0, .nameAndType 33 34), (0, u "com/example/filter_to_where/filtertowhere/tree/OperandAllowsPinLaw"), (0, u "expected"), (0, u "(II)Z"), (3, u "law")] 4

def k1m0 : Method := { name := "<init>", desc := "()V", sig := { parameters := [], returnType := none }, accessFlags := 1, code := none }
def k1c1 : Code := { maxStack := 2, maxLocals := 4, code := method_2_code, exceptionTable := #[], attributes := #[] }
def k1m1 : Method := { name := "expected", desc := "(II)Z", sig := { parameters := [.int, .int], returnType := some .boolean }, accessFlags := 10, code := some k1c1 }
def k1c2 : Code := { maxStack := 4, maxLocals := 8, code := code, exceptionTable := #[], attributes := #[] }
def k1m2 : Method := { name := "law", desc := "(II)Z", sig := { parameters := [.int, .int], returnType := some .boolean }, accessFlags := 9, code := some k1c2 }
/-- com/example/filter_to_where/filtertowhere/tree/OperandAllowsPinLaw -/
def k1 : Class := { plain "com/example/filter_to_where/filtertowhere/tree/OperandAllowsPinLaw" (some 0) with
  accessFlags := 49
  interfaces := #[]
  cf := some (fileOf pool1 30 #[] #[{ accessFlags := 1, nameIndex := 5, descriptorIndex := 6, attributes := #[] }, { accessFlags := 10, nameIndex := 33, descriptorIndex := 34, attributes := #[] }, { accessFlags := 9, nameIndex := 38, descriptorIndex := 34, attributes := #[] }] 49 2 #[] #[])
  fields := #[]
  methods := #[k1m0, k1m1, k1m2]
  instanceTypes := #[]
  staticTypes := #[]
  resolved := Array.replicate 43 none
  statics := none }

def pool2 : Array CpInfo := pool [(1, .class_ 2), (0, u "java/lang/constant/Constable"), (0, .class_ 4), (0, u "java/lang/Object")] 6

/-- java/lang/constant/Constable -/
def k2 : Class := { plain "java/lang/constant/Constable" (some 0) with
  accessFlags := 1537
  interfaces := #[]
  cf := some (fileOf pool2 1 #[] #[] 1537 3 #[] #[])
  fields := #[]
  methods := #[]
  instanceTypes := #[]
  staticTypes := #[]
  resolved := Array.replicate 11 none
  statics := none }

def pool3 : Array CpInfo := pool [(1, .class_ 2), (0, u "java/lang/Comparable"), (0, .class_ 4), (0, u "java/lang/Object")] 7

/-- java/lang/Comparable -/
def k3 : Class := { plain "java/lang/Comparable" (some 0) with
  accessFlags := 1537
  interfaces := #[]
  cf := some (fileOf pool3 1 #[] #[] 1537 3 #[] #[])
  fields := #[]
  methods := #[]
  instanceTypes := #[]
  staticTypes := #[]
  resolved := Array.replicate 12 none
  statics := none }

def pool4 : Array CpInfo := pool [(1, .class_ 2), (0, u "java/io/Serializable"), (0, .class_ 4), (0, u "java/lang/Object")] 2

/-- java/io/Serializable -/
def k4 : Class := { plain "java/io/Serializable" (some 0) with
  accessFlags := 1537
  interfaces := #[]
  cf := some (fileOf pool4 1 #[] #[] 1537 3 #[] #[])
  fields := #[]
  methods := #[]
  instanceTypes := #[]
  staticTypes := #[]
  resolved := Array.replicate 7 none
  statics := none }

def pool5 : Array CpInfo := pool [(2, .class_ 4), (1, u "java/lang/Enum"), (0, u "name"), (0, u "Ljava/lang/String;"), (0, .fieldref 2 8), (0, .nameAndType 9 10), (0, u "ordinal"), (0, u "I"), (1, .class_ 14), (1, u "java/lang/Object"), (4, u "hash"), (86, .class_ 108), (1, u "java/lang/Enum$EnumDesc"), (2, .class_ 112), (0, u "java/lang/constant/Constable"), (0, .class_ 114), (0, u "java/lang/Comparable"), (0, .class_ 116), (0, u "java/io/Serializable"), (9, u "()I")] 77

def k5c0 : Code := { maxStack := 1, maxLocals := 1, code := jdk_37_method_2_code, exceptionTable := #[], attributes := #[] }
def k5m0 : Method := { name := "ordinal", desc := "()I", sig := { parameters := [], returnType := some .int }, accessFlags := 17, code := some k5c0 }
/-- java/lang/Enum -/
def k5 : Class := { plain "java/lang/Enum" (some 0) with
  accessFlags := 1057
  interfaces := #[2, 3, 4]
  cf := some (fileOf pool5 2 #[.nestMembers #[106]] #[{ accessFlags := 17, nameIndex := 9, descriptorIndex := 126, attributes := #[] }] 1057 12 #[111, 113, 115] #[{ accessFlags := 18, nameIndex := 5, descriptorIndex := 6, attributes := #[] }, { accessFlags := 18, nameIndex := 9, descriptorIndex := 10, attributes := #[] }, { accessFlags := 2, nameIndex := 19, descriptorIndex := 10, attributes := #[] }])
  fields := #[{ name := "name", type := (.object "java/lang/String"), accessFlags := 18, slot := 0, constantValue := 0 }, { name := "ordinal", type := .int, accessFlags := 18, slot := 1, constantValue := 0 }, { name := "hash", type := .int, accessFlags := 2, slot := 2, constantValue := 0 }]
  methods := #[k5m0]
  instanceTypes := #[(.object "java/lang/String"), .int, .int]
  staticTypes := #[]
  resolved := Array.replicate 204 none
  statics := none }

def pool6 : Array CpInfo := pool [(1, .class_ 2), (0, u "com/example/filter_to_where/filtertowhere/tree/Operand"), (2, u "NONE"), (0, u "Lcom/example/filter_to_where/filtertowhere/tree/Operand;"), (2, u "ONE"), (2, u "LIST"), (2, u "PAIR"), (2, u "$VALUES"), (0, u "[Lcom/example/filter_to_where/filtertowhere/tree/Operand;"), (6, .class_ 28), (1, u "java/lang/Enum"), (6, .methodref 1 36), (0, .nameAndType 37 38), (0, u "ordinal"), (0, u "()I"), (21, u "allows"), (0, u "(I)Z")] 5

def k6c0 : Code := { maxStack := 4, maxLocals := 2, code := prog_55_method_4_code, exceptionTable := #[], attributes := #[] }
def k6m0 : Method := { name := "allows", desc := "(I)Z", sig := { parameters := [.int], returnType := some .boolean }, accessFlags := 1, code := some k6c0 }
/-- com/example/filter_to_where/filtertowhere/tree/Operand -/
def k6 : Class := { plain "com/example/filter_to_where/filtertowhere/tree/Operand" (some 5) with
  accessFlags := 16433
  interfaces := #[]
  cf := some (fileOf pool6 1 #[] #[{ accessFlags := 1, nameIndex := 60, descriptorIndex := 61, attributes := #[] }] 16433 26 #[] #[{ accessFlags := 16409, nameIndex := 5, descriptorIndex := 6, attributes := #[] }, { accessFlags := 16409, nameIndex := 9, descriptorIndex := 6, attributes := #[] }, { accessFlags := 16409, nameIndex := 12, descriptorIndex := 6, attributes := #[] }, { accessFlags := 16409, nameIndex := 15, descriptorIndex := 6, attributes := #[] }, { accessFlags := 4122, nameIndex := 18, descriptorIndex := 19, attributes := #[] }])
  fields := #[{ name := "NONE", type := (.object "com/example/filter_to_where/filtertowhere/tree/Operand"), accessFlags := 16409, slot := 0, constantValue := 0 }, { name := "ONE", type := (.object "com/example/filter_to_where/filtertowhere/tree/Operand"), accessFlags := 16409, slot := 1, constantValue := 0 }, { name := "LIST", type := (.object "com/example/filter_to_where/filtertowhere/tree/Operand"), accessFlags := 16409, slot := 2, constantValue := 0 }, { name := "PAIR", type := (.object "com/example/filter_to_where/filtertowhere/tree/Operand"), accessFlags := 16409, slot := 3, constantValue := 0 }, { name := "$VALUES", type := (.array (.object "com/example/filter_to_where/filtertowhere/tree/Operand")), accessFlags := 4122, slot := 4, constantValue := 0 }]
  methods := #[k6m0]
  instanceTypes := #[(.object "java/lang/String"), .int, .int]
  staticTypes := #[(.object "com/example/filter_to_where/filtertowhere/tree/Operand"), (.object "com/example/filter_to_where/filtertowhere/tree/Operand"), (.object "com/example/filter_to_where/filtertowhere/tree/Operand"), (.object "com/example/filter_to_where/filtertowhere/tree/Operand"), (.array (.object "com/example/filter_to_where/filtertowhere/tree/Operand"))]
  resolved := Array.replicate 67 none
  statics := some 0 }

def pool7 : Array CpInfo := pool [(1, u "java/lang/Cloneable"), (0, .class_ 1), (0, u "java/lang/Object"), (0, .class_ 3)] 3

/-- java/lang/Cloneable -/
def k7 : Class := { plain "java/lang/Cloneable" (some 0) with
  accessFlags := 1537
  interfaces := #[]
  cf := some (fileOf pool7 2 #[] #[] 1537 4 #[] #[])
  fields := #[]
  methods := #[]
  instanceTypes := #[]
  staticTypes := #[]
  resolved := Array.replicate 8 none
  statics := none }

/-- the primitive byte -/
def k8 : Class := { plain "byte" none with kind := .primitive 'B', accessFlags := 0x411 }
/-- [B -/
def k9 : Class := { plain "[B" (some 0) with kind := .array 8 .byte, interfaces := #[7, 4], accessFlags := 1041 }

/-- the primitive int -/
def k10 : Class := { plain "int" none with kind := .primitive 'I', accessFlags := 0x411 }
/-- [I -/
def k11 : Class := { plain "[I" (some 0) with kind := .array 10 .int, interfaces := #[7, 4], accessFlags := 1041 }

/-- [Lcom/example/filter_to_where/filtertowhere/tree/Operand; -/
def k12 : Class := { plain "[Lcom/example/filter_to_where/filtertowhere/tree/Operand;" (some 0) with kind := .array 6 (.object "com/example/filter_to_where/filtertowhere/tree/Operand"), interfaces := #[7, 4], accessFlags := 1041 }

def heap : Heap := #[{ cls := 6, slots := #[.ref 1, .ref 2, .ref 3, .ref 4, .null], vm := .statics 6 },
  { cls := 6, slots := #[.null, .int 0, .int 0], vm := .none },
  { cls := 6, slots := #[.null, .int 1, .int 0], vm := .none },
  { cls := 6, slots := #[.null, .int 2, .int 0], vm := .none },
  { cls := 6, slots := #[.null, .int 3, .int 0], vm := .none }]
def classes : Array Class := #[k0, k1, k2, k3, k4, k5, k6, k7, k8, k9, k10, k11, k12]
def interned : List (Array UInt16 × Addr) := []
def slotsUsed : Nat := 17
def theMethod : MethodId := ⟨1, 2⟩
def args0 : Array Value := #[.int 5, .int 7]
def aboutOver (below : List Frame) : State where
  vm := { classes := classes, interned := interned.toArray }
  heap := heap
  slotsUsed := slotsUsed
  threads := #[{ frames := .invoking theMethod args0 :: below }]
def below0 : List Frame := [.native { method := ⟨0, 0⟩, args := #[] }]
def about1 : State := aboutOver below0
def p0 : Program := .bare "" "" ""
def e0 : Env := launch0.env 0 0 0
theorem w_frames : about1.frames = Frame.invoking theMethod args0 :: below0 := rfl
set_option maxRecDepth 65536 in
theorem w_args : argsFit about1.vm theMethod args0 = true := by decide +kernel
set_option maxRecDepth 65536 in
theorem w_heap : heapFits about1 = true := by decide +kernel
set_option maxRecDepth 65536 in
theorem w_runnable : about1.curStatus? = some .runnable := by decide +kernel
set_option maxRecDepth 65536 in
theorem w_alone : about1.alone = true := by decide +kernel
set_option maxRecDepth 65536 in
theorem w_named : about1.methodNamed? x = some theMethod := by decide +kernel
set_option maxRecDepth 65536 in
theorem w_hears : about1.hears theMethod below0 = true := by decide +kernel
set_option maxRecDepth 65536 in
theorem w_ripe : about1.ripe theMethod args0 below0 = true := by decide +kernel
theorem w_running : about1.status = .running := rfl
set_option maxRecDepth 65536 in
theorem w_room : about1.hasRoom e0.platform room_1 = true :=
  launch0.hasRoom_least _ room_1 (by decide +kernel) (by decide +kernel) (by decide +kernel) (by decide +kernel) (by decide +kernel) (by decide +kernel)
theorem allAtoms_all (ts : List Jvm.Cond) (a : Array Jvm.Value) (st : Jvm.State) : (allAtoms ts).before a st = ts.all (fun c => c.before a st) := by
  induction ts with
  | nil => rfl
  | cons c t ih =>
    show (Jvm.Cond.and c (allAtoms t)).before a st = _
    rw [Jvm.Cond.before_and, ih, List.all_cons]
def words1 : List Jvm.Cond := Jvm.Cond.code x code maxLocals ret :: tables_1
/-- a 'code' word, met by the world's own term for the bytes: nothing is compared byte by byte -/
theorem code_word {y : MethodName} {bytes : ByteArray} {mx : Nat} {rt : Option FieldType} {a : Array Value} {s : State} {m : MethodId} {meth : Method} {c : Code} (h1 : s.methodNamed? y = some m) (h2 : s.vm.method? m = some meth) (h3 : meth.code = some c) (h4 : c.code = bytes)
    (h5 : (c.maxLocals == mx && c.exceptionTable.isEmpty && decide (c.maxStack ≤ mostOperands) && decide (meth.sig.returnType = rt) && !meth.locks && decide (parseMethodDescriptor y.desc = some meth.sig)) = true) : (Jvm.Cond.code y bytes mx rt).before a s = true := by
  simp only [Bool.and_eq_true, beq_iff_eq, Bool.not_eq_true', decide_eq_true_eq] at h5
  obtain ⟨⟨⟨⟨⟨g1, g2⟩, g3⟩, g4⟩, g5⟩, g6⟩ := h5
  simp [Cond.before, Cond.holds, Cond.value, h1, h2, h3, h4, g1, g2, g3, g4, g5, g6]
def isCode : Jvm.Cond → Bool
  | .code _ _ _ _ => true
  | _ => false
theorem all_split {L : List Jvm.Cond} {P : Jvm.Cond → Bool} (h1 : L.all (fun c => isCode c || P c) = true) (h2 : ∀ c ∈ L.filter isCode, P c = true) : L.all P = true := by
  refine List.all_eq_true.mpr fun c hc => ?_
  have h := List.all_eq_true.mp h1 c hc
  rcases Bool.eq_false_or_eq_true (isCode c) with hi | hi
  · exact h2 c (List.mem_filter.mpr ⟨hc, hi⟩)
  · simpa [hi] using h
set_option maxRecDepth 65536 in
theorem w_c0 : (Jvm.Cond.code x code maxLocals ret).before args0 about1 = true := code_word (m := ⟨1, 2⟩) (meth := k1m2) (c := k1c2) (by decide +kernel) rfl rfl rfl (by decide +kernel)
set_option maxRecDepth 65536 in
theorem w_c1 : (Jvm.Cond.code ({ cls := "com/example/filter_to_where/filtertowhere/tree/Operand", name := "allows", desc := "(I)Z" } : Jvm.MethodName) prog_55_method_4_code (2 : Nat) (Option.some Jvm.ClassFile.FieldType.boolean)).before args0 about1 = true := code_word (m := ⟨6, 0⟩) (meth := k6m0) (c := k6c0) (by decide +kernel) rfl rfl rfl (by decide +kernel)
set_option maxRecDepth 65536 in
theorem w_c2 : (Jvm.Cond.code ({ cls := "java/lang/Enum", name := "ordinal", desc := "()I" } : Jvm.MethodName) jdk_37_method_2_code (1 : Nat) (Option.some Jvm.ClassFile.FieldType.int)).before args0 about1 = true := code_word (m := ⟨5, 0⟩) (meth := k5m0) (c := k5c0) (by decide +kernel) rfl rfl rfl (by decide +kernel)
set_option maxRecDepth 65536 in
theorem w_c3 : (Jvm.Cond.code ({ cls := "com/example/filter_to_where/filtertowhere/tree/OperandAllowsPinLaw", name := "expected", desc := "(II)Z" } : Jvm.MethodName) method_2_code (4 : Nat) (Option.some Jvm.ClassFile.FieldType.boolean)).before args0 about1 = true := code_word (m := ⟨1, 1⟩) (meth := k1m1) (c := k1c1) (by decide +kernel) rfl rfl rfl (by decide +kernel)
def codes1 : List Jvm.Cond := [Jvm.Cond.code x code maxLocals ret, Jvm.Cond.code ({ cls := "com/example/filter_to_where/filtertowhere/tree/Operand", name := "allows", desc := "(I)Z" } : Jvm.MethodName) prog_55_method_4_code (2 : Nat) (Option.some Jvm.ClassFile.FieldType.boolean), Jvm.Cond.code ({ cls := "java/lang/Enum", name := "ordinal", desc := "()I" } : Jvm.MethodName) jdk_37_method_2_code (1 : Nat) (Option.some Jvm.ClassFile.FieldType.int), Jvm.Cond.code ({ cls := "com/example/filter_to_where/filtertowhere/tree/OperandAllowsPinLaw", name := "expected", desc := "(II)Z" } : Jvm.MethodName) method_2_code (4 : Nat) (Option.some Jvm.ClassFile.FieldType.boolean)]
set_option maxRecDepth 65536 in
theorem codes_eq : words1.filter isCode = codes1 := rfl
theorem w_codes : ∀ c ∈ words1.filter isCode, c.before args0 about1 = true := by
  rw [codes_eq]
  intro c hc
  simp only [codes1, List.mem_cons, List.not_mem_nil, or_false] at hc
  rcases hc with rfl | rfl | rfl | rfl
  · exact w_c0
  · exact w_c1
  · exact w_c2
  · exact w_c3
set_option maxRecDepth 65536 in
theorem w_t1 : (words1.take 24).all (fun c => isCode c || c.before args0 about1) = true := by decide +kernel
set_option maxRecDepth 65536 in
theorem w_t2 : (words1.drop 24).all (fun c => isCode c || c.before args0 about1) = true := by decide +kernel
theorem w_tables : (allAtoms (Jvm.Cond.code x code maxLocals ret :: tables_1)).before args0 about1 = true := by
  rw [allAtoms_all]
  show words1.all (fun c => c.before args0 about1) = true
  refine all_split ?_ w_codes
  rw [← List.take_append_drop 24 words1, List.all_append, w_t1, w_t2]
  rfl
set_option maxRecDepth 65536 in
theorem w_case : (Jvm.Cond.and given_1 narrow_1).before args0 about1 = true := by decide +kernel
theorem w_applies : (headSpec (Jvm.Cond.code x code maxLocals ret :: tables_1) room_1).applies x e0.platform about1 = true :=
  (Spec.applies_iff w_frames).mpr ⟨w_running, w_runnable, w_alone, w_named, w_hears, w_ripe, w_room, w_tables⟩
theorem atStart : AtStart classFile x code maxLocals ret World_1 tables_1 room_1 Calls_1 rest_1 Pre_1 launch0 p0 e0 about1 theMethod args0 below0 :=
  ⟨lists_1, trivial, launch0.admits_env _ _ _, launch0.least_env, fairChoices_fair.cas, fairChoices_fair.clock, w_frames, w_args, w_heap, w_applies, trivial, trivial, w_case⟩
end start1
theorem witness_1 : WitnessClaimed_1 := ⟨start1.p0, start1.e0, start1.about1, start1.theMethod, start1.args0, start1.below0, start1.atStart⟩
end Jvm.Pilot.@@N@@
