import JvmDerived
import JvmDerived.Pilot.@@N@@Statement
import JvmDerived.Pilot.@@N@@Code
set_option linter.unusedVariables false
set_option linter.unusedSimpArgs false
namespace Jvm.Pilot.@@N@@
open Jvm Jvm.ClassFile Sem Op Lib Jvm.Free Jvm.Stand Jvm.LawKit Jvm.RoadKit Bundle Jvm.Pilot.@@N@@.Jvm.D
section OwnKit
variable {p : Program} {l : Launch} {e : Env} {R : Room} {s : State} {m : MethodId} {args : Array Value} {below : List Frame} {meth : Method} {c : Code} {T : State} {locs : List Loc} {cells slots kc ks : Nat} {Q : Option Value → Heap → List Loc → Prop} {A B : State}
/-- the rest of a walk: from the state A the run comes to a return that Q describes -/
def OW (p : Program) (e : Env) (below : List Frame) (s : State) (Q : Option Value → Heap → List Loc → Prop) (kc ks : Nat) (A : State) : Prop :=
  ∃ s₂ o, Steps p.tables e below A s₂ ∧ s₂.status = .running ∧ Ended s₂ below o ∧ ∃ v L, o = .returned v ∧ Q v s₂.heap L ∧ FrameEnd s o s₂ L kc ks
theorem OW.st (h : ∀ t, Steps p.tables e below B t → Steps p.tables e below A t) (k : OW p e below s Q kc ks B) : OW p e below s Q kc ks A := by
  obtain ⟨a, o, h1, h2⟩ := k; exact ⟨a, o, h _ h1, h2⟩
theorem OW.tr (h : Steps p.tables e below A B) (k : OW p e below s Q kc ks B) : OW p e below s Q kc ks A := by
  obtain ⟨a, o, h1, h2⟩ := k; exact ⟨a, o, h.trans h1, h2⟩
theorem OW.ret (X : Stand p l e R s m args below meth c T locs cells slots) (hx : p.tables.exec = Jvm.exec) (hlk : meth.locks = false) {pc : Nat} {Ls : Array Slot} {w : Value} {t : FieldType} {i : Instr} {rest : List Value} (hret : meth.sig.returnType = some t) (hn : narrow t w = w)
    (hi : (i = .ireturn ∧ (t = .int ∨ t = .boolean ∨ t = .byte ∨ t = .char ∨ t = .short) ∧ ∃ z, w = .int z) ∨ (i = .lreturn ∧ t = .long ∧ ∃ z, w = .long z) ∨ (i = .dreturn ∧ t = .double ∧ ∃ z, w = .double z) ∨ (i = .freturn ∧ t = .float ∧ ∃ z, w = .float z) ∨ (i = .areturn ∧ t.isReference = true ∧ w.isRef = true))
    (hd : decode c.code pc = .ok (i, 1)) {h : Heap} (eT : T.heap = h) (hc : cells ≤ kc) (hs : slots ≤ ks) (q : Q (some w) h locs) : OW p e below s Q kc ks (T.setTop (mkF m pc Ls (w :: rest))) := by
  obtain ⟨fs, hr, hrun, hended, hW, hsame⟩ := X.leave (v := some w) (fun h => by rw [hret] at h; cases h) hlk
  subst eT
  exact ⟨_, _, retOut X hx hret hn hi hd hr, hrun, hended, _, _, rfl, q, ⟨_, rfl⟩, hW, hsame.mono hc hs⟩
theorem OW.retV (X : Stand p l e R s m args below meth c T locs cells slots) (hx : p.tables.exec = Jvm.exec) (hlk : meth.locks = false) {pc : Nat} {Ls : Array Slot} (hret : meth.sig.returnType = none)
    (hd : decode c.code pc = .ok (.return_, 1)) {h : Heap} (eT : T.heap = h) (hc : cells ≤ kc) (hs : slots ≤ ks) (q : Q none h locs) : OW p e below s Q kc ks (T.setTop (mkF m pc Ls [])) := by
  obtain ⟨fs, hr, hrun, hended, hW, hsame⟩ := X.leave (v := none) (fun _ => rfl) hlk
  subst eT
  exact ⟨_, _, X.returnOut hx hret hd hr, hrun, hended, _, _, rfl, q, ⟨_, rfl⟩, hW, hsame.mono hc hs⟩
/-- the same for a walk that may intern: its Stand is over 's.setVm vm0' -/
def OWW (p : Program) (e : Env) (below : List Frame) (s : State) (Q : Option Value → Heap → List Loc → Prop) (kc ks : Nat) (A : State) : Prop :=
  ∃ s₂ o, Steps p.tables e below A s₂ ∧ s₂.status = .running ∧ Ended s₂ below o ∧ ∃ v L, o = .returned v ∧ Q v s₂.heap L ∧ ReturnedEndW s o s₂ L kc ks
theorem OWW.st (h : ∀ t, Steps p.tables e below B t → Steps p.tables e below A t) (k : OWW p e below s Q kc ks B) : OWW p e below s Q kc ks A := by
  obtain ⟨a, o, h1, h2⟩ := k; exact ⟨a, o, h _ h1, h2⟩
theorem OWW.tr (h : Steps p.tables e below A B) (k : OWW p e below s Q kc ks B) : OWW p e below s Q kc ks A := by
  obtain ⟨a, o, h1, h2⟩ := k; exact ⟨a, o, h.trans h1, h2⟩
theorem OWW.ret {vm0 : Vm} {k0 : Nat} (X : Stand p l e R (s.setVm vm0) m args below meth c T locs cells slots) {h : Heap} (hS : s.Since vm0 k0) (hk : k0 ≤ h.size) (hx : p.tables.exec = Jvm.exec) (hlk : meth.locks = false) {pc : Nat} {Ls : Array Slot} {w : Value} {t : FieldType} {i : Instr} {rest : List Value} (hret : meth.sig.returnType = some t) (hn : narrow t w = w)
    (hi : (i = .ireturn ∧ (t = .int ∨ t = .boolean ∨ t = .byte ∨ t = .char ∨ t = .short) ∧ ∃ z, w = .int z) ∨ (i = .lreturn ∧ t = .long ∧ ∃ z, w = .long z) ∨ (i = .dreturn ∧ t = .double ∧ ∃ z, w = .double z) ∨ (i = .freturn ∧ t = .float ∧ ∃ z, w = .float z) ∨ (i = .areturn ∧ t.isReference = true ∧ w.isRef = true))
    (hd : decode c.code pc = .ok (i, 1)) (eT : T.heap = h) (hc : cells ≤ kc) (hs : slots ≤ ks) (q : Q (some w) h locs) : OWW p e below s Q kc ks (T.setTop (mkF m pc Ls (w :: rest))) := by
  obtain ⟨fs, hr, hrun, hended, hW, hsame⟩ := X.leave (v := some w) (fun h => by rw [hret] at h; cases h) hlk
  subst eT
  obtain ⟨g1, g2, g3⟩ := hS.ended (U := T.setFrames fs) hW hk hsame
  exact ⟨_, _, retOut X hx hret hn hi hd hr, hrun, hended, _, _, rfl, q, ⟨_, rfl⟩, g1, g2, g3.mono hc hs⟩
theorem OWW.retV {vm0 : Vm} {k0 : Nat} (X : Stand p l e R (s.setVm vm0) m args below meth c T locs cells slots) {h : Heap} (hS : s.Since vm0 k0) (hk : k0 ≤ h.size) (hx : p.tables.exec = Jvm.exec) (hlk : meth.locks = false) {pc : Nat} {Ls : Array Slot} (hret : meth.sig.returnType = none)
    (hd : decode c.code pc = .ok (.return_, 1)) (eT : T.heap = h) (hc : cells ≤ kc) (hs : slots ≤ ks) (q : Q none h locs) : OWW p e below s Q kc ks (T.setTop (mkF m pc Ls [])) := by
  obtain ⟨fs, hr, hrun, hended, hW, hsame⟩ := X.leave (v := none) (fun _ => rfl) hlk
  subst eT
  obtain ⟨g1, g2, g3⟩ := hS.ended (U := T.setFrames fs) hW hk hsame
  exact ⟨_, _, X.returnOut hx hret hd hr, hrun, hended, _, _, rfl, q, ⟨_, rfl⟩, g1, g2, g3.mono hc hs⟩
end OwnKit
section OwnWords
variable {args : Array Value} {first s : State} {o : Option Outcome} {idx : List Nat} {t : Term}
theorem own_eq_int {k : Int32} (h : (Jvm.Cond.eq t (.int k)).value args first o s idx = some true) : t.eval args first o idx s = some (.int k) := by
  obtain ⟨x, y, h1, h2, k1, k2⟩ := cmp_v (Or.inl h)
  rw [Term.int_eval] at h2
  cases h2
  obtain ⟨z, rfl⟩ := k2
  rw [h1, gotT (Cond.eq_ints h1 (Term.int_eval k)) h]
theorem own_eq_ref {u : Term} {a : Addr} (h : (Jvm.Cond.eq t u).value args first o s idx = some true) (hu : u.eval args first o idx s = some (.ref a)) : t.eval args first o idx s = some (.ref a) := by
  obtain ⟨x, y, h1, h2, k1, k2⟩ := cmp_v (Or.inl h)
  cases hu.symm.trans h2
  have q := gotT (eq_R h1 hu k2.2 rfl) h
  rw [h1, q]
theorem own_arr {ty : FieldType} {a : Addr} {z : Int32} (ev : t.eval args s none [] s = some (.ref a)) (ha : (Jvm.Cond.arrayOf t ty).value args s none s [] = some true) (hl : (Term.length t).eval args s none [] s = some (.int z)) :
    ∃ cl : Cell, Arr s s.heap a cl ty ∧ cl.slots.size < 2 ^ 31 ∧ cl.slots.size.toInt32 = z ∧ ∀ j : Int32, ¬ j < 0 → ∀ v, (Term.elem t (.int j)).eval args s none [] s = some v → cl.slots[j.toNatClampNeg]? = some v := by
  obtain ⟨cl, A⟩ := Arr.start ev ha
  have hat := A.fin (Vm.Alike.refl _)
  have hlt : cl.slots.size < 2 ^ 31 := by
    refine Decidable.byContradiction fun q => ?_
    simp [Term.eval, ev, hat, q] at hl
  refine ⟨cl, A, hlt, ?_, fun j hj v hv => ?_⟩
  · rw [len_f ev hat hlt] at hl; exact Value.int.inj (Option.some.inj hl)
  · rw [elem_f ev (Term.int_eval j) hat hj] at hv; exact hv
end OwnWords
theorem own_oldle {Z : State} {n0 : Nat} {h : Heap} (X : Old Z n0 h) : n0 ≤ h.size := X.1 ▸ X.2.1
theorem own_cat {v : Value} (h : v.isRef = true) : v.category = 1 := by cases v <;> first | rfl | simp [Value.isRef] at h
theorem own_nar {v : Value} {t : FieldType} (h : v.isRef = true) (ht : t.isReference = true) : narrow t v = v := by cases t <;> first | (cases ht; done) | (cases v <;> first | rfl | simp [Value.isRef] at h)
theorem own_fit {v : Value} {t : FieldType} (h : v.isRef = true) (ht : t.isReference = true) : fits t v = true := by cases t <;> first | (cases ht; done) | (cases v <;> first | rfl | simp [Value.isRef] at h)

theorem own_nz {r : Int32} (h : r = 0 ∨ r = 1) : narrow .boolean (.int r) = .int r := by rcases h with rfl | rfl <;> rfl
theorem own_fz {r : Int32} (h : r = 0 ∨ r = 1) : fits .boolean (.int r) = true := by rcases h with rfl | rfl <;> rfl
theorem w_0 {a0 : Array Value} {Z : State} (hw : ∀ d ∈ tables_1, d.before a0 Z = true) : (Jvm.Cond.fieldLink "com/example/latticework/latticework/OperatorHoldsPinLaw" (7 : Nat) "com/example/latticework/latticework/Filter$Operator" "AT_LEAST" "Lcom/example/latticework/latticework/Filter$Operator;").before a0 Z = true := hw _ (List.mem_of_getElem? (i := 0) rfl)
theorem w_1 {a0 : Array Value} {Z : State} (hw : ∀ d ∈ tables_1, d.before a0 Z = true) : (Jvm.Cond.initialized "com/example/latticework/latticework/Filter$Operator").before a0 Z = true := hw _ (List.mem_of_getElem? (i := 1) rfl)
theorem w_2 {a0 : Array Value} {Z : State} (hw : ∀ d ∈ tables_1, d.before a0 Z = true) : (Jvm.Cond.laysStatic "com/example/latticework/latticework/Filter$Operator" "AT_LEAST" "Lcom/example/latticework/latticework/Filter$Operator;").before a0 Z = true := hw _ (List.mem_of_getElem? (i := 2) rfl)
theorem w_3 {a0 : Array Value} {Z : State} (hw : ∀ d ∈ tables_1, d.before a0 Z = true) : (Jvm.Cond.methodLink "com/example/latticework/latticework/OperatorHoldsPinLaw" (13 : Nat) ({ cls := "com/example/latticework/latticework/Filter$Operator", name := "holds", desc := "(I)Z" } : Jvm.MethodName)).before a0 Z = true := hw _ (List.mem_of_getElem? (i := 3) rfl)
theorem w_4 {a0 : Array Value} {Z : State} (hw : ∀ d ∈ tables_1, d.before a0 Z = true) : (Jvm.Cond.declares ({ cls := "com/example/latticework/latticework/Filter$Operator", name := "holds", desc := "(I)Z" } : Jvm.MethodName)).before a0 Z = true := hw _ (List.mem_of_getElem? (i := 4) rfl)
theorem w_5 {a0 : Array Value} {Z : State} (hw : ∀ d ∈ tables_1, d.before a0 Z = true) : (Jvm.Cond.instanceMethod ({ cls := "com/example/latticework/latticework/Filter$Operator", name := "holds", desc := "(I)Z" } : Jvm.MethodName)).before a0 Z = true := hw _ (List.mem_of_getElem? (i := 5) rfl)
theorem w_6 {a0 : Array Value} {Z : State} (hw : ∀ d ∈ tables_1, d.before a0 Z = true) : (Jvm.Cond.selects "com/example/latticework/latticework/Filter$Operator" ({ cls := "com/example/latticework/latticework/Filter$Operator", name := "holds", desc := "(I)Z" } : Jvm.MethodName) ({ cls := "com/example/latticework/latticework/Filter$Operator", name := "holds", desc := "(I)Z" } : Jvm.MethodName)).before a0 Z = true := hw _ (List.mem_of_getElem? (i := 6) rfl)
theorem w_7 {a0 : Array Value} {Z : State} (hw : ∀ d ∈ tables_1, d.before a0 Z = true) : (Jvm.Cond.code ({ cls := "com/example/latticework/latticework/Filter$Operator", name := "holds", desc := "(I)Z" } : Jvm.MethodName) prog_15_method_4_code (2 : Nat) (Option.some Jvm.ClassFile.FieldType.boolean)).before a0 Z = true := hw _ (List.mem_of_getElem? (i := 7) rfl)
theorem w_8 {a0 : Array Value} {Z : State} (hw : ∀ d ∈ tables_1, d.before a0 Z = true) : (Jvm.Cond.methodLink "com/example/latticework/latticework/Filter$Operator" (42 : Nat) ({ cls := "com/example/latticework/latticework/Filter$Operator", name := "ordinal", desc := "()I" } : Jvm.MethodName)).before a0 Z = true := hw _ (List.mem_of_getElem? (i := 8) rfl)
theorem w_9 {a0 : Array Value} {Z : State} (hw : ∀ d ∈ tables_1, d.before a0 Z = true) : (Jvm.Cond.sameMethod "com/example/latticework/latticework/Filter$Operator" "java/lang/Enum" "ordinal" "()I").before a0 Z = true := hw _ (List.mem_of_getElem? (i := 9) rfl)
theorem w_10 {a0 : Array Value} {Z : State} (hw : ∀ d ∈ tables_1, d.before a0 Z = true) : (Jvm.Cond.declares ({ cls := "java/lang/Enum", name := "ordinal", desc := "()I" } : Jvm.MethodName)).before a0 Z = true := hw _ (List.mem_of_getElem? (i := 10) rfl)
theorem w_11 {a0 : Array Value} {Z : State} (hw : ∀ d ∈ tables_1, d.before a0 Z = true) : (Jvm.Cond.instanceMethod ({ cls := "java/lang/Enum", name := "ordinal", desc := "()I" } : Jvm.MethodName)).before a0 Z = true := hw _ (List.mem_of_getElem? (i := 11) rfl)
theorem w_12 {a0 : Array Value} {Z : State} (hw : ∀ d ∈ tables_1, d.before a0 Z = true) : (Jvm.Cond.selects "com/example/latticework/latticework/Filter$Operator" ({ cls := "com/example/latticework/latticework/Filter$Operator", name := "ordinal", desc := "()I" } : Jvm.MethodName) ({ cls := "java/lang/Enum", name := "ordinal", desc := "()I" } : Jvm.MethodName)).before a0 Z = true := hw _ (List.mem_of_getElem? (i := 12) rfl)
theorem w_13 {a0 : Array Value} {Z : State} (hw : ∀ d ∈ tables_1, d.before a0 Z = true) : (Jvm.Cond.initialized "java/lang/Enum").before a0 Z = true := hw _ (List.mem_of_getElem? (i := 13) rfl)
theorem w_14 {a0 : Array Value} {Z : State} (hw : ∀ d ∈ tables_1, d.before a0 Z = true) : (Jvm.Cond.code ({ cls := "java/lang/Enum", name := "ordinal", desc := "()I" } : Jvm.MethodName) jdk_37_method_2_code (1 : Nat) (Option.some Jvm.ClassFile.FieldType.int)).before a0 Z = true := hw _ (List.mem_of_getElem? (i := 14) rfl)
theorem w_15 {a0 : Array Value} {Z : State} (hw : ∀ d ∈ tables_1, d.before a0 Z = true) : (Jvm.Cond.fieldLink "java/lang/Enum" (7 : Nat) "java/lang/Enum" "ordinal" "I").before a0 Z = true := hw _ (List.mem_of_getElem? (i := 15) rfl)
theorem w_17 {a0 : Array Value} {Z : State} (hw : ∀ d ∈ tables_1, d.before a0 Z = true) : (Jvm.Cond.fieldLink "com/example/latticework/latticework/OperatorHoldsPinLaw" (17 : Nat) "com/example/latticework/latticework/Filter$Operator" "AT_MOST" "Lcom/example/latticework/latticework/Filter$Operator;").before a0 Z = true := hw _ (List.mem_of_getElem? (i := 17) rfl)
theorem w_18 {a0 : Array Value} {Z : State} (hw : ∀ d ∈ tables_1, d.before a0 Z = true) : (Jvm.Cond.laysStatic "com/example/latticework/latticework/Filter$Operator" "AT_MOST" "Lcom/example/latticework/latticework/Filter$Operator;").before a0 Z = true := hw _ (List.mem_of_getElem? (i := 18) rfl)
theorem w_19 {a0 : Array Value} {Z : State} (hw : ∀ d ∈ tables_1, d.before a0 Z = true) : (Jvm.Cond.fieldLink "com/example/latticework/latticework/OperatorHoldsPinLaw" (20 : Nat) "com/example/latticework/latticework/Filter$Operator" "ABOVE" "Lcom/example/latticework/latticework/Filter$Operator;").before a0 Z = true := hw _ (List.mem_of_getElem? (i := 19) rfl)
theorem w_20 {a0 : Array Value} {Z : State} (hw : ∀ d ∈ tables_1, d.before a0 Z = true) : (Jvm.Cond.laysStatic "com/example/latticework/latticework/Filter$Operator" "ABOVE" "Lcom/example/latticework/latticework/Filter$Operator;").before a0 Z = true := hw _ (List.mem_of_getElem? (i := 20) rfl)
theorem w_21 {a0 : Array Value} {Z : State} (hw : ∀ d ∈ tables_1, d.before a0 Z = true) : (Jvm.Cond.fieldLink "com/example/latticework/latticework/OperatorHoldsPinLaw" (23 : Nat) "com/example/latticework/latticework/Filter$Operator" "BELOW" "Lcom/example/latticework/latticework/Filter$Operator;").before a0 Z = true := hw _ (List.mem_of_getElem? (i := 21) rfl)
theorem w_22 {a0 : Array Value} {Z : State} (hw : ∀ d ∈ tables_1, d.before a0 Z = true) : (Jvm.Cond.laysStatic "com/example/latticework/latticework/Filter$Operator" "BELOW" "Lcom/example/latticework/latticework/Filter$Operator;").before a0 Z = true := hw _ (List.mem_of_getElem? (i := 22) rfl)
theorem w_23 {a0 : Array Value} {Z : State} (hw : ∀ d ∈ tables_1, d.before a0 Z = true) : (Jvm.Cond.fieldLink "com/example/latticework/latticework/OperatorHoldsPinLaw" (26 : Nat) "com/example/latticework/latticework/Filter$Operator" "EQUALS" "Lcom/example/latticework/latticework/Filter$Operator;").before a0 Z = true := hw _ (List.mem_of_getElem? (i := 23) rfl)
theorem w_24 {a0 : Array Value} {Z : State} (hw : ∀ d ∈ tables_1, d.before a0 Z = true) : (Jvm.Cond.laysStatic "com/example/latticework/latticework/Filter$Operator" "EQUALS" "Lcom/example/latticework/latticework/Filter$Operator;").before a0 Z = true := hw _ (List.mem_of_getElem? (i := 24) rfl)
theorem d1_0 : decode prog_15_method_4_code 0 = .ok (.aload_n 0, 1) := by decide +kernel
theorem d1_1 : decode prog_15_method_4_code 1 = .ok (.invokevirtual 42, 3) := by decide +kernel
theorem d1_4 : decode prog_15_method_4_code 4 = .ok (.tableswitch 72 0 3 #[32, 42, 52, 62], 32) := by decide +kernel
theorem d1_36 : decode prog_15_method_4_code 36 = .ok (.iload_n 1, 1) := by decide +kernel
theorem d1_37 : decode prog_15_method_4_code 37 = .ok (.ifCond .lt 7, 3) := by decide +kernel
theorem d1_40 : decode prog_15_method_4_code 40 = .ok (.iconst 1, 1) := by decide +kernel
theorem d1_41 : decode prog_15_method_4_code 41 = .ok (.goto 4, 3) := by decide +kernel
theorem d1_44 : decode prog_15_method_4_code 44 = .ok (.iconst 0, 1) := by decide +kernel
theorem d1_45 : decode prog_15_method_4_code 45 = .ok (.ireturn, 1) := by decide +kernel
theorem d1_46 : decode prog_15_method_4_code 46 = .ok (.iload_n 1, 1) := by decide +kernel
theorem d1_47 : decode prog_15_method_4_code 47 = .ok (.ifCond .gt 7, 3) := by decide +kernel
theorem d1_50 : decode prog_15_method_4_code 50 = .ok (.iconst 1, 1) := by decide +kernel
theorem d1_51 : decode prog_15_method_4_code 51 = .ok (.goto 4, 3) := by decide +kernel
theorem d1_54 : decode prog_15_method_4_code 54 = .ok (.iconst 0, 1) := by decide +kernel
theorem d1_55 : decode prog_15_method_4_code 55 = .ok (.ireturn, 1) := by decide +kernel
theorem d1_56 : decode prog_15_method_4_code 56 = .ok (.iload_n 1, 1) := by decide +kernel
theorem d1_57 : decode prog_15_method_4_code 57 = .ok (.ifCond .le 7, 3) := by decide +kernel
theorem d1_60 : decode prog_15_method_4_code 60 = .ok (.iconst 1, 1) := by decide +kernel
theorem d1_61 : decode prog_15_method_4_code 61 = .ok (.goto 4, 3) := by decide +kernel
theorem d1_64 : decode prog_15_method_4_code 64 = .ok (.iconst 0, 1) := by decide +kernel
theorem d1_65 : decode prog_15_method_4_code 65 = .ok (.ireturn, 1) := by decide +kernel
theorem d1_66 : decode prog_15_method_4_code 66 = .ok (.iload_n 1, 1) := by decide +kernel
theorem d1_67 : decode prog_15_method_4_code 67 = .ok (.ifCond .ge 7, 3) := by decide +kernel
theorem d1_70 : decode prog_15_method_4_code 70 = .ok (.iconst 1, 1) := by decide +kernel
theorem d1_71 : decode prog_15_method_4_code 71 = .ok (.goto 4, 3) := by decide +kernel
theorem d1_74 : decode prog_15_method_4_code 74 = .ok (.iconst 0, 1) := by decide +kernel
theorem d1_75 : decode prog_15_method_4_code 75 = .ok (.ireturn, 1) := by decide +kernel
theorem d1_76 : decode prog_15_method_4_code 76 = .ok (.iload_n 1, 1) := by decide +kernel
theorem d1_77 : decode prog_15_method_4_code 77 = .ok (.ifCond .ne 7, 3) := by decide +kernel
theorem d1_80 : decode prog_15_method_4_code 80 = .ok (.iconst 1, 1) := by decide +kernel
theorem d1_81 : decode prog_15_method_4_code 81 = .ok (.goto 4, 3) := by decide +kernel
theorem d1_84 : decode prog_15_method_4_code 84 = .ok (.iconst 0, 1) := by decide +kernel
theorem d1_85 : decode prog_15_method_4_code 85 = .ok (.ireturn, 1) := by decide +kernel
theorem d2_0 : decode jdk_37_method_2_code 0 = .ok (.aload_n 0, 1) := by decide +kernel
theorem d2_1 : decode jdk_37_method_2_code 1 = .ok (.getfield 7, 3) := by decide +kernel
theorem d2_4 : decode jdk_37_method_2_code 4 = .ok (.ireturn, 1) := by decide +kernel
theorem pn_0 : plainName "java/lang/Enum" = true := by first | (simp [plainName, overriddenIn]; done) | decide +kernel
theorem pn_1 : plainName "com/example/latticework/latticework/Filter$Operator" = true := by first | (simp [plainName, overriddenIn]; done) | decide +kernel
theorem pn_2 : plainName "com/example/latticework/latticework/OperatorHoldsPinLaw" = true := by first | (simp [plainName, overriddenIn]; done) | decide +kernel
theorem pd_0 : parseMethodDescriptor "()I" = some ⟨[], some .int⟩ := by decide +kernel
theorem pd_1 : parseMethodDescriptor "(I)Z" = some ⟨[.int], some .boolean⟩ := by decide +kernel
def OwnS (Z : State) (a_AT_LEAST : Addr) (a_AT_MOST : Addr) (a_ABOVE : Addr) (a_BELOW : Addr) (a_EQUALS : Addr) : Prop := (Sta Z Z.heap "com/example/latticework/latticework/Filter$Operator" "AT_LEAST" "Lcom/example/latticework/latticework/Filter$Operator;" (.ref a_AT_LEAST)) ∧ (Exa Z Z.heap a_AT_LEAST "com/example/latticework/latticework/Filter$Operator") ∧ (Sta Z Z.heap "com/example/latticework/latticework/Filter$Operator" "AT_MOST" "Lcom/example/latticework/latticework/Filter$Operator;" (.ref a_AT_MOST)) ∧ (Exa Z Z.heap a_AT_MOST "com/example/latticework/latticework/Filter$Operator") ∧ (Sta Z Z.heap "com/example/latticework/latticework/Filter$Operator" "ABOVE" "Lcom/example/latticework/latticework/Filter$Operator;" (.ref a_ABOVE)) ∧ (Exa Z Z.heap a_ABOVE "com/example/latticework/latticework/Filter$Operator") ∧ (Sta Z Z.heap "com/example/latticework/latticework/Filter$Operator" "BELOW" "Lcom/example/latticework/latticework/Filter$Operator;" (.ref a_BELOW)) ∧ (Exa Z Z.heap a_BELOW "com/example/latticework/latticework/Filter$Operator") ∧ (Sta Z Z.heap "com/example/latticework/latticework/Filter$Operator" "EQUALS" "Lcom/example/latticework/latticework/Filter$Operator;" (.ref a_EQUALS)) ∧ (Exa Z Z.heap a_EQUALS "com/example/latticework/latticework/Filter$Operator") ∧ (Fld Z Z.heap a_AT_LEAST "java/lang/Enum" "ordinal" "I" (.int (0 : Int32))) ∧ (Fld Z Z.heap a_AT_MOST "java/lang/Enum" "ordinal" "I" (.int (1 : Int32))) ∧ (Fld Z Z.heap a_ABOVE "java/lang/Enum" "ordinal" "I" (.int (2 : Int32))) ∧ (Fld Z Z.heap a_BELOW "java/lang/Enum" "ordinal" "I" (.int (3 : Int32))) ∧ (Fld Z Z.heap a_EQUALS "java/lang/Enum" "ordinal" "I" (.int (4 : Int32)))
def own_holds (k c : Int32) : Int32 := if k = 0 then (if c < 0 then 0 else 1) else if k = 1 then (if 0 < c then 0 else 1) else if k = 2 then (if 0 < c then 1 else 0) else if k = 3 then (if c < 0 then 1 else 0) else (if c = 0 then 1 else 0)
theorem own_tri (x : Int32) : (x < 0 ∧ ¬ x = 0 ∧ ¬ 0 < x) ∨ (¬ x < 0 ∧ x = 0 ∧ ¬ 0 < x) ∨ (¬ x < 0 ∧ ¬ x = 0 ∧ 0 < x) := by
  have h0 : (0 : Int32).toInt = 0 := by decide
  have h1 : x = 0 ↔ x.toInt = 0 := by rw [← Int32.toInt_inj, h0]
  rw [Int32.lt_iff_toInt_lt, Int32.lt_iff_toInt_lt, h0, h1]
  omega
theorem ef_O (m : MethodId) (x0 : Addr) : entryFrame m #[(.ref x0)] 1 = mkF m 0 #[.val (.ref x0)] [] := by first | (simp [entryFrame, mkF, argsToLocals, Value.category]; done) | rfl
def QO (Z : State) (a : Addr) (k : Int32) (h0 : Heap) (n0 : Nat) (v : Option Value) (h : Heap) (L : List Loc) : Prop := v = some (.int k) ∧ Fr n0 L ∧ h = h0
set_option maxRecDepth 65536 in
set_option maxHeartbeats 40000000 in
theorem rmO (l : Launch) (Z : State) (a0 : Array Value) (hw : ∀ d ∈ tables_1, d.before a0 Z = true) (ws : List Jvm.Cond) (a : Addr) (k : Int32) (h0 : Heap) (n0 : Nat) (O0 : Old Z n0 h0) (F : Fld Z h0 a "java/lang/Enum" "ordinal" "I" (.int k)) :
    MetFree l (⟨"java/lang/Enum", "ordinal", "()I"⟩ : MethodName) (head1 (Jvm.Cond.code (⟨"java/lang/Enum", "ordinal", "()I"⟩ : MethodName) jdk_37_method_2_code 1 (some .int) :: ws) ({ frames := 0, cells := 0, slots := 0, locals := 0 } : Room)) (fun aa_ UU_ => aa_ = #[(.ref a)] ∧ Z.Warmed39 UU_.vm ∧ UU_.heap = h0) (fun _ _ _ _ _ => True) (fun _ UU_ oo_ UV_ => ∃ vv_ LL_, oo_ = .returned vv_ ∧ QO Z a k h0 n0 vv_ UV_.heap LL_ ∧ FrameEnd UU_ oo_ UV_ LL_ ({ frames := 0, cells := 0, slots := 0, locals := 0 } : Room).cells ({ frames := 0, cells := 0, slots := 0, locals := 0 } : Room).slots) := by
  refine MetFree.of_bodySF (plainFor_of_name pn_0) hisR ?_
  intro p e s m args below meth c s₁ Bd hml0 hP hK
  obtain ⟨rfl, hZ, hh⟩ := hP
  have hx := Bd.exec
  have hby := Bd.bytes
  have hlk := BodyLoose.notSynchronized Bd
  have hml : c.maxLocals = 1 := hml0
  have hown : s.vm.findClass "java/lang/Enum" = some m.cls := findClass_of_methodNamed Bd.named
  have hnm := (name_of_methodNamed Bd.named Bd.method).1
  have X0 : Stand p l e ({ frames := 0, cells := 0, slots := 0, locals := 0 } : Room) s m #[(.ref a)] below meth c s₁ [] 0 0 := Stand.of_body Bd
  have e0 : s₁.heap = h0 := by rw [← hh, Bd.state]; rfl
  have N0 := Fr.nil n0
  suffices hOW : OW p e below s (QO Z a k h0 n0) 0 0 (s₁.setTop (mkF m 0 #[.val (.ref a)] [])) by
    obtain ⟨q1, q2, q3, q4⟩ := hOW
    exact ⟨q1, q2, castTop (ef_O m a) q3, q4⟩
  refine OW.st (B := s₁.setTop (mkF m 1 #[.val (.ref a)] [(.ref a)])) (fun _ kk_ => XS.aloadN X0.here hx rfl (hb hby d2_0) rfl rfl kk_) ?_
  obtain ⟨T19, X19, e19, st19⟩ := getF X0 hx hZ hown (host := "") (Or.inl (w_15 hw)) Via.refl e0 F (g := (mkF m 1 #[.val (.ref a)] [(.ref a)])) rfl rfl (hb hby d2_1)
  refine OW.st (B := T19.setTop (mkF m 4 #[.val (.ref a)] [(.int k)])) (st19) ?_
  exact OW.ret X19 hx hlk (i := .ireturn) Bd.returns rfl (Or.inl ⟨rfl, Or.inl rfl, _, rfl⟩) (hb hby d2_4) e19 (by decide) (by decide) ⟨rfl, N0, rfl⟩
theorem ef_H (m : MethodId) (x0 : Addr) (x1 : Int32) : entryFrame m #[(.ref x0), (.int x1)] 2 = mkF m 0 #[.val (.ref x0), .val (.int x1)] [] := by first | (simp [entryFrame, mkF, argsToLocals, Value.category]; done) | rfl
def QH (Z : State) (a : Addr) (k : Int32) (z1 : Int32) (h0 : Heap) (n0 : Nat) (v : Option Value) (h : Heap) (L : List Loc) : Prop := v = some (.int (own_holds k z1)) ∧ Fr n0 L ∧ h = h0
set_option maxRecDepth 65536 in
set_option maxHeartbeats 40000000 in
theorem rmH (l : Launch) (Z : State) (a0 : Array Value) (hw : ∀ d ∈ tables_1, d.before a0 Z = true) (ws : List Jvm.Cond) (a : Addr) (k : Int32) (z1 : Int32) (h0 : Heap) (n0 : Nat) (O0 : Old Z n0 h0) (E : Exa Z h0 a "com/example/latticework/latticework/Filter$Operator") (F : Fld Z h0 a "java/lang/Enum" "ordinal" "I" (.int k)) (hk : k = 0 ∨ k = 1 ∨ k = 2 ∨ k = 3 ∨ k = 4) :
    MetFree l (⟨"com/example/latticework/latticework/Filter$Operator", "holds", "(I)Z"⟩ : MethodName) (head1 (Jvm.Cond.code (⟨"com/example/latticework/latticework/Filter$Operator", "holds", "(I)Z"⟩ : MethodName) prog_15_method_4_code 2 (some .boolean) :: ws) ({ frames := 1, cells := 0, slots := 0, locals := 12 } : Room)) (fun aa_ UU_ => aa_ = #[(.ref a), (.int z1)] ∧ Z.Warmed39 UU_.vm ∧ UU_.heap = h0) (fun _ _ _ _ _ => True) (fun _ UU_ oo_ UV_ => ∃ vv_ LL_, oo_ = .returned vv_ ∧ QH Z a k z1 h0 n0 vv_ UV_.heap LL_ ∧ FrameEnd UU_ oo_ UV_ LL_ ({ frames := 1, cells := 0, slots := 0, locals := 12 } : Room).cells ({ frames := 1, cells := 0, slots := 0, locals := 12 } : Room).slots) := by
  refine MetFree.of_bodySF (plainFor_of_name pn_1) hisR ?_
  intro p e s m args below meth c s₁ Bd hml0 hP hK
  obtain ⟨rfl, hZ, hh⟩ := hP
  have hx := Bd.exec
  have hby := Bd.bytes
  have hlk := BodyLoose.notSynchronized Bd
  have hml : c.maxLocals = 2 := hml0
  have hown : s.vm.findClass "com/example/latticework/latticework/Filter$Operator" = some m.cls := findClass_of_methodNamed Bd.named
  have hnm := (name_of_methodNamed Bd.named Bd.method).1
  have X0 : Stand p l e ({ frames := 1, cells := 0, slots := 0, locals := 12 } : Room) s m #[(.ref a), (.int z1)] below meth c s₁ [] 0 0 := Stand.of_body Bd
  have e0 : s₁.heap = h0 := by rw [← hh, Bd.state]; rfl
  have N0 := Fr.nil n0
  suffices hOW : OW p e below s (QH Z a k z1 h0 n0) 0 0 (s₁.setTop (mkF m 0 #[.val (.ref a), .val (.int z1)] [])) by
    obtain ⟨q1, q2, q3, q4⟩ := hOW
    exact ⟨q1, q2, castTop (ef_H m a z1) q3, q4⟩
  rcases hk with rfl | rfl | rfl | rfl | rfl
  · refine OW.st (B := s₁.setTop (mkF m 1 #[.val (.ref a), .val (.int z1)] [(.ref a)])) (fun _ kk_ => XS.aloadN X0.here hx rfl (hb hby d1_0) rfl rfl kk_) ?_
    obtain ⟨cq20, kq20, q20a, q20b, q20c⟩ := isOf hZ e0 E
    obtain ⟨_, _, ⟨T20, L20, k20, n20⟩, -, X20, ⟨Lc20, hQ20, l20, y20, z20⟩, st20⟩ := X0.virtualBackUp hx (x := (⟨"com/example/latticework/latticework/Filter$Operator", "ordinal", "()I"⟩ : MethodName)) (y := (⟨"java/lang/Enum", "ordinal", "()I"⟩ : MethodName)) (owner := "java/lang/Enum") hown (mvT hZ (w_8 hw)) (mvT hZ (w_9 hw)) (mvT hZ (w_10 hw)) (by decide) (mvT hZ (w_12 hw)) (mvT hZ (w_11 hw)) (backOf (W := 0) (rmO l Z a0 hw [] a (0 : Int32) h0 n0 O0 F) hZ (w_14 hw) (w_13 hw) (by decide) (by decide)) q20a q20c (g := (mkF m 1 #[.val (.ref a), .val (.int z1)] [(.ref a)])) rfl (by rw [hml]; rfl) (Steps.refl _) (argsL := []) (rest := []) (lenOf pd_0 rfl) rfl (by show 2 * 0 + _ ≤ _; exact Nat.le_of_eq rfl) (hb hby d1_1) (fun _ _ => ⟨rfl, e0, (by decide : 0 + 0 ≤ _), (by decide : 0 + 0 ≤ _)⟩)
    dsimp only [Pt.U, Pt.locs, Pt.cells, Pt.slots] at X20 l20 y20 z20 st20 hQ20
    subst l20 y20 z20
    obtain ⟨rfl, Nq20, e20⟩ := hQ20
    have N20 := Fr.app N0 Nq20
    refine OW.tr (B := T20.setTop (mkF m 4 #[.val (.ref a), .val (.int z1)] [(.int (0 : Int32))])) (st20) ?_
    refine OW.st (B := T20.setTop (mkF m 36 #[.val (.ref a), .val (.int z1)] [])) (fun _ kk_ => XS.tswIn X20.here hx rfl (pc0 := 4) (pc' := 36) rfl (hb hby d1_4) rfl (by decide) rfl (by decide) (by decide) kk_) ?_
    refine OW.st (B := T20.setTop (mkF m 37 #[.val (.ref a), .val (.int z1)] [(.int z1)])) (fun _ kk_ => XS.iloadN X20.here hx rfl (hb hby d1_36) rfl kk_) ?_
    by_cases hc21 : z1 < (0 : Int32)
    · refine OW.st (B := T20.setTop (mkF m 44 #[.val (.ref a), .val (.int z1)] [])) (fun _ kk_ => XS.ifYes X20.here hx rfl (pc0 := 37) (pc' := 44) rfl (hb hby d1_37) rfl ((if0 _ _).trans (tlt hc21).1) (by decide) (by decide) kk_) ?_
      refine OW.st (B := T20.setTop (mkF m 45 #[.val (.ref a), .val (.int z1)] [(.int (0 : Int32))])) (fun _ kk_ => XS.iconst X20.here hx rfl (hb hby d1_44) kk_) ?_
      exact OW.ret X20 hx hlk (i := .ireturn) Bd.returns rfl (Or.inl ⟨rfl, Or.inr (Or.inl rfl), _, rfl⟩) (hb hby d1_45) e20 (by decide) (by decide) ⟨by simp [own_holds, hc21], N20, rfl⟩
    · refine OW.st (B := T20.setTop (mkF m 40 #[.val (.ref a), .val (.int z1)] [])) (fun _ kk_ => XS.ifNo X20.here hx rfl (hb hby d1_37) rfl ((if0 _ _).trans (flt hc21).1) kk_) ?_
      refine OW.st (B := T20.setTop (mkF m 41 #[.val (.ref a), .val (.int z1)] [(.int (1 : Int32))])) (fun _ kk_ => XS.iconst X20.here hx rfl (hb hby d1_40) kk_) ?_
      refine OW.st (B := T20.setTop (mkF m 45 #[.val (.ref a), .val (.int z1)] [(.int (1 : Int32))])) (fun _ kk_ => XS.goto X20.here hx rfl (pc0 := 41) (pc' := 45) rfl (hb hby d1_41) (by decide) (by decide) kk_) ?_
      exact OW.ret X20 hx hlk (i := .ireturn) Bd.returns rfl (Or.inl ⟨rfl, Or.inr (Or.inl rfl), _, rfl⟩) (hb hby d1_45) e20 (by decide) (by decide) ⟨by simp [own_holds, hc21], N20, rfl⟩
  · refine OW.st (B := s₁.setTop (mkF m 1 #[.val (.ref a), .val (.int z1)] [(.ref a)])) (fun _ kk_ => XS.aloadN X0.here hx rfl (hb hby d1_0) rfl rfl kk_) ?_
    obtain ⟨cq22, kq22, q22a, q22b, q22c⟩ := isOf hZ e0 E
    obtain ⟨_, _, ⟨T22, L22, k22, n22⟩, -, X22, ⟨Lc22, hQ22, l22, y22, z22⟩, st22⟩ := X0.virtualBackUp hx (x := (⟨"com/example/latticework/latticework/Filter$Operator", "ordinal", "()I"⟩ : MethodName)) (y := (⟨"java/lang/Enum", "ordinal", "()I"⟩ : MethodName)) (owner := "java/lang/Enum") hown (mvT hZ (w_8 hw)) (mvT hZ (w_9 hw)) (mvT hZ (w_10 hw)) (by decide) (mvT hZ (w_12 hw)) (mvT hZ (w_11 hw)) (backOf (W := 0) (rmO l Z a0 hw [] a (1 : Int32) h0 n0 O0 F) hZ (w_14 hw) (w_13 hw) (by decide) (by decide)) q22a q22c (g := (mkF m 1 #[.val (.ref a), .val (.int z1)] [(.ref a)])) rfl (by rw [hml]; rfl) (Steps.refl _) (argsL := []) (rest := []) (lenOf pd_0 rfl) rfl (by show 2 * 0 + _ ≤ _; exact Nat.le_of_eq rfl) (hb hby d1_1) (fun _ _ => ⟨rfl, e0, (by decide : 0 + 0 ≤ _), (by decide : 0 + 0 ≤ _)⟩)
    dsimp only [Pt.U, Pt.locs, Pt.cells, Pt.slots] at X22 l22 y22 z22 st22 hQ22
    subst l22 y22 z22
    obtain ⟨rfl, Nq22, e22⟩ := hQ22
    have N22 := Fr.app N0 Nq22
    refine OW.tr (B := T22.setTop (mkF m 4 #[.val (.ref a), .val (.int z1)] [(.int (1 : Int32))])) (st22) ?_
    refine OW.st (B := T22.setTop (mkF m 46 #[.val (.ref a), .val (.int z1)] [])) (fun _ kk_ => XS.tswIn X22.here hx rfl (pc0 := 4) (pc' := 46) rfl (hb hby d1_4) rfl (by decide) rfl (by decide) (by decide) kk_) ?_
    refine OW.st (B := T22.setTop (mkF m 47 #[.val (.ref a), .val (.int z1)] [(.int z1)])) (fun _ kk_ => XS.iloadN X22.here hx rfl (hb hby d1_46) rfl kk_) ?_
    by_cases hc23 : (0 : Int32) < z1
    · refine OW.st (B := T22.setTop (mkF m 54 #[.val (.ref a), .val (.int z1)] [])) (fun _ kk_ => XS.ifYes X22.here hx rfl (pc0 := 47) (pc' := 54) rfl (hb hby d1_47) rfl ((if0 _ _).trans (tlt hc23).2.2.1) (by decide) (by decide) kk_) ?_
      refine OW.st (B := T22.setTop (mkF m 55 #[.val (.ref a), .val (.int z1)] [(.int (0 : Int32))])) (fun _ kk_ => XS.iconst X22.here hx rfl (hb hby d1_54) kk_) ?_
      exact OW.ret X22 hx hlk (i := .ireturn) Bd.returns rfl (Or.inl ⟨rfl, Or.inr (Or.inl rfl), _, rfl⟩) (hb hby d1_55) e22 (by decide) (by decide) ⟨by simp [own_holds, hc23], N22, rfl⟩
    · refine OW.st (B := T22.setTop (mkF m 50 #[.val (.ref a), .val (.int z1)] [])) (fun _ kk_ => XS.ifNo X22.here hx rfl (hb hby d1_47) rfl ((if0 _ _).trans (flt hc23).2.2.1) kk_) ?_
      refine OW.st (B := T22.setTop (mkF m 51 #[.val (.ref a), .val (.int z1)] [(.int (1 : Int32))])) (fun _ kk_ => XS.iconst X22.here hx rfl (hb hby d1_50) kk_) ?_
      refine OW.st (B := T22.setTop (mkF m 55 #[.val (.ref a), .val (.int z1)] [(.int (1 : Int32))])) (fun _ kk_ => XS.goto X22.here hx rfl (pc0 := 51) (pc' := 55) rfl (hb hby d1_51) (by decide) (by decide) kk_) ?_
      exact OW.ret X22 hx hlk (i := .ireturn) Bd.returns rfl (Or.inl ⟨rfl, Or.inr (Or.inl rfl), _, rfl⟩) (hb hby d1_55) e22 (by decide) (by decide) ⟨by simp [own_holds, hc23], N22, rfl⟩
  · refine OW.st (B := s₁.setTop (mkF m 1 #[.val (.ref a), .val (.int z1)] [(.ref a)])) (fun _ kk_ => XS.aloadN X0.here hx rfl (hb hby d1_0) rfl rfl kk_) ?_
    obtain ⟨cq24, kq24, q24a, q24b, q24c⟩ := isOf hZ e0 E
    obtain ⟨_, _, ⟨T24, L24, k24, n24⟩, -, X24, ⟨Lc24, hQ24, l24, y24, z24⟩, st24⟩ := X0.virtualBackUp hx (x := (⟨"com/example/latticework/latticework/Filter$Operator", "ordinal", "()I"⟩ : MethodName)) (y := (⟨"java/lang/Enum", "ordinal", "()I"⟩ : MethodName)) (owner := "java/lang/Enum") hown (mvT hZ (w_8 hw)) (mvT hZ (w_9 hw)) (mvT hZ (w_10 hw)) (by decide) (mvT hZ (w_12 hw)) (mvT hZ (w_11 hw)) (backOf (W := 0) (rmO l Z a0 hw [] a (2 : Int32) h0 n0 O0 F) hZ (w_14 hw) (w_13 hw) (by decide) (by decide)) q24a q24c (g := (mkF m 1 #[.val (.ref a), .val (.int z1)] [(.ref a)])) rfl (by rw [hml]; rfl) (Steps.refl _) (argsL := []) (rest := []) (lenOf pd_0 rfl) rfl (by show 2 * 0 + _ ≤ _; exact Nat.le_of_eq rfl) (hb hby d1_1) (fun _ _ => ⟨rfl, e0, (by decide : 0 + 0 ≤ _), (by decide : 0 + 0 ≤ _)⟩)
    dsimp only [Pt.U, Pt.locs, Pt.cells, Pt.slots] at X24 l24 y24 z24 st24 hQ24
    subst l24 y24 z24
    obtain ⟨rfl, Nq24, e24⟩ := hQ24
    have N24 := Fr.app N0 Nq24
    refine OW.tr (B := T24.setTop (mkF m 4 #[.val (.ref a), .val (.int z1)] [(.int (2 : Int32))])) (st24) ?_
    refine OW.st (B := T24.setTop (mkF m 56 #[.val (.ref a), .val (.int z1)] [])) (fun _ kk_ => XS.tswIn X24.here hx rfl (pc0 := 4) (pc' := 56) rfl (hb hby d1_4) rfl (by decide) rfl (by decide) (by decide) kk_) ?_
    refine OW.st (B := T24.setTop (mkF m 57 #[.val (.ref a), .val (.int z1)] [(.int z1)])) (fun _ kk_ => XS.iloadN X24.here hx rfl (hb hby d1_56) rfl kk_) ?_
    by_cases hc25 : (0 : Int32) < z1
    · refine OW.st (B := T24.setTop (mkF m 60 #[.val (.ref a), .val (.int z1)] [])) (fun _ kk_ => XS.ifNo X24.here hx rfl (hb hby d1_57) rfl ((if0 _ _).trans (tlt hc25).2.2.2) kk_) ?_
      refine OW.st (B := T24.setTop (mkF m 61 #[.val (.ref a), .val (.int z1)] [(.int (1 : Int32))])) (fun _ kk_ => XS.iconst X24.here hx rfl (hb hby d1_60) kk_) ?_
      refine OW.st (B := T24.setTop (mkF m 65 #[.val (.ref a), .val (.int z1)] [(.int (1 : Int32))])) (fun _ kk_ => XS.goto X24.here hx rfl (pc0 := 61) (pc' := 65) rfl (hb hby d1_61) (by decide) (by decide) kk_) ?_
      exact OW.ret X24 hx hlk (i := .ireturn) Bd.returns rfl (Or.inl ⟨rfl, Or.inr (Or.inl rfl), _, rfl⟩) (hb hby d1_65) e24 (by decide) (by decide) ⟨by simp [own_holds, hc25], N24, rfl⟩
    · refine OW.st (B := T24.setTop (mkF m 64 #[.val (.ref a), .val (.int z1)] [])) (fun _ kk_ => XS.ifYes X24.here hx rfl (pc0 := 57) (pc' := 64) rfl (hb hby d1_57) rfl ((if0 _ _).trans (flt hc25).2.2.2) (by decide) (by decide) kk_) ?_
      refine OW.st (B := T24.setTop (mkF m 65 #[.val (.ref a), .val (.int z1)] [(.int (0 : Int32))])) (fun _ kk_ => XS.iconst X24.here hx rfl (hb hby d1_64) kk_) ?_
      exact OW.ret X24 hx hlk (i := .ireturn) Bd.returns rfl (Or.inl ⟨rfl, Or.inr (Or.inl rfl), _, rfl⟩) (hb hby d1_65) e24 (by decide) (by decide) ⟨by simp [own_holds, hc25], N24, rfl⟩
  · refine OW.st (B := s₁.setTop (mkF m 1 #[.val (.ref a), .val (.int z1)] [(.ref a)])) (fun _ kk_ => XS.aloadN X0.here hx rfl (hb hby d1_0) rfl rfl kk_) ?_
    obtain ⟨cq26, kq26, q26a, q26b, q26c⟩ := isOf hZ e0 E
    obtain ⟨_, _, ⟨T26, L26, k26, n26⟩, -, X26, ⟨Lc26, hQ26, l26, y26, z26⟩, st26⟩ := X0.virtualBackUp hx (x := (⟨"com/example/latticework/latticework/Filter$Operator", "ordinal", "()I"⟩ : MethodName)) (y := (⟨"java/lang/Enum", "ordinal", "()I"⟩ : MethodName)) (owner := "java/lang/Enum") hown (mvT hZ (w_8 hw)) (mvT hZ (w_9 hw)) (mvT hZ (w_10 hw)) (by decide) (mvT hZ (w_12 hw)) (mvT hZ (w_11 hw)) (backOf (W := 0) (rmO l Z a0 hw [] a (3 : Int32) h0 n0 O0 F) hZ (w_14 hw) (w_13 hw) (by decide) (by decide)) q26a q26c (g := (mkF m 1 #[.val (.ref a), .val (.int z1)] [(.ref a)])) rfl (by rw [hml]; rfl) (Steps.refl _) (argsL := []) (rest := []) (lenOf pd_0 rfl) rfl (by show 2 * 0 + _ ≤ _; exact Nat.le_of_eq rfl) (hb hby d1_1) (fun _ _ => ⟨rfl, e0, (by decide : 0 + 0 ≤ _), (by decide : 0 + 0 ≤ _)⟩)
    dsimp only [Pt.U, Pt.locs, Pt.cells, Pt.slots] at X26 l26 y26 z26 st26 hQ26
    subst l26 y26 z26
    obtain ⟨rfl, Nq26, e26⟩ := hQ26
    have N26 := Fr.app N0 Nq26
    refine OW.tr (B := T26.setTop (mkF m 4 #[.val (.ref a), .val (.int z1)] [(.int (3 : Int32))])) (st26) ?_
    refine OW.st (B := T26.setTop (mkF m 66 #[.val (.ref a), .val (.int z1)] [])) (fun _ kk_ => XS.tswIn X26.here hx rfl (pc0 := 4) (pc' := 66) rfl (hb hby d1_4) rfl (by decide) rfl (by decide) (by decide) kk_) ?_
    refine OW.st (B := T26.setTop (mkF m 67 #[.val (.ref a), .val (.int z1)] [(.int z1)])) (fun _ kk_ => XS.iloadN X26.here hx rfl (hb hby d1_66) rfl kk_) ?_
    by_cases hc27 : z1 < (0 : Int32)
    · refine OW.st (B := T26.setTop (mkF m 70 #[.val (.ref a), .val (.int z1)] [])) (fun _ kk_ => XS.ifNo X26.here hx rfl (hb hby d1_67) rfl ((if0 _ _).trans (tlt hc27).2.1) kk_) ?_
      refine OW.st (B := T26.setTop (mkF m 71 #[.val (.ref a), .val (.int z1)] [(.int (1 : Int32))])) (fun _ kk_ => XS.iconst X26.here hx rfl (hb hby d1_70) kk_) ?_
      refine OW.st (B := T26.setTop (mkF m 75 #[.val (.ref a), .val (.int z1)] [(.int (1 : Int32))])) (fun _ kk_ => XS.goto X26.here hx rfl (pc0 := 71) (pc' := 75) rfl (hb hby d1_71) (by decide) (by decide) kk_) ?_
      exact OW.ret X26 hx hlk (i := .ireturn) Bd.returns rfl (Or.inl ⟨rfl, Or.inr (Or.inl rfl), _, rfl⟩) (hb hby d1_75) e26 (by decide) (by decide) ⟨by simp [own_holds, hc27], N26, rfl⟩
    · refine OW.st (B := T26.setTop (mkF m 74 #[.val (.ref a), .val (.int z1)] [])) (fun _ kk_ => XS.ifYes X26.here hx rfl (pc0 := 67) (pc' := 74) rfl (hb hby d1_67) rfl ((if0 _ _).trans (flt hc27).2.1) (by decide) (by decide) kk_) ?_
      refine OW.st (B := T26.setTop (mkF m 75 #[.val (.ref a), .val (.int z1)] [(.int (0 : Int32))])) (fun _ kk_ => XS.iconst X26.here hx rfl (hb hby d1_74) kk_) ?_
      exact OW.ret X26 hx hlk (i := .ireturn) Bd.returns rfl (Or.inl ⟨rfl, Or.inr (Or.inl rfl), _, rfl⟩) (hb hby d1_75) e26 (by decide) (by decide) ⟨by simp [own_holds, hc27], N26, rfl⟩
  · refine OW.st (B := s₁.setTop (mkF m 1 #[.val (.ref a), .val (.int z1)] [(.ref a)])) (fun _ kk_ => XS.aloadN X0.here hx rfl (hb hby d1_0) rfl rfl kk_) ?_
    obtain ⟨cq28, kq28, q28a, q28b, q28c⟩ := isOf hZ e0 E
    obtain ⟨_, _, ⟨T28, L28, k28, n28⟩, -, X28, ⟨Lc28, hQ28, l28, y28, z28⟩, st28⟩ := X0.virtualBackUp hx (x := (⟨"com/example/latticework/latticework/Filter$Operator", "ordinal", "()I"⟩ : MethodName)) (y := (⟨"java/lang/Enum", "ordinal", "()I"⟩ : MethodName)) (owner := "java/lang/Enum") hown (mvT hZ (w_8 hw)) (mvT hZ (w_9 hw)) (mvT hZ (w_10 hw)) (by decide) (mvT hZ (w_12 hw)) (mvT hZ (w_11 hw)) (backOf (W := 0) (rmO l Z a0 hw [] a (4 : Int32) h0 n0 O0 F) hZ (w_14 hw) (w_13 hw) (by decide) (by decide)) q28a q28c (g := (mkF m 1 #[.val (.ref a), .val (.int z1)] [(.ref a)])) rfl (by rw [hml]; rfl) (Steps.refl _) (argsL := []) (rest := []) (lenOf pd_0 rfl) rfl (by show 2 * 0 + _ ≤ _; exact Nat.le_of_eq rfl) (hb hby d1_1) (fun _ _ => ⟨rfl, e0, (by decide : 0 + 0 ≤ _), (by decide : 0 + 0 ≤ _)⟩)
    dsimp only [Pt.U, Pt.locs, Pt.cells, Pt.slots] at X28 l28 y28 z28 st28 hQ28
    subst l28 y28 z28
    obtain ⟨rfl, Nq28, e28⟩ := hQ28
    have N28 := Fr.app N0 Nq28
    refine OW.tr (B := T28.setTop (mkF m 4 #[.val (.ref a), .val (.int z1)] [(.int (4 : Int32))])) (st28) ?_
    refine OW.st (B := T28.setTop (mkF m 76 #[.val (.ref a), .val (.int z1)] [])) (fun _ kk_ => XS.tswOut X28.here hx rfl (pc0 := 4) (pc' := 76) rfl (hb hby d1_4) rfl (by decide) (by decide) (by decide) kk_) ?_
    refine OW.st (B := T28.setTop (mkF m 77 #[.val (.ref a), .val (.int z1)] [(.int z1)])) (fun _ kk_ => XS.iloadN X28.here hx rfl (hb hby d1_76) rfl kk_) ?_
    by_cases hc29 : z1 = (0 : Int32)
    · refine OW.st (B := T28.setTop (mkF m 80 #[.val (.ref a), .val (.int z1)] [])) (fun _ kk_ => XS.ifNo X28.here hx rfl (hb hby d1_77) rfl ((if0 _ _).trans (teq hc29).2) kk_) ?_
      refine OW.st (B := T28.setTop (mkF m 81 #[.val (.ref a), .val (.int z1)] [(.int (1 : Int32))])) (fun _ kk_ => XS.iconst X28.here hx rfl (hb hby d1_80) kk_) ?_
      refine OW.st (B := T28.setTop (mkF m 85 #[.val (.ref a), .val (.int z1)] [(.int (1 : Int32))])) (fun _ kk_ => XS.goto X28.here hx rfl (pc0 := 81) (pc' := 85) rfl (hb hby d1_81) (by decide) (by decide) kk_) ?_
      exact OW.ret X28 hx hlk (i := .ireturn) Bd.returns rfl (Or.inl ⟨rfl, Or.inr (Or.inl rfl), _, rfl⟩) (hb hby d1_85) e28 (by decide) (by decide) ⟨by simp [own_holds, hc29], N28, rfl⟩
    · refine OW.st (B := T28.setTop (mkF m 84 #[.val (.ref a), .val (.int z1)] [])) (fun _ kk_ => XS.ifYes X28.here hx rfl (pc0 := 77) (pc' := 84) rfl (hb hby d1_77) rfl ((if0 _ _).trans (feq hc29).2) (by decide) (by decide) kk_) ?_
      refine OW.st (B := T28.setTop (mkF m 85 #[.val (.ref a), .val (.int z1)] [(.int (0 : Int32))])) (fun _ kk_ => XS.iconst X28.here hx rfl (hb hby d1_84) kk_) ?_
      exact OW.ret X28 hx hlk (i := .ireturn) Bd.returns rfl (Or.inl ⟨rfl, Or.inr (Or.inl rfl), _, rfl⟩) (hb hby d1_85) e28 (by decide) (by decide) ⟨by simp [own_holds, hc29], N28, rfl⟩
theorem ef_0 (m : MethodId) (x0 : Int32) : entryFrame m #[(.int x0)] maxLocals = mkF m 0 #[.val (.int x0), .unset, .unset, .unset, .unset, .unset, .unset, .unset, .unset] [] := by first | (simp [entryFrame, mkF, argsToLocals, Value.category, maxLocals]; done) | rfl
def Q0 (Z : State) (n1 : Int32) (a_AT_LEAST : Addr) (a_AT_MOST : Addr) (a_ABOVE : Addr) (a_BELOW : Addr) (a_EQUALS : Addr) (h0 : Heap) (n0 : Nat) (v : Option Value) (h : Heap) (L : List Loc) : Prop := v = some (.int 1) ∧ Fr n0 L
set_option maxRecDepth 65536 in
set_option maxHeartbeats 40000000 in
theorem rm0 (l : Launch) (Z : State) (a0 : Array Value) (hw : ∀ d ∈ tables_1, d.before a0 Z = true) (ws : List Jvm.Cond) (n1 : Int32) (a_AT_LEAST : Addr) (a_AT_MOST : Addr) (a_ABOVE : Addr) (a_BELOW : Addr) (a_EQUALS : Addr) (h0 : Heap) (n0 : Nat) (O0 : Old Z n0 h0) (hS : OwnS Z a_AT_LEAST a_AT_MOST a_ABOVE a_BELOW a_EQUALS) :
    MetFree l x (head1 (Jvm.Cond.code x code maxLocals ret :: ws) room_1) (fun aa_ UU_ => aa_ = #[(.int n1)] ∧ Z.Warmed39 UU_.vm ∧ UU_.heap = h0) (fun _ _ _ _ _ => True) (fun _ UU_ oo_ UV_ => ∃ vv_ LL_, oo_ = .returned vv_ ∧ Q0 Z n1 a_AT_LEAST a_AT_MOST a_ABOVE a_BELOW a_EQUALS h0 n0 vv_ UV_.heap LL_ ∧ FrameEnd UU_ oo_ UV_ LL_ 0 0) := by
  refine MetFree.of_bodySF (plainFor_of_name pn_2) hisR ?_
  intro p e s m args below meth c s₁ Bd hml0 hP hK
  obtain ⟨rfl, hZ, hh⟩ := hP
  have hx := Bd.exec
  have hby := Bd.bytes
  have hlk := BodyLoose.notSynchronized Bd
  have hml : c.maxLocals = 9 := hml0
  have hown : s.vm.findClass "com/example/latticework/latticework/OperatorHoldsPinLaw" = some m.cls := findClass_of_methodNamed Bd.named
  have hnm := (name_of_methodNamed Bd.named Bd.method).1
  have X0 : Stand p l e room_1 s m #[(.int n1)] below meth c s₁ [] 0 0 := Stand.of_body Bd
  have e0 : s₁.heap = h0 := by rw [← hh, Bd.state]; rfl
  have N0 := Fr.nil n0
  suffices hOW : OW p e below s (Q0 Z n1 a_AT_LEAST a_AT_MOST a_ABOVE a_BELOW a_EQUALS h0 n0) 0 0 (s₁.setTop (mkF m 0 #[.val (.int n1), .unset, .unset, .unset, .unset, .unset, .unset, .unset, .unset] [])) by
    obtain ⟨q1, q2, q3, q4⟩ := hOW
    exact ⟨q1, q2, castTop (ef_0 m n1) q3, q4⟩
  have hS' := hS
  obtain ⟨Sa_AT_LEAST, Ea_AT_LEAST, Sa_AT_MOST, Ea_AT_MOST, Sa_ABOVE, Ea_ABOVE, Sa_BELOW, Ea_BELOW, Sa_EQUALS, Ea_EQUALS, Fa_AT_LEAST_ordinal, Fa_AT_MOST_ordinal, Fa_ABOVE_ordinal, Fa_BELOW_ordinal, Fa_EQUALS_ordinal⟩ := hS'
  rcases own_tri n1 with ⟨t1, t2, t3⟩ | ⟨t1, t2, t3⟩ | ⟨t1, t2, t3⟩
  · refine OW.st (B := s₁.setTop (mkF m 1 #[.val (.int n1), .unset, .unset, .unset, .unset, .unset, .unset, .unset, .unset] [(.int n1)])) (fun _ kk_ => XS.iloadN X0.here hx rfl (hb hby at_0) rfl kk_) ?_
    refine OW.st (B := s₁.setTop (mkF m 4 #[.val (.int n1), .unset, .unset, .unset, .unset, .unset, .unset, .unset, .unset] [])) (fun _ kk_ => XS.ifNo X0.here hx rfl (hb hby at_1) rfl ((if0 _ _).trans (tlt t1).2.1) kk_) ?_
    refine OW.st (B := s₁.setTop (mkF m 5 #[.val (.int n1), .unset, .unset, .unset, .unset, .unset, .unset, .unset, .unset] [(.int (1 : Int32))])) (fun _ kk_ => XS.iconst X0.here hx rfl (hb hby at_4) kk_) ?_
    refine OW.st (B := s₁.setTop (mkF m 9 #[.val (.int n1), .unset, .unset, .unset, .unset, .unset, .unset, .unset, .unset] [(.int (1 : Int32))])) (fun _ kk_ => XS.goto X0.here hx rfl (pc0 := 5) (pc' := 9) rfl (hb hby at_5) (by decide) (by decide) kk_) ?_
    refine OW.st (B := s₁.setTop (mkF m 10 #[.val (.int n1), .val (.int (1 : Int32)), .unset, .unset, .unset, .unset, .unset, .unset, .unset] [])) (fun _ kk_ => XS.istoreN X0.here hx rfl (hb hby at_9) rfl (l' := #[.val (.int n1), .val (.int (1 : Int32)), .unset, .unset, .unset, .unset, .unset, .unset, .unset]) rfl kk_) ?_
    refine OW.st (B := s₁.setTop (mkF m 11 #[.val (.int n1), .val (.int (1 : Int32)), .unset, .unset, .unset, .unset, .unset, .unset, .unset] [(.int n1)])) (fun _ kk_ => XS.iloadN X0.here hx rfl (hb hby at_10) rfl kk_) ?_
    refine OW.st (B := s₁.setTop (mkF m 18 #[.val (.int n1), .val (.int (1 : Int32)), .unset, .unset, .unset, .unset, .unset, .unset, .unset] [])) (fun _ kk_ => XS.ifYes X0.here hx rfl (pc0 := 11) (pc' := 18) rfl (hb hby at_11) rfl ((if0 _ _).trans (feq t2).2) (by decide) (by decide) kk_) ?_
    refine OW.st (B := s₁.setTop (mkF m 19 #[.val (.int n1), .val (.int (1 : Int32)), .unset, .unset, .unset, .unset, .unset, .unset, .unset] [(.int (0 : Int32))])) (fun _ kk_ => XS.iconst X0.here hx rfl (hb hby at_18) kk_) ?_
    refine OW.st (B := s₁.setTop (mkF m 20 #[.val (.int n1), .val (.int (1 : Int32)), .val (.int (0 : Int32)), .unset, .unset, .unset, .unset, .unset, .unset] [])) (fun _ kk_ => XS.istoreN X0.here hx rfl (hb hby at_19) rfl (l' := #[.val (.int n1), .val (.int (1 : Int32)), .val (.int (0 : Int32)), .unset, .unset, .unset, .unset, .unset, .unset]) rfl kk_) ?_
    refine OW.st (B := s₁.setTop (mkF m 21 #[.val (.int n1), .val (.int (1 : Int32)), .val (.int (0 : Int32)), .unset, .unset, .unset, .unset, .unset, .unset] [(.int (1 : Int32))])) (fun _ kk_ => XS.iloadN X0.here hx rfl (hb hby at_20) rfl kk_) ?_
    refine OW.st (B := s₁.setTop (mkF m 32 #[.val (.int n1), .val (.int (1 : Int32)), .val (.int (0 : Int32)), .unset, .unset, .unset, .unset, .unset, .unset] [])) (fun _ kk_ => XS.ifYes X0.here hx rfl (pc0 := 21) (pc' := 32) rfl (hb hby at_21) rfl ((if0 _ _).trans (feq (by decide)).2) (by decide) (by decide) kk_) ?_
    refine OW.st (B := s₁.setTop (mkF m 33 #[.val (.int n1), .val (.int (1 : Int32)), .val (.int (0 : Int32)), .unset, .unset, .unset, .unset, .unset, .unset] [(.int (0 : Int32))])) (fun _ kk_ => XS.iconst X0.here hx rfl (hb hby at_32) kk_) ?_
    refine OW.st (B := s₁.setTop (mkF m 34 #[.val (.int n1), .val (.int (1 : Int32)), .val (.int (0 : Int32)), .val (.int (0 : Int32)), .unset, .unset, .unset, .unset, .unset] [])) (fun _ kk_ => XS.istoreN X0.here hx rfl (hb hby at_33) rfl (l' := #[.val (.int n1), .val (.int (1 : Int32)), .val (.int (0 : Int32)), .val (.int (0 : Int32)), .unset, .unset, .unset, .unset, .unset]) rfl kk_) ?_
    obtain ⟨T30, X30, e30, st30⟩ := getS2 X0 hx hZ hown (host := "") (Or.inl (w_0 hw)) Via.refl e0 (Sa_AT_LEAST.ext O0.2) (g := (mkF m 34 #[.val (.int n1), .val (.int (1 : Int32)), .val (.int (0 : Int32)), .val (.int (0 : Int32)), .unset, .unset, .unset, .unset, .unset] [])) rfl (hb hby at_34)
    refine OW.st (B := T30.setTop (mkF m 37 #[.val (.int n1), .val (.int (1 : Int32)), .val (.int (0 : Int32)), .val (.int (0 : Int32)), .unset, .unset, .unset, .unset, .unset] [(.ref a_AT_LEAST)])) (st30) ?_
    refine OW.st (B := T30.setTop (mkF m 38 #[.val (.int n1), .val (.int (1 : Int32)), .val (.int (0 : Int32)), .val (.int (0 : Int32)), .unset, .unset, .unset, .unset, .unset] [(.int n1), (.ref a_AT_LEAST)])) (fun _ kk_ => XS.iloadN X30.here hx rfl (hb hby at_37) rfl kk_) ?_
    obtain ⟨cq31, kq31, q31a, q31b, q31c⟩ := isOf hZ e30 (Ea_AT_LEAST.ext O0.2)
    obtain ⟨_, _, ⟨T31, L31, k31, n31⟩, -, X31, ⟨Lc31, hQ31, l31, y31, z31⟩, st31⟩ := X30.virtualBack hx (y := (⟨"com/example/latticework/latticework/Filter$Operator", "holds", "(I)Z"⟩ : MethodName)) (z := (⟨"com/example/latticework/latticework/Filter$Operator", "holds", "(I)Z"⟩ : MethodName)) hown (mvT hZ (w_3 hw)) (mvT hZ (w_4 hw)) (notFace_of_selects (args := #[]) (mvT hZ (w_6 hw))) (mvT hZ (w_6 hw)) (mvT hZ (w_5 hw)) (by decide) (backOf (W := 0) (rmH l Z a0 hw [] a_AT_LEAST (0 : Int32) n1 h0 n0 O0 (Ea_AT_LEAST.ext O0.2) (Fa_AT_LEAST_ordinal.ext O0.2) (by decide)) hZ (w_7 hw) (w_1 hw) (by decide) (by decide)) q31a q31c (g := (mkF m 38 #[.val (.int n1), .val (.int (1 : Int32)), .val (.int (0 : Int32)), .val (.int (0 : Int32)), .unset, .unset, .unset, .unset, .unset] [(.int n1), (.ref a_AT_LEAST)])) rfl (by rw [hml]; rfl) (Steps.refl _) (argsL := [(.int n1)]) (rest := []) (lenOf pd_1 rfl) rfl (by show 2 * 0 + _ ≤ _; exact Nat.le_of_eq rfl) (hb hby at_38) (fun _ _ => ⟨rfl, e30, (by decide : 0 + 0 ≤ _), (by decide : 0 + 0 ≤ _)⟩)
    dsimp only [Pt.U, Pt.locs, Pt.cells, Pt.slots] at X31 l31 y31 z31 st31 hQ31
    subst l31 y31 z31
    obtain ⟨hv31, Nq31, e31⟩ := hQ31
    have N31 := Fr.app N0 Nq31
    rw [show own_holds (0 : Int32) n1 = (0 : Int32) by simp [own_holds, t1, t2, t3]] at hv31; subst hv31
    refine OW.tr (B := T31.setTop (mkF m 41 #[.val (.int n1), .val (.int (1 : Int32)), .val (.int (0 : Int32)), .val (.int (0 : Int32)), .unset, .unset, .unset, .unset, .unset] [(.int (0 : Int32))])) (st31) ?_
    refine OW.st (B := T31.setTop (mkF m 43 #[.val (.int n1), .val (.int (1 : Int32)), .val (.int (0 : Int32)), .val (.int (0 : Int32)), .val (.int (0 : Int32)), .unset, .unset, .unset, .unset] [])) (fun _ kk_ => XS.istore X31.here hx rfl (hb hby at_41) rfl (l' := #[.val (.int n1), .val (.int (1 : Int32)), .val (.int (0 : Int32)), .val (.int (0 : Int32)), .val (.int (0 : Int32)), .unset, .unset, .unset, .unset]) rfl kk_) ?_
    obtain ⟨T32, X32, e32, st32⟩ := getS2 X31 hx hZ hown (host := "") (Or.inl (w_17 hw)) Via.refl e31 (Sa_AT_MOST.ext O0.2) (g := (mkF m 43 #[.val (.int n1), .val (.int (1 : Int32)), .val (.int (0 : Int32)), .val (.int (0 : Int32)), .val (.int (0 : Int32)), .unset, .unset, .unset, .unset] [])) rfl (hb hby at_43)
    refine OW.st (B := T32.setTop (mkF m 46 #[.val (.int n1), .val (.int (1 : Int32)), .val (.int (0 : Int32)), .val (.int (0 : Int32)), .val (.int (0 : Int32)), .unset, .unset, .unset, .unset] [(.ref a_AT_MOST)])) (st32) ?_
    refine OW.st (B := T32.setTop (mkF m 47 #[.val (.int n1), .val (.int (1 : Int32)), .val (.int (0 : Int32)), .val (.int (0 : Int32)), .val (.int (0 : Int32)), .unset, .unset, .unset, .unset] [(.int n1), (.ref a_AT_MOST)])) (fun _ kk_ => XS.iloadN X32.here hx rfl (hb hby at_46) rfl kk_) ?_
    obtain ⟨cq33, kq33, q33a, q33b, q33c⟩ := isOf hZ e32 (Ea_AT_MOST.ext O0.2)
    obtain ⟨_, _, ⟨T33, L33, k33, n33⟩, -, X33, ⟨Lc33, hQ33, l33, y33, z33⟩, st33⟩ := X32.virtualBack hx (y := (⟨"com/example/latticework/latticework/Filter$Operator", "holds", "(I)Z"⟩ : MethodName)) (z := (⟨"com/example/latticework/latticework/Filter$Operator", "holds", "(I)Z"⟩ : MethodName)) hown (mvT hZ (w_3 hw)) (mvT hZ (w_4 hw)) (notFace_of_selects (args := #[]) (mvT hZ (w_6 hw))) (mvT hZ (w_6 hw)) (mvT hZ (w_5 hw)) (by decide) (backOf (W := 0) (rmH l Z a0 hw [] a_AT_MOST (1 : Int32) n1 h0 n0 O0 (Ea_AT_MOST.ext O0.2) (Fa_AT_MOST_ordinal.ext O0.2) (by decide)) hZ (w_7 hw) (w_1 hw) (by decide) (by decide)) q33a q33c (g := (mkF m 47 #[.val (.int n1), .val (.int (1 : Int32)), .val (.int (0 : Int32)), .val (.int (0 : Int32)), .val (.int (0 : Int32)), .unset, .unset, .unset, .unset] [(.int n1), (.ref a_AT_MOST)])) rfl (by rw [hml]; rfl) (Steps.refl _) (argsL := [(.int n1)]) (rest := []) (lenOf pd_1 rfl) rfl (by show 2 * 0 + _ ≤ _; exact Nat.le_of_eq rfl) (hb hby at_47) (fun _ _ => ⟨rfl, e32, (by decide : 0 + 0 ≤ _), (by decide : 0 + 0 ≤ _)⟩)
    dsimp only [Pt.U, Pt.locs, Pt.cells, Pt.slots] at X33 l33 y33 z33 st33 hQ33
    subst l33 y33 z33
    obtain ⟨hv33, Nq33, e33⟩ := hQ33
    have N33 := Fr.app N31 Nq33
    rw [show own_holds (1 : Int32) n1 = (1 : Int32) by simp [own_holds, t1, t2, t3]] at hv33; subst hv33
    refine OW.tr (B := T33.setTop (mkF m 50 #[.val (.int n1), .val (.int (1 : Int32)), .val (.int (0 : Int32)), .val (.int (0 : Int32)), .val (.int (0 : Int32)), .unset, .unset, .unset, .unset] [(.int (1 : Int32))])) (st33) ?_
    refine OW.st (B := T33.setTop (mkF m 52 #[.val (.int n1), .val (.int (1 : Int32)), .val (.int (0 : Int32)), .val (.int (0 : Int32)), .val (.int (0 : Int32)), .val (.int (1 : Int32)), .unset, .unset, .unset] [])) (fun _ kk_ => XS.istore X33.here hx rfl (hb hby at_50) rfl (l' := #[.val (.int n1), .val (.int (1 : Int32)), .val (.int (0 : Int32)), .val (.int (0 : Int32)), .val (.int (0 : Int32)), .val (.int (1 : Int32)), .unset, .unset, .unset]) rfl kk_) ?_
    obtain ⟨T34, X34, e34, st34⟩ := getS2 X33 hx hZ hown (host := "") (Or.inl (w_19 hw)) Via.refl e33 (Sa_ABOVE.ext O0.2) (g := (mkF m 52 #[.val (.int n1), .val (.int (1 : Int32)), .val (.int (0 : Int32)), .val (.int (0 : Int32)), .val (.int (0 : Int32)), .val (.int (1 : Int32)), .unset, .unset, .unset] [])) rfl (hb hby at_52)
    refine OW.st (B := T34.setTop (mkF m 55 #[.val (.int n1), .val (.int (1 : Int32)), .val (.int (0 : Int32)), .val (.int (0 : Int32)), .val (.int (0 : Int32)), .val (.int (1 : Int32)), .unset, .unset, .unset] [(.ref a_ABOVE)])) (st34) ?_
    refine OW.st (B := T34.setTop (mkF m 56 #[.val (.int n1), .val (.int (1 : Int32)), .val (.int (0 : Int32)), .val (.int (0 : Int32)), .val (.int (0 : Int32)), .val (.int (1 : Int32)), .unset, .unset, .unset] [(.int n1), (.ref a_ABOVE)])) (fun _ kk_ => XS.iloadN X34.here hx rfl (hb hby at_55) rfl kk_) ?_
    obtain ⟨cq35, kq35, q35a, q35b, q35c⟩ := isOf hZ e34 (Ea_ABOVE.ext O0.2)
    obtain ⟨_, _, ⟨T35, L35, k35, n35⟩, -, X35, ⟨Lc35, hQ35, l35, y35, z35⟩, st35⟩ := X34.virtualBack hx (y := (⟨"com/example/latticework/latticework/Filter$Operator", "holds", "(I)Z"⟩ : MethodName)) (z := (⟨"com/example/latticework/latticework/Filter$Operator", "holds", "(I)Z"⟩ : MethodName)) hown (mvT hZ (w_3 hw)) (mvT hZ (w_4 hw)) (notFace_of_selects (args := #[]) (mvT hZ (w_6 hw))) (mvT hZ (w_6 hw)) (mvT hZ (w_5 hw)) (by decide) (backOf (W := 0) (rmH l Z a0 hw [] a_ABOVE (2 : Int32) n1 h0 n0 O0 (Ea_ABOVE.ext O0.2) (Fa_ABOVE_ordinal.ext O0.2) (by decide)) hZ (w_7 hw) (w_1 hw) (by decide) (by decide)) q35a q35c (g := (mkF m 56 #[.val (.int n1), .val (.int (1 : Int32)), .val (.int (0 : Int32)), .val (.int (0 : Int32)), .val (.int (0 : Int32)), .val (.int (1 : Int32)), .unset, .unset, .unset] [(.int n1), (.ref a_ABOVE)])) rfl (by rw [hml]; rfl) (Steps.refl _) (argsL := [(.int n1)]) (rest := []) (lenOf pd_1 rfl) rfl (by show 2 * 0 + _ ≤ _; exact Nat.le_of_eq rfl) (hb hby at_56) (fun _ _ => ⟨rfl, e34, (by decide : 0 + 0 ≤ _), (by decide : 0 + 0 ≤ _)⟩)
    dsimp only [Pt.U, Pt.locs, Pt.cells, Pt.slots] at X35 l35 y35 z35 st35 hQ35
    subst l35 y35 z35
    obtain ⟨hv35, Nq35, e35⟩ := hQ35
    have N35 := Fr.app N33 Nq35
    rw [show own_holds (2 : Int32) n1 = (0 : Int32) by simp [own_holds, t1, t2, t3]] at hv35; subst hv35
    refine OW.tr (B := T35.setTop (mkF m 59 #[.val (.int n1), .val (.int (1 : Int32)), .val (.int (0 : Int32)), .val (.int (0 : Int32)), .val (.int (0 : Int32)), .val (.int (1 : Int32)), .unset, .unset, .unset] [(.int (0 : Int32))])) (st35) ?_
    refine OW.st (B := T35.setTop (mkF m 61 #[.val (.int n1), .val (.int (1 : Int32)), .val (.int (0 : Int32)), .val (.int (0 : Int32)), .val (.int (0 : Int32)), .val (.int (1 : Int32)), .val (.int (0 : Int32)), .unset, .unset] [])) (fun _ kk_ => XS.istore X35.here hx rfl (hb hby at_59) rfl (l' := #[.val (.int n1), .val (.int (1 : Int32)), .val (.int (0 : Int32)), .val (.int (0 : Int32)), .val (.int (0 : Int32)), .val (.int (1 : Int32)), .val (.int (0 : Int32)), .unset, .unset]) rfl kk_) ?_
    obtain ⟨T36, X36, e36, st36⟩ := getS2 X35 hx hZ hown (host := "") (Or.inl (w_21 hw)) Via.refl e35 (Sa_BELOW.ext O0.2) (g := (mkF m 61 #[.val (.int n1), .val (.int (1 : Int32)), .val (.int (0 : Int32)), .val (.int (0 : Int32)), .val (.int (0 : Int32)), .val (.int (1 : Int32)), .val (.int (0 : Int32)), .unset, .unset] [])) rfl (hb hby at_61)
    refine OW.st (B := T36.setTop (mkF m 64 #[.val (.int n1), .val (.int (1 : Int32)), .val (.int (0 : Int32)), .val (.int (0 : Int32)), .val (.int (0 : Int32)), .val (.int (1 : Int32)), .val (.int (0 : Int32)), .unset, .unset] [(.ref a_BELOW)])) (st36) ?_
    refine OW.st (B := T36.setTop (mkF m 65 #[.val (.int n1), .val (.int (1 : Int32)), .val (.int (0 : Int32)), .val (.int (0 : Int32)), .val (.int (0 : Int32)), .val (.int (1 : Int32)), .val (.int (0 : Int32)), .unset, .unset] [(.int n1), (.ref a_BELOW)])) (fun _ kk_ => XS.iloadN X36.here hx rfl (hb hby at_64) rfl kk_) ?_
    obtain ⟨cq37, kq37, q37a, q37b, q37c⟩ := isOf hZ e36 (Ea_BELOW.ext O0.2)
    obtain ⟨_, _, ⟨T37, L37, k37, n37⟩, -, X37, ⟨Lc37, hQ37, l37, y37, z37⟩, st37⟩ := X36.virtualBack hx (y := (⟨"com/example/latticework/latticework/Filter$Operator", "holds", "(I)Z"⟩ : MethodName)) (z := (⟨"com/example/latticework/latticework/Filter$Operator", "holds", "(I)Z"⟩ : MethodName)) hown (mvT hZ (w_3 hw)) (mvT hZ (w_4 hw)) (notFace_of_selects (args := #[]) (mvT hZ (w_6 hw))) (mvT hZ (w_6 hw)) (mvT hZ (w_5 hw)) (by decide) (backOf (W := 0) (rmH l Z a0 hw [] a_BELOW (3 : Int32) n1 h0 n0 O0 (Ea_BELOW.ext O0.2) (Fa_BELOW_ordinal.ext O0.2) (by decide)) hZ (w_7 hw) (w_1 hw) (by decide) (by decide)) q37a q37c (g := (mkF m 65 #[.val (.int n1), .val (.int (1 : Int32)), .val (.int (0 : Int32)), .val (.int (0 : Int32)), .val (.int (0 : Int32)), .val (.int (1 : Int32)), .val (.int (0 : Int32)), .unset, .unset] [(.int n1), (.ref a_BELOW)])) rfl (by rw [hml]; rfl) (Steps.refl _) (argsL := [(.int n1)]) (rest := []) (lenOf pd_1 rfl) rfl (by show 2 * 0 + _ ≤ _; exact Nat.le_of_eq rfl) (hb hby at_65) (fun _ _ => ⟨rfl, e36, (by decide : 0 + 0 ≤ _), (by decide : 0 + 0 ≤ _)⟩)
    dsimp only [Pt.U, Pt.locs, Pt.cells, Pt.slots] at X37 l37 y37 z37 st37 hQ37
    subst l37 y37 z37
    obtain ⟨hv37, Nq37, e37⟩ := hQ37
    have N37 := Fr.app N35 Nq37
    rw [show own_holds (3 : Int32) n1 = (1 : Int32) by simp [own_holds, t1, t2, t3]] at hv37; subst hv37
    refine OW.tr (B := T37.setTop (mkF m 68 #[.val (.int n1), .val (.int (1 : Int32)), .val (.int (0 : Int32)), .val (.int (0 : Int32)), .val (.int (0 : Int32)), .val (.int (1 : Int32)), .val (.int (0 : Int32)), .unset, .unset] [(.int (1 : Int32))])) (st37) ?_
    refine OW.st (B := T37.setTop (mkF m 70 #[.val (.int n1), .val (.int (1 : Int32)), .val (.int (0 : Int32)), .val (.int (0 : Int32)), .val (.int (0 : Int32)), .val (.int (1 : Int32)), .val (.int (0 : Int32)), .val (.int (1 : Int32)), .unset] [])) (fun _ kk_ => XS.istore X37.here hx rfl (hb hby at_68) rfl (l' := #[.val (.int n1), .val (.int (1 : Int32)), .val (.int (0 : Int32)), .val (.int (0 : Int32)), .val (.int (0 : Int32)), .val (.int (1 : Int32)), .val (.int (0 : Int32)), .val (.int (1 : Int32)), .unset]) rfl kk_) ?_
    obtain ⟨T38, X38, e38, st38⟩ := getS2 X37 hx hZ hown (host := "") (Or.inl (w_23 hw)) Via.refl e37 (Sa_EQUALS.ext O0.2) (g := (mkF m 70 #[.val (.int n1), .val (.int (1 : Int32)), .val (.int (0 : Int32)), .val (.int (0 : Int32)), .val (.int (0 : Int32)), .val (.int (1 : Int32)), .val (.int (0 : Int32)), .val (.int (1 : Int32)), .unset] [])) rfl (hb hby at_70)
    refine OW.st (B := T38.setTop (mkF m 73 #[.val (.int n1), .val (.int (1 : Int32)), .val (.int (0 : Int32)), .val (.int (0 : Int32)), .val (.int (0 : Int32)), .val (.int (1 : Int32)), .val (.int (0 : Int32)), .val (.int (1 : Int32)), .unset] [(.ref a_EQUALS)])) (st38) ?_
    refine OW.st (B := T38.setTop (mkF m 74 #[.val (.int n1), .val (.int (1 : Int32)), .val (.int (0 : Int32)), .val (.int (0 : Int32)), .val (.int (0 : Int32)), .val (.int (1 : Int32)), .val (.int (0 : Int32)), .val (.int (1 : Int32)), .unset] [(.int n1), (.ref a_EQUALS)])) (fun _ kk_ => XS.iloadN X38.here hx rfl (hb hby at_73) rfl kk_) ?_
    obtain ⟨cq39, kq39, q39a, q39b, q39c⟩ := isOf hZ e38 (Ea_EQUALS.ext O0.2)
    obtain ⟨_, _, ⟨T39, L39, k39, n39⟩, -, X39, ⟨Lc39, hQ39, l39, y39, z39⟩, st39⟩ := X38.virtualBack hx (y := (⟨"com/example/latticework/latticework/Filter$Operator", "holds", "(I)Z"⟩ : MethodName)) (z := (⟨"com/example/latticework/latticework/Filter$Operator", "holds", "(I)Z"⟩ : MethodName)) hown (mvT hZ (w_3 hw)) (mvT hZ (w_4 hw)) (notFace_of_selects (args := #[]) (mvT hZ (w_6 hw))) (mvT hZ (w_6 hw)) (mvT hZ (w_5 hw)) (by decide) (backOf (W := 0) (rmH l Z a0 hw [] a_EQUALS (4 : Int32) n1 h0 n0 O0 (Ea_EQUALS.ext O0.2) (Fa_EQUALS_ordinal.ext O0.2) (by decide)) hZ (w_7 hw) (w_1 hw) (by decide) (by decide)) q39a q39c (g := (mkF m 74 #[.val (.int n1), .val (.int (1 : Int32)), .val (.int (0 : Int32)), .val (.int (0 : Int32)), .val (.int (0 : Int32)), .val (.int (1 : Int32)), .val (.int (0 : Int32)), .val (.int (1 : Int32)), .unset] [(.int n1), (.ref a_EQUALS)])) rfl (by rw [hml]; rfl) (Steps.refl _) (argsL := [(.int n1)]) (rest := []) (lenOf pd_1 rfl) rfl (by show 2 * 0 + _ ≤ _; exact Nat.le_of_eq rfl) (hb hby at_74) (fun _ _ => ⟨rfl, e38, (by decide : 0 + 0 ≤ _), (by decide : 0 + 0 ≤ _)⟩)
    dsimp only [Pt.U, Pt.locs, Pt.cells, Pt.slots] at X39 l39 y39 z39 st39 hQ39
    subst l39 y39 z39
    obtain ⟨hv39, Nq39, e39⟩ := hQ39
    have N39 := Fr.app N37 Nq39
    rw [show own_holds (4 : Int32) n1 = (0 : Int32) by simp [own_holds, t1, t2, t3]] at hv39; subst hv39
    refine OW.tr (B := T39.setTop (mkF m 77 #[.val (.int n1), .val (.int (1 : Int32)), .val (.int (0 : Int32)), .val (.int (0 : Int32)), .val (.int (0 : Int32)), .val (.int (1 : Int32)), .val (.int (0 : Int32)), .val (.int (1 : Int32)), .unset] [(.int (0 : Int32))])) (st39) ?_
    refine OW.st (B := T39.setTop (mkF m 79 #[.val (.int n1), .val (.int (1 : Int32)), .val (.int (0 : Int32)), .val (.int (0 : Int32)), .val (.int (0 : Int32)), .val (.int (1 : Int32)), .val (.int (0 : Int32)), .val (.int (1 : Int32)), .val (.int (0 : Int32))] [])) (fun _ kk_ => XS.istore X39.here hx rfl (hb hby at_77) rfl (l' := #[.val (.int n1), .val (.int (1 : Int32)), .val (.int (0 : Int32)), .val (.int (0 : Int32)), .val (.int (0 : Int32)), .val (.int (1 : Int32)), .val (.int (0 : Int32)), .val (.int (1 : Int32)), .val (.int (0 : Int32))]) rfl kk_) ?_
    refine OW.st (B := T39.setTop (mkF m 81 #[.val (.int n1), .val (.int (1 : Int32)), .val (.int (0 : Int32)), .val (.int (0 : Int32)), .val (.int (0 : Int32)), .val (.int (1 : Int32)), .val (.int (0 : Int32)), .val (.int (1 : Int32)), .val (.int (0 : Int32))] [(.int (0 : Int32))])) (fun _ kk_ => XS.iload X39.here hx rfl (hb hby at_79) rfl kk_) ?_
    refine OW.st (B := T39.setTop (mkF m 82 #[.val (.int n1), .val (.int (1 : Int32)), .val (.int (0 : Int32)), .val (.int (0 : Int32)), .val (.int (0 : Int32)), .val (.int (1 : Int32)), .val (.int (0 : Int32)), .val (.int (1 : Int32)), .val (.int (0 : Int32))] [(.int (0 : Int32)), (.int (0 : Int32))])) (fun _ kk_ => XS.iloadN X39.here hx rfl (hb hby at_81) rfl kk_) ?_
    refine OW.st (B := T39.setTop (mkF m 85 #[.val (.int n1), .val (.int (1 : Int32)), .val (.int (0 : Int32)), .val (.int (0 : Int32)), .val (.int (0 : Int32)), .val (.int (1 : Int32)), .val (.int (0 : Int32)), .val (.int (1 : Int32)), .val (.int (0 : Int32))] [(.int (0 : Int32))])) (fun _ kk_ => XS.ifNo X39.here hx rfl (hb hby at_82) rfl ((if0 _ _).trans (teq (by decide)).2) kk_) ?_
    refine OW.st (B := T39.setTop (mkF m 86 #[.val (.int n1), .val (.int (1 : Int32)), .val (.int (0 : Int32)), .val (.int (0 : Int32)), .val (.int (0 : Int32)), .val (.int (1 : Int32)), .val (.int (0 : Int32)), .val (.int (1 : Int32)), .val (.int (0 : Int32))] [(.int (0 : Int32)), (.int (0 : Int32))])) (fun _ kk_ => XS.iloadN X39.here hx rfl (hb hby at_85) rfl kk_) ?_
    refine OW.st (B := T39.setTop (mkF m 93 #[.val (.int n1), .val (.int (1 : Int32)), .val (.int (0 : Int32)), .val (.int (0 : Int32)), .val (.int (0 : Int32)), .val (.int (1 : Int32)), .val (.int (0 : Int32)), .val (.int (1 : Int32)), .val (.int (0 : Int32))] [(.int (0 : Int32))])) (fun _ kk_ => XS.ifYes X39.here hx rfl (pc0 := 86) (pc' := 93) rfl (hb hby at_86) rfl ((if0 _ _).trans (teq (by decide)).1) (by decide) (by decide) kk_) ?_
    refine OW.st (B := T39.setTop (mkF m 94 #[.val (.int n1), .val (.int (1 : Int32)), .val (.int (0 : Int32)), .val (.int (0 : Int32)), .val (.int (0 : Int32)), .val (.int (1 : Int32)), .val (.int (0 : Int32)), .val (.int (1 : Int32)), .val (.int (0 : Int32))] [(.int (0 : Int32)), (.int (0 : Int32))])) (fun _ kk_ => XS.iconst X39.here hx rfl (hb hby at_93) kk_) ?_
    refine OW.st (B := T39.setTop (mkF m 97 #[.val (.int n1), .val (.int (1 : Int32)), .val (.int (0 : Int32)), .val (.int (0 : Int32)), .val (.int (0 : Int32)), .val (.int (1 : Int32)), .val (.int (0 : Int32)), .val (.int (1 : Int32)), .val (.int (0 : Int32))] [])) (fun _ kk_ => XS.icmpNo X39.here hx rfl (hb hby at_94) rfl (teq (by decide)).2 kk_) ?_
    refine OW.st (B := T39.setTop (mkF m 99 #[.val (.int n1), .val (.int (1 : Int32)), .val (.int (0 : Int32)), .val (.int (0 : Int32)), .val (.int (0 : Int32)), .val (.int (1 : Int32)), .val (.int (0 : Int32)), .val (.int (1 : Int32)), .val (.int (0 : Int32))] [(.int (1 : Int32))])) (fun _ kk_ => XS.iload X39.here hx rfl (hb hby at_97) rfl kk_) ?_
    refine OW.st (B := T39.setTop (mkF m 100 #[.val (.int n1), .val (.int (1 : Int32)), .val (.int (0 : Int32)), .val (.int (0 : Int32)), .val (.int (0 : Int32)), .val (.int (1 : Int32)), .val (.int (0 : Int32)), .val (.int (1 : Int32)), .val (.int (0 : Int32))] [(.int (1 : Int32)), (.int (1 : Int32))])) (fun _ kk_ => XS.iloadN X39.here hx rfl (hb hby at_99) rfl kk_) ?_
    refine OW.st (B := T39.setTop (mkF m 107 #[.val (.int n1), .val (.int (1 : Int32)), .val (.int (0 : Int32)), .val (.int (0 : Int32)), .val (.int (0 : Int32)), .val (.int (1 : Int32)), .val (.int (0 : Int32)), .val (.int (1 : Int32)), .val (.int (0 : Int32))] [(.int (1 : Int32))])) (fun _ kk_ => XS.ifYes X39.here hx rfl (pc0 := 100) (pc' := 107) rfl (hb hby at_100) rfl ((if0 _ _).trans (feq (by decide)).2) (by decide) (by decide) kk_) ?_
    refine OW.st (B := T39.setTop (mkF m 108 #[.val (.int n1), .val (.int (1 : Int32)), .val (.int (0 : Int32)), .val (.int (0 : Int32)), .val (.int (0 : Int32)), .val (.int (1 : Int32)), .val (.int (0 : Int32)), .val (.int (1 : Int32)), .val (.int (0 : Int32))] [(.int (1 : Int32)), (.int (1 : Int32))])) (fun _ kk_ => XS.iconst X39.here hx rfl (hb hby at_107) kk_) ?_
    refine OW.st (B := T39.setTop (mkF m 112 #[.val (.int n1), .val (.int (1 : Int32)), .val (.int (0 : Int32)), .val (.int (0 : Int32)), .val (.int (0 : Int32)), .val (.int (1 : Int32)), .val (.int (0 : Int32)), .val (.int (1 : Int32)), .val (.int (0 : Int32))] [(.int (1 : Int32)), (.int (1 : Int32))])) (fun _ kk_ => XS.goto X39.here hx rfl (pc0 := 108) (pc' := 112) rfl (hb hby at_108) (by decide) (by decide) kk_) ?_
    refine OW.st (B := T39.setTop (mkF m 115 #[.val (.int n1), .val (.int (1 : Int32)), .val (.int (0 : Int32)), .val (.int (0 : Int32)), .val (.int (0 : Int32)), .val (.int (1 : Int32)), .val (.int (0 : Int32)), .val (.int (1 : Int32)), .val (.int (0 : Int32))] [])) (fun _ kk_ => XS.icmpNo X39.here hx rfl (hb hby at_112) rfl (teq (by decide)).2 kk_) ?_
    refine OW.st (B := T39.setTop (mkF m 117 #[.val (.int n1), .val (.int (1 : Int32)), .val (.int (0 : Int32)), .val (.int (0 : Int32)), .val (.int (0 : Int32)), .val (.int (1 : Int32)), .val (.int (0 : Int32)), .val (.int (1 : Int32)), .val (.int (0 : Int32))] [(.int (0 : Int32))])) (fun _ kk_ => XS.iload X39.here hx rfl (hb hby at_115) rfl kk_) ?_
    refine OW.st (B := T39.setTop (mkF m 118 #[.val (.int n1), .val (.int (1 : Int32)), .val (.int (0 : Int32)), .val (.int (0 : Int32)), .val (.int (0 : Int32)), .val (.int (1 : Int32)), .val (.int (0 : Int32)), .val (.int (1 : Int32)), .val (.int (0 : Int32))] [(.int (0 : Int32)), (.int (0 : Int32))])) (fun _ kk_ => XS.iloadN X39.here hx rfl (hb hby at_117) rfl kk_) ?_
    refine OW.st (B := T39.setTop (mkF m 121 #[.val (.int n1), .val (.int (1 : Int32)), .val (.int (0 : Int32)), .val (.int (0 : Int32)), .val (.int (0 : Int32)), .val (.int (1 : Int32)), .val (.int (0 : Int32)), .val (.int (1 : Int32)), .val (.int (0 : Int32))] [])) (fun _ kk_ => XS.icmpNo X39.here hx rfl (hb hby at_118) rfl (teq (by decide)).2 kk_) ?_
    refine OW.st (B := T39.setTop (mkF m 123 #[.val (.int n1), .val (.int (1 : Int32)), .val (.int (0 : Int32)), .val (.int (0 : Int32)), .val (.int (0 : Int32)), .val (.int (1 : Int32)), .val (.int (0 : Int32)), .val (.int (1 : Int32)), .val (.int (0 : Int32))] [(.int (1 : Int32))])) (fun _ kk_ => XS.iload X39.here hx rfl (hb hby at_121) rfl kk_) ?_
    refine OW.st (B := T39.setTop (mkF m 124 #[.val (.int n1), .val (.int (1 : Int32)), .val (.int (0 : Int32)), .val (.int (0 : Int32)), .val (.int (0 : Int32)), .val (.int (1 : Int32)), .val (.int (0 : Int32)), .val (.int (1 : Int32)), .val (.int (0 : Int32))] [(.int (1 : Int32)), (.int (1 : Int32))])) (fun _ kk_ => XS.iloadN X39.here hx rfl (hb hby at_123) rfl kk_) ?_
    refine OW.st (B := T39.setTop (mkF m 127 #[.val (.int n1), .val (.int (1 : Int32)), .val (.int (0 : Int32)), .val (.int (0 : Int32)), .val (.int (0 : Int32)), .val (.int (1 : Int32)), .val (.int (0 : Int32)), .val (.int (1 : Int32)), .val (.int (0 : Int32))] [])) (fun _ kk_ => XS.icmpNo X39.here hx rfl (hb hby at_124) rfl (teq (by decide)).2 kk_) ?_
    refine OW.st (B := T39.setTop (mkF m 129 #[.val (.int n1), .val (.int (1 : Int32)), .val (.int (0 : Int32)), .val (.int (0 : Int32)), .val (.int (0 : Int32)), .val (.int (1 : Int32)), .val (.int (0 : Int32)), .val (.int (1 : Int32)), .val (.int (0 : Int32))] [(.int (0 : Int32))])) (fun _ kk_ => XS.iload X39.here hx rfl (hb hby at_127) rfl kk_) ?_
    refine OW.st (B := T39.setTop (mkF m 130 #[.val (.int n1), .val (.int (1 : Int32)), .val (.int (0 : Int32)), .val (.int (0 : Int32)), .val (.int (0 : Int32)), .val (.int (1 : Int32)), .val (.int (0 : Int32)), .val (.int (1 : Int32)), .val (.int (0 : Int32))] [(.int (0 : Int32)), (.int (0 : Int32))])) (fun _ kk_ => XS.iloadN X39.here hx rfl (hb hby at_129) rfl kk_) ?_
    refine OW.st (B := T39.setTop (mkF m 133 #[.val (.int n1), .val (.int (1 : Int32)), .val (.int (0 : Int32)), .val (.int (0 : Int32)), .val (.int (0 : Int32)), .val (.int (1 : Int32)), .val (.int (0 : Int32)), .val (.int (1 : Int32)), .val (.int (0 : Int32))] [])) (fun _ kk_ => XS.icmpNo X39.here hx rfl (hb hby at_130) rfl (teq (by decide)).2 kk_) ?_
    refine OW.st (B := T39.setTop (mkF m 134 #[.val (.int n1), .val (.int (1 : Int32)), .val (.int (0 : Int32)), .val (.int (0 : Int32)), .val (.int (0 : Int32)), .val (.int (1 : Int32)), .val (.int (0 : Int32)), .val (.int (1 : Int32)), .val (.int (0 : Int32))] [(.int (1 : Int32))])) (fun _ kk_ => XS.iconst X39.here hx rfl (hb hby at_133) kk_) ?_
    refine OW.st (B := T39.setTop (mkF m 138 #[.val (.int n1), .val (.int (1 : Int32)), .val (.int (0 : Int32)), .val (.int (0 : Int32)), .val (.int (0 : Int32)), .val (.int (1 : Int32)), .val (.int (0 : Int32)), .val (.int (1 : Int32)), .val (.int (0 : Int32))] [(.int (1 : Int32))])) (fun _ kk_ => XS.goto X39.here hx rfl (pc0 := 134) (pc' := 138) rfl (hb hby at_134) (by decide) (by decide) kk_) ?_
    exact OW.ret X39 hx hlk (i := .ireturn) Bd.returns rfl (Or.inl ⟨rfl, Or.inr (Or.inl rfl), _, rfl⟩) (hb hby at_138) e39 (by decide) (by decide) ⟨rfl, N39⟩
  · refine OW.st (B := s₁.setTop (mkF m 1 #[.val (.int n1), .unset, .unset, .unset, .unset, .unset, .unset, .unset, .unset] [(.int n1)])) (fun _ kk_ => XS.iloadN X0.here hx rfl (hb hby at_0) rfl kk_) ?_
    refine OW.st (B := s₁.setTop (mkF m 8 #[.val (.int n1), .unset, .unset, .unset, .unset, .unset, .unset, .unset, .unset] [])) (fun _ kk_ => XS.ifYes X0.here hx rfl (pc0 := 1) (pc' := 8) rfl (hb hby at_1) rfl ((if0 _ _).trans (flt t1).2.1) (by decide) (by decide) kk_) ?_
    refine OW.st (B := s₁.setTop (mkF m 9 #[.val (.int n1), .unset, .unset, .unset, .unset, .unset, .unset, .unset, .unset] [(.int (0 : Int32))])) (fun _ kk_ => XS.iconst X0.here hx rfl (hb hby at_8) kk_) ?_
    refine OW.st (B := s₁.setTop (mkF m 10 #[.val (.int n1), .val (.int (0 : Int32)), .unset, .unset, .unset, .unset, .unset, .unset, .unset] [])) (fun _ kk_ => XS.istoreN X0.here hx rfl (hb hby at_9) rfl (l' := #[.val (.int n1), .val (.int (0 : Int32)), .unset, .unset, .unset, .unset, .unset, .unset, .unset]) rfl kk_) ?_
    refine OW.st (B := s₁.setTop (mkF m 11 #[.val (.int n1), .val (.int (0 : Int32)), .unset, .unset, .unset, .unset, .unset, .unset, .unset] [(.int n1)])) (fun _ kk_ => XS.iloadN X0.here hx rfl (hb hby at_10) rfl kk_) ?_
    refine OW.st (B := s₁.setTop (mkF m 14 #[.val (.int n1), .val (.int (0 : Int32)), .unset, .unset, .unset, .unset, .unset, .unset, .unset] [])) (fun _ kk_ => XS.ifNo X0.here hx rfl (hb hby at_11) rfl ((if0 _ _).trans (teq t2).2) kk_) ?_
    refine OW.st (B := s₁.setTop (mkF m 15 #[.val (.int n1), .val (.int (0 : Int32)), .unset, .unset, .unset, .unset, .unset, .unset, .unset] [(.int (1 : Int32))])) (fun _ kk_ => XS.iconst X0.here hx rfl (hb hby at_14) kk_) ?_
    refine OW.st (B := s₁.setTop (mkF m 19 #[.val (.int n1), .val (.int (0 : Int32)), .unset, .unset, .unset, .unset, .unset, .unset, .unset] [(.int (1 : Int32))])) (fun _ kk_ => XS.goto X0.here hx rfl (pc0 := 15) (pc' := 19) rfl (hb hby at_15) (by decide) (by decide) kk_) ?_
    refine OW.st (B := s₁.setTop (mkF m 20 #[.val (.int n1), .val (.int (0 : Int32)), .val (.int (1 : Int32)), .unset, .unset, .unset, .unset, .unset, .unset] [])) (fun _ kk_ => XS.istoreN X0.here hx rfl (hb hby at_19) rfl (l' := #[.val (.int n1), .val (.int (0 : Int32)), .val (.int (1 : Int32)), .unset, .unset, .unset, .unset, .unset, .unset]) rfl kk_) ?_
    refine OW.st (B := s₁.setTop (mkF m 21 #[.val (.int n1), .val (.int (0 : Int32)), .val (.int (1 : Int32)), .unset, .unset, .unset, .unset, .unset, .unset] [(.int (0 : Int32))])) (fun _ kk_ => XS.iloadN X0.here hx rfl (hb hby at_20) rfl kk_) ?_
    refine OW.st (B := s₁.setTop (mkF m 24 #[.val (.int n1), .val (.int (0 : Int32)), .val (.int (1 : Int32)), .unset, .unset, .unset, .unset, .unset, .unset] [])) (fun _ kk_ => XS.ifNo X0.here hx rfl (hb hby at_21) rfl ((if0 _ _).trans (teq (by decide)).2) kk_) ?_
    refine OW.st (B := s₁.setTop (mkF m 25 #[.val (.int n1), .val (.int (0 : Int32)), .val (.int (1 : Int32)), .unset, .unset, .unset, .unset, .unset, .unset] [(.int (1 : Int32))])) (fun _ kk_ => XS.iloadN X0.here hx rfl (hb hby at_24) rfl kk_) ?_
    refine OW.st (B := s₁.setTop (mkF m 32 #[.val (.int n1), .val (.int (0 : Int32)), .val (.int (1 : Int32)), .unset, .unset, .unset, .unset, .unset, .unset] [])) (fun _ kk_ => XS.ifYes X0.here hx rfl (pc0 := 25) (pc' := 32) rfl (hb hby at_25) rfl ((if0 _ _).trans (feq (by decide)).2) (by decide) (by decide) kk_) ?_
    refine OW.st (B := s₁.setTop (mkF m 33 #[.val (.int n1), .val (.int (0 : Int32)), .val (.int (1 : Int32)), .unset, .unset, .unset, .unset, .unset, .unset] [(.int (0 : Int32))])) (fun _ kk_ => XS.iconst X0.here hx rfl (hb hby at_32) kk_) ?_
    refine OW.st (B := s₁.setTop (mkF m 34 #[.val (.int n1), .val (.int (0 : Int32)), .val (.int (1 : Int32)), .val (.int (0 : Int32)), .unset, .unset, .unset, .unset, .unset] [])) (fun _ kk_ => XS.istoreN X0.here hx rfl (hb hby at_33) rfl (l' := #[.val (.int n1), .val (.int (0 : Int32)), .val (.int (1 : Int32)), .val (.int (0 : Int32)), .unset, .unset, .unset, .unset, .unset]) rfl kk_) ?_
    obtain ⟨T40, X40, e40, st40⟩ := getS2 X0 hx hZ hown (host := "") (Or.inl (w_0 hw)) Via.refl e0 (Sa_AT_LEAST.ext O0.2) (g := (mkF m 34 #[.val (.int n1), .val (.int (0 : Int32)), .val (.int (1 : Int32)), .val (.int (0 : Int32)), .unset, .unset, .unset, .unset, .unset] [])) rfl (hb hby at_34)
    refine OW.st (B := T40.setTop (mkF m 37 #[.val (.int n1), .val (.int (0 : Int32)), .val (.int (1 : Int32)), .val (.int (0 : Int32)), .unset, .unset, .unset, .unset, .unset] [(.ref a_AT_LEAST)])) (st40) ?_
    refine OW.st (B := T40.setTop (mkF m 38 #[.val (.int n1), .val (.int (0 : Int32)), .val (.int (1 : Int32)), .val (.int (0 : Int32)), .unset, .unset, .unset, .unset, .unset] [(.int n1), (.ref a_AT_LEAST)])) (fun _ kk_ => XS.iloadN X40.here hx rfl (hb hby at_37) rfl kk_) ?_
    obtain ⟨cq41, kq41, q41a, q41b, q41c⟩ := isOf hZ e40 (Ea_AT_LEAST.ext O0.2)
    obtain ⟨_, _, ⟨T41, L41, k41, n41⟩, -, X41, ⟨Lc41, hQ41, l41, y41, z41⟩, st41⟩ := X40.virtualBack hx (y := (⟨"com/example/latticework/latticework/Filter$Operator", "holds", "(I)Z"⟩ : MethodName)) (z := (⟨"com/example/latticework/latticework/Filter$Operator", "holds", "(I)Z"⟩ : MethodName)) hown (mvT hZ (w_3 hw)) (mvT hZ (w_4 hw)) (notFace_of_selects (args := #[]) (mvT hZ (w_6 hw))) (mvT hZ (w_6 hw)) (mvT hZ (w_5 hw)) (by decide) (backOf (W := 0) (rmH l Z a0 hw [] a_AT_LEAST (0 : Int32) n1 h0 n0 O0 (Ea_AT_LEAST.ext O0.2) (Fa_AT_LEAST_ordinal.ext O0.2) (by decide)) hZ (w_7 hw) (w_1 hw) (by decide) (by decide)) q41a q41c (g := (mkF m 38 #[.val (.int n1), .val (.int (0 : Int32)), .val (.int (1 : Int32)), .val (.int (0 : Int32)), .unset, .unset, .unset, .unset, .unset] [(.int n1), (.ref a_AT_LEAST)])) rfl (by rw [hml]; rfl) (Steps.refl _) (argsL := [(.int n1)]) (rest := []) (lenOf pd_1 rfl) rfl (by show 2 * 0 + _ ≤ _; exact Nat.le_of_eq rfl) (hb hby at_38) (fun _ _ => ⟨rfl, e40, (by decide : 0 + 0 ≤ _), (by decide : 0 + 0 ≤ _)⟩)
    dsimp only [Pt.U, Pt.locs, Pt.cells, Pt.slots] at X41 l41 y41 z41 st41 hQ41
    subst l41 y41 z41
    obtain ⟨hv41, Nq41, e41⟩ := hQ41
    have N41 := Fr.app N0 Nq41
    rw [show own_holds (0 : Int32) n1 = (1 : Int32) by simp [own_holds, t1, t2, t3]] at hv41; subst hv41
    refine OW.tr (B := T41.setTop (mkF m 41 #[.val (.int n1), .val (.int (0 : Int32)), .val (.int (1 : Int32)), .val (.int (0 : Int32)), .unset, .unset, .unset, .unset, .unset] [(.int (1 : Int32))])) (st41) ?_
    refine OW.st (B := T41.setTop (mkF m 43 #[.val (.int n1), .val (.int (0 : Int32)), .val (.int (1 : Int32)), .val (.int (0 : Int32)), .val (.int (1 : Int32)), .unset, .unset, .unset, .unset] [])) (fun _ kk_ => XS.istore X41.here hx rfl (hb hby at_41) rfl (l' := #[.val (.int n1), .val (.int (0 : Int32)), .val (.int (1 : Int32)), .val (.int (0 : Int32)), .val (.int (1 : Int32)), .unset, .unset, .unset, .unset]) rfl kk_) ?_
    obtain ⟨T42, X42, e42, st42⟩ := getS2 X41 hx hZ hown (host := "") (Or.inl (w_17 hw)) Via.refl e41 (Sa_AT_MOST.ext O0.2) (g := (mkF m 43 #[.val (.int n1), .val (.int (0 : Int32)), .val (.int (1 : Int32)), .val (.int (0 : Int32)), .val (.int (1 : Int32)), .unset, .unset, .unset, .unset] [])) rfl (hb hby at_43)
    refine OW.st (B := T42.setTop (mkF m 46 #[.val (.int n1), .val (.int (0 : Int32)), .val (.int (1 : Int32)), .val (.int (0 : Int32)), .val (.int (1 : Int32)), .unset, .unset, .unset, .unset] [(.ref a_AT_MOST)])) (st42) ?_
    refine OW.st (B := T42.setTop (mkF m 47 #[.val (.int n1), .val (.int (0 : Int32)), .val (.int (1 : Int32)), .val (.int (0 : Int32)), .val (.int (1 : Int32)), .unset, .unset, .unset, .unset] [(.int n1), (.ref a_AT_MOST)])) (fun _ kk_ => XS.iloadN X42.here hx rfl (hb hby at_46) rfl kk_) ?_
    obtain ⟨cq43, kq43, q43a, q43b, q43c⟩ := isOf hZ e42 (Ea_AT_MOST.ext O0.2)
    obtain ⟨_, _, ⟨T43, L43, k43, n43⟩, -, X43, ⟨Lc43, hQ43, l43, y43, z43⟩, st43⟩ := X42.virtualBack hx (y := (⟨"com/example/latticework/latticework/Filter$Operator", "holds", "(I)Z"⟩ : MethodName)) (z := (⟨"com/example/latticework/latticework/Filter$Operator", "holds", "(I)Z"⟩ : MethodName)) hown (mvT hZ (w_3 hw)) (mvT hZ (w_4 hw)) (notFace_of_selects (args := #[]) (mvT hZ (w_6 hw))) (mvT hZ (w_6 hw)) (mvT hZ (w_5 hw)) (by decide) (backOf (W := 0) (rmH l Z a0 hw [] a_AT_MOST (1 : Int32) n1 h0 n0 O0 (Ea_AT_MOST.ext O0.2) (Fa_AT_MOST_ordinal.ext O0.2) (by decide)) hZ (w_7 hw) (w_1 hw) (by decide) (by decide)) q43a q43c (g := (mkF m 47 #[.val (.int n1), .val (.int (0 : Int32)), .val (.int (1 : Int32)), .val (.int (0 : Int32)), .val (.int (1 : Int32)), .unset, .unset, .unset, .unset] [(.int n1), (.ref a_AT_MOST)])) rfl (by rw [hml]; rfl) (Steps.refl _) (argsL := [(.int n1)]) (rest := []) (lenOf pd_1 rfl) rfl (by show 2 * 0 + _ ≤ _; exact Nat.le_of_eq rfl) (hb hby at_47) (fun _ _ => ⟨rfl, e42, (by decide : 0 + 0 ≤ _), (by decide : 0 + 0 ≤ _)⟩)
    dsimp only [Pt.U, Pt.locs, Pt.cells, Pt.slots] at X43 l43 y43 z43 st43 hQ43
    subst l43 y43 z43
    obtain ⟨hv43, Nq43, e43⟩ := hQ43
    have N43 := Fr.app N41 Nq43
    rw [show own_holds (1 : Int32) n1 = (1 : Int32) by simp [own_holds, t1, t2, t3]] at hv43; subst hv43
    refine OW.tr (B := T43.setTop (mkF m 50 #[.val (.int n1), .val (.int (0 : Int32)), .val (.int (1 : Int32)), .val (.int (0 : Int32)), .val (.int (1 : Int32)), .unset, .unset, .unset, .unset] [(.int (1 : Int32))])) (st43) ?_
    refine OW.st (B := T43.setTop (mkF m 52 #[.val (.int n1), .val (.int (0 : Int32)), .val (.int (1 : Int32)), .val (.int (0 : Int32)), .val (.int (1 : Int32)), .val (.int (1 : Int32)), .unset, .unset, .unset] [])) (fun _ kk_ => XS.istore X43.here hx rfl (hb hby at_50) rfl (l' := #[.val (.int n1), .val (.int (0 : Int32)), .val (.int (1 : Int32)), .val (.int (0 : Int32)), .val (.int (1 : Int32)), .val (.int (1 : Int32)), .unset, .unset, .unset]) rfl kk_) ?_
    obtain ⟨T44, X44, e44, st44⟩ := getS2 X43 hx hZ hown (host := "") (Or.inl (w_19 hw)) Via.refl e43 (Sa_ABOVE.ext O0.2) (g := (mkF m 52 #[.val (.int n1), .val (.int (0 : Int32)), .val (.int (1 : Int32)), .val (.int (0 : Int32)), .val (.int (1 : Int32)), .val (.int (1 : Int32)), .unset, .unset, .unset] [])) rfl (hb hby at_52)
    refine OW.st (B := T44.setTop (mkF m 55 #[.val (.int n1), .val (.int (0 : Int32)), .val (.int (1 : Int32)), .val (.int (0 : Int32)), .val (.int (1 : Int32)), .val (.int (1 : Int32)), .unset, .unset, .unset] [(.ref a_ABOVE)])) (st44) ?_
    refine OW.st (B := T44.setTop (mkF m 56 #[.val (.int n1), .val (.int (0 : Int32)), .val (.int (1 : Int32)), .val (.int (0 : Int32)), .val (.int (1 : Int32)), .val (.int (1 : Int32)), .unset, .unset, .unset] [(.int n1), (.ref a_ABOVE)])) (fun _ kk_ => XS.iloadN X44.here hx rfl (hb hby at_55) rfl kk_) ?_
    obtain ⟨cq45, kq45, q45a, q45b, q45c⟩ := isOf hZ e44 (Ea_ABOVE.ext O0.2)
    obtain ⟨_, _, ⟨T45, L45, k45, n45⟩, -, X45, ⟨Lc45, hQ45, l45, y45, z45⟩, st45⟩ := X44.virtualBack hx (y := (⟨"com/example/latticework/latticework/Filter$Operator", "holds", "(I)Z"⟩ : MethodName)) (z := (⟨"com/example/latticework/latticework/Filter$Operator", "holds", "(I)Z"⟩ : MethodName)) hown (mvT hZ (w_3 hw)) (mvT hZ (w_4 hw)) (notFace_of_selects (args := #[]) (mvT hZ (w_6 hw))) (mvT hZ (w_6 hw)) (mvT hZ (w_5 hw)) (by decide) (backOf (W := 0) (rmH l Z a0 hw [] a_ABOVE (2 : Int32) n1 h0 n0 O0 (Ea_ABOVE.ext O0.2) (Fa_ABOVE_ordinal.ext O0.2) (by decide)) hZ (w_7 hw) (w_1 hw) (by decide) (by decide)) q45a q45c (g := (mkF m 56 #[.val (.int n1), .val (.int (0 : Int32)), .val (.int (1 : Int32)), .val (.int (0 : Int32)), .val (.int (1 : Int32)), .val (.int (1 : Int32)), .unset, .unset, .unset] [(.int n1), (.ref a_ABOVE)])) rfl (by rw [hml]; rfl) (Steps.refl _) (argsL := [(.int n1)]) (rest := []) (lenOf pd_1 rfl) rfl (by show 2 * 0 + _ ≤ _; exact Nat.le_of_eq rfl) (hb hby at_56) (fun _ _ => ⟨rfl, e44, (by decide : 0 + 0 ≤ _), (by decide : 0 + 0 ≤ _)⟩)
    dsimp only [Pt.U, Pt.locs, Pt.cells, Pt.slots] at X45 l45 y45 z45 st45 hQ45
    subst l45 y45 z45
    obtain ⟨hv45, Nq45, e45⟩ := hQ45
    have N45 := Fr.app N43 Nq45
    rw [show own_holds (2 : Int32) n1 = (0 : Int32) by simp [own_holds, t1, t2, t3]] at hv45; subst hv45
    refine OW.tr (B := T45.setTop (mkF m 59 #[.val (.int n1), .val (.int (0 : Int32)), .val (.int (1 : Int32)), .val (.int (0 : Int32)), .val (.int (1 : Int32)), .val (.int (1 : Int32)), .unset, .unset, .unset] [(.int (0 : Int32))])) (st45) ?_
    refine OW.st (B := T45.setTop (mkF m 61 #[.val (.int n1), .val (.int (0 : Int32)), .val (.int (1 : Int32)), .val (.int (0 : Int32)), .val (.int (1 : Int32)), .val (.int (1 : Int32)), .val (.int (0 : Int32)), .unset, .unset] [])) (fun _ kk_ => XS.istore X45.here hx rfl (hb hby at_59) rfl (l' := #[.val (.int n1), .val (.int (0 : Int32)), .val (.int (1 : Int32)), .val (.int (0 : Int32)), .val (.int (1 : Int32)), .val (.int (1 : Int32)), .val (.int (0 : Int32)), .unset, .unset]) rfl kk_) ?_
    obtain ⟨T46, X46, e46, st46⟩ := getS2 X45 hx hZ hown (host := "") (Or.inl (w_21 hw)) Via.refl e45 (Sa_BELOW.ext O0.2) (g := (mkF m 61 #[.val (.int n1), .val (.int (0 : Int32)), .val (.int (1 : Int32)), .val (.int (0 : Int32)), .val (.int (1 : Int32)), .val (.int (1 : Int32)), .val (.int (0 : Int32)), .unset, .unset] [])) rfl (hb hby at_61)
    refine OW.st (B := T46.setTop (mkF m 64 #[.val (.int n1), .val (.int (0 : Int32)), .val (.int (1 : Int32)), .val (.int (0 : Int32)), .val (.int (1 : Int32)), .val (.int (1 : Int32)), .val (.int (0 : Int32)), .unset, .unset] [(.ref a_BELOW)])) (st46) ?_
    refine OW.st (B := T46.setTop (mkF m 65 #[.val (.int n1), .val (.int (0 : Int32)), .val (.int (1 : Int32)), .val (.int (0 : Int32)), .val (.int (1 : Int32)), .val (.int (1 : Int32)), .val (.int (0 : Int32)), .unset, .unset] [(.int n1), (.ref a_BELOW)])) (fun _ kk_ => XS.iloadN X46.here hx rfl (hb hby at_64) rfl kk_) ?_
    obtain ⟨cq47, kq47, q47a, q47b, q47c⟩ := isOf hZ e46 (Ea_BELOW.ext O0.2)
    obtain ⟨_, _, ⟨T47, L47, k47, n47⟩, -, X47, ⟨Lc47, hQ47, l47, y47, z47⟩, st47⟩ := X46.virtualBack hx (y := (⟨"com/example/latticework/latticework/Filter$Operator", "holds", "(I)Z"⟩ : MethodName)) (z := (⟨"com/example/latticework/latticework/Filter$Operator", "holds", "(I)Z"⟩ : MethodName)) hown (mvT hZ (w_3 hw)) (mvT hZ (w_4 hw)) (notFace_of_selects (args := #[]) (mvT hZ (w_6 hw))) (mvT hZ (w_6 hw)) (mvT hZ (w_5 hw)) (by decide) (backOf (W := 0) (rmH l Z a0 hw [] a_BELOW (3 : Int32) n1 h0 n0 O0 (Ea_BELOW.ext O0.2) (Fa_BELOW_ordinal.ext O0.2) (by decide)) hZ (w_7 hw) (w_1 hw) (by decide) (by decide)) q47a q47c (g := (mkF m 65 #[.val (.int n1), .val (.int (0 : Int32)), .val (.int (1 : Int32)), .val (.int (0 : Int32)), .val (.int (1 : Int32)), .val (.int (1 : Int32)), .val (.int (0 : Int32)), .unset, .unset] [(.int n1), (.ref a_BELOW)])) rfl (by rw [hml]; rfl) (Steps.refl _) (argsL := [(.int n1)]) (rest := []) (lenOf pd_1 rfl) rfl (by show 2 * 0 + _ ≤ _; exact Nat.le_of_eq rfl) (hb hby at_65) (fun _ _ => ⟨rfl, e46, (by decide : 0 + 0 ≤ _), (by decide : 0 + 0 ≤ _)⟩)
    dsimp only [Pt.U, Pt.locs, Pt.cells, Pt.slots] at X47 l47 y47 z47 st47 hQ47
    subst l47 y47 z47
    obtain ⟨hv47, Nq47, e47⟩ := hQ47
    have N47 := Fr.app N45 Nq47
    rw [show own_holds (3 : Int32) n1 = (0 : Int32) by simp [own_holds, t1, t2, t3]] at hv47; subst hv47
    refine OW.tr (B := T47.setTop (mkF m 68 #[.val (.int n1), .val (.int (0 : Int32)), .val (.int (1 : Int32)), .val (.int (0 : Int32)), .val (.int (1 : Int32)), .val (.int (1 : Int32)), .val (.int (0 : Int32)), .unset, .unset] [(.int (0 : Int32))])) (st47) ?_
    refine OW.st (B := T47.setTop (mkF m 70 #[.val (.int n1), .val (.int (0 : Int32)), .val (.int (1 : Int32)), .val (.int (0 : Int32)), .val (.int (1 : Int32)), .val (.int (1 : Int32)), .val (.int (0 : Int32)), .val (.int (0 : Int32)), .unset] [])) (fun _ kk_ => XS.istore X47.here hx rfl (hb hby at_68) rfl (l' := #[.val (.int n1), .val (.int (0 : Int32)), .val (.int (1 : Int32)), .val (.int (0 : Int32)), .val (.int (1 : Int32)), .val (.int (1 : Int32)), .val (.int (0 : Int32)), .val (.int (0 : Int32)), .unset]) rfl kk_) ?_
    obtain ⟨T48, X48, e48, st48⟩ := getS2 X47 hx hZ hown (host := "") (Or.inl (w_23 hw)) Via.refl e47 (Sa_EQUALS.ext O0.2) (g := (mkF m 70 #[.val (.int n1), .val (.int (0 : Int32)), .val (.int (1 : Int32)), .val (.int (0 : Int32)), .val (.int (1 : Int32)), .val (.int (1 : Int32)), .val (.int (0 : Int32)), .val (.int (0 : Int32)), .unset] [])) rfl (hb hby at_70)
    refine OW.st (B := T48.setTop (mkF m 73 #[.val (.int n1), .val (.int (0 : Int32)), .val (.int (1 : Int32)), .val (.int (0 : Int32)), .val (.int (1 : Int32)), .val (.int (1 : Int32)), .val (.int (0 : Int32)), .val (.int (0 : Int32)), .unset] [(.ref a_EQUALS)])) (st48) ?_
    refine OW.st (B := T48.setTop (mkF m 74 #[.val (.int n1), .val (.int (0 : Int32)), .val (.int (1 : Int32)), .val (.int (0 : Int32)), .val (.int (1 : Int32)), .val (.int (1 : Int32)), .val (.int (0 : Int32)), .val (.int (0 : Int32)), .unset] [(.int n1), (.ref a_EQUALS)])) (fun _ kk_ => XS.iloadN X48.here hx rfl (hb hby at_73) rfl kk_) ?_
    obtain ⟨cq49, kq49, q49a, q49b, q49c⟩ := isOf hZ e48 (Ea_EQUALS.ext O0.2)
    obtain ⟨_, _, ⟨T49, L49, k49, n49⟩, -, X49, ⟨Lc49, hQ49, l49, y49, z49⟩, st49⟩ := X48.virtualBack hx (y := (⟨"com/example/latticework/latticework/Filter$Operator", "holds", "(I)Z"⟩ : MethodName)) (z := (⟨"com/example/latticework/latticework/Filter$Operator", "holds", "(I)Z"⟩ : MethodName)) hown (mvT hZ (w_3 hw)) (mvT hZ (w_4 hw)) (notFace_of_selects (args := #[]) (mvT hZ (w_6 hw))) (mvT hZ (w_6 hw)) (mvT hZ (w_5 hw)) (by decide) (backOf (W := 0) (rmH l Z a0 hw [] a_EQUALS (4 : Int32) n1 h0 n0 O0 (Ea_EQUALS.ext O0.2) (Fa_EQUALS_ordinal.ext O0.2) (by decide)) hZ (w_7 hw) (w_1 hw) (by decide) (by decide)) q49a q49c (g := (mkF m 74 #[.val (.int n1), .val (.int (0 : Int32)), .val (.int (1 : Int32)), .val (.int (0 : Int32)), .val (.int (1 : Int32)), .val (.int (1 : Int32)), .val (.int (0 : Int32)), .val (.int (0 : Int32)), .unset] [(.int n1), (.ref a_EQUALS)])) rfl (by rw [hml]; rfl) (Steps.refl _) (argsL := [(.int n1)]) (rest := []) (lenOf pd_1 rfl) rfl (by show 2 * 0 + _ ≤ _; exact Nat.le_of_eq rfl) (hb hby at_74) (fun _ _ => ⟨rfl, e48, (by decide : 0 + 0 ≤ _), (by decide : 0 + 0 ≤ _)⟩)
    dsimp only [Pt.U, Pt.locs, Pt.cells, Pt.slots] at X49 l49 y49 z49 st49 hQ49
    subst l49 y49 z49
    obtain ⟨hv49, Nq49, e49⟩ := hQ49
    have N49 := Fr.app N47 Nq49
    rw [show own_holds (4 : Int32) n1 = (1 : Int32) by simp [own_holds, t1, t2, t3]] at hv49; subst hv49
    refine OW.tr (B := T49.setTop (mkF m 77 #[.val (.int n1), .val (.int (0 : Int32)), .val (.int (1 : Int32)), .val (.int (0 : Int32)), .val (.int (1 : Int32)), .val (.int (1 : Int32)), .val (.int (0 : Int32)), .val (.int (0 : Int32)), .unset] [(.int (1 : Int32))])) (st49) ?_
    refine OW.st (B := T49.setTop (mkF m 79 #[.val (.int n1), .val (.int (0 : Int32)), .val (.int (1 : Int32)), .val (.int (0 : Int32)), .val (.int (1 : Int32)), .val (.int (1 : Int32)), .val (.int (0 : Int32)), .val (.int (0 : Int32)), .val (.int (1 : Int32))] [])) (fun _ kk_ => XS.istore X49.here hx rfl (hb hby at_77) rfl (l' := #[.val (.int n1), .val (.int (0 : Int32)), .val (.int (1 : Int32)), .val (.int (0 : Int32)), .val (.int (1 : Int32)), .val (.int (1 : Int32)), .val (.int (0 : Int32)), .val (.int (0 : Int32)), .val (.int (1 : Int32))]) rfl kk_) ?_
    refine OW.st (B := T49.setTop (mkF m 81 #[.val (.int n1), .val (.int (0 : Int32)), .val (.int (1 : Int32)), .val (.int (0 : Int32)), .val (.int (1 : Int32)), .val (.int (1 : Int32)), .val (.int (0 : Int32)), .val (.int (0 : Int32)), .val (.int (1 : Int32))] [(.int (1 : Int32))])) (fun _ kk_ => XS.iload X49.here hx rfl (hb hby at_79) rfl kk_) ?_
    refine OW.st (B := T49.setTop (mkF m 82 #[.val (.int n1), .val (.int (0 : Int32)), .val (.int (1 : Int32)), .val (.int (0 : Int32)), .val (.int (1 : Int32)), .val (.int (1 : Int32)), .val (.int (0 : Int32)), .val (.int (0 : Int32)), .val (.int (1 : Int32))] [(.int (0 : Int32)), (.int (1 : Int32))])) (fun _ kk_ => XS.iloadN X49.here hx rfl (hb hby at_81) rfl kk_) ?_
    refine OW.st (B := T49.setTop (mkF m 85 #[.val (.int n1), .val (.int (0 : Int32)), .val (.int (1 : Int32)), .val (.int (0 : Int32)), .val (.int (1 : Int32)), .val (.int (1 : Int32)), .val (.int (0 : Int32)), .val (.int (0 : Int32)), .val (.int (1 : Int32))] [(.int (1 : Int32))])) (fun _ kk_ => XS.ifNo X49.here hx rfl (hb hby at_82) rfl ((if0 _ _).trans (teq (by decide)).2) kk_) ?_
    refine OW.st (B := T49.setTop (mkF m 86 #[.val (.int n1), .val (.int (0 : Int32)), .val (.int (1 : Int32)), .val (.int (0 : Int32)), .val (.int (1 : Int32)), .val (.int (1 : Int32)), .val (.int (0 : Int32)), .val (.int (0 : Int32)), .val (.int (1 : Int32))] [(.int (1 : Int32)), (.int (1 : Int32))])) (fun _ kk_ => XS.iloadN X49.here hx rfl (hb hby at_85) rfl kk_) ?_
    refine OW.st (B := T49.setTop (mkF m 89 #[.val (.int n1), .val (.int (0 : Int32)), .val (.int (1 : Int32)), .val (.int (0 : Int32)), .val (.int (1 : Int32)), .val (.int (1 : Int32)), .val (.int (0 : Int32)), .val (.int (0 : Int32)), .val (.int (1 : Int32))] [(.int (1 : Int32))])) (fun _ kk_ => XS.ifNo X49.here hx rfl (hb hby at_86) rfl ((if0 _ _).trans (feq (by decide)).1) kk_) ?_
    refine OW.st (B := T49.setTop (mkF m 90 #[.val (.int n1), .val (.int (0 : Int32)), .val (.int (1 : Int32)), .val (.int (0 : Int32)), .val (.int (1 : Int32)), .val (.int (1 : Int32)), .val (.int (0 : Int32)), .val (.int (0 : Int32)), .val (.int (1 : Int32))] [(.int (1 : Int32)), (.int (1 : Int32))])) (fun _ kk_ => XS.iconst X49.here hx rfl (hb hby at_89) kk_) ?_
    refine OW.st (B := T49.setTop (mkF m 94 #[.val (.int n1), .val (.int (0 : Int32)), .val (.int (1 : Int32)), .val (.int (0 : Int32)), .val (.int (1 : Int32)), .val (.int (1 : Int32)), .val (.int (0 : Int32)), .val (.int (0 : Int32)), .val (.int (1 : Int32))] [(.int (1 : Int32)), (.int (1 : Int32))])) (fun _ kk_ => XS.goto X49.here hx rfl (pc0 := 90) (pc' := 94) rfl (hb hby at_90) (by decide) (by decide) kk_) ?_
    refine OW.st (B := T49.setTop (mkF m 97 #[.val (.int n1), .val (.int (0 : Int32)), .val (.int (1 : Int32)), .val (.int (0 : Int32)), .val (.int (1 : Int32)), .val (.int (1 : Int32)), .val (.int (0 : Int32)), .val (.int (0 : Int32)), .val (.int (1 : Int32))] [])) (fun _ kk_ => XS.icmpNo X49.here hx rfl (hb hby at_94) rfl (teq (by decide)).2 kk_) ?_
    refine OW.st (B := T49.setTop (mkF m 99 #[.val (.int n1), .val (.int (0 : Int32)), .val (.int (1 : Int32)), .val (.int (0 : Int32)), .val (.int (1 : Int32)), .val (.int (1 : Int32)), .val (.int (0 : Int32)), .val (.int (0 : Int32)), .val (.int (1 : Int32))] [(.int (1 : Int32))])) (fun _ kk_ => XS.iload X49.here hx rfl (hb hby at_97) rfl kk_) ?_
    refine OW.st (B := T49.setTop (mkF m 100 #[.val (.int n1), .val (.int (0 : Int32)), .val (.int (1 : Int32)), .val (.int (0 : Int32)), .val (.int (1 : Int32)), .val (.int (1 : Int32)), .val (.int (0 : Int32)), .val (.int (0 : Int32)), .val (.int (1 : Int32))] [(.int (0 : Int32)), (.int (1 : Int32))])) (fun _ kk_ => XS.iloadN X49.here hx rfl (hb hby at_99) rfl kk_) ?_
    refine OW.st (B := T49.setTop (mkF m 103 #[.val (.int n1), .val (.int (0 : Int32)), .val (.int (1 : Int32)), .val (.int (0 : Int32)), .val (.int (1 : Int32)), .val (.int (1 : Int32)), .val (.int (0 : Int32)), .val (.int (0 : Int32)), .val (.int (1 : Int32))] [(.int (1 : Int32))])) (fun _ kk_ => XS.ifNo X49.here hx rfl (hb hby at_100) rfl ((if0 _ _).trans (teq (by decide)).2) kk_) ?_
    refine OW.st (B := T49.setTop (mkF m 104 #[.val (.int n1), .val (.int (0 : Int32)), .val (.int (1 : Int32)), .val (.int (0 : Int32)), .val (.int (1 : Int32)), .val (.int (1 : Int32)), .val (.int (0 : Int32)), .val (.int (0 : Int32)), .val (.int (1 : Int32))] [(.int (1 : Int32)), (.int (1 : Int32))])) (fun _ kk_ => XS.iloadN X49.here hx rfl (hb hby at_103) rfl kk_) ?_
    refine OW.st (B := T49.setTop (mkF m 107 #[.val (.int n1), .val (.int (0 : Int32)), .val (.int (1 : Int32)), .val (.int (0 : Int32)), .val (.int (1 : Int32)), .val (.int (1 : Int32)), .val (.int (0 : Int32)), .val (.int (0 : Int32)), .val (.int (1 : Int32))] [(.int (1 : Int32))])) (fun _ kk_ => XS.ifNo X49.here hx rfl (hb hby at_104) rfl ((if0 _ _).trans (feq (by decide)).1) kk_) ?_
    refine OW.st (B := T49.setTop (mkF m 108 #[.val (.int n1), .val (.int (0 : Int32)), .val (.int (1 : Int32)), .val (.int (0 : Int32)), .val (.int (1 : Int32)), .val (.int (1 : Int32)), .val (.int (0 : Int32)), .val (.int (0 : Int32)), .val (.int (1 : Int32))] [(.int (1 : Int32)), (.int (1 : Int32))])) (fun _ kk_ => XS.iconst X49.here hx rfl (hb hby at_107) kk_) ?_
    refine OW.st (B := T49.setTop (mkF m 112 #[.val (.int n1), .val (.int (0 : Int32)), .val (.int (1 : Int32)), .val (.int (0 : Int32)), .val (.int (1 : Int32)), .val (.int (1 : Int32)), .val (.int (0 : Int32)), .val (.int (0 : Int32)), .val (.int (1 : Int32))] [(.int (1 : Int32)), (.int (1 : Int32))])) (fun _ kk_ => XS.goto X49.here hx rfl (pc0 := 108) (pc' := 112) rfl (hb hby at_108) (by decide) (by decide) kk_) ?_
    refine OW.st (B := T49.setTop (mkF m 115 #[.val (.int n1), .val (.int (0 : Int32)), .val (.int (1 : Int32)), .val (.int (0 : Int32)), .val (.int (1 : Int32)), .val (.int (1 : Int32)), .val (.int (0 : Int32)), .val (.int (0 : Int32)), .val (.int (1 : Int32))] [])) (fun _ kk_ => XS.icmpNo X49.here hx rfl (hb hby at_112) rfl (teq (by decide)).2 kk_) ?_
    refine OW.st (B := T49.setTop (mkF m 117 #[.val (.int n1), .val (.int (0 : Int32)), .val (.int (1 : Int32)), .val (.int (0 : Int32)), .val (.int (1 : Int32)), .val (.int (1 : Int32)), .val (.int (0 : Int32)), .val (.int (0 : Int32)), .val (.int (1 : Int32))] [(.int (0 : Int32))])) (fun _ kk_ => XS.iload X49.here hx rfl (hb hby at_115) rfl kk_) ?_
    refine OW.st (B := T49.setTop (mkF m 118 #[.val (.int n1), .val (.int (0 : Int32)), .val (.int (1 : Int32)), .val (.int (0 : Int32)), .val (.int (1 : Int32)), .val (.int (1 : Int32)), .val (.int (0 : Int32)), .val (.int (0 : Int32)), .val (.int (1 : Int32))] [(.int (0 : Int32)), (.int (0 : Int32))])) (fun _ kk_ => XS.iloadN X49.here hx rfl (hb hby at_117) rfl kk_) ?_
    refine OW.st (B := T49.setTop (mkF m 121 #[.val (.int n1), .val (.int (0 : Int32)), .val (.int (1 : Int32)), .val (.int (0 : Int32)), .val (.int (1 : Int32)), .val (.int (1 : Int32)), .val (.int (0 : Int32)), .val (.int (0 : Int32)), .val (.int (1 : Int32))] [])) (fun _ kk_ => XS.icmpNo X49.here hx rfl (hb hby at_118) rfl (teq (by decide)).2 kk_) ?_
    refine OW.st (B := T49.setTop (mkF m 123 #[.val (.int n1), .val (.int (0 : Int32)), .val (.int (1 : Int32)), .val (.int (0 : Int32)), .val (.int (1 : Int32)), .val (.int (1 : Int32)), .val (.int (0 : Int32)), .val (.int (0 : Int32)), .val (.int (1 : Int32))] [(.int (0 : Int32))])) (fun _ kk_ => XS.iload X49.here hx rfl (hb hby at_121) rfl kk_) ?_
    refine OW.st (B := T49.setTop (mkF m 124 #[.val (.int n1), .val (.int (0 : Int32)), .val (.int (1 : Int32)), .val (.int (0 : Int32)), .val (.int (1 : Int32)), .val (.int (1 : Int32)), .val (.int (0 : Int32)), .val (.int (0 : Int32)), .val (.int (1 : Int32))] [(.int (0 : Int32)), (.int (0 : Int32))])) (fun _ kk_ => XS.iloadN X49.here hx rfl (hb hby at_123) rfl kk_) ?_
    refine OW.st (B := T49.setTop (mkF m 127 #[.val (.int n1), .val (.int (0 : Int32)), .val (.int (1 : Int32)), .val (.int (0 : Int32)), .val (.int (1 : Int32)), .val (.int (1 : Int32)), .val (.int (0 : Int32)), .val (.int (0 : Int32)), .val (.int (1 : Int32))] [])) (fun _ kk_ => XS.icmpNo X49.here hx rfl (hb hby at_124) rfl (teq (by decide)).2 kk_) ?_
    refine OW.st (B := T49.setTop (mkF m 129 #[.val (.int n1), .val (.int (0 : Int32)), .val (.int (1 : Int32)), .val (.int (0 : Int32)), .val (.int (1 : Int32)), .val (.int (1 : Int32)), .val (.int (0 : Int32)), .val (.int (0 : Int32)), .val (.int (1 : Int32))] [(.int (1 : Int32))])) (fun _ kk_ => XS.iload X49.here hx rfl (hb hby at_127) rfl kk_) ?_
    refine OW.st (B := T49.setTop (mkF m 130 #[.val (.int n1), .val (.int (0 : Int32)), .val (.int (1 : Int32)), .val (.int (0 : Int32)), .val (.int (1 : Int32)), .val (.int (1 : Int32)), .val (.int (0 : Int32)), .val (.int (0 : Int32)), .val (.int (1 : Int32))] [(.int (1 : Int32)), (.int (1 : Int32))])) (fun _ kk_ => XS.iloadN X49.here hx rfl (hb hby at_129) rfl kk_) ?_
    refine OW.st (B := T49.setTop (mkF m 133 #[.val (.int n1), .val (.int (0 : Int32)), .val (.int (1 : Int32)), .val (.int (0 : Int32)), .val (.int (1 : Int32)), .val (.int (1 : Int32)), .val (.int (0 : Int32)), .val (.int (0 : Int32)), .val (.int (1 : Int32))] [])) (fun _ kk_ => XS.icmpNo X49.here hx rfl (hb hby at_130) rfl (teq (by decide)).2 kk_) ?_
    refine OW.st (B := T49.setTop (mkF m 134 #[.val (.int n1), .val (.int (0 : Int32)), .val (.int (1 : Int32)), .val (.int (0 : Int32)), .val (.int (1 : Int32)), .val (.int (1 : Int32)), .val (.int (0 : Int32)), .val (.int (0 : Int32)), .val (.int (1 : Int32))] [(.int (1 : Int32))])) (fun _ kk_ => XS.iconst X49.here hx rfl (hb hby at_133) kk_) ?_
    refine OW.st (B := T49.setTop (mkF m 138 #[.val (.int n1), .val (.int (0 : Int32)), .val (.int (1 : Int32)), .val (.int (0 : Int32)), .val (.int (1 : Int32)), .val (.int (1 : Int32)), .val (.int (0 : Int32)), .val (.int (0 : Int32)), .val (.int (1 : Int32))] [(.int (1 : Int32))])) (fun _ kk_ => XS.goto X49.here hx rfl (pc0 := 134) (pc' := 138) rfl (hb hby at_134) (by decide) (by decide) kk_) ?_
    exact OW.ret X49 hx hlk (i := .ireturn) Bd.returns rfl (Or.inl ⟨rfl, Or.inr (Or.inl rfl), _, rfl⟩) (hb hby at_138) e49 (by decide) (by decide) ⟨rfl, N49⟩
  · refine OW.st (B := s₁.setTop (mkF m 1 #[.val (.int n1), .unset, .unset, .unset, .unset, .unset, .unset, .unset, .unset] [(.int n1)])) (fun _ kk_ => XS.iloadN X0.here hx rfl (hb hby at_0) rfl kk_) ?_
    refine OW.st (B := s₁.setTop (mkF m 8 #[.val (.int n1), .unset, .unset, .unset, .unset, .unset, .unset, .unset, .unset] [])) (fun _ kk_ => XS.ifYes X0.here hx rfl (pc0 := 1) (pc' := 8) rfl (hb hby at_1) rfl ((if0 _ _).trans (flt t1).2.1) (by decide) (by decide) kk_) ?_
    refine OW.st (B := s₁.setTop (mkF m 9 #[.val (.int n1), .unset, .unset, .unset, .unset, .unset, .unset, .unset, .unset] [(.int (0 : Int32))])) (fun _ kk_ => XS.iconst X0.here hx rfl (hb hby at_8) kk_) ?_
    refine OW.st (B := s₁.setTop (mkF m 10 #[.val (.int n1), .val (.int (0 : Int32)), .unset, .unset, .unset, .unset, .unset, .unset, .unset] [])) (fun _ kk_ => XS.istoreN X0.here hx rfl (hb hby at_9) rfl (l' := #[.val (.int n1), .val (.int (0 : Int32)), .unset, .unset, .unset, .unset, .unset, .unset, .unset]) rfl kk_) ?_
    refine OW.st (B := s₁.setTop (mkF m 11 #[.val (.int n1), .val (.int (0 : Int32)), .unset, .unset, .unset, .unset, .unset, .unset, .unset] [(.int n1)])) (fun _ kk_ => XS.iloadN X0.here hx rfl (hb hby at_10) rfl kk_) ?_
    refine OW.st (B := s₁.setTop (mkF m 18 #[.val (.int n1), .val (.int (0 : Int32)), .unset, .unset, .unset, .unset, .unset, .unset, .unset] [])) (fun _ kk_ => XS.ifYes X0.here hx rfl (pc0 := 11) (pc' := 18) rfl (hb hby at_11) rfl ((if0 _ _).trans (feq t2).2) (by decide) (by decide) kk_) ?_
    refine OW.st (B := s₁.setTop (mkF m 19 #[.val (.int n1), .val (.int (0 : Int32)), .unset, .unset, .unset, .unset, .unset, .unset, .unset] [(.int (0 : Int32))])) (fun _ kk_ => XS.iconst X0.here hx rfl (hb hby at_18) kk_) ?_
    refine OW.st (B := s₁.setTop (mkF m 20 #[.val (.int n1), .val (.int (0 : Int32)), .val (.int (0 : Int32)), .unset, .unset, .unset, .unset, .unset, .unset] [])) (fun _ kk_ => XS.istoreN X0.here hx rfl (hb hby at_19) rfl (l' := #[.val (.int n1), .val (.int (0 : Int32)), .val (.int (0 : Int32)), .unset, .unset, .unset, .unset, .unset, .unset]) rfl kk_) ?_
    refine OW.st (B := s₁.setTop (mkF m 21 #[.val (.int n1), .val (.int (0 : Int32)), .val (.int (0 : Int32)), .unset, .unset, .unset, .unset, .unset, .unset] [(.int (0 : Int32))])) (fun _ kk_ => XS.iloadN X0.here hx rfl (hb hby at_20) rfl kk_) ?_
    refine OW.st (B := s₁.setTop (mkF m 24 #[.val (.int n1), .val (.int (0 : Int32)), .val (.int (0 : Int32)), .unset, .unset, .unset, .unset, .unset, .unset] [])) (fun _ kk_ => XS.ifNo X0.here hx rfl (hb hby at_21) rfl ((if0 _ _).trans (teq (by decide)).2) kk_) ?_
    refine OW.st (B := s₁.setTop (mkF m 25 #[.val (.int n1), .val (.int (0 : Int32)), .val (.int (0 : Int32)), .unset, .unset, .unset, .unset, .unset, .unset] [(.int (0 : Int32))])) (fun _ kk_ => XS.iloadN X0.here hx rfl (hb hby at_24) rfl kk_) ?_
    refine OW.st (B := s₁.setTop (mkF m 28 #[.val (.int n1), .val (.int (0 : Int32)), .val (.int (0 : Int32)), .unset, .unset, .unset, .unset, .unset, .unset] [])) (fun _ kk_ => XS.ifNo X0.here hx rfl (hb hby at_25) rfl ((if0 _ _).trans (teq (by decide)).2) kk_) ?_
    refine OW.st (B := s₁.setTop (mkF m 29 #[.val (.int n1), .val (.int (0 : Int32)), .val (.int (0 : Int32)), .unset, .unset, .unset, .unset, .unset, .unset] [(.int (1 : Int32))])) (fun _ kk_ => XS.iconst X0.here hx rfl (hb hby at_28) kk_) ?_
    refine OW.st (B := s₁.setTop (mkF m 33 #[.val (.int n1), .val (.int (0 : Int32)), .val (.int (0 : Int32)), .unset, .unset, .unset, .unset, .unset, .unset] [(.int (1 : Int32))])) (fun _ kk_ => XS.goto X0.here hx rfl (pc0 := 29) (pc' := 33) rfl (hb hby at_29) (by decide) (by decide) kk_) ?_
    refine OW.st (B := s₁.setTop (mkF m 34 #[.val (.int n1), .val (.int (0 : Int32)), .val (.int (0 : Int32)), .val (.int (1 : Int32)), .unset, .unset, .unset, .unset, .unset] [])) (fun _ kk_ => XS.istoreN X0.here hx rfl (hb hby at_33) rfl (l' := #[.val (.int n1), .val (.int (0 : Int32)), .val (.int (0 : Int32)), .val (.int (1 : Int32)), .unset, .unset, .unset, .unset, .unset]) rfl kk_) ?_
    obtain ⟨T50, X50, e50, st50⟩ := getS2 X0 hx hZ hown (host := "") (Or.inl (w_0 hw)) Via.refl e0 (Sa_AT_LEAST.ext O0.2) (g := (mkF m 34 #[.val (.int n1), .val (.int (0 : Int32)), .val (.int (0 : Int32)), .val (.int (1 : Int32)), .unset, .unset, .unset, .unset, .unset] [])) rfl (hb hby at_34)
    refine OW.st (B := T50.setTop (mkF m 37 #[.val (.int n1), .val (.int (0 : Int32)), .val (.int (0 : Int32)), .val (.int (1 : Int32)), .unset, .unset, .unset, .unset, .unset] [(.ref a_AT_LEAST)])) (st50) ?_
    refine OW.st (B := T50.setTop (mkF m 38 #[.val (.int n1), .val (.int (0 : Int32)), .val (.int (0 : Int32)), .val (.int (1 : Int32)), .unset, .unset, .unset, .unset, .unset] [(.int n1), (.ref a_AT_LEAST)])) (fun _ kk_ => XS.iloadN X50.here hx rfl (hb hby at_37) rfl kk_) ?_
    obtain ⟨cq51, kq51, q51a, q51b, q51c⟩ := isOf hZ e50 (Ea_AT_LEAST.ext O0.2)
    obtain ⟨_, _, ⟨T51, L51, k51, n51⟩, -, X51, ⟨Lc51, hQ51, l51, y51, z51⟩, st51⟩ := X50.virtualBack hx (y := (⟨"com/example/latticework/latticework/Filter$Operator", "holds", "(I)Z"⟩ : MethodName)) (z := (⟨"com/example/latticework/latticework/Filter$Operator", "holds", "(I)Z"⟩ : MethodName)) hown (mvT hZ (w_3 hw)) (mvT hZ (w_4 hw)) (notFace_of_selects (args := #[]) (mvT hZ (w_6 hw))) (mvT hZ (w_6 hw)) (mvT hZ (w_5 hw)) (by decide) (backOf (W := 0) (rmH l Z a0 hw [] a_AT_LEAST (0 : Int32) n1 h0 n0 O0 (Ea_AT_LEAST.ext O0.2) (Fa_AT_LEAST_ordinal.ext O0.2) (by decide)) hZ (w_7 hw) (w_1 hw) (by decide) (by decide)) q51a q51c (g := (mkF m 38 #[.val (.int n1), .val (.int (0 : Int32)), .val (.int (0 : Int32)), .val (.int (1 : Int32)), .unset, .unset, .unset, .unset, .unset] [(.int n1), (.ref a_AT_LEAST)])) rfl (by rw [hml]; rfl) (Steps.refl _) (argsL := [(.int n1)]) (rest := []) (lenOf pd_1 rfl) rfl (by show 2 * 0 + _ ≤ _; exact Nat.le_of_eq rfl) (hb hby at_38) (fun _ _ => ⟨rfl, e50, (by decide : 0 + 0 ≤ _), (by decide : 0 + 0 ≤ _)⟩)
    dsimp only [Pt.U, Pt.locs, Pt.cells, Pt.slots] at X51 l51 y51 z51 st51 hQ51
    subst l51 y51 z51
    obtain ⟨hv51, Nq51, e51⟩ := hQ51
    have N51 := Fr.app N0 Nq51
    rw [show own_holds (0 : Int32) n1 = (1 : Int32) by simp [own_holds, t1, t2, t3]] at hv51; subst hv51
    refine OW.tr (B := T51.setTop (mkF m 41 #[.val (.int n1), .val (.int (0 : Int32)), .val (.int (0 : Int32)), .val (.int (1 : Int32)), .unset, .unset, .unset, .unset, .unset] [(.int (1 : Int32))])) (st51) ?_
    refine OW.st (B := T51.setTop (mkF m 43 #[.val (.int n1), .val (.int (0 : Int32)), .val (.int (0 : Int32)), .val (.int (1 : Int32)), .val (.int (1 : Int32)), .unset, .unset, .unset, .unset] [])) (fun _ kk_ => XS.istore X51.here hx rfl (hb hby at_41) rfl (l' := #[.val (.int n1), .val (.int (0 : Int32)), .val (.int (0 : Int32)), .val (.int (1 : Int32)), .val (.int (1 : Int32)), .unset, .unset, .unset, .unset]) rfl kk_) ?_
    obtain ⟨T52, X52, e52, st52⟩ := getS2 X51 hx hZ hown (host := "") (Or.inl (w_17 hw)) Via.refl e51 (Sa_AT_MOST.ext O0.2) (g := (mkF m 43 #[.val (.int n1), .val (.int (0 : Int32)), .val (.int (0 : Int32)), .val (.int (1 : Int32)), .val (.int (1 : Int32)), .unset, .unset, .unset, .unset] [])) rfl (hb hby at_43)
    refine OW.st (B := T52.setTop (mkF m 46 #[.val (.int n1), .val (.int (0 : Int32)), .val (.int (0 : Int32)), .val (.int (1 : Int32)), .val (.int (1 : Int32)), .unset, .unset, .unset, .unset] [(.ref a_AT_MOST)])) (st52) ?_
    refine OW.st (B := T52.setTop (mkF m 47 #[.val (.int n1), .val (.int (0 : Int32)), .val (.int (0 : Int32)), .val (.int (1 : Int32)), .val (.int (1 : Int32)), .unset, .unset, .unset, .unset] [(.int n1), (.ref a_AT_MOST)])) (fun _ kk_ => XS.iloadN X52.here hx rfl (hb hby at_46) rfl kk_) ?_
    obtain ⟨cq53, kq53, q53a, q53b, q53c⟩ := isOf hZ e52 (Ea_AT_MOST.ext O0.2)
    obtain ⟨_, _, ⟨T53, L53, k53, n53⟩, -, X53, ⟨Lc53, hQ53, l53, y53, z53⟩, st53⟩ := X52.virtualBack hx (y := (⟨"com/example/latticework/latticework/Filter$Operator", "holds", "(I)Z"⟩ : MethodName)) (z := (⟨"com/example/latticework/latticework/Filter$Operator", "holds", "(I)Z"⟩ : MethodName)) hown (mvT hZ (w_3 hw)) (mvT hZ (w_4 hw)) (notFace_of_selects (args := #[]) (mvT hZ (w_6 hw))) (mvT hZ (w_6 hw)) (mvT hZ (w_5 hw)) (by decide) (backOf (W := 0) (rmH l Z a0 hw [] a_AT_MOST (1 : Int32) n1 h0 n0 O0 (Ea_AT_MOST.ext O0.2) (Fa_AT_MOST_ordinal.ext O0.2) (by decide)) hZ (w_7 hw) (w_1 hw) (by decide) (by decide)) q53a q53c (g := (mkF m 47 #[.val (.int n1), .val (.int (0 : Int32)), .val (.int (0 : Int32)), .val (.int (1 : Int32)), .val (.int (1 : Int32)), .unset, .unset, .unset, .unset] [(.int n1), (.ref a_AT_MOST)])) rfl (by rw [hml]; rfl) (Steps.refl _) (argsL := [(.int n1)]) (rest := []) (lenOf pd_1 rfl) rfl (by show 2 * 0 + _ ≤ _; exact Nat.le_of_eq rfl) (hb hby at_47) (fun _ _ => ⟨rfl, e52, (by decide : 0 + 0 ≤ _), (by decide : 0 + 0 ≤ _)⟩)
    dsimp only [Pt.U, Pt.locs, Pt.cells, Pt.slots] at X53 l53 y53 z53 st53 hQ53
    subst l53 y53 z53
    obtain ⟨hv53, Nq53, e53⟩ := hQ53
    have N53 := Fr.app N51 Nq53
    rw [show own_holds (1 : Int32) n1 = (0 : Int32) by simp [own_holds, t1, t2, t3]] at hv53; subst hv53
    refine OW.tr (B := T53.setTop (mkF m 50 #[.val (.int n1), .val (.int (0 : Int32)), .val (.int (0 : Int32)), .val (.int (1 : Int32)), .val (.int (1 : Int32)), .unset, .unset, .unset, .unset] [(.int (0 : Int32))])) (st53) ?_
    refine OW.st (B := T53.setTop (mkF m 52 #[.val (.int n1), .val (.int (0 : Int32)), .val (.int (0 : Int32)), .val (.int (1 : Int32)), .val (.int (1 : Int32)), .val (.int (0 : Int32)), .unset, .unset, .unset] [])) (fun _ kk_ => XS.istore X53.here hx rfl (hb hby at_50) rfl (l' := #[.val (.int n1), .val (.int (0 : Int32)), .val (.int (0 : Int32)), .val (.int (1 : Int32)), .val (.int (1 : Int32)), .val (.int (0 : Int32)), .unset, .unset, .unset]) rfl kk_) ?_
    obtain ⟨T54, X54, e54, st54⟩ := getS2 X53 hx hZ hown (host := "") (Or.inl (w_19 hw)) Via.refl e53 (Sa_ABOVE.ext O0.2) (g := (mkF m 52 #[.val (.int n1), .val (.int (0 : Int32)), .val (.int (0 : Int32)), .val (.int (1 : Int32)), .val (.int (1 : Int32)), .val (.int (0 : Int32)), .unset, .unset, .unset] [])) rfl (hb hby at_52)
    refine OW.st (B := T54.setTop (mkF m 55 #[.val (.int n1), .val (.int (0 : Int32)), .val (.int (0 : Int32)), .val (.int (1 : Int32)), .val (.int (1 : Int32)), .val (.int (0 : Int32)), .unset, .unset, .unset] [(.ref a_ABOVE)])) (st54) ?_
    refine OW.st (B := T54.setTop (mkF m 56 #[.val (.int n1), .val (.int (0 : Int32)), .val (.int (0 : Int32)), .val (.int (1 : Int32)), .val (.int (1 : Int32)), .val (.int (0 : Int32)), .unset, .unset, .unset] [(.int n1), (.ref a_ABOVE)])) (fun _ kk_ => XS.iloadN X54.here hx rfl (hb hby at_55) rfl kk_) ?_
    obtain ⟨cq55, kq55, q55a, q55b, q55c⟩ := isOf hZ e54 (Ea_ABOVE.ext O0.2)
    obtain ⟨_, _, ⟨T55, L55, k55, n55⟩, -, X55, ⟨Lc55, hQ55, l55, y55, z55⟩, st55⟩ := X54.virtualBack hx (y := (⟨"com/example/latticework/latticework/Filter$Operator", "holds", "(I)Z"⟩ : MethodName)) (z := (⟨"com/example/latticework/latticework/Filter$Operator", "holds", "(I)Z"⟩ : MethodName)) hown (mvT hZ (w_3 hw)) (mvT hZ (w_4 hw)) (notFace_of_selects (args := #[]) (mvT hZ (w_6 hw))) (mvT hZ (w_6 hw)) (mvT hZ (w_5 hw)) (by decide) (backOf (W := 0) (rmH l Z a0 hw [] a_ABOVE (2 : Int32) n1 h0 n0 O0 (Ea_ABOVE.ext O0.2) (Fa_ABOVE_ordinal.ext O0.2) (by decide)) hZ (w_7 hw) (w_1 hw) (by decide) (by decide)) q55a q55c (g := (mkF m 56 #[.val (.int n1), .val (.int (0 : Int32)), .val (.int (0 : Int32)), .val (.int (1 : Int32)), .val (.int (1 : Int32)), .val (.int (0 : Int32)), .unset, .unset, .unset] [(.int n1), (.ref a_ABOVE)])) rfl (by rw [hml]; rfl) (Steps.refl _) (argsL := [(.int n1)]) (rest := []) (lenOf pd_1 rfl) rfl (by show 2 * 0 + _ ≤ _; exact Nat.le_of_eq rfl) (hb hby at_56) (fun _ _ => ⟨rfl, e54, (by decide : 0 + 0 ≤ _), (by decide : 0 + 0 ≤ _)⟩)
    dsimp only [Pt.U, Pt.locs, Pt.cells, Pt.slots] at X55 l55 y55 z55 st55 hQ55
    subst l55 y55 z55
    obtain ⟨hv55, Nq55, e55⟩ := hQ55
    have N55 := Fr.app N53 Nq55
    rw [show own_holds (2 : Int32) n1 = (1 : Int32) by simp [own_holds, t1, t2, t3]] at hv55; subst hv55
    refine OW.tr (B := T55.setTop (mkF m 59 #[.val (.int n1), .val (.int (0 : Int32)), .val (.int (0 : Int32)), .val (.int (1 : Int32)), .val (.int (1 : Int32)), .val (.int (0 : Int32)), .unset, .unset, .unset] [(.int (1 : Int32))])) (st55) ?_
    refine OW.st (B := T55.setTop (mkF m 61 #[.val (.int n1), .val (.int (0 : Int32)), .val (.int (0 : Int32)), .val (.int (1 : Int32)), .val (.int (1 : Int32)), .val (.int (0 : Int32)), .val (.int (1 : Int32)), .unset, .unset] [])) (fun _ kk_ => XS.istore X55.here hx rfl (hb hby at_59) rfl (l' := #[.val (.int n1), .val (.int (0 : Int32)), .val (.int (0 : Int32)), .val (.int (1 : Int32)), .val (.int (1 : Int32)), .val (.int (0 : Int32)), .val (.int (1 : Int32)), .unset, .unset]) rfl kk_) ?_
    obtain ⟨T56, X56, e56, st56⟩ := getS2 X55 hx hZ hown (host := "") (Or.inl (w_21 hw)) Via.refl e55 (Sa_BELOW.ext O0.2) (g := (mkF m 61 #[.val (.int n1), .val (.int (0 : Int32)), .val (.int (0 : Int32)), .val (.int (1 : Int32)), .val (.int (1 : Int32)), .val (.int (0 : Int32)), .val (.int (1 : Int32)), .unset, .unset] [])) rfl (hb hby at_61)
    refine OW.st (B := T56.setTop (mkF m 64 #[.val (.int n1), .val (.int (0 : Int32)), .val (.int (0 : Int32)), .val (.int (1 : Int32)), .val (.int (1 : Int32)), .val (.int (0 : Int32)), .val (.int (1 : Int32)), .unset, .unset] [(.ref a_BELOW)])) (st56) ?_
    refine OW.st (B := T56.setTop (mkF m 65 #[.val (.int n1), .val (.int (0 : Int32)), .val (.int (0 : Int32)), .val (.int (1 : Int32)), .val (.int (1 : Int32)), .val (.int (0 : Int32)), .val (.int (1 : Int32)), .unset, .unset] [(.int n1), (.ref a_BELOW)])) (fun _ kk_ => XS.iloadN X56.here hx rfl (hb hby at_64) rfl kk_) ?_
    obtain ⟨cq57, kq57, q57a, q57b, q57c⟩ := isOf hZ e56 (Ea_BELOW.ext O0.2)
    obtain ⟨_, _, ⟨T57, L57, k57, n57⟩, -, X57, ⟨Lc57, hQ57, l57, y57, z57⟩, st57⟩ := X56.virtualBack hx (y := (⟨"com/example/latticework/latticework/Filter$Operator", "holds", "(I)Z"⟩ : MethodName)) (z := (⟨"com/example/latticework/latticework/Filter$Operator", "holds", "(I)Z"⟩ : MethodName)) hown (mvT hZ (w_3 hw)) (mvT hZ (w_4 hw)) (notFace_of_selects (args := #[]) (mvT hZ (w_6 hw))) (mvT hZ (w_6 hw)) (mvT hZ (w_5 hw)) (by decide) (backOf (W := 0) (rmH l Z a0 hw [] a_BELOW (3 : Int32) n1 h0 n0 O0 (Ea_BELOW.ext O0.2) (Fa_BELOW_ordinal.ext O0.2) (by decide)) hZ (w_7 hw) (w_1 hw) (by decide) (by decide)) q57a q57c (g := (mkF m 65 #[.val (.int n1), .val (.int (0 : Int32)), .val (.int (0 : Int32)), .val (.int (1 : Int32)), .val (.int (1 : Int32)), .val (.int (0 : Int32)), .val (.int (1 : Int32)), .unset, .unset] [(.int n1), (.ref a_BELOW)])) rfl (by rw [hml]; rfl) (Steps.refl _) (argsL := [(.int n1)]) (rest := []) (lenOf pd_1 rfl) rfl (by show 2 * 0 + _ ≤ _; exact Nat.le_of_eq rfl) (hb hby at_65) (fun _ _ => ⟨rfl, e56, (by decide : 0 + 0 ≤ _), (by decide : 0 + 0 ≤ _)⟩)
    dsimp only [Pt.U, Pt.locs, Pt.cells, Pt.slots] at X57 l57 y57 z57 st57 hQ57
    subst l57 y57 z57
    obtain ⟨hv57, Nq57, e57⟩ := hQ57
    have N57 := Fr.app N55 Nq57
    rw [show own_holds (3 : Int32) n1 = (0 : Int32) by simp [own_holds, t1, t2, t3]] at hv57; subst hv57
    refine OW.tr (B := T57.setTop (mkF m 68 #[.val (.int n1), .val (.int (0 : Int32)), .val (.int (0 : Int32)), .val (.int (1 : Int32)), .val (.int (1 : Int32)), .val (.int (0 : Int32)), .val (.int (1 : Int32)), .unset, .unset] [(.int (0 : Int32))])) (st57) ?_
    refine OW.st (B := T57.setTop (mkF m 70 #[.val (.int n1), .val (.int (0 : Int32)), .val (.int (0 : Int32)), .val (.int (1 : Int32)), .val (.int (1 : Int32)), .val (.int (0 : Int32)), .val (.int (1 : Int32)), .val (.int (0 : Int32)), .unset] [])) (fun _ kk_ => XS.istore X57.here hx rfl (hb hby at_68) rfl (l' := #[.val (.int n1), .val (.int (0 : Int32)), .val (.int (0 : Int32)), .val (.int (1 : Int32)), .val (.int (1 : Int32)), .val (.int (0 : Int32)), .val (.int (1 : Int32)), .val (.int (0 : Int32)), .unset]) rfl kk_) ?_
    obtain ⟨T58, X58, e58, st58⟩ := getS2 X57 hx hZ hown (host := "") (Or.inl (w_23 hw)) Via.refl e57 (Sa_EQUALS.ext O0.2) (g := (mkF m 70 #[.val (.int n1), .val (.int (0 : Int32)), .val (.int (0 : Int32)), .val (.int (1 : Int32)), .val (.int (1 : Int32)), .val (.int (0 : Int32)), .val (.int (1 : Int32)), .val (.int (0 : Int32)), .unset] [])) rfl (hb hby at_70)
    refine OW.st (B := T58.setTop (mkF m 73 #[.val (.int n1), .val (.int (0 : Int32)), .val (.int (0 : Int32)), .val (.int (1 : Int32)), .val (.int (1 : Int32)), .val (.int (0 : Int32)), .val (.int (1 : Int32)), .val (.int (0 : Int32)), .unset] [(.ref a_EQUALS)])) (st58) ?_
    refine OW.st (B := T58.setTop (mkF m 74 #[.val (.int n1), .val (.int (0 : Int32)), .val (.int (0 : Int32)), .val (.int (1 : Int32)), .val (.int (1 : Int32)), .val (.int (0 : Int32)), .val (.int (1 : Int32)), .val (.int (0 : Int32)), .unset] [(.int n1), (.ref a_EQUALS)])) (fun _ kk_ => XS.iloadN X58.here hx rfl (hb hby at_73) rfl kk_) ?_
    obtain ⟨cq59, kq59, q59a, q59b, q59c⟩ := isOf hZ e58 (Ea_EQUALS.ext O0.2)
    obtain ⟨_, _, ⟨T59, L59, k59, n59⟩, -, X59, ⟨Lc59, hQ59, l59, y59, z59⟩, st59⟩ := X58.virtualBack hx (y := (⟨"com/example/latticework/latticework/Filter$Operator", "holds", "(I)Z"⟩ : MethodName)) (z := (⟨"com/example/latticework/latticework/Filter$Operator", "holds", "(I)Z"⟩ : MethodName)) hown (mvT hZ (w_3 hw)) (mvT hZ (w_4 hw)) (notFace_of_selects (args := #[]) (mvT hZ (w_6 hw))) (mvT hZ (w_6 hw)) (mvT hZ (w_5 hw)) (by decide) (backOf (W := 0) (rmH l Z a0 hw [] a_EQUALS (4 : Int32) n1 h0 n0 O0 (Ea_EQUALS.ext O0.2) (Fa_EQUALS_ordinal.ext O0.2) (by decide)) hZ (w_7 hw) (w_1 hw) (by decide) (by decide)) q59a q59c (g := (mkF m 74 #[.val (.int n1), .val (.int (0 : Int32)), .val (.int (0 : Int32)), .val (.int (1 : Int32)), .val (.int (1 : Int32)), .val (.int (0 : Int32)), .val (.int (1 : Int32)), .val (.int (0 : Int32)), .unset] [(.int n1), (.ref a_EQUALS)])) rfl (by rw [hml]; rfl) (Steps.refl _) (argsL := [(.int n1)]) (rest := []) (lenOf pd_1 rfl) rfl (by show 2 * 0 + _ ≤ _; exact Nat.le_of_eq rfl) (hb hby at_74) (fun _ _ => ⟨rfl, e58, (by decide : 0 + 0 ≤ _), (by decide : 0 + 0 ≤ _)⟩)
    dsimp only [Pt.U, Pt.locs, Pt.cells, Pt.slots] at X59 l59 y59 z59 st59 hQ59
    subst l59 y59 z59
    obtain ⟨hv59, Nq59, e59⟩ := hQ59
    have N59 := Fr.app N57 Nq59
    rw [show own_holds (4 : Int32) n1 = (0 : Int32) by simp [own_holds, t1, t2, t3]] at hv59; subst hv59
    refine OW.tr (B := T59.setTop (mkF m 77 #[.val (.int n1), .val (.int (0 : Int32)), .val (.int (0 : Int32)), .val (.int (1 : Int32)), .val (.int (1 : Int32)), .val (.int (0 : Int32)), .val (.int (1 : Int32)), .val (.int (0 : Int32)), .unset] [(.int (0 : Int32))])) (st59) ?_
    refine OW.st (B := T59.setTop (mkF m 79 #[.val (.int n1), .val (.int (0 : Int32)), .val (.int (0 : Int32)), .val (.int (1 : Int32)), .val (.int (1 : Int32)), .val (.int (0 : Int32)), .val (.int (1 : Int32)), .val (.int (0 : Int32)), .val (.int (0 : Int32))] [])) (fun _ kk_ => XS.istore X59.here hx rfl (hb hby at_77) rfl (l' := #[.val (.int n1), .val (.int (0 : Int32)), .val (.int (0 : Int32)), .val (.int (1 : Int32)), .val (.int (1 : Int32)), .val (.int (0 : Int32)), .val (.int (1 : Int32)), .val (.int (0 : Int32)), .val (.int (0 : Int32))]) rfl kk_) ?_
    refine OW.st (B := T59.setTop (mkF m 81 #[.val (.int n1), .val (.int (0 : Int32)), .val (.int (0 : Int32)), .val (.int (1 : Int32)), .val (.int (1 : Int32)), .val (.int (0 : Int32)), .val (.int (1 : Int32)), .val (.int (0 : Int32)), .val (.int (0 : Int32))] [(.int (1 : Int32))])) (fun _ kk_ => XS.iload X59.here hx rfl (hb hby at_79) rfl kk_) ?_
    refine OW.st (B := T59.setTop (mkF m 82 #[.val (.int n1), .val (.int (0 : Int32)), .val (.int (0 : Int32)), .val (.int (1 : Int32)), .val (.int (1 : Int32)), .val (.int (0 : Int32)), .val (.int (1 : Int32)), .val (.int (0 : Int32)), .val (.int (0 : Int32))] [(.int (1 : Int32)), (.int (1 : Int32))])) (fun _ kk_ => XS.iloadN X59.here hx rfl (hb hby at_81) rfl kk_) ?_
    refine OW.st (B := T59.setTop (mkF m 89 #[.val (.int n1), .val (.int (0 : Int32)), .val (.int (0 : Int32)), .val (.int (1 : Int32)), .val (.int (1 : Int32)), .val (.int (0 : Int32)), .val (.int (1 : Int32)), .val (.int (0 : Int32)), .val (.int (0 : Int32))] [(.int (1 : Int32))])) (fun _ kk_ => XS.ifYes X59.here hx rfl (pc0 := 82) (pc' := 89) rfl (hb hby at_82) rfl ((if0 _ _).trans (feq (by decide)).2) (by decide) (by decide) kk_) ?_
    refine OW.st (B := T59.setTop (mkF m 90 #[.val (.int n1), .val (.int (0 : Int32)), .val (.int (0 : Int32)), .val (.int (1 : Int32)), .val (.int (1 : Int32)), .val (.int (0 : Int32)), .val (.int (1 : Int32)), .val (.int (0 : Int32)), .val (.int (0 : Int32))] [(.int (1 : Int32)), (.int (1 : Int32))])) (fun _ kk_ => XS.iconst X59.here hx rfl (hb hby at_89) kk_) ?_
    refine OW.st (B := T59.setTop (mkF m 94 #[.val (.int n1), .val (.int (0 : Int32)), .val (.int (0 : Int32)), .val (.int (1 : Int32)), .val (.int (1 : Int32)), .val (.int (0 : Int32)), .val (.int (1 : Int32)), .val (.int (0 : Int32)), .val (.int (0 : Int32))] [(.int (1 : Int32)), (.int (1 : Int32))])) (fun _ kk_ => XS.goto X59.here hx rfl (pc0 := 90) (pc' := 94) rfl (hb hby at_90) (by decide) (by decide) kk_) ?_
    refine OW.st (B := T59.setTop (mkF m 97 #[.val (.int n1), .val (.int (0 : Int32)), .val (.int (0 : Int32)), .val (.int (1 : Int32)), .val (.int (1 : Int32)), .val (.int (0 : Int32)), .val (.int (1 : Int32)), .val (.int (0 : Int32)), .val (.int (0 : Int32))] [])) (fun _ kk_ => XS.icmpNo X59.here hx rfl (hb hby at_94) rfl (teq (by decide)).2 kk_) ?_
    refine OW.st (B := T59.setTop (mkF m 99 #[.val (.int n1), .val (.int (0 : Int32)), .val (.int (0 : Int32)), .val (.int (1 : Int32)), .val (.int (1 : Int32)), .val (.int (0 : Int32)), .val (.int (1 : Int32)), .val (.int (0 : Int32)), .val (.int (0 : Int32))] [(.int (0 : Int32))])) (fun _ kk_ => XS.iload X59.here hx rfl (hb hby at_97) rfl kk_) ?_
    refine OW.st (B := T59.setTop (mkF m 100 #[.val (.int n1), .val (.int (0 : Int32)), .val (.int (0 : Int32)), .val (.int (1 : Int32)), .val (.int (1 : Int32)), .val (.int (0 : Int32)), .val (.int (1 : Int32)), .val (.int (0 : Int32)), .val (.int (0 : Int32))] [(.int (0 : Int32)), (.int (0 : Int32))])) (fun _ kk_ => XS.iloadN X59.here hx rfl (hb hby at_99) rfl kk_) ?_
    refine OW.st (B := T59.setTop (mkF m 103 #[.val (.int n1), .val (.int (0 : Int32)), .val (.int (0 : Int32)), .val (.int (1 : Int32)), .val (.int (1 : Int32)), .val (.int (0 : Int32)), .val (.int (1 : Int32)), .val (.int (0 : Int32)), .val (.int (0 : Int32))] [(.int (0 : Int32))])) (fun _ kk_ => XS.ifNo X59.here hx rfl (hb hby at_100) rfl ((if0 _ _).trans (teq (by decide)).2) kk_) ?_
    refine OW.st (B := T59.setTop (mkF m 104 #[.val (.int n1), .val (.int (0 : Int32)), .val (.int (0 : Int32)), .val (.int (1 : Int32)), .val (.int (1 : Int32)), .val (.int (0 : Int32)), .val (.int (1 : Int32)), .val (.int (0 : Int32)), .val (.int (0 : Int32))] [(.int (0 : Int32)), (.int (0 : Int32))])) (fun _ kk_ => XS.iloadN X59.here hx rfl (hb hby at_103) rfl kk_) ?_
    refine OW.st (B := T59.setTop (mkF m 111 #[.val (.int n1), .val (.int (0 : Int32)), .val (.int (0 : Int32)), .val (.int (1 : Int32)), .val (.int (1 : Int32)), .val (.int (0 : Int32)), .val (.int (1 : Int32)), .val (.int (0 : Int32)), .val (.int (0 : Int32))] [(.int (0 : Int32))])) (fun _ kk_ => XS.ifYes X59.here hx rfl (pc0 := 104) (pc' := 111) rfl (hb hby at_104) rfl ((if0 _ _).trans (teq (by decide)).1) (by decide) (by decide) kk_) ?_
    refine OW.st (B := T59.setTop (mkF m 112 #[.val (.int n1), .val (.int (0 : Int32)), .val (.int (0 : Int32)), .val (.int (1 : Int32)), .val (.int (1 : Int32)), .val (.int (0 : Int32)), .val (.int (1 : Int32)), .val (.int (0 : Int32)), .val (.int (0 : Int32))] [(.int (0 : Int32)), (.int (0 : Int32))])) (fun _ kk_ => XS.iconst X59.here hx rfl (hb hby at_111) kk_) ?_
    refine OW.st (B := T59.setTop (mkF m 115 #[.val (.int n1), .val (.int (0 : Int32)), .val (.int (0 : Int32)), .val (.int (1 : Int32)), .val (.int (1 : Int32)), .val (.int (0 : Int32)), .val (.int (1 : Int32)), .val (.int (0 : Int32)), .val (.int (0 : Int32))] [])) (fun _ kk_ => XS.icmpNo X59.here hx rfl (hb hby at_112) rfl (teq (by decide)).2 kk_) ?_
    refine OW.st (B := T59.setTop (mkF m 117 #[.val (.int n1), .val (.int (0 : Int32)), .val (.int (0 : Int32)), .val (.int (1 : Int32)), .val (.int (1 : Int32)), .val (.int (0 : Int32)), .val (.int (1 : Int32)), .val (.int (0 : Int32)), .val (.int (0 : Int32))] [(.int (1 : Int32))])) (fun _ kk_ => XS.iload X59.here hx rfl (hb hby at_115) rfl kk_) ?_
    refine OW.st (B := T59.setTop (mkF m 118 #[.val (.int n1), .val (.int (0 : Int32)), .val (.int (0 : Int32)), .val (.int (1 : Int32)), .val (.int (1 : Int32)), .val (.int (0 : Int32)), .val (.int (1 : Int32)), .val (.int (0 : Int32)), .val (.int (0 : Int32))] [(.int (1 : Int32)), (.int (1 : Int32))])) (fun _ kk_ => XS.iloadN X59.here hx rfl (hb hby at_117) rfl kk_) ?_
    refine OW.st (B := T59.setTop (mkF m 121 #[.val (.int n1), .val (.int (0 : Int32)), .val (.int (0 : Int32)), .val (.int (1 : Int32)), .val (.int (1 : Int32)), .val (.int (0 : Int32)), .val (.int (1 : Int32)), .val (.int (0 : Int32)), .val (.int (0 : Int32))] [])) (fun _ kk_ => XS.icmpNo X59.here hx rfl (hb hby at_118) rfl (teq (by decide)).2 kk_) ?_
    refine OW.st (B := T59.setTop (mkF m 123 #[.val (.int n1), .val (.int (0 : Int32)), .val (.int (0 : Int32)), .val (.int (1 : Int32)), .val (.int (1 : Int32)), .val (.int (0 : Int32)), .val (.int (1 : Int32)), .val (.int (0 : Int32)), .val (.int (0 : Int32))] [(.int (0 : Int32))])) (fun _ kk_ => XS.iload X59.here hx rfl (hb hby at_121) rfl kk_) ?_
    refine OW.st (B := T59.setTop (mkF m 124 #[.val (.int n1), .val (.int (0 : Int32)), .val (.int (0 : Int32)), .val (.int (1 : Int32)), .val (.int (1 : Int32)), .val (.int (0 : Int32)), .val (.int (1 : Int32)), .val (.int (0 : Int32)), .val (.int (0 : Int32))] [(.int (0 : Int32)), (.int (0 : Int32))])) (fun _ kk_ => XS.iloadN X59.here hx rfl (hb hby at_123) rfl kk_) ?_
    refine OW.st (B := T59.setTop (mkF m 127 #[.val (.int n1), .val (.int (0 : Int32)), .val (.int (0 : Int32)), .val (.int (1 : Int32)), .val (.int (1 : Int32)), .val (.int (0 : Int32)), .val (.int (1 : Int32)), .val (.int (0 : Int32)), .val (.int (0 : Int32))] [])) (fun _ kk_ => XS.icmpNo X59.here hx rfl (hb hby at_124) rfl (teq (by decide)).2 kk_) ?_
    refine OW.st (B := T59.setTop (mkF m 129 #[.val (.int n1), .val (.int (0 : Int32)), .val (.int (0 : Int32)), .val (.int (1 : Int32)), .val (.int (1 : Int32)), .val (.int (0 : Int32)), .val (.int (1 : Int32)), .val (.int (0 : Int32)), .val (.int (0 : Int32))] [(.int (0 : Int32))])) (fun _ kk_ => XS.iload X59.here hx rfl (hb hby at_127) rfl kk_) ?_
    refine OW.st (B := T59.setTop (mkF m 130 #[.val (.int n1), .val (.int (0 : Int32)), .val (.int (0 : Int32)), .val (.int (1 : Int32)), .val (.int (1 : Int32)), .val (.int (0 : Int32)), .val (.int (1 : Int32)), .val (.int (0 : Int32)), .val (.int (0 : Int32))] [(.int (0 : Int32)), (.int (0 : Int32))])) (fun _ kk_ => XS.iloadN X59.here hx rfl (hb hby at_129) rfl kk_) ?_
    refine OW.st (B := T59.setTop (mkF m 133 #[.val (.int n1), .val (.int (0 : Int32)), .val (.int (0 : Int32)), .val (.int (1 : Int32)), .val (.int (1 : Int32)), .val (.int (0 : Int32)), .val (.int (1 : Int32)), .val (.int (0 : Int32)), .val (.int (0 : Int32))] [])) (fun _ kk_ => XS.icmpNo X59.here hx rfl (hb hby at_130) rfl (teq (by decide)).2 kk_) ?_
    refine OW.st (B := T59.setTop (mkF m 134 #[.val (.int n1), .val (.int (0 : Int32)), .val (.int (0 : Int32)), .val (.int (1 : Int32)), .val (.int (1 : Int32)), .val (.int (0 : Int32)), .val (.int (1 : Int32)), .val (.int (0 : Int32)), .val (.int (0 : Int32))] [(.int (1 : Int32))])) (fun _ kk_ => XS.iconst X59.here hx rfl (hb hby at_133) kk_) ?_
    refine OW.st (B := T59.setTop (mkF m 138 #[.val (.int n1), .val (.int (0 : Int32)), .val (.int (0 : Int32)), .val (.int (1 : Int32)), .val (.int (1 : Int32)), .val (.int (0 : Int32)), .val (.int (1 : Int32)), .val (.int (0 : Int32)), .val (.int (0 : Int32))] [(.int (1 : Int32))])) (fun _ kk_ => XS.goto X59.here hx rfl (pc0 := 134) (pc' := 138) rfl (hb hby at_134) (by decide) (by decide) kk_) ?_
    exact OW.ret X59 hx hlk (i := .ireturn) Bd.returns rfl (Or.inl ⟨rfl, Or.inr (Or.inl rfl), _, rfl⟩) (hb hby at_138) e59 (by decide) (by decide) ⟨rfl, N59⟩
set_option maxRecDepth 65536 in
set_option maxHeartbeats 40000000 in
theorem comes_1 {Post : Tables → Env → Array Value → State → Outcome → State → Prop} (hpost : ∀ tb e args s v u, (limb_1_1.after args s (.returned v) u = true ∧ limb_1_2.after args s (.returned v) u = true ∧ True) → FrameEnd s (.returned v) u (Jvm.fieldLocs frame_1_writes args s ++ Jvm.arrayLocs frame_1_arrays args s ++ Jvm.staticLocs frame_1_statics s) 0 0 → Post tb e args s (.returned v) u) :
    ArmFor flags0 classFile x code maxLocals ret World_1 tables_1 room_1 Calls_1 rest_1 Pre_1 Post := by
  intro l hfl _ _ p e ha hc hk s m args below hf hA hF happ hP
  obtain ⟨hcalls, hrest, hpre⟩ := hP
  obtain ⟨-, -, -, hnamed, -, -, -, hat⟩ := (Spec.applies_iff hf).mp happ
  obtain ⟨hg, hn⟩ := and_e (Cond.before_iff.mp (show (Jvm.Cond.and given_1 narrow_1).before args s = true from hpre))
  obtain ⟨k60, k61⟩ := and_e hg
  obtain ⟨w0, rfl⟩ : ∃ w0 : Value, args = #[w0] := by
    have hs : args.size = 1 := by simpa [Cond.value, given_1] using k60
    obtain ⟨L⟩ := args
    match L, hs with
    | [w0], _ => exact ⟨w0, rfl⟩
  have hw := fun d (hd : d ∈ tables_1) => atoms_spec (ws := Jvm.Cond.code x code maxLocals ret :: tables_1) hat d (List.mem_cons_of_mem _ hd)
  have hfit : Fit s := fun {y c} hc i hi => by
    obtain ⟨ha, rfl⟩ := Array.getElem?_eq_some_iff.mp hc
    have q := List.all_eq_true.mp ((Array.all_eq_true_iff_forall_mem.mp hF) _ (Array.getElem_mem ha)) i (List.mem_range.mpr hi)
    simpa [Array.getElem?_eq_getElem hi] using q
  obtain ⟨i0, ei0⟩ := is_v k61
  obtain rfl : w0 = (.int i0) := Option.some.inj ei0
  obtain ⟨k1, k2⟩ := and_e hn
  obtain ⟨k3, k4⟩ := and_e k2
  obtain ⟨k5, k6⟩ := and_e k4
  obtain ⟨k7, k8⟩ := and_e k6
  obtain ⟨k9, k10⟩ := and_e k8
  obtain ⟨k11, k12⟩ := and_e k10
  obtain ⟨k13, k14⟩ := and_e k12
  obtain ⟨k15, k16⟩ := and_e k14
  obtain ⟨k17, k18⟩ := and_e k16
  obtain ⟨a_AT_LEAST, eva_AT_LEAST⟩ := exa_v k1
  obtain ⟨a_AT_MOST, eva_AT_MOST⟩ := exa_v k5
  obtain ⟨a_ABOVE, eva_ABOVE⟩ := exa_v k9
  obtain ⟨a_BELOW, eva_BELOW⟩ := exa_v k13
  obtain ⟨a_EQUALS, eva_EQUALS⟩ := exa_v k17
  have hS : OwnS s a_AT_LEAST a_AT_MOST a_ABOVE a_BELOW a_EQUALS := ⟨Sta.start eva_AT_LEAST (Or.inr ⟨(w_1 hw), (w_2 hw)⟩), Exa.start eva_AT_LEAST k1, Sta.start eva_AT_MOST (Or.inr ⟨(w_1 hw), (w_18 hw)⟩), Exa.start eva_AT_MOST k5, Sta.start eva_ABOVE (Or.inr ⟨(w_1 hw), (w_20 hw)⟩), Exa.start eva_ABOVE k9, Sta.start eva_BELOW (Or.inr ⟨(w_1 hw), (w_22 hw)⟩), Exa.start eva_BELOW k13, Sta.start eva_EQUALS (Or.inr ⟨(w_1 hw), (w_24 hw)⟩), Exa.start eva_EQUALS k17, Fld.start ((fld_at eva_AT_LEAST).symm.trans (own_eq_int k3)), Fld.start ((fld_at eva_AT_MOST).symm.trans (own_eq_int k7)), Fld.start ((fld_at eva_ABOVE).symm.trans (own_eq_int k11)), Fld.start ((fld_at eva_BELOW).symm.trans (own_eq_int k15)), Fld.start ((fld_at eva_EQUALS).symm.trans (own_eq_int k18))⟩
  obtain ⟨n, o, h1, h2, h3, _, L, rfl, ⟨rfl, N⟩, hq⟩ := rm0 l s _ hw tables_1 i0 a_AT_LEAST a_AT_MOST a_ABOVE a_BELOW a_EQUALS s.heap s.heap.size (Old.start s) hS p e ha hc hk s m _ below hf ((Spec.applies_iff_loose hf).mp happ).1 ⟨rfl, State.Warmed39.refl s, rfl⟩ trivial
  refine ⟨n, _, h1, h2, h3, hpost _ _ _ _ _ _ ⟨Cond.after_iff.mpr rfl, Cond.after_iff.mpr (eq_i res_at (Term.int_eval (1)) rfl), trivial⟩ ⟨hq.1, hq.2.1, (hq.2.2.sift fun y hy => Or.inr (N y hy)).mono (by decide) (by decide)⟩⟩
theorem main_1_1 : Claimed_1_1 := comes_1 fun _ _ _ _ _ _ h hF => ⟨h.1, hF⟩
theorem main_1_2 : Claimed_1_2 := comes_1 fun _ _ _ _ _ _ h hF => ⟨h.2.1, hF⟩
end Jvm.Pilot.@@N@@
namespace Jvm.Pilot.@@N@@
open Jvm Jvm.ClassFile Sem Op Lib Jvm.Free Jvm.Stand Jvm.Pilot.@@N@@.Jvm.D
/-! MADE BY PROGRAM (witnessworld.py) out of the Statement's table words and the real class files: 12 classes; the members and pool entries that the words name. The judged class is class 1, her method 1. -/
namespace start1
open Jvm.ClassFile
def u (s : String) : CpInfo := .utf8 (stringToUtf16 s)
/-- a pool by its gaps: so many unusable entries, then the entry; so many at the end -/
def gap : Nat → List CpInfo → List CpInfo
  | 0, r => r
  | n + 1, r => .unusable :: gap n r
def poolList (es : List (Nat × CpInfo)) (last : Nat) : List CpInfo := es.foldr (fun e r => gap e.1 (e.2 :: r)) (gap last [])
def pool (es : List (Nat × CpInfo)) (last : Nat) : Array CpInfo := ⟨poolList es last⟩
def fileOf (pool : Array CpInfo) (this : Nat) (attrs : Array Attribute := #[]) (ms : Array MethodInfo := #[]) (fl : Nat := 33) (sup : Nat := 0) (ifs : Array Nat := #[]) (fds : Array FieldInfo := #[]) : ClassFile where
  minorVersion := 0
  majorVersion := 65
  constantPool := pool
  accessFlags := fl
  thisClass := this
  superClass := sup
  interfaces := ifs
  fields := fds
  methods := ms
  attributes := attrs
def plain (name : String) (sup : Option ClassId) : Class where
  name := name
  kind := .ordinary
  loader := none
  accessFlags := 33
  super := sup
  interfaces := #[]
  cf := none
  fields := #[]
  methods := #[]
  instanceTypes := #[]
  staticTypes := #[]
  resolved := #[]
  callSites := []
  init := .initialized
  statics := none
  mirror := none

def pool0 : Array CpInfo := pool [(5, u "<init>"), (0, u "()V"), (1, .class_ 10), (1, u "java/lang/Object")] 113

def k0m0 : Method := { name := "<init>", desc := "()V", sig := { parameters := [], returnType := none }, accessFlags := 1, code := none }
/-- java/lang/Object -/
def k0 : Class := { plain "java/lang/Object" none with
  accessFlags := 33
  interfaces := #[]
  cf := some (fileOf pool0 8 #[] #[{ accessFlags := 1, nameIndex := 5, descriptorIndex := 6, attributes := #[] }] 33 0 #[] #[])
  fields := #[]
  methods := #[k0m0]
  instanceTypes := #[]
  staticTypes := #[]
  resolved := Array.replicate 124 none
  statics := none }

def pool1 : Array CpInfo := pool [(2, .class_ 4), (1, u "java/lang/Object"), (0, u "<init>"), (0, u "()V"), (0, .fieldref 8 9), (0, .class_ 10), (0, .nameAndType 11 12), (0, u "com/example/latticework/latticework/Filter$Operator"), (0, u "AT_LEAST"), (0, u "Lcom/example/latticework/latticework/Filter$Operator;"), (0, .methodref 8 14), (0, .nameAndType 15 16), (0, u "holds"), (0, u "(I)Z"), (0, .fieldref 8 18), (0, .nameAndType 19 12), (0, u "AT_MOST"), (0, .fieldref 8 21), (0, .nameAndType 22 12), (0, u "ABOVE"), (0, .fieldref 8 24), (0, .nameAndType 25 12), (0, u "BELOW"), (0, .fieldref 8 27), (0, .nameAndType 28 12), (0, u "EQUALS"), (0, .class_ 30), (0, u "com/example/latticework/latticework/OperatorHoldsPinLaw"), (2, u "law")] 7

def k1m0 : Method := { name := "<init>", desc := "()V", sig := { parameters := [], returnType := none }, accessFlags := 1, code := none }
def k1c1 : Code := { maxStack := 2, maxLocals := 9, code := code, exceptionTable := #[], attributes := #[] }
def k1m1 : Method := { name := "law", desc := "(I)Z", sig := { parameters := [.int], returnType := some .boolean }, accessFlags := 9, code := some k1c1 }
/-- com/example/latticework/latticework/OperatorHoldsPinLaw -/
def k1 : Class := { plain "com/example/latticework/latticework/OperatorHoldsPinLaw" (some 0) with
  accessFlags := 49
  interfaces := #[]
  cf := some (fileOf pool1 29 #[] #[{ accessFlags := 1, nameIndex := 5, descriptorIndex := 6, attributes := #[] }, { accessFlags := 9, nameIndex := 33, descriptorIndex := 16, attributes := #[] }] 49 2 #[] #[])
  fields := #[]
  methods := #[k1m0, k1m1]
  instanceTypes := #[]
  staticTypes := #[]
  resolved := Array.replicate 41 none
  statics := none }

def pool2 : Array CpInfo := pool [(1, .class_ 2), (0, u "java/lang/constant/Constable"), (0, .class_ 4), (0, u "java/lang/Object")] 6

/-- java/lang/constant/Constable -/
def k2 : Class := { plain "java/lang/constant/Constable" (some 0) with
  accessFlags := 1537
  interfaces := #[]
  cf := some (fileOf pool2 1 #[] #[] 1537 3 #[] #[])
  fields := #[]
  methods := #[]
  instanceTypes := #[]
  staticTypes := #[]
  resolved := Array.replicate 11 none
  statics := none }

def pool3 : Array CpInfo := pool [(1, .class_ 2), (0, u "java/lang/Comparable"), (0, .class_ 4), (0, u "java/lang/Object")] 7

/-- java/lang/Comparable -/
def k3 : Class := { plain "java/lang/Comparable" (some 0) with
  accessFlags := 1537
  interfaces := #[]
  cf := some (fileOf pool3 1 #[] #[] 1537 3 #[] #[])
  fields := #[]
  methods := #[]
  instanceTypes := #[]
  staticTypes := #[]
  resolved := Array.replicate 12 none
  statics := none }

def pool4 : Array CpInfo := pool [(1, .class_ 2), (0, u "java/io/Serializable"), (0, .class_ 4), (0, u "java/lang/Object")] 2

/-- java/io/Serializable -/
def k4 : Class := { plain "java/io/Serializable" (some 0) with
  accessFlags := 1537
  interfaces := #[]
  cf := some (fileOf pool4 1 #[] #[] 1537 3 #[] #[])
  fields := #[]
  methods := #[]
  instanceTypes := #[]
  staticTypes := #[]
  resolved := Array.replicate 7 none
  statics := none }

def pool5 : Array CpInfo := pool [(2, .class_ 4), (1, u "java/lang/Enum"), (0, u "name"), (0, u "Ljava/lang/String;"), (0, .fieldref 2 8), (0, .nameAndType 9 10), (0, u "ordinal"), (0, u "I"), (1, .class_ 14), (1, u "java/lang/Object"), (4, u "hash"), (86, .class_ 108), (1, u "java/lang/Enum$EnumDesc"), (2, .class_ 112), (0, u "java/lang/constant/Constable"), (0, .class_ 114), (0, u "java/lang/Comparable"), (0, .class_ 116), (0, u "java/io/Serializable"), (9, u "()I")] 77

def k5c0 : Code := { maxStack := 1, maxLocals := 1, code := jdk_37_method_2_code, exceptionTable := #[], attributes := #[] }
def k5m0 : Method := { name := "ordinal", desc := "()I", sig := { parameters := [], returnType := some .int }, accessFlags := 17, code := some k5c0 }
/-- java/lang/Enum -/
def k5 : Class := { plain "java/lang/Enum" (some 0) with
  accessFlags := 1057
  interfaces := #[2, 3, 4]
  cf := some (fileOf pool5 2 #[.nestMembers #[106]] #[{ accessFlags := 17, nameIndex := 9, descriptorIndex := 126, attributes := #[] }] 1057 12 #[111, 113, 115] #[{ accessFlags := 18, nameIndex := 5, descriptorIndex := 6, attributes := #[] }, { accessFlags := 18, nameIndex := 9, descriptorIndex := 10, attributes := #[] }, { accessFlags := 2, nameIndex := 19, descriptorIndex := 10, attributes := #[] }])
  fields := #[{ name := "name", type := (.object "java/lang/String"), accessFlags := 18, slot := 0, constantValue := 0 }, { name := "ordinal", type := .int, accessFlags := 18, slot := 1, constantValue := 0 }, { name := "hash", type := .int, accessFlags := 2, slot := 2, constantValue := 0 }]
  methods := #[k5m0]
  instanceTypes := #[(.object "java/lang/String"), .int, .int]
  staticTypes := #[]
  resolved := Array.replicate 204 none
  statics := none }

def pool6 : Array CpInfo := pool [(1, .class_ 2), (0, u "com/example/latticework/latticework/Filter$Operator"), (2, u "AT_LEAST"), (0, u "Lcom/example/latticework/latticework/Filter$Operator;"), (2, u "AT_MOST"), (2, u "ABOVE"), (2, u "BELOW"), (2, u "EQUALS"), (2, u "$VALUES"), (0, u "[Lcom/example/latticework/latticework/Filter$Operator;"), (6, .class_ 31), (1, u "java/lang/Enum"), (8, u "symbol"), (0, u "Ljava/lang/String;"), (0, .methodref 1 43), (0, .nameAndType 44 45), (0, u "ordinal"), (0, u "()I"), (29, u "holds"), (0, u "(I)Z"), (7, .class_ 85), (0, u "com/example/latticework/latticework/Filter")] 2

def k6c0 : Code := { maxStack := 1, maxLocals := 2, code := prog_15_method_4_code, exceptionTable := #[], attributes := #[] }
def k6m0 : Method := { name := "holds", desc := "(I)Z", sig := { parameters := [.int], returnType := some .boolean }, accessFlags := 0, code := some k6c0 }
/-- com/example/latticework/latticework/Filter$Operator -/
def k6 : Class := { plain "com/example/latticework/latticework/Filter$Operator" (some 5) with
  accessFlags := 16433
  interfaces := #[]
  cf := some (fileOf pool6 1 #[.nestHost 84] #[{ accessFlags := 0, nameIndex := 75, descriptorIndex := 76, attributes := #[] }] 16433 29 #[] #[{ accessFlags := 16409, nameIndex := 5, descriptorIndex := 6, attributes := #[] }, { accessFlags := 16409, nameIndex := 9, descriptorIndex := 6, attributes := #[] }, { accessFlags := 16409, nameIndex := 12, descriptorIndex := 6, attributes := #[] }, { accessFlags := 16409, nameIndex := 15, descriptorIndex := 6, attributes := #[] }, { accessFlags := 16409, nameIndex := 18, descriptorIndex := 6, attributes := #[] }, { accessFlags := 18, nameIndex := 40, descriptorIndex := 41, attributes := #[] }, { accessFlags := 4122, nameIndex := 21, descriptorIndex := 22, attributes := #[] }])
  fields := #[{ name := "AT_LEAST", type := (.object "com/example/latticework/latticework/Filter$Operator"), accessFlags := 16409, slot := 0, constantValue := 0 }, { name := "AT_MOST", type := (.object "com/example/latticework/latticework/Filter$Operator"), accessFlags := 16409, slot := 1, constantValue := 0 }, { name := "ABOVE", type := (.object "com/example/latticework/latticework/Filter$Operator"), accessFlags := 16409, slot := 2, constantValue := 0 }, { name := "BELOW", type := (.object "com/example/latticework/latticework/Filter$Operator"), accessFlags := 16409, slot := 3, constantValue := 0 }, { name := "EQUALS", type := (.object "com/example/latticework/latticework/Filter$Operator"), accessFlags := 16409, slot := 4, constantValue := 0 }, { name := "symbol", type := (.object "java/lang/String"), accessFlags := 18, slot := 3, constantValue := 0 }, { name := "$VALUES", type := (.array (.object "com/example/latticework/latticework/Filter$Operator")), accessFlags := 4122, slot := 5, constantValue := 0 }]
  methods := #[k6m0]
  instanceTypes := #[(.object "java/lang/String"), .int, .int, (.object "java/lang/String")]
  staticTypes := #[(.object "com/example/latticework/latticework/Filter$Operator"), (.object "com/example/latticework/latticework/Filter$Operator"), (.object "com/example/latticework/latticework/Filter$Operator"), (.object "com/example/latticework/latticework/Filter$Operator"), (.object "com/example/latticework/latticework/Filter$Operator"), (.array (.object "com/example/latticework/latticework/Filter$Operator"))]
  resolved := Array.replicate 88 none
  statics := some 0 }

def pool7 : Array CpInfo := pool [(1, u "java/lang/Cloneable"), (0, .class_ 1), (0, u "java/lang/Object"), (0, .class_ 3)] 3

/-- java/lang/Cloneable -/
def k7 : Class := { plain "java/lang/Cloneable" (some 0) with
  accessFlags := 1537
  interfaces := #[]
  cf := some (fileOf pool7 2 #[] #[] 1537 4 #[] #[])
  fields := #[]
  methods := #[]
  instanceTypes := #[]
  staticTypes := #[]
  resolved := Array.replicate 8 none
  statics := none }

/-- the primitive byte -/
def k8 : Class := { plain "byte" none with kind := .primitive 'B', accessFlags := 0x411 }
/-- [B -/
def k9 : Class := { plain "[B" (some 0) with kind := .array 8 .byte, interfaces := #[7, 4], accessFlags := 1041 }

/-- the primitive int -/
def k10 : Class := { plain "int" none with kind := .primitive 'I', accessFlags := 0x411 }
/-- [I -/
def k11 : Class := { plain "[I" (some 0) with kind := .array 10 .int, interfaces := #[7, 4], accessFlags := 1041 }

def heap : Heap := #[{ cls := 6, slots := #[.ref 1, .ref 2, .ref 3, .ref 4, .ref 5, .null], vm := .statics 6 },
  { cls := 6, slots := #[.null, .int 0, .int 0, .null], vm := .none },
  { cls := 6, slots := #[.null, .int 1, .int 0, .null], vm := .none },
  { cls := 6, slots := #[.null, .int 2, .int 0, .null], vm := .none },
  { cls := 6, slots := #[.null, .int 3, .int 0, .null], vm := .none },
  { cls := 6, slots := #[.null, .int 4, .int 0, .null], vm := .none }]
def classes : Array Class := #[k0, k1, k2, k3, k4, k5, k6, k7, k8, k9, k10, k11]
def interned : List (Array UInt16 × Addr) := []
def slotsUsed : Nat := 26
def theMethod : MethodId := ⟨1, 1⟩
def args0 : Array Value := #[.int 5]
def aboutOver (below : List Frame) : State where
  vm := { classes := classes, interned := interned.toArray }
  heap := heap
  slotsUsed := slotsUsed
  threads := #[{ frames := .invoking theMethod args0 :: below }]
def below0 : List Frame := [.native { method := ⟨0, 0⟩, args := #[] }]
def about1 : State := aboutOver below0
def p0 : Program := .bare "" "" ""
def e0 : Env := launch0.env 0 0 0
theorem w_frames : about1.frames = Frame.invoking theMethod args0 :: below0 := rfl
set_option maxRecDepth 65536 in
theorem w_args : argsFit about1.vm theMethod args0 = true := by decide +kernel
set_option maxRecDepth 65536 in
theorem w_heap : heapFits about1 = true := by decide +kernel
set_option maxRecDepth 65536 in
theorem w_runnable : about1.curStatus? = some .runnable := by decide +kernel
set_option maxRecDepth 65536 in
theorem w_alone : about1.alone = true := by decide +kernel
set_option maxRecDepth 65536 in
theorem w_named : about1.methodNamed? x = some theMethod := by decide +kernel
set_option maxRecDepth 65536 in
theorem w_hears : about1.hears theMethod below0 = true := by decide +kernel
set_option maxRecDepth 65536 in
theorem w_ripe : about1.ripe theMethod args0 below0 = true := by decide +kernel
theorem w_running : about1.status = .running := rfl
set_option maxRecDepth 65536 in
theorem w_room : about1.hasRoom e0.platform room_1 = true :=
  launch0.hasRoom_least _ room_1 (by decide +kernel) (by decide +kernel) (by decide +kernel) (by decide +kernel) (by decide +kernel) (by decide +kernel)
theorem allAtoms_all (ts : List Jvm.Cond) (a : Array Jvm.Value) (st : Jvm.State) : (allAtoms ts).before a st = ts.all (fun c => c.before a st) := by
  induction ts with
  | nil => rfl
  | cons c t ih =>
    show (Jvm.Cond.and c (allAtoms t)).before a st = _
    rw [Jvm.Cond.before_and, ih, List.all_cons]
def words1 : List Jvm.Cond := Jvm.Cond.code x code maxLocals ret :: tables_1
/-- a 'code' word, met by the world's own term for the bytes: nothing is compared byte by byte -/
theorem code_word {y : MethodName} {bytes : ByteArray} {mx : Nat} {rt : Option FieldType} {a : Array Value} {s : State} {m : MethodId} {meth : Method} {c : Code} (h1 : s.methodNamed? y = some m) (h2 : s.vm.method? m = some meth) (h3 : meth.code = some c) (h4 : c.code = bytes)
    (h5 : (c.maxLocals == mx && c.exceptionTable.isEmpty && decide (c.maxStack ≤ mostOperands) && decide (meth.sig.returnType = rt) && !meth.locks && decide (parseMethodDescriptor y.desc = some meth.sig)) = true) : (Jvm.Cond.code y bytes mx rt).before a s = true := by
  simp only [Bool.and_eq_true, beq_iff_eq, Bool.not_eq_true', decide_eq_true_eq] at h5
  obtain ⟨⟨⟨⟨⟨g1, g2⟩, g3⟩, g4⟩, g5⟩, g6⟩ := h5
  simp [Cond.before, Cond.holds, Cond.value, h1, h2, h3, h4, g1, g2, g3, g4, g5, g6]
def isCode : Jvm.Cond → Bool
  | .code _ _ _ _ => true
  | _ => false
theorem all_split {L : List Jvm.Cond} {P : Jvm.Cond → Bool} (h1 : L.all (fun c => isCode c || P c) = true) (h2 : ∀ c ∈ L.filter isCode, P c = true) : L.all P = true := by
  refine List.all_eq_true.mpr fun c hc => ?_
  have h := List.all_eq_true.mp h1 c hc
  rcases Bool.eq_false_or_eq_true (isCode c) with hi | hi
  · exact h2 c (List.mem_filter.mpr ⟨hc, hi⟩)
  · simpa [hi] using h
set_option maxRecDepth 65536 in
theorem w_c0 : (Jvm.Cond.code x code maxLocals ret).before args0 about1 = true := code_word (m := ⟨1, 1⟩) (meth := k1m1) (c := k1c1) (by decide +kernel) rfl rfl rfl (by decide +kernel)
set_option maxRecDepth 65536 in
theorem w_c1 : (Jvm.Cond.code ({ cls := "com/example/latticework/latticework/Filter$Operator", name := "holds", desc := "(I)Z" } : Jvm.MethodName) prog_15_method_4_code (2 : Nat) (Option.some Jvm.ClassFile.FieldType.boolean)).before args0 about1 = true := code_word (m := ⟨6, 0⟩) (meth := k6m0) (c := k6c0) (by decide +kernel) rfl rfl rfl (by decide +kernel)
set_option maxRecDepth 65536 in
theorem w_c2 : (Jvm.Cond.code ({ cls := "java/lang/Enum", name := "ordinal", desc := "()I" } : Jvm.MethodName) jdk_37_method_2_code (1 : Nat) (Option.some Jvm.ClassFile.FieldType.int)).before args0 about1 = true := code_word (m := ⟨5, 0⟩) (meth := k5m0) (c := k5c0) (by decide +kernel) rfl rfl rfl (by decide +kernel)
def codes1 : List Jvm.Cond := [Jvm.Cond.code x code maxLocals ret, Jvm.Cond.code ({ cls := "com/example/latticework/latticework/Filter$Operator", name := "holds", desc := "(I)Z" } : Jvm.MethodName) prog_15_method_4_code (2 : Nat) (Option.some Jvm.ClassFile.FieldType.boolean), Jvm.Cond.code ({ cls := "java/lang/Enum", name := "ordinal", desc := "()I" } : Jvm.MethodName) jdk_37_method_2_code (1 : Nat) (Option.some Jvm.ClassFile.FieldType.int)]
set_option maxRecDepth 65536 in
theorem codes_eq : words1.filter isCode = codes1 := rfl
theorem w_codes : ∀ c ∈ words1.filter isCode, c.before args0 about1 = true := by
  rw [codes_eq]
  intro c hc
  simp only [codes1, List.mem_cons, List.not_mem_nil, or_false] at hc
  rcases hc with rfl | rfl | rfl
  · exact w_c0
  · exact w_c1
  · exact w_c2
set_option maxRecDepth 65536 in
theorem w_t1 : (words1.take 24).all (fun c => isCode c || c.before args0 about1) = true := by decide +kernel
set_option maxRecDepth 65536 in
theorem w_t2 : (words1.drop 24).all (fun c => isCode c || c.before args0 about1) = true := by decide +kernel
theorem w_tables : (allAtoms (Jvm.Cond.code x code maxLocals ret :: tables_1)).before args0 about1 = true := by
  rw [allAtoms_all]
  show words1.all (fun c => c.before args0 about1) = true
  refine all_split ?_ w_codes
  rw [← List.take_append_drop 24 words1, List.all_append, w_t1, w_t2]
  rfl
set_option maxRecDepth 65536 in
theorem w_case : (Jvm.Cond.and given_1 narrow_1).before args0 about1 = true := by decide +kernel
theorem w_applies : (headSpec (Jvm.Cond.code x code maxLocals ret :: tables_1) room_1).applies x e0.platform about1 = true :=
  (Spec.applies_iff w_frames).mpr ⟨w_running, w_runnable, w_alone, w_named, w_hears, w_ripe, w_room, w_tables⟩
theorem atStart : AtStart classFile x code maxLocals ret World_1 tables_1 room_1 Calls_1 rest_1 Pre_1 launch0 p0 e0 about1 theMethod args0 below0 :=
  ⟨lists_1, trivial, launch0.admits_env _ _ _, launch0.least_env, fairChoices_fair.cas, fairChoices_fair.clock, w_frames, w_args, w_heap, w_applies, trivial, trivial, w_case⟩
end start1
theorem witness_1 : WitnessClaimed_1 := ⟨start1.p0, start1.e0, start1.about1, start1.theMethod, start1.args0, start1.below0, start1.atStart⟩
end Jvm.Pilot.@@N@@
