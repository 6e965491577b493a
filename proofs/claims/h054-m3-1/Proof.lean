import JvmDerived
import JvmDerived.Pilot.@@N@@Statement
import JvmDerived.Pilot.@@N@@Code
set_option linter.unusedVariables false
set_option linter.unusedSimpArgs false
namespace Jvm.Pilot.@@N@@
open Jvm Jvm.ClassFile Sem Op Lib Jvm.Free Jvm.Stand Jvm.LawKit Jvm.RoadKit Bundle Jvm.Pilot.@@N@@.Jvm.D
section OwnKit
variable {p : Program} {l : Launch} {e : Env} {R : Room} {s : State} {m : MethodId} {args : Array Value} {below : List Frame} {meth : Method} {c : Code} {T : State} {locs : List Loc} {cells slots kc ks : Nat} {Q : Option Value → Heap → List Loc → Prop} {A B : State}
/-- the rest of a walk: from the state A the run comes to a return that Q describes -/
def OW (p : Program) (e : Env) (below : List Frame) (s : State) (Q : Option Value → Heap → List Loc → Prop) (kc ks : Nat) (A : State) : Prop :=
  ∃ s₂ o, Steps p.tables e below A s₂ ∧ s₂.status = .running ∧ Ended s₂ below o ∧ ∃ v L, o = .returned v ∧ Q v s₂.heap L ∧ FrameEnd s o s₂ L kc ks
theorem OW.st (h : ∀ t, Steps p.tables e below B t → Steps p.tables e below A t) (k : OW p e below s Q kc ks B) : OW p e below s Q kc ks A := by
  obtain ⟨a, o, h1, h2⟩ := k; exact ⟨a, o, h _ h1, h2⟩
theorem OW.tr (h : Steps p.tables e below A B) (k : OW p e below s Q kc ks B) : OW p e below s Q kc ks A := by
  obtain ⟨a, o, h1, h2⟩ := k; exact ⟨a, o, h.trans h1, h2⟩
theorem OW.ret (X : Stand p l e R s m args below meth c T locs cells slots) (hx : p.tables.exec = Jvm.exec) (hlk : meth.locks = false) {pc : Nat} {Ls : Array Slot} {w : Value} {t : FieldType} {i : Instr} {rest : List Value} (hret : meth.sig.returnType = some t) (hn : narrow t w = w)
    (hi : (i = .ireturn ∧ (t = .int ∨ t = .boolean ∨ t = .byte ∨ t = .char ∨ t = .short) ∧ ∃ z, w = .int z) ∨ (i = .lreturn ∧ t = .long ∧ ∃ z, w = .long z) ∨ (i = .dreturn ∧ t = .double ∧ ∃ z, w = .double z) ∨ (i = .freturn ∧ t = .float ∧ ∃ z, w = .float z) ∨ (i = .areturn ∧ t.isReference = true ∧ w.isRef = true))
    (hd : decode c.code pc = .ok (i, 1)) {h : Heap} (eT : T.heap = h) (hc : cells ≤ kc) (hs : slots ≤ ks) (q : Q (some w) h locs) : OW p e below s Q kc ks (T.setTop (mkF m pc Ls (w :: rest))) := by
  obtain ⟨fs, hr, hrun, hended, hW, hsame⟩ := X.leave (v := some w) (fun h => by rw [hret] at h; cases h) hlk
  subst eT
  exact ⟨_, _, retOut X hx hret hn hi hd hr, hrun, hended, _, _, rfl, q, ⟨_, rfl⟩, hW, hsame.mono hc hs⟩
theorem OW.retV (X : Stand p l e R s m args below meth c T locs cells slots) (hx : p.tables.exec = Jvm.exec) (hlk : meth.locks = false) {pc : Nat} {Ls : Array Slot} (hret : meth.sig.returnType = none)
    (hd : decode c.code pc = .ok (.return_, 1)) {h : Heap} (eT : T.heap = h) (hc : cells ≤ kc) (hs : slots ≤ ks) (q : Q none h locs) : OW p e below s Q kc ks (T.setTop (mkF m pc Ls [])) := by
  obtain ⟨fs, hr, hrun, hended, hW, hsame⟩ := X.leave (v := none) (fun _ => rfl) hlk
  subst eT
  exact ⟨_, _, X.returnOut hx hret hd hr, hrun, hended, _, _, rfl, q, ⟨_, rfl⟩, hW, hsame.mono hc hs⟩
/-- the same for a walk that may intern: its Stand is over 's.setVm vm0' -/
def OWW (p : Program) (e : Env) (below : List Frame) (s : State) (Q : Option Value → Heap → List Loc → Prop) (kc ks : Nat) (A : State) : Prop :=
  ∃ s₂ o, Steps p.tables e below A s₂ ∧ s₂.status = .running ∧ Ended s₂ below o ∧ ∃ v L, o = .returned v ∧ Q v s₂.heap L ∧ ReturnedEndW s o s₂ L kc ks
theorem OWW.st (h : ∀ t, Steps p.tables e below B t → Steps p.tables e below A t) (k : OWW p e below s Q kc ks B) : OWW p e below s Q kc ks A := by
  obtain ⟨a, o, h1, h2⟩ := k; exact ⟨a, o, h _ h1, h2⟩
theorem OWW.tr (h : Steps p.tables e below A B) (k : OWW p e below s Q kc ks B) : OWW p e below s Q kc ks A := by
  obtain ⟨a, o, h1, h2⟩ := k; exact ⟨a, o, h.trans h1, h2⟩
theorem OWW.ret {vm0 : Vm} {k0 : Nat} (X : Stand p l e R (s.setVm vm0) m args below meth c T locs cells slots) {h : Heap} (hS : s.Since vm0 k0) (hk : k0 ≤ h.size) (hx : p.tables.exec = Jvm.exec) (hlk : meth.locks = false) {pc : Nat} {Ls : Array Slot} {w : Value} {t : FieldType} {i : Instr} {rest : List Value} (hret : meth.sig.returnType = some t) (hn : narrow t w = w)
    (hi : (i = .ireturn ∧ (t = .int ∨ t = .boolean ∨ t = .byte ∨ t = .char ∨ t = .short) ∧ ∃ z, w = .int z) ∨ (i = .lreturn ∧ t = .long ∧ ∃ z, w = .long z) ∨ (i = .dreturn ∧ t = .double ∧ ∃ z, w = .double z) ∨ (i = .freturn ∧ t = .float ∧ ∃ z, w = .float z) ∨ (i = .areturn ∧ t.isReference = true ∧ w.isRef = true))
    (hd : decode c.code pc = .ok (i, 1)) (eT : T.heap = h) (hc : cells ≤ kc) (hs : slots ≤ ks) (q : Q (some w) h locs) : OWW p e below s Q kc ks (T.setTop (mkF m pc Ls (w :: rest))) := by
  obtain ⟨fs, hr, hrun, hended, hW, hsame⟩ := X.leave (v := some w) (fun h => by rw [hret] at h; cases h) hlk
  subst eT
  obtain ⟨g1, g2, g3⟩ := hS.ended (U := T.setFrames fs) hW hk hsame
  exact ⟨_, _, retOut X hx hret hn hi hd hr, hrun, hended, _, _, rfl, q, ⟨_, rfl⟩, g1, g2, g3.mono hc hs⟩
theorem OWW.retV {vm0 : Vm} {k0 : Nat} (X : Stand p l e R (s.setVm vm0) m args below meth c T locs cells slots) {h : Heap} (hS : s.Since vm0 k0) (hk : k0 ≤ h.size) (hx : p.tables.exec = Jvm.exec) (hlk : meth.locks = false) {pc : Nat} {Ls : Array Slot} (hret : meth.sig.returnType = none)
    (hd : decode c.code pc = .ok (.return_, 1)) (eT : T.heap = h) (hc : cells ≤ kc) (hs : slots ≤ ks) (q : Q none h locs) : OWW p e below s Q kc ks (T.setTop (mkF m pc Ls [])) := by
  obtain ⟨fs, hr, hrun, hended, hW, hsame⟩ := X.leave (v := none) (fun _ => rfl) hlk
  subst eT
  obtain ⟨g1, g2, g3⟩ := hS.ended (U := T.setFrames fs) hW hk hsame
  exact ⟨_, _, X.returnOut hx hret hd hr, hrun, hended, _, _, rfl, q, ⟨_, rfl⟩, g1, g2, g3.mono hc hs⟩
end OwnKit
section OwnWords
variable {args : Array Value} {first s : State} {o : Option Outcome} {idx : List Nat} {t : Term}
theorem own_eq_int {k : Int32} (h : (Jvm.Cond.eq t (.int k)).value args first o s idx = some true) : t.eval args first o idx s = some (.int k) := by
  obtain ⟨x, y, h1, h2, k1, k2⟩ := cmp_v (Or.inl h)
  rw [Term.int_eval] at h2
  cases h2
  obtain ⟨z, rfl⟩ := k2
  rw [h1, gotT (Cond.eq_ints h1 (Term.int_eval k)) h]
theorem own_eq_ref {u : Term} {a : Addr} (h : (Jvm.Cond.eq t u).value args first o s idx = some true) (hu : u.eval args first o idx s = some (.ref a)) : t.eval args first o idx s = some (.ref a) := by
  obtain ⟨x, y, h1, h2, k1, k2⟩ := cmp_v (Or.inl h)
  cases hu.symm.trans h2
  have q := gotT (eq_R h1 hu k2.2 rfl) h
  rw [h1, q]
theorem own_arr {ty : FieldType} {a : Addr} {z : Int32} (ev : t.eval args s none [] s = some (.ref a)) (ha : (Jvm.Cond.arrayOf t ty).value args s none s [] = some true) (hl : (Term.length t).eval args s none [] s = some (.int z)) :
    ∃ cl : Cell, Arr s s.heap a cl ty ∧ cl.slots.size < 2 ^ 31 ∧ cl.slots.size.toInt32 = z ∧ ∀ j : Int32, ¬ j < 0 → ∀ v, (Term.elem t (.int j)).eval args s none [] s = some v → cl.slots[j.toNatClampNeg]? = some v := by
  obtain ⟨cl, A⟩ := Arr.start ev ha
  have hat := A.fin (Vm.Alike.refl _)
  have hlt : cl.slots.size < 2 ^ 31 := by
    refine Decidable.byContradiction fun q => ?_
    simp [Term.eval, ev, hat, q] at hl
  refine ⟨cl, A, hlt, ?_, fun j hj v hv => ?_⟩
  · rw [len_f ev hat hlt] at hl; exact Value.int.inj (Option.some.inj hl)
  · rw [elem_f ev (Term.int_eval j) hat hj] at hv; exact hv
end OwnWords
theorem own_oldle {Z : State} {n0 : Nat} {h : Heap} (X : Old Z n0 h) : n0 ≤ h.size := X.1 ▸ X.2.1
theorem own_cat {v : Value} (h : v.isRef = true) : v.category = 1 := by cases v <;> first | rfl | simp [Value.isRef] at h
theorem own_nar {v : Value} {t : FieldType} (h : v.isRef = true) (ht : t.isReference = true) : narrow t v = v := by cases t <;> first | (cases ht; done) | (cases v <;> first | rfl | simp [Value.isRef] at h)
theorem own_fit {v : Value} {t : FieldType} (h : v.isRef = true) (ht : t.isReference = true) : fits t v = true := by cases t <;> first | (cases ht; done) | (cases v <;> first | rfl | simp [Value.isRef] at h)

theorem own_nz {r : Int32} (h : r = 0 ∨ r = 1) : narrow .boolean (.int r) = .int r := by rcases h with rfl | rfl <;> rfl
theorem own_fz {r : Int32} (h : r = 0 ∨ r = 1) : fits .boolean (.int r) = true := by rcases h with rfl | rfl <;> rfl
theorem w_0 {a0 : Array Value} {Z : State} (hw : ∀ d ∈ tables_1, d.before a0 Z = true) : (Jvm.Cond.methodLink "tenorbook/core/FrequencyOfPerYearPinLaw" (22 : Nat) ({ cls := "tenorbook/core/FrequencyOfPerYearPinLaw", name := "expected", desc := "(I)Ltenorbook/core/Frequency;" } : Jvm.MethodName)).before a0 Z = true := hw _ (List.mem_of_getElem? (i := 0) rfl)
theorem w_1 {a0 : Array Value} {Z : State} (hw : ∀ d ∈ tables_1, d.before a0 Z = true) : (Jvm.Cond.static ({ cls := "tenorbook/core/FrequencyOfPerYearPinLaw", name := "expected", desc := "(I)Ltenorbook/core/Frequency;" } : Jvm.MethodName)).before a0 Z = true := hw _ (List.mem_of_getElem? (i := 1) rfl)
theorem w_2 {a0 : Array Value} {Z : State} (hw : ∀ d ∈ tables_1, d.before a0 Z = true) : (Jvm.Cond.initialized "tenorbook/core/FrequencyOfPerYearPinLaw").before a0 Z = true := hw _ (List.mem_of_getElem? (i := 2) rfl)
theorem w_3 {a0 : Array Value} {Z : State} (hw : ∀ d ∈ tables_1, d.before a0 Z = true) : (Jvm.Cond.code ({ cls := "tenorbook/core/FrequencyOfPerYearPinLaw", name := "expected", desc := "(I)Ltenorbook/core/Frequency;" } : Jvm.MethodName) method_2_code (1 : Nat) (Option.some (Jvm.ClassFile.FieldType.object "tenorbook/core/Frequency"))).before a0 Z = true := hw _ (List.mem_of_getElem? (i := 3) rfl)
theorem w_4 {a0 : Array Value} {Z : State} (hw : ∀ d ∈ tables_1, d.before a0 Z = true) : (Jvm.Cond.methodLink "tenorbook/core/FrequencyOfPerYearPinLaw" (28 : Nat) ({ cls := "tenorbook/core/Frequency", name := "ofPerYear", desc := "(I)Ljava/util/Optional;" } : Jvm.MethodName)).before a0 Z = true := hw _ (List.mem_of_getElem? (i := 4) rfl)
theorem w_5 {a0 : Array Value} {Z : State} (hw : ∀ d ∈ tables_1, d.before a0 Z = true) : (Jvm.Cond.static ({ cls := "tenorbook/core/Frequency", name := "ofPerYear", desc := "(I)Ljava/util/Optional;" } : Jvm.MethodName)).before a0 Z = true := hw _ (List.mem_of_getElem? (i := 5) rfl)
theorem w_6 {a0 : Array Value} {Z : State} (hw : ∀ d ∈ tables_1, d.before a0 Z = true) : (Jvm.Cond.initialized "tenorbook/core/Frequency").before a0 Z = true := hw _ (List.mem_of_getElem? (i := 6) rfl)
theorem w_7 {a0 : Array Value} {Z : State} (hw : ∀ d ∈ tables_1, d.before a0 Z = true) : (Jvm.Cond.code ({ cls := "tenorbook/core/Frequency", name := "ofPerYear", desc := "(I)Ljava/util/Optional;" } : Jvm.MethodName) prog_65_method_4_code (5 : Nat) (Option.some (Jvm.ClassFile.FieldType.object "java/util/Optional"))).before a0 Z = true := hw _ (List.mem_of_getElem? (i := 7) rfl)
theorem w_8 {a0 : Array Value} {Z : State} (hw : ∀ d ∈ tables_1, d.before a0 Z = true) : (Jvm.Cond.methodLink "tenorbook/core/Frequency" (39 : Nat) ({ cls := "tenorbook/core/Frequency", name := "values", desc := "()[Ltenorbook/core/Frequency;" } : Jvm.MethodName)).before a0 Z = true := hw _ (List.mem_of_getElem? (i := 8) rfl)
theorem w_9 {a0 : Array Value} {Z : State} (hw : ∀ d ∈ tables_1, d.before a0 Z = true) : (Jvm.Cond.static ({ cls := "tenorbook/core/Frequency", name := "values", desc := "()[Ltenorbook/core/Frequency;" } : Jvm.MethodName)).before a0 Z = true := hw _ (List.mem_of_getElem? (i := 9) rfl)
theorem w_10 {a0 : Array Value} {Z : State} (hw : ∀ d ∈ tables_1, d.before a0 Z = true) : (Jvm.Cond.code ({ cls := "tenorbook/core/Frequency", name := "values", desc := "()[Ltenorbook/core/Frequency;" } : Jvm.MethodName) prog_65_method_1_code (0 : Nat) (Option.some (Jvm.ClassFile.FieldType.array (Jvm.ClassFile.FieldType.object "tenorbook/core/Frequency")))).before a0 Z = true := hw _ (List.mem_of_getElem? (i := 10) rfl)
theorem w_11 {a0 : Array Value} {Z : State} (hw : ∀ d ∈ tables_1, d.before a0 Z = true) : (Jvm.Cond.fieldLink "tenorbook/core/Frequency" (16 : Nat) "tenorbook/core/Frequency" "$VALUES" "[Ltenorbook/core/Frequency;").before a0 Z = true := hw _ (List.mem_of_getElem? (i := 11) rfl)
theorem w_13 {a0 : Array Value} {Z : State} (hw : ∀ d ∈ tables_1, d.before a0 Z = true) : (Jvm.Cond.methodLink "tenorbook/core/Frequency" (20 : Nat) ({ cls := "[Ltenorbook/core/Frequency;", name := "clone", desc := "()Ljava/lang/Object;" } : Jvm.MethodName)).before a0 Z = true := hw _ (List.mem_of_getElem? (i := 13) rfl)
theorem w_14 {a0 : Array Value} {Z : State} (hw : ∀ d ∈ tables_1, d.before a0 Z = true) : (Jvm.Cond.sameMethod "[Ltenorbook/core/Frequency;" "java/lang/Object" "clone" "()Ljava/lang/Object;").before a0 Z = true := hw _ (List.mem_of_getElem? (i := 14) rfl)
theorem w_16 {a0 : Array Value} {Z : State} (hw : ∀ d ∈ tables_1, d.before a0 Z = true) : (Jvm.Cond.instanceMethod ({ cls := "java/lang/Object", name := "clone", desc := "()Ljava/lang/Object;" } : Jvm.MethodName)).before a0 Z = true := hw _ (List.mem_of_getElem? (i := 16) rfl)
theorem w_17 {a0 : Array Value} {Z : State} (hw : ∀ d ∈ tables_1, d.before a0 Z = true) : (Jvm.Cond.selects "[Ltenorbook/core/Frequency;" ({ cls := "[Ltenorbook/core/Frequency;", name := "clone", desc := "()Ljava/lang/Object;" } : Jvm.MethodName) ({ cls := "java/lang/Object", name := "clone", desc := "()Ljava/lang/Object;" } : Jvm.MethodName)).before a0 Z = true := hw _ (List.mem_of_getElem? (i := 17) rfl)
theorem w_18 {a0 : Array Value} {Z : State} (hw : ∀ d ∈ tables_1, d.before a0 Z = true) : (Jvm.Cond.native ({ cls := "java/lang/Object", name := "clone", desc := "()Ljava/lang/Object;" } : Jvm.MethodName)).before a0 Z = true := hw _ (List.mem_of_getElem? (i := 18) rfl)
theorem w_19 {a0 : Array Value} {Z : State} (hw : ∀ d ∈ tables_1, d.before a0 Z = true) : (Jvm.Cond.castable "[Ltenorbook/core/Frequency;" "java/lang/Cloneable").before a0 Z = true := hw _ (List.mem_of_getElem? (i := 19) rfl)
theorem w_20 {a0 : Array Value} {Z : State} (hw : ∀ d ∈ tables_1, d.before a0 Z = true) : (Jvm.Cond.laysStatic "tenorbook/core/Frequency" "ANNUAL" "Ltenorbook/core/Frequency;").before a0 Z = true := hw _ (List.mem_of_getElem? (i := 20) rfl)
theorem w_21 {a0 : Array Value} {Z : State} (hw : ∀ d ∈ tables_1, d.before a0 Z = true) : (Jvm.Cond.laysStatic "tenorbook/core/Frequency" "SEMIANNUAL" "Ltenorbook/core/Frequency;").before a0 Z = true := hw _ (List.mem_of_getElem? (i := 21) rfl)
theorem w_22 {a0 : Array Value} {Z : State} (hw : ∀ d ∈ tables_1, d.before a0 Z = true) : (Jvm.Cond.laysStatic "tenorbook/core/Frequency" "QUARTERLY" "Ltenorbook/core/Frequency;").before a0 Z = true := hw _ (List.mem_of_getElem? (i := 22) rfl)
theorem w_23 {a0 : Array Value} {Z : State} (hw : ∀ d ∈ tables_1, d.before a0 Z = true) : (Jvm.Cond.laysStatic "tenorbook/core/Frequency" "MONTHLY" "Ltenorbook/core/Frequency;").before a0 Z = true := hw _ (List.mem_of_getElem? (i := 23) rfl)
theorem w_24 {a0 : Array Value} {Z : State} (hw : ∀ d ∈ tables_1, d.before a0 Z = true) : (Jvm.Cond.initializedFor "tenorbook/core/Frequency" "$VALUES" "[Ltenorbook/core/Frequency;").before a0 Z = true := hw _ (List.mem_of_getElem? (i := 24) rfl)
theorem w_25 {a0 : Array Value} {Z : State} (hw : ∀ d ∈ tables_1, d.before a0 Z = true) : (Jvm.Cond.classLink "tenorbook/core/Frequency" (21 : Nat) "[Ltenorbook/core/Frequency;").before a0 Z = true := hw _ (List.mem_of_getElem? (i := 25) rfl)
theorem w_27 {a0 : Array Value} {Z : State} (hw : ∀ d ∈ tables_1, d.before a0 Z = true) : (Jvm.Cond.fieldLink "tenorbook/core/Frequency" (35 : Nat) "tenorbook/core/Frequency" "mPerYear" "I").before a0 Z = true := hw _ (List.mem_of_getElem? (i := 27) rfl)
theorem w_29 {a0 : Array Value} {Z : State} (hw : ∀ d ∈ tables_1, d.before a0 Z = true) : (Jvm.Cond.methodLink "tenorbook/core/Frequency" (49 : Nat) ({ cls := "java/util/Optional", name := "empty", desc := "()Ljava/util/Optional;" } : Jvm.MethodName)).before a0 Z = true := hw _ (List.mem_of_getElem? (i := 29) rfl)
theorem w_30 {a0 : Array Value} {Z : State} (hw : ∀ d ∈ tables_1, d.before a0 Z = true) : (Jvm.Cond.static ({ cls := "java/util/Optional", name := "empty", desc := "()Ljava/util/Optional;" } : Jvm.MethodName)).before a0 Z = true := hw _ (List.mem_of_getElem? (i := 30) rfl)
theorem w_31 {a0 : Array Value} {Z : State} (hw : ∀ d ∈ tables_1, d.before a0 Z = true) : (Jvm.Cond.initialized "java/util/Optional").before a0 Z = true := hw _ (List.mem_of_getElem? (i := 31) rfl)
theorem w_32 {a0 : Array Value} {Z : State} (hw : ∀ d ∈ tables_1, d.before a0 Z = true) : (Jvm.Cond.code ({ cls := "java/util/Optional", name := "empty", desc := "()Ljava/util/Optional;" } : Jvm.MethodName) jdk_32_method_1_code (1 : Nat) (Option.some (Jvm.ClassFile.FieldType.object "java/util/Optional"))).before a0 Z = true := hw _ (List.mem_of_getElem? (i := 32) rfl)
theorem w_33 {a0 : Array Value} {Z : State} (hw : ∀ d ∈ tables_1, d.before a0 Z = true) : (Jvm.Cond.fieldLink "java/util/Optional" (1 : Nat) "java/util/Optional" "EMPTY" "Ljava/util/Optional;").before a0 Z = true := hw _ (List.mem_of_getElem? (i := 33) rfl)
theorem w_34 {a0 : Array Value} {Z : State} (hw : ∀ d ∈ tables_1, d.before a0 Z = true) : (Jvm.Cond.methodLink "tenorbook/core/FrequencyOfPerYearPinLaw" (32 : Nat) ({ cls := "java/util/Optional", name := "isPresent", desc := "()Z" } : Jvm.MethodName)).before a0 Z = true := hw _ (List.mem_of_getElem? (i := 34) rfl)
theorem w_35 {a0 : Array Value} {Z : State} (hw : ∀ d ∈ tables_1, d.before a0 Z = true) : (Jvm.Cond.declares ({ cls := "java/util/Optional", name := "isPresent", desc := "()Z" } : Jvm.MethodName)).before a0 Z = true := hw _ (List.mem_of_getElem? (i := 35) rfl)
theorem w_36 {a0 : Array Value} {Z : State} (hw : ∀ d ∈ tables_1, d.before a0 Z = true) : (Jvm.Cond.instanceMethod ({ cls := "java/util/Optional", name := "isPresent", desc := "()Z" } : Jvm.MethodName)).before a0 Z = true := hw _ (List.mem_of_getElem? (i := 36) rfl)
theorem w_37 {a0 : Array Value} {Z : State} (hw : ∀ d ∈ tables_1, d.before a0 Z = true) : (Jvm.Cond.selects "java/util/Optional" ({ cls := "java/util/Optional", name := "isPresent", desc := "()Z" } : Jvm.MethodName) ({ cls := "java/util/Optional", name := "isPresent", desc := "()Z" } : Jvm.MethodName)).before a0 Z = true := hw _ (List.mem_of_getElem? (i := 37) rfl)
theorem w_38 {a0 : Array Value} {Z : State} (hw : ∀ d ∈ tables_1, d.before a0 Z = true) : (Jvm.Cond.code ({ cls := "java/util/Optional", name := "isPresent", desc := "()Z" } : Jvm.MethodName) jdk_32_method_6_code (1 : Nat) (Option.some Jvm.ClassFile.FieldType.boolean)).before a0 Z = true := hw _ (List.mem_of_getElem? (i := 38) rfl)
theorem w_39 {a0 : Array Value} {Z : State} (hw : ∀ d ∈ tables_1, d.before a0 Z = true) : (Jvm.Cond.fieldLink "java/util/Optional" (13 : Nat) "java/util/Optional" "value" "Ljava/lang/Object;").before a0 Z = true := hw _ (List.mem_of_getElem? (i := 39) rfl)
theorem w_40 {a0 : Array Value} {Z : State} (hw : ∀ d ∈ tables_1, d.before a0 Z = true) : (Jvm.Cond.laysFinal "java/util/Optional" "java/util/Optional" "value" "Ljava/lang/Object;").before a0 Z = true := hw _ (List.mem_of_getElem? (i := 40) rfl)
theorem w_41 {a0 : Array Value} {Z : State} (hw : ∀ d ∈ tables_1, d.before a0 Z = true) : (Jvm.Cond.fieldLink "tenorbook/core/FrequencyOfPerYearPinLaw" (19 : Nat) "tenorbook/core/Frequency" "MONTHLY" "Ltenorbook/core/Frequency;").before a0 Z = true := hw _ (List.mem_of_getElem? (i := 41) rfl)
theorem w_42 {a0 : Array Value} {Z : State} (hw : ∀ d ∈ tables_1, d.before a0 Z = true) : (Jvm.Cond.methodLink "tenorbook/core/Frequency" (43 : Nat) ({ cls := "java/util/Optional", name := "of", desc := "(Ljava/lang/Object;)Ljava/util/Optional;" } : Jvm.MethodName)).before a0 Z = true := hw _ (List.mem_of_getElem? (i := 42) rfl)
theorem w_43 {a0 : Array Value} {Z : State} (hw : ∀ d ∈ tables_1, d.before a0 Z = true) : (Jvm.Cond.static ({ cls := "java/util/Optional", name := "of", desc := "(Ljava/lang/Object;)Ljava/util/Optional;" } : Jvm.MethodName)).before a0 Z = true := hw _ (List.mem_of_getElem? (i := 43) rfl)
theorem w_44 {a0 : Array Value} {Z : State} (hw : ∀ d ∈ tables_1, d.before a0 Z = true) : (Jvm.Cond.code ({ cls := "java/util/Optional", name := "of", desc := "(Ljava/lang/Object;)Ljava/util/Optional;" } : Jvm.MethodName) jdk_32_method_3_code (1 : Nat) (Option.some (Jvm.ClassFile.FieldType.object "java/util/Optional"))).before a0 Z = true := hw _ (List.mem_of_getElem? (i := 44) rfl)
theorem w_45 {a0 : Array Value} {Z : State} (hw : ∀ d ∈ tables_1, d.before a0 Z = true) : (Jvm.Cond.classLink "java/util/Optional" (2 : Nat) "java/util/Optional").before a0 Z = true := hw _ (List.mem_of_getElem? (i := 45) rfl)
theorem w_46 {a0 : Array Value} {Z : State} (hw : ∀ d ∈ tables_1, d.before a0 Z = true) : (Jvm.Cond.instantiable "java/util/Optional" (1 : Nat)).before a0 Z = true := hw _ (List.mem_of_getElem? (i := 46) rfl)
theorem w_47 {a0 : Array Value} {Z : State} (hw : ∀ d ∈ tables_1, d.before a0 Z = true) : (Jvm.Cond.methodLink "java/util/Optional" (17 : Nat) ({ cls := "java/util/Objects", name := "requireNonNull", desc := "(Ljava/lang/Object;)Ljava/lang/Object;" } : Jvm.MethodName)).before a0 Z = true := hw _ (List.mem_of_getElem? (i := 47) rfl)
theorem w_48 {a0 : Array Value} {Z : State} (hw : ∀ d ∈ tables_1, d.before a0 Z = true) : (Jvm.Cond.static ({ cls := "java/util/Objects", name := "requireNonNull", desc := "(Ljava/lang/Object;)Ljava/lang/Object;" } : Jvm.MethodName)).before a0 Z = true := hw _ (List.mem_of_getElem? (i := 48) rfl)
theorem w_49 {a0 : Array Value} {Z : State} (hw : ∀ d ∈ tables_1, d.before a0 Z = true) : (Jvm.Cond.initialized "java/util/Objects").before a0 Z = true := hw _ (List.mem_of_getElem? (i := 49) rfl)
theorem w_50 {a0 : Array Value} {Z : State} (hw : ∀ d ∈ tables_1, d.before a0 Z = true) : (Jvm.Cond.code ({ cls := "java/util/Objects", name := "requireNonNull", desc := "(Ljava/lang/Object;)Ljava/lang/Object;" } : Jvm.MethodName) jdk_31_method_10_code (1 : Nat) (Option.some (Jvm.ClassFile.FieldType.object "java/lang/Object"))).before a0 Z = true := hw _ (List.mem_of_getElem? (i := 50) rfl)
theorem w_51 {a0 : Array Value} {Z : State} (hw : ∀ d ∈ tables_1, d.before a0 Z = true) : (Jvm.Cond.methodLink "java/util/Optional" (23 : Nat) ({ cls := "java/util/Optional", name := "<init>", desc := "(Ljava/lang/Object;)V" } : Jvm.MethodName)).before a0 Z = true := hw _ (List.mem_of_getElem? (i := 51) rfl)
theorem w_52 {a0 : Array Value} {Z : State} (hw : ∀ d ∈ tables_1, d.before a0 Z = true) : (Jvm.Cond.instanceMethod ({ cls := "java/util/Optional", name := "<init>", desc := "(Ljava/lang/Object;)V" } : Jvm.MethodName)).before a0 Z = true := hw _ (List.mem_of_getElem? (i := 52) rfl)
theorem w_54 {a0 : Array Value} {Z : State} (hw : ∀ d ∈ tables_1, d.before a0 Z = true) : (Jvm.Cond.code ({ cls := "java/util/Optional", name := "<init>", desc := "(Ljava/lang/Object;)V" } : Jvm.MethodName) jdk_32_method_2_code (2 : Nat) (Option.none : Option Jvm.ClassFile.FieldType)).before a0 Z = true := hw _ (List.mem_of_getElem? (i := 54) rfl)
theorem w_55 {a0 : Array Value} {Z : State} (hw : ∀ d ∈ tables_1, d.before a0 Z = true) : (Jvm.Cond.methodLink "java/util/Optional" (7 : Nat) ({ cls := "java/lang/Object", name := "<init>", desc := "()V" } : Jvm.MethodName)).before a0 Z = true := hw _ (List.mem_of_getElem? (i := 55) rfl)
theorem w_56 {a0 : Array Value} {Z : State} (hw : ∀ d ∈ tables_1, d.before a0 Z = true) : (Jvm.Cond.instanceMethod ({ cls := "java/lang/Object", name := "<init>", desc := "()V" } : Jvm.MethodName)).before a0 Z = true := hw _ (List.mem_of_getElem? (i := 56) rfl)
theorem w_57 {a0 : Array Value} {Z : State} (hw : ∀ d ∈ tables_1, d.before a0 Z = true) : (Jvm.Cond.code ({ cls := "java/lang/Object", name := "<init>", desc := "()V" } : Jvm.MethodName) object_method_1_code (1 : Nat) (Option.none : Option Jvm.ClassFile.FieldType)).before a0 Z = true := hw _ (List.mem_of_getElem? (i := 57) rfl)
theorem w_58 {a0 : Array Value} {Z : State} (hw : ∀ d ∈ tables_1, d.before a0 Z = true) : (Jvm.Cond.methodLink "tenorbook/core/FrequencyOfPerYearPinLaw" (38 : Nat) ({ cls := "java/util/Optional", name := "get", desc := "()Ljava/lang/Object;" } : Jvm.MethodName)).before a0 Z = true := hw _ (List.mem_of_getElem? (i := 58) rfl)
theorem w_59 {a0 : Array Value} {Z : State} (hw : ∀ d ∈ tables_1, d.before a0 Z = true) : (Jvm.Cond.declares ({ cls := "java/util/Optional", name := "get", desc := "()Ljava/lang/Object;" } : Jvm.MethodName)).before a0 Z = true := hw _ (List.mem_of_getElem? (i := 59) rfl)
theorem w_60 {a0 : Array Value} {Z : State} (hw : ∀ d ∈ tables_1, d.before a0 Z = true) : (Jvm.Cond.instanceMethod ({ cls := "java/util/Optional", name := "get", desc := "()Ljava/lang/Object;" } : Jvm.MethodName)).before a0 Z = true := hw _ (List.mem_of_getElem? (i := 60) rfl)
theorem w_61 {a0 : Array Value} {Z : State} (hw : ∀ d ∈ tables_1, d.before a0 Z = true) : (Jvm.Cond.selects "java/util/Optional" ({ cls := "java/util/Optional", name := "get", desc := "()Ljava/lang/Object;" } : Jvm.MethodName) ({ cls := "java/util/Optional", name := "get", desc := "()Ljava/lang/Object;" } : Jvm.MethodName)).before a0 Z = true := hw _ (List.mem_of_getElem? (i := 61) rfl)
theorem w_62 {a0 : Array Value} {Z : State} (hw : ∀ d ∈ tables_1, d.before a0 Z = true) : (Jvm.Cond.code ({ cls := "java/util/Optional", name := "get", desc := "()Ljava/lang/Object;" } : Jvm.MethodName) jdk_32_method_5_code (1 : Nat) (Option.some (Jvm.ClassFile.FieldType.object "java/lang/Object"))).before a0 Z = true := hw _ (List.mem_of_getElem? (i := 62) rfl)
theorem w_63 {a0 : Array Value} {Z : State} (hw : ∀ d ∈ tables_1, d.before a0 Z = true) : (Jvm.Cond.fieldLink "tenorbook/core/FrequencyOfPerYearPinLaw" (13 : Nat) "tenorbook/core/Frequency" "SEMIANNUAL" "Ltenorbook/core/Frequency;").before a0 Z = true := hw _ (List.mem_of_getElem? (i := 63) rfl)
theorem w_64 {a0 : Array Value} {Z : State} (hw : ∀ d ∈ tables_1, d.before a0 Z = true) : (Jvm.Cond.fieldLink "tenorbook/core/FrequencyOfPerYearPinLaw" (7 : Nat) "tenorbook/core/Frequency" "ANNUAL" "Ltenorbook/core/Frequency;").before a0 Z = true := hw _ (List.mem_of_getElem? (i := 64) rfl)
theorem w_65 {a0 : Array Value} {Z : State} (hw : ∀ d ∈ tables_1, d.before a0 Z = true) : (Jvm.Cond.fieldLink "tenorbook/core/FrequencyOfPerYearPinLaw" (16 : Nat) "tenorbook/core/Frequency" "QUARTERLY" "Ltenorbook/core/Frequency;").before a0 Z = true := hw _ (List.mem_of_getElem? (i := 65) rfl)
theorem d1_0 : decode method_2_code 0 = .ok (.iload_n 0, 1) := by decide +kernel
theorem d1_1 : decode method_2_code 1 = .ok (.iconst 1, 1) := by decide +kernel
theorem d1_2 : decode method_2_code 2 = .ok (.if_icmp .ne 7, 3) := by decide +kernel
theorem d1_5 : decode method_2_code 5 = .ok (.getstatic 7, 3) := by decide +kernel
theorem d1_8 : decode method_2_code 8 = .ok (.areturn, 1) := by decide +kernel
theorem d1_9 : decode method_2_code 9 = .ok (.iload_n 0, 1) := by decide +kernel
theorem d1_10 : decode method_2_code 10 = .ok (.iconst 2, 1) := by decide +kernel
theorem d1_11 : decode method_2_code 11 = .ok (.if_icmp .ne 7, 3) := by decide +kernel
theorem d1_14 : decode method_2_code 14 = .ok (.getstatic 13, 3) := by decide +kernel
theorem d1_17 : decode method_2_code 17 = .ok (.areturn, 1) := by decide +kernel
theorem d1_18 : decode method_2_code 18 = .ok (.iload_n 0, 1) := by decide +kernel
theorem d1_19 : decode method_2_code 19 = .ok (.iconst 4, 1) := by decide +kernel
theorem d1_20 : decode method_2_code 20 = .ok (.if_icmp .ne 7, 3) := by decide +kernel
theorem d1_23 : decode method_2_code 23 = .ok (.getstatic 16, 3) := by decide +kernel
theorem d1_26 : decode method_2_code 26 = .ok (.areturn, 1) := by decide +kernel
theorem d1_27 : decode method_2_code 27 = .ok (.iload_n 0, 1) := by decide +kernel
theorem d1_28 : decode method_2_code 28 = .ok (.bipush 12, 2) := by decide +kernel
theorem d1_30 : decode method_2_code 30 = .ok (.if_icmp .ne 7, 3) := by decide +kernel
theorem d1_33 : decode method_2_code 33 = .ok (.getstatic 19, 3) := by decide +kernel
theorem d1_36 : decode method_2_code 36 = .ok (.areturn, 1) := by decide +kernel
theorem d1_37 : decode method_2_code 37 = .ok (.aconst_null, 1) := by decide +kernel
theorem d1_38 : decode method_2_code 38 = .ok (.areturn, 1) := by decide +kernel
theorem d2_0 : decode prog_65_method_4_code 0 = .ok (.invokestatic 39, 3) := by decide +kernel
theorem d2_3 : decode prog_65_method_4_code 3 = .ok (.astore_n 1, 1) := by decide +kernel
theorem d2_4 : decode prog_65_method_4_code 4 = .ok (.aload_n 1, 1) := by decide +kernel
theorem d2_5 : decode prog_65_method_4_code 5 = .ok (.arraylength, 1) := by decide +kernel
theorem d2_6 : decode prog_65_method_4_code 6 = .ok (.istore_n 2, 1) := by decide +kernel
theorem d2_7 : decode prog_65_method_4_code 7 = .ok (.iconst 0, 1) := by decide +kernel
theorem d2_8 : decode prog_65_method_4_code 8 = .ok (.istore_n 3, 1) := by decide +kernel
theorem d2_9 : decode prog_65_method_4_code 9 = .ok (.iload_n 3, 1) := by decide +kernel
theorem d2_10 : decode prog_65_method_4_code 10 = .ok (.iload_n 2, 1) := by decide +kernel
theorem d2_11 : decode prog_65_method_4_code 11 = .ok (.if_icmp .ge 29, 3) := by decide +kernel
theorem d2_14 : decode prog_65_method_4_code 14 = .ok (.aload_n 1, 1) := by decide +kernel
theorem d2_15 : decode prog_65_method_4_code 15 = .ok (.iload_n 3, 1) := by decide +kernel
theorem d2_16 : decode prog_65_method_4_code 16 = .ok (.aaload, 1) := by decide +kernel
theorem d2_17 : decode prog_65_method_4_code 17 = .ok (.astore 4, 2) := by decide +kernel
theorem d2_19 : decode prog_65_method_4_code 19 = .ok (.aload 4, 2) := by decide +kernel
theorem d2_21 : decode prog_65_method_4_code 21 = .ok (.getfield 35, 3) := by decide +kernel
theorem d2_24 : decode prog_65_method_4_code 24 = .ok (.iload_n 0, 1) := by decide +kernel
theorem d2_25 : decode prog_65_method_4_code 25 = .ok (.if_icmp .ne 9, 3) := by decide +kernel
theorem d2_28 : decode prog_65_method_4_code 28 = .ok (.aload 4, 2) := by decide +kernel
theorem d2_30 : decode prog_65_method_4_code 30 = .ok (.invokestatic 43, 3) := by decide +kernel
theorem d2_33 : decode prog_65_method_4_code 33 = .ok (.areturn, 1) := by decide +kernel
theorem d2_34 : decode prog_65_method_4_code 34 = .ok (.iinc 3 1, 3) := by decide +kernel
theorem d2_37 : decode prog_65_method_4_code 37 = .ok (.goto (-28), 3) := by decide +kernel
theorem d2_40 : decode prog_65_method_4_code 40 = .ok (.invokestatic 49, 3) := by decide +kernel
theorem d2_43 : decode prog_65_method_4_code 43 = .ok (.areturn, 1) := by decide +kernel
theorem d3_0 : decode prog_65_method_1_code 0 = .ok (.getstatic 16, 3) := by decide +kernel
theorem d3_3 : decode prog_65_method_1_code 3 = .ok (.invokevirtual 20, 3) := by decide +kernel
theorem d3_6 : decode prog_65_method_1_code 6 = .ok (.checkcast 21, 3) := by decide +kernel
theorem d3_9 : decode prog_65_method_1_code 9 = .ok (.areturn, 1) := by decide +kernel
theorem d4_0 : decode jdk_32_method_1_code 0 = .ok (.getstatic 1, 3) := by decide +kernel
theorem d4_3 : decode jdk_32_method_1_code 3 = .ok (.astore_n 0, 1) := by decide +kernel
theorem d4_4 : decode jdk_32_method_1_code 4 = .ok (.aload_n 0, 1) := by decide +kernel
theorem d4_5 : decode jdk_32_method_1_code 5 = .ok (.areturn, 1) := by decide +kernel
theorem d5_0 : decode jdk_32_method_6_code 0 = .ok (.aload_n 0, 1) := by decide +kernel
theorem d5_1 : decode jdk_32_method_6_code 1 = .ok (.getfield 13, 3) := by decide +kernel
theorem d5_4 : decode jdk_32_method_6_code 4 = .ok (.ifnull 7, 3) := by decide +kernel
theorem d5_7 : decode jdk_32_method_6_code 7 = .ok (.iconst 1, 1) := by decide +kernel
theorem d5_8 : decode jdk_32_method_6_code 8 = .ok (.goto 4, 3) := by decide +kernel
theorem d5_11 : decode jdk_32_method_6_code 11 = .ok (.iconst 0, 1) := by decide +kernel
theorem d5_12 : decode jdk_32_method_6_code 12 = .ok (.ireturn, 1) := by decide +kernel
theorem d6_0 : decode jdk_32_method_3_code 0 = .ok (.new 2, 3) := by decide +kernel
theorem d6_3 : decode jdk_32_method_3_code 3 = .ok (.dup, 1) := by decide +kernel
theorem d6_4 : decode jdk_32_method_3_code 4 = .ok (.aload_n 0, 1) := by decide +kernel
theorem d6_5 : decode jdk_32_method_3_code 5 = .ok (.invokestatic 17, 3) := by decide +kernel
theorem d6_8 : decode jdk_32_method_3_code 8 = .ok (.invokespecial 23, 3) := by decide +kernel
theorem d6_11 : decode jdk_32_method_3_code 11 = .ok (.areturn, 1) := by decide +kernel
theorem d7_0 : decode jdk_31_method_10_code 0 = .ok (.aload_n 0, 1) := by decide +kernel
theorem d7_1 : decode jdk_31_method_10_code 1 = .ok (.ifnonnull 11, 3) := by decide +kernel
theorem d7_12 : decode jdk_31_method_10_code 12 = .ok (.aload_n 0, 1) := by decide +kernel
theorem d7_13 : decode jdk_31_method_10_code 13 = .ok (.areturn, 1) := by decide +kernel
theorem d8_0 : decode jdk_32_method_2_code 0 = .ok (.aload_n 0, 1) := by decide +kernel
theorem d8_1 : decode jdk_32_method_2_code 1 = .ok (.invokespecial 7, 3) := by decide +kernel
theorem d8_4 : decode jdk_32_method_2_code 4 = .ok (.aload_n 0, 1) := by decide +kernel
theorem d8_5 : decode jdk_32_method_2_code 5 = .ok (.aload_n 1, 1) := by decide +kernel
theorem d8_6 : decode jdk_32_method_2_code 6 = .ok (.putfield 13, 3) := by decide +kernel
theorem d8_9 : decode jdk_32_method_2_code 9 = .ok (.return_, 1) := by decide +kernel
theorem d10_0 : decode jdk_32_method_5_code 0 = .ok (.aload_n 0, 1) := by decide +kernel
theorem d10_1 : decode jdk_32_method_5_code 1 = .ok (.getfield 13, 3) := by decide +kernel
theorem d10_4 : decode jdk_32_method_5_code 4 = .ok (.ifnonnull 13, 3) := by decide +kernel
theorem d10_17 : decode jdk_32_method_5_code 17 = .ok (.aload_n 0, 1) := by decide +kernel
theorem d10_18 : decode jdk_32_method_5_code 18 = .ok (.getfield 13, 3) := by decide +kernel
theorem d10_21 : decode jdk_32_method_5_code 21 = .ok (.areturn, 1) := by decide +kernel
theorem pn_0 : plainName "tenorbook/core/Frequency" = true := by first | (simp [plainName, overriddenIn]; done) | decide +kernel
theorem pn_1 : plainName "java/util/Objects" = true := by first | (simp [plainName, overriddenIn]; done) | decide +kernel
theorem pn_2 : plainName "java/util/Optional" = true := by first | (simp [plainName, overriddenIn]; done) | decide +kernel
theorem pn_3 : plainName "tenorbook/core/FrequencyOfPerYearPinLaw" = true := by first | (simp [plainName, overriddenIn]; done) | decide +kernel
theorem pd_0 : parseMethodDescriptor "(Ljava/lang/Object;)Ljava/lang/Object;" = some ⟨[(.object "java/lang/Object")], some (.object "java/lang/Object")⟩ := by decide +kernel
theorem pd_1 : parseMethodDescriptor "(Ljava/lang/Object;)V" = some ⟨[(.object "java/lang/Object")], none⟩ := by decide +kernel
theorem pd_2 : parseMethodDescriptor "()[Ltenorbook/core/Frequency;" = some ⟨[], some (.array (.object "tenorbook/core/Frequency"))⟩ := by decide +kernel
theorem pd_3 : parseMethodDescriptor "(Ljava/lang/Object;)Ljava/util/Optional;" = some ⟨[(.object "java/lang/Object")], some (.object "java/util/Optional")⟩ := by decide +kernel
theorem pd_4 : parseMethodDescriptor "()Ljava/util/Optional;" = some ⟨[], some (.object "java/util/Optional")⟩ := by decide +kernel
theorem pd_5 : parseMethodDescriptor "(I)Ltenorbook/core/Frequency;" = some ⟨[.int], some (.object "tenorbook/core/Frequency")⟩ := by decide +kernel
theorem pd_6 : parseMethodDescriptor "(I)Ljava/util/Optional;" = some ⟨[.int], some (.object "java/util/Optional")⟩ := by decide +kernel
theorem pd_7 : parseMethodDescriptor "()Z" = some ⟨[], some .boolean⟩ := by decide +kernel
theorem pd_8 : parseMethodDescriptor "()Ljava/lang/Object;" = some ⟨[], some (.object "java/lang/Object")⟩ := by decide +kernel
def OwnS (Z : State) (a__VALUES : Addr) (a_ANNUAL : Addr) (a_SEMIANNUAL : Addr) (a_QUARTERLY : Addr) (a_MONTHLY : Addr) (a_EMPTY : Addr) (ka__VALUES : ClassId) : Prop := (Sta Z Z.heap "tenorbook/core/Frequency" "$VALUES" "[Ltenorbook/core/Frequency;" (.ref a__VALUES)) ∧ (Exa Z Z.heap a__VALUES "[Ltenorbook/core/Frequency;") ∧ (Sta Z Z.heap "tenorbook/core/Frequency" "ANNUAL" "Ltenorbook/core/Frequency;" (.ref a_ANNUAL)) ∧ (Exa Z Z.heap a_ANNUAL "tenorbook/core/Frequency") ∧ (Sta Z Z.heap "tenorbook/core/Frequency" "SEMIANNUAL" "Ltenorbook/core/Frequency;" (.ref a_SEMIANNUAL)) ∧ (Exa Z Z.heap a_SEMIANNUAL "tenorbook/core/Frequency") ∧ (Sta Z Z.heap "tenorbook/core/Frequency" "QUARTERLY" "Ltenorbook/core/Frequency;" (.ref a_QUARTERLY)) ∧ (Exa Z Z.heap a_QUARTERLY "tenorbook/core/Frequency") ∧ (Sta Z Z.heap "tenorbook/core/Frequency" "MONTHLY" "Ltenorbook/core/Frequency;" (.ref a_MONTHLY)) ∧ (Exa Z Z.heap a_MONTHLY "tenorbook/core/Frequency") ∧ (Sta Z Z.heap "java/util/Optional" "EMPTY" "Ljava/util/Optional;" (.ref a_EMPTY)) ∧ (Exa Z Z.heap a_EMPTY "java/util/Optional") ∧ (Fld Z Z.heap a_ANNUAL "tenorbook/core/Frequency" "mPerYear" "I" (.int (1 : Int32))) ∧ (Fld Z Z.heap a_SEMIANNUAL "tenorbook/core/Frequency" "mPerYear" "I" (.int (2 : Int32))) ∧ (Fld Z Z.heap a_QUARTERLY "tenorbook/core/Frequency" "mPerYear" "I" (.int (4 : Int32))) ∧ (Fld Z Z.heap a_MONTHLY "tenorbook/core/Frequency" "mPerYear" "I" (.int (12 : Int32))) ∧ (Arv Z Z.heap a__VALUES ka__VALUES (.object "tenorbook/core/Frequency") (4 : Int32) [(.ref a_ANNUAL), (.ref a_SEMIANNUAL), (.ref a_QUARTERLY), (.ref a_MONTHLY)] .null) ∧ (Fld Z Z.heap a_EMPTY "java/util/Optional" "value" "Ljava/lang/Object;" .null)
def own_exp (a_ANNUAL a_SEMIANNUAL a_QUARTERLY a_MONTHLY : Addr) (n : Int32) : Value := if n = 1 then .ref a_ANNUAL else if n = 2 then .ref a_SEMIANNUAL else if n = 4 then .ref a_QUARTERLY else if n = 12 then .ref a_MONTHLY else  .null
theorem own_five (n : Int32) : n = 1 ∨ n = 2 ∨ n = 4 ∨ n = 12 ∨ (¬ n = 1 ∧ ¬ n = 2 ∧ ¬ n = 4 ∧ ¬ n = 12) := by
  by_cases h1 : n = 1
  · exact Or.inl h1
  by_cases h2 : n = 2
  · exact Or.inr (Or.inl h2)
  by_cases h3 : n = 4
  · exact Or.inr (Or.inr (Or.inl h3))
  by_cases h4 : n = 12
  · exact Or.inr (Or.inr (Or.inr (Or.inl h4)))
  exact Or.inr (Or.inr (Or.inr (Or.inr ⟨h1, h2, h3, h4⟩)))
theorem ef_V (m : MethodId)  : entryFrame m #[] 0 = mkF m 0 #[] [] := by first | (simp [entryFrame, mkF, argsToLocals, Value.category]; done) | rfl
def QV (Z : State) (a__VALUES : Addr) (a_ANNUAL : Addr) (a_SEMIANNUAL : Addr) (a_QUARTERLY : Addr) (a_MONTHLY : Addr) (a_EMPTY : Addr) (ka__VALUES : ClassId) (h0 : Heap) (n0 : Nat) (v : Option Value) (h : Heap) (L : List Loc) : Prop := ∃ b : Addr, v = some (.ref b) ∧ Fr n0 L ∧ Keep h0 h [] ∧ Arv Z h b ka__VALUES (.object "tenorbook/core/Frequency") (4 : Int32) [(.ref a_ANNUAL), (.ref a_SEMIANNUAL), (.ref a_QUARTERLY), (.ref a_MONTHLY)] .null ∧ n0 ≤ b
set_option maxRecDepth 65536 in
set_option maxHeartbeats 40000000 in
theorem rmV (l : Launch) (Z : State) (a0 : Array Value) (hw : ∀ d ∈ tables_1, d.before a0 Z = true) (ws : List Jvm.Cond) (a__VALUES : Addr) (a_ANNUAL : Addr) (a_SEMIANNUAL : Addr) (a_QUARTERLY : Addr) (a_MONTHLY : Addr) (a_EMPTY : Addr) (ka__VALUES : ClassId) (h0 : Heap) (n0 : Nat) (O0 : Old Z n0 h0) (hS : OwnS Z a__VALUES a_ANNUAL a_SEMIANNUAL a_QUARTERLY a_MONTHLY a_EMPTY ka__VALUES) :
    MetFree l (⟨"tenorbook/core/Frequency", "values", "()[Ltenorbook/core/Frequency;"⟩ : MethodName) (head1 (Jvm.Cond.code (⟨"tenorbook/core/Frequency", "values", "()[Ltenorbook/core/Frequency;"⟩ : MethodName) prog_65_method_1_code 0 (some (.array (.object "tenorbook/core/Frequency"))) :: ws) ({ frames := 1, cells := 1, slots := 4, locals := 14 } : Room)) (fun aa_ UU_ => aa_ = #[] ∧ Z.Warmed39 UU_.vm ∧ UU_.heap = h0) (fun _ _ _ _ _ => True) (fun _ UU_ oo_ UV_ => ∃ vv_ LL_, oo_ = .returned vv_ ∧ QV Z a__VALUES a_ANNUAL a_SEMIANNUAL a_QUARTERLY a_MONTHLY a_EMPTY ka__VALUES h0 n0 vv_ UV_.heap LL_ ∧ FrameEnd UU_ oo_ UV_ LL_ ({ frames := 1, cells := 1, slots := 4, locals := 14 } : Room).cells ({ frames := 1, cells := 1, slots := 4, locals := 14 } : Room).slots) := by
  refine MetFree.of_bodySF (plainFor_of_name pn_0) hisR ?_
  intro p e s m args below meth c s₁ Bd hml0 hP hK
  obtain ⟨rfl, hZ, hh⟩ := hP
  have hx := Bd.exec
  have hby := Bd.bytes
  have hlk := BodyLoose.notSynchronized Bd
  have hml : c.maxLocals = 0 := hml0
  have hown : s.vm.findClass "tenorbook/core/Frequency" = some m.cls := findClass_of_methodNamed Bd.named
  have hnm := (name_of_methodNamed Bd.named Bd.method).1
  have X0 : Stand p l e ({ frames := 1, cells := 1, slots := 4, locals := 14 } : Room) s m #[] below meth c s₁ [] 0 0 := Stand.of_body Bd
  have e0 : s₁.heap = h0 := by rw [← hh, Bd.state]; rfl
  have N0 := Fr.nil n0
  have KC0 : Keep h0 h0 [] := Keep.refl _ _
  suffices hOW : OW p e below s (QV Z a__VALUES a_ANNUAL a_SEMIANNUAL a_QUARTERLY a_MONTHLY a_EMPTY ka__VALUES h0 n0) 1 4 (s₁.setTop (mkF m 0 #[] [])) by
    obtain ⟨q1, q2, q3, q4⟩ := hOW
    exact ⟨q1, q2, castTop (ef_V m ) q3, q4⟩
  have hS' := hS
  obtain ⟨Sa__VALUES, Ea__VALUES, Sa_ANNUAL, Ea_ANNUAL, Sa_SEMIANNUAL, Ea_SEMIANNUAL, Sa_QUARTERLY, Ea_QUARTERLY, Sa_MONTHLY, Ea_MONTHLY, Sa_EMPTY, Ea_EMPTY, Fa_ANNUAL_mPerYear, Fa_SEMIANNUAL_mPerYear, Fa_QUARTERLY_mPerYear, Fa_MONTHLY_mPerYear, Va__VALUES, Fa_EMPTY_value⟩ := hS'
  obtain ⟨T29, X29, e29, st29⟩ := getS2 X0 hx hZ hown (host := "") (Or.inl (w_11 hw)) Via.refl e0 (Sa__VALUES.ext O0.2) (g := (mkF m 0 #[] [])) rfl (hb hby d3_0)
  refine OW.st (B := T29.setTop (mkF m 3 #[] [(.ref a__VALUES)])) (st29) ?_
  obtain ⟨T30, h30, X30, e30, E30, Vc30, A30, st30⟩ := cloneH X29 hx hZ hown (w_13 hw) (w_14 hw) (w_18 hw) (w_16 hw) (w_17 hw) (w_19 hw) e29 (Arv.arh (Arv.ext Va__VALUES O0.2)) (Ea__VALUES.ext O0.2) (g := (mkF m 3 #[] [(.ref a__VALUES)])) rfl (by rw [hml]; rfl) rfl (hb hby d3_3) (by decide) (W := 0) (by show 2 * 0 + _ ≤ _; exact Nat.le_of_eq rfl) (by decide) (cap := 4) (by decide) (by decide) (by decide)
  obtain ⟨b30, g30⟩ : ∃ z, z = h0.size := ⟨_, rfl⟩
  rw [← g30] at Vc30 A30 st30
  have n_b30 : n0 ≤ b30 := Nat.le_trans (own_oldle O0) (Nat.le_of_eq g30.symm)
  have O30 : Old Z n0 h30 := O0.ext E30
  have sz_b30 : h0.size ≤ b30 := Nat.le_trans KC0.1 (Nat.le_of_eq g30.symm)
  have KC30 : Keep h0 h30 [] := KC0.ext E30
  have V30 : Arv Z h30 b30 ka__VALUES (.object "tenorbook/core/Frequency") (4 : Int32) [(.ref a_ANNUAL), (.ref a_SEMIANNUAL), (.ref a_QUARTERLY), (.ref a_MONTHLY)] .null := Vc30
  refine OW.st (B := T30.setTop (mkF m 6 #[] [(.ref b30)])) (st30) ?_
  obtain ⟨T31, X31, e31, st31⟩ := castY X30 hx hZ hown (w_25 hw) e30 (Ins.self A30) (g := (mkF m 6 #[] [(.ref b30)])) rfl rfl (hb hby d3_6)
  refine OW.st (B := T31.setTop (mkF m 9 #[] [(.ref b30)])) (st31) ?_
  exact OW.ret X31 hx hlk (i := .areturn) Bd.returns rfl (Or.inr (Or.inr (Or.inr (Or.inr ⟨rfl, rfl, rfl⟩)))) (hb hby d3_9) e31 (by decide) (by decide) ⟨b30, rfl, N0, KC30, V30, n_b30⟩
theorem ef_N (m : MethodId) (x0 : Addr) : entryFrame m #[(.ref x0)] 1 = mkF m 0 #[.val (.ref x0)] [] := by first | (simp [entryFrame, mkF, argsToLocals, Value.category]; done) | rfl
def QN (Z : State) (a : Addr) (h0 : Heap) (n0 : Nat) (v : Option Value) (h : Heap) (L : List Loc) : Prop := v = some (.ref a) ∧ Fr n0 L ∧ h = h0
set_option maxRecDepth 65536 in
set_option maxHeartbeats 40000000 in
theorem rmN (l : Launch) (Z : State) (a0 : Array Value) (hw : ∀ d ∈ tables_1, d.before a0 Z = true) (ws : List Jvm.Cond) (a : Addr) (h0 : Heap) (n0 : Nat) (O0 : Old Z n0 h0) :
    MetFree l (⟨"java/util/Objects", "requireNonNull", "(Ljava/lang/Object;)Ljava/lang/Object;"⟩ : MethodName) (head1 (Jvm.Cond.code (⟨"java/util/Objects", "requireNonNull", "(Ljava/lang/Object;)Ljava/lang/Object;"⟩ : MethodName) jdk_31_method_10_code 1 (some (.object "java/lang/Object")) :: ws) ({ frames := 0, cells := 0, slots := 0, locals := 0 } : Room)) (fun aa_ UU_ => aa_ = #[(.ref a)] ∧ Z.Warmed39 UU_.vm ∧ UU_.heap = h0) (fun _ _ _ _ _ => True) (fun _ UU_ oo_ UV_ => ∃ vv_ LL_, oo_ = .returned vv_ ∧ QN Z a h0 n0 vv_ UV_.heap LL_ ∧ FrameEnd UU_ oo_ UV_ LL_ ({ frames := 0, cells := 0, slots := 0, locals := 0 } : Room).cells ({ frames := 0, cells := 0, slots := 0, locals := 0 } : Room).slots) := by
  refine MetFree.of_bodySF (plainFor_of_name pn_1) hisR ?_
  intro p e s m args below meth c s₁ Bd hml0 hP hK
  obtain ⟨rfl, hZ, hh⟩ := hP
  have hx := Bd.exec
  have hby := Bd.bytes
  have hlk := BodyLoose.notSynchronized Bd
  have hml : c.maxLocals = 1 := hml0
  have hown : s.vm.findClass "java/util/Objects" = some m.cls := findClass_of_methodNamed Bd.named
  have hnm := (name_of_methodNamed Bd.named Bd.method).1
  have X0 : Stand p l e ({ frames := 0, cells := 0, slots := 0, locals := 0 } : Room) s m #[(.ref a)] below meth c s₁ [] 0 0 := Stand.of_body Bd
  have e0 : s₁.heap = h0 := by rw [← hh, Bd.state]; rfl
  have N0 := Fr.nil n0
  suffices hOW : OW p e below s (QN Z a h0 n0) 0 0 (s₁.setTop (mkF m 0 #[.val (.ref a)] [])) by
    obtain ⟨q1, q2, q3, q4⟩ := hOW
    exact ⟨q1, q2, castTop (ef_N m a) q3, q4⟩
  refine OW.st (B := s₁.setTop (mkF m 1 #[.val (.ref a)] [(.ref a)])) (fun _ kk_ => XS.aloadN X0.here hx rfl (hb hby d7_0) rfl rfl kk_) ?_
  refine OW.st (B := s₁.setTop (mkF m 12 #[.val (.ref a)] [])) (fun _ kk_ => XS.ifnonnullYes X0.here hx rfl (pc0 := 1) (pc' := 12) rfl (hb hby d7_1) rfl (by decide) (by decide) kk_) ?_
  refine OW.st (B := s₁.setTop (mkF m 13 #[.val (.ref a)] [(.ref a)])) (fun _ kk_ => XS.aloadN X0.here hx rfl (hb hby d7_12) rfl rfl kk_) ?_
  exact OW.ret X0 hx hlk (i := .areturn) Bd.returns rfl (Or.inr (Or.inr (Or.inr (Or.inr ⟨rfl, rfl, rfl⟩)))) (hb hby d7_13) e0 (by decide) (by decide) ⟨rfl, N0, rfl⟩
theorem ef_I (m : MethodId) (x0 : Addr) (x1 : Addr) : entryFrame m #[(.ref x0), (.ref x1)] 2 = mkF m 0 #[.val (.ref x0), .val (.ref x1)] [] := by first | (simp [entryFrame, mkF, argsToLocals, Value.category]; done) | rfl
def QI (Z : State) (b : Addr) (a : Addr) (h0 : Heap) (n0 : Nat) (v : Option Value) (h : Heap) (L : List Loc) : Prop := v = none ∧ Fr n0 L ∧ Keep h0 h [b] ∧ Exa Z h b "java/util/Optional" ∧ Fld Z h b "java/util/Optional" "value" "Ljava/lang/Object;" (.ref a)
set_option maxRecDepth 65536 in
set_option maxHeartbeats 40000000 in
theorem rmI (l : Launch) (Z : State) (a0 : Array Value) (hw : ∀ d ∈ tables_1, d.before a0 Z = true) (ws : List Jvm.Cond) (b : Addr) (a : Addr) (h0 : Heap) (n0 : Nat) (O0 : Old Z n0 h0) (E : Exa Z h0 b "java/util/Optional") (F : Fld Z h0 b "java/util/Optional" "value" "Ljava/lang/Object;" .null) (gb : n0 ≤ b) :
    MetFree l (⟨"java/util/Optional", "<init>", "(Ljava/lang/Object;)V"⟩ : MethodName) (head1 (Jvm.Cond.code (⟨"java/util/Optional", "<init>", "(Ljava/lang/Object;)V"⟩ : MethodName) jdk_32_method_2_code 2 none :: ws) ({ frames := 1, cells := 0, slots := 0, locals := 12 } : Room)) (fun aa_ UU_ => aa_ = #[(.ref b), (.ref a)] ∧ Z.Warmed39 UU_.vm ∧ UU_.heap = h0) (fun _ _ _ _ _ => True) (fun _ UU_ oo_ UV_ => ∃ vv_ LL_, oo_ = .returned vv_ ∧ QI Z b a h0 n0 vv_ UV_.heap LL_ ∧ FrameEnd UU_ oo_ UV_ LL_ ({ frames := 1, cells := 0, slots := 0, locals := 12 } : Room).cells ({ frames := 1, cells := 0, slots := 0, locals := 12 } : Room).slots) := by
  refine MetFree.of_bodySF (plainFor_of_name pn_2) hisR ?_
  intro p e s m args below meth c s₁ Bd hml0 hP hK
  obtain ⟨rfl, hZ, hh⟩ := hP
  have hx := Bd.exec
  have hby := Bd.bytes
  have hlk := BodyLoose.notSynchronized Bd
  have hml : c.maxLocals = 2 := hml0
  have hown : s.vm.findClass "java/util/Optional" = some m.cls := findClass_of_methodNamed Bd.named
  have hnm := (name_of_methodNamed Bd.named Bd.method).1
  have X0 : Stand p l e ({ frames := 1, cells := 0, slots := 0, locals := 12 } : Room) s m #[(.ref b), (.ref a)] below meth c s₁ [] 0 0 := Stand.of_body Bd
  have e0 : s₁.heap = h0 := by rw [← hh, Bd.state]; rfl
  have N0 := Fr.nil n0
  have KC0 : Keep h0 h0 [b] := Keep.refl _ _
  suffices hOW : OW p e below s (QI Z b a h0 n0) 0 0 (s₁.setTop (mkF m 0 #[.val (.ref b), .val (.ref a)] [])) by
    obtain ⟨q1, q2, q3, q4⟩ := hOW
    exact ⟨q1, q2, castTop (ef_I m b a) q3, q4⟩
  refine OW.st (B := s₁.setTop (mkF m 1 #[.val (.ref b), .val (.ref a)] [(.ref b)])) (fun _ kk_ => XS.aloadN X0.here hx rfl (hb hby d8_0) rfl rfl kk_) ?_
  obtain ⟨T32, X32, e32, st32⟩ := initO X0 hx hZ hown (w_55 hw) (w_56 hw) (w_57 hw) e0 (g := (mkF m 1 #[.val (.ref b), .val (.ref a)] [(.ref b)])) rfl (by rw [hml]; rfl) rfl (hb hby d8_1) (by decide) (W := 0) (by show 2 * 0 + _ ≤ _; exact Nat.le_of_eq rfl) (by decide)
  refine OW.st (B := T32.setTop (mkF m 4 #[.val (.ref b), .val (.ref a)] [])) (st32) ?_
  refine OW.st (B := T32.setTop (mkF m 5 #[.val (.ref b), .val (.ref a)] [(.ref b)])) (fun _ kk_ => XS.aloadN X32.here hx rfl (hb hby d8_4) rfl rfl kk_) ?_
  refine OW.st (B := T32.setTop (mkF m 6 #[.val (.ref b), .val (.ref a)] [(.ref a), (.ref b)])) (fun _ kk_ => XS.aloadN X32.here hx rfl (hb hby d8_5) rfl rfl kk_) ?_
  obtain ⟨T33, h33, X33, e33, W33, st33⟩ := putF X32 hx hZ hown (host := "") (Or.inl (w_39 hw)) Via.refl e32 F E (Or.inr ⟨(w_40 hw), rfl, hnm⟩) (w_46 hw) (ty := (.object "java/lang/Object")) (by decide) rfl rfl (g := (mkF m 6 #[.val (.ref b), .val (.ref a)] [(.ref a), (.ref b)])) rfl rfl (hb hby d8_6)
  have N33 := Fr.snoc X33 N0 gb
  have O33 : Old Z n0 h33 := O0.wr W33 gb
  have KC33 : Keep h0 h33 [b] := KC0.wr W33 (Or.inl (List.mem_of_getElem? (i := 0) rfl))
  have F33 : Fld Z h33 b "java/util/Optional" "value" "Ljava/lang/Object;" (.ref a) := Fld.same W33 F
  refine OW.st (B := T33.setTop (mkF m 9 #[.val (.ref b), .val (.ref a)] [])) (st33) ?_
  exact OW.retV X33 hx hlk Bd.returns (hb hby d8_9) e33 (by decide) (by decide) ⟨rfl, N33, KC33, (E.wr W33), F33⟩
theorem ef_P (m : MethodId) (x0 : Addr) : entryFrame m #[(.ref x0)] 1 = mkF m 0 #[.val (.ref x0)] [] := by first | (simp [entryFrame, mkF, argsToLocals, Value.category]; done) | rfl
def QP (Z : State) (a : Addr) (h0 : Heap) (n0 : Nat) (v : Option Value) (h : Heap) (L : List Loc) : Prop := ∃ b : Addr, v = some (.ref b) ∧ Fr n0 L ∧ Keep h0 h [] ∧ Exa Z h b "java/util/Optional" ∧ Fld Z h b "java/util/Optional" "value" "Ljava/lang/Object;" (.ref a)
set_option maxRecDepth 65536 in
set_option maxHeartbeats 40000000 in
theorem rmP (l : Launch) (Z : State) (a0 : Array Value) (hw : ∀ d ∈ tables_1, d.before a0 Z = true) (ws : List Jvm.Cond) (a : Addr) (h0 : Heap) (n0 : Nat) (O0 : Old Z n0 h0) :
    MetFree l (⟨"java/util/Optional", "of", "(Ljava/lang/Object;)Ljava/util/Optional;"⟩ : MethodName) (head1 (Jvm.Cond.code (⟨"java/util/Optional", "of", "(Ljava/lang/Object;)Ljava/util/Optional;"⟩ : MethodName) jdk_32_method_3_code 1 (some (.object "java/util/Optional")) :: ws) ({ frames := 2, cells := 1, slots := 1, locals := 26 } : Room)) (fun aa_ UU_ => aa_ = #[(.ref a)] ∧ Z.Warmed39 UU_.vm ∧ UU_.heap = h0) (fun _ _ _ _ _ => True) (fun _ UU_ oo_ UV_ => ∃ vv_ LL_, oo_ = .returned vv_ ∧ QP Z a h0 n0 vv_ UV_.heap LL_ ∧ FrameEnd UU_ oo_ UV_ LL_ ({ frames := 2, cells := 1, slots := 1, locals := 26 } : Room).cells ({ frames := 2, cells := 1, slots := 1, locals := 26 } : Room).slots) := by
  refine MetFree.of_bodySF (plainFor_of_name pn_2) hisR ?_
  intro p e s m args below meth c s₁ Bd hml0 hP hK
  obtain ⟨rfl, hZ, hh⟩ := hP
  have hx := Bd.exec
  have hby := Bd.bytes
  have hlk := BodyLoose.notSynchronized Bd
  have hml : c.maxLocals = 1 := hml0
  have hown : s.vm.findClass "java/util/Optional" = some m.cls := findClass_of_methodNamed Bd.named
  have hnm := (name_of_methodNamed Bd.named Bd.method).1
  have X0 : Stand p l e ({ frames := 2, cells := 1, slots := 1, locals := 26 } : Room) s m #[(.ref a)] below meth c s₁ [] 0 0 := Stand.of_body Bd
  have e0 : s₁.heap = h0 := by rw [← hh, Bd.state]; rfl
  have N0 := Fr.nil n0
  have KC0 : Keep h0 h0 [] := Keep.refl _ _
  suffices hOW : OW p e below s (QP Z a h0 n0) 1 1 (s₁.setTop (mkF m 0 #[.val (.ref a)] [])) by
    obtain ⟨q1, q2, q3, q4⟩ := hOW
    exact ⟨q1, q2, castTop (ef_P m a) q3, q4⟩
  obtain ⟨T34, h34, X34, e34, E34, A34, D34, -, st34⟩ := newO X0 hx hZ hown (w_45 hw) (w_46 hw) (w_31 hw) e0 (g := (mkF m 0 #[.val (.ref a)] [])) rfl (hb hby d6_0) (by decide) (by decide)
  obtain ⟨b34, g34⟩ : ∃ z, z = h0.size := ⟨_, rfl⟩
  rw [← g34] at A34 D34 st34
  have n_b34 : n0 ≤ b34 := Nat.le_trans (own_oldle O0) (Nat.le_of_eq g34.symm)
  have O34 : Old Z n0 h34 := O0.ext E34
  have sz_b34 : h0.size ≤ b34 := Nat.le_trans KC0.1 (Nat.le_of_eq g34.symm)
  have KC34 : Keep h0 h34 [] := KC0.ext E34
  have F34_40 : Fld Z h34 b34 "java/util/Optional" "value" "Ljava/lang/Object;" .null := D34 (Or.inr (w_40 hw)) (ty := (.object "java/lang/Object")) (by decide)
  refine OW.st (B := T34.setTop (mkF m 3 #[.val (.ref a)] [(.ref b34)])) (st34) ?_
  refine OW.st (B := T34.setTop (mkF m 4 #[.val (.ref a)] [(.ref b34), (.ref b34)])) (fun _ kk_ => XS.dup X34.here hx rfl (hb hby d6_3) rfl rfl kk_) ?_
  refine OW.st (B := T34.setTop (mkF m 5 #[.val (.ref a)] [(.ref a), (.ref b34), (.ref b34)])) (fun _ kk_ => XS.aloadN X34.here hx rfl (hb hby d6_4) rfl rfl kk_) ?_
  obtain ⟨_, _, ⟨T35, L35, k35, n35⟩, -, X35, ⟨Lc35, hQ35, l35, y35, z35⟩, st35⟩ := Jvm.LawKit.callS X34 hx (y := (⟨"java/util/Objects", "requireNonNull", "(Ljava/lang/Object;)Ljava/lang/Object;"⟩ : MethodName)) hown (mvT hZ (w_47 hw)) (mvT hZ (w_48 hw)) (mvT hZ (w_49 hw)) (mvT hZ (w_50 hw)) (by decide) (backOf (W := 2) (rmN l Z a0 hw [] a h34 n0 O34 ) hZ (w_50 hw) (w_49 hw) (by decide) (by decide)) (g := (mkF m 5 #[.val (.ref a)] [(.ref a), (.ref b34), (.ref b34)])) rfl (by rw [hml]; rfl) (argsL := [(.ref a)]) (rest := [(.ref b34), (.ref b34)]) (lenOf pd_0 rfl) rfl (by show 2 * 0 + _ ≤ _; exact Nat.le_of_eq rfl) (hb hby d6_5) (fun _ _ => ⟨rfl, e34, (by decide : 1 + 0 ≤ _), (by decide : 1 + 0 ≤ _)⟩)
  dsimp only [Pt.U, Pt.locs, Pt.cells, Pt.slots] at X35 l35 y35 z35 st35 hQ35
  subst l35 y35 z35
  obtain ⟨rfl, Nq35, e35⟩ := hQ35
  have N35 := Fr.app N0 Nq35
  refine OW.st (B := T35.setTop (mkF m 8 #[.val (.ref a)] [(.ref a), (.ref b34), (.ref b34)])) (st35) ?_
  obtain ⟨_, _, ⟨T36, L36, k36, n36⟩, -, X36, ⟨Lc36, hQ36, l36, y36, z36⟩, st36⟩ := X35.specialBack hx (y := (⟨"java/util/Optional", "<init>", "(Ljava/lang/Object;)V"⟩ : MethodName)) rfl hown (mvT hZ (w_51 hw)) (mvT hZ (w_52 hw)) (mvT hZ (w_54 hw)) (by decide) (backOf (W := 1) (rmI l Z a0 hw [] b34 a h34 n0 O34 A34 F34_40 n_b34) hZ (w_54 hw) (w_31 hw) (by decide) (by decide)) (g := (mkF m 8 #[.val (.ref a)] [(.ref a), (.ref b34), (.ref b34)])) rfl (by rw [hml]; rfl) (Steps.refl _) (a := b34) (argsL := [(.ref a)]) (rest := [(.ref b34)]) (lenOf pd_1 rfl) rfl (by show 2 * 0 + _ ≤ _; exact Nat.le_of_eq rfl) (hb hby d6_8) (fun _ _ => ⟨rfl, e35, (by decide : 1 + 0 ≤ _), (by decide : 1 + 0 ≤ _)⟩)
  dsimp only [Pt.U, Pt.locs, Pt.cells, Pt.slots] at X36 l36 y36 z36 st36 hQ36
  subst l36 y36 z36
  obtain ⟨rfl, Nq36, K36, Ei36, Fi36⟩ := hQ36
  have N36 := Fr.app N35 Nq36
  have O36 : Old Z n0 T36.heap := O34.keep K36 (allS n_b34 all0)
  have KC36 : Keep h0 T36.heap [] := KC34.trans K36 (allS (Or.inr sz_b34) all0)
  refine OW.tr (B := T36.setTop (mkF m 11 #[.val (.ref a)] [(.ref b34)])) (st36) ?_
  exact OW.ret X36 hx hlk (i := .areturn) Bd.returns rfl (Or.inr (Or.inr (Or.inr (Or.inr ⟨rfl, rfl, rfl⟩)))) (hb hby d6_11) rfl (by decide) (by decide) ⟨b34, rfl, N36, KC36, Ei36, Fi36⟩
theorem ef_M (m : MethodId)  : entryFrame m #[] 1 = mkF m 0 #[.unset] [] := by first | (simp [entryFrame, mkF, argsToLocals, Value.category]; done) | rfl
def QM (Z : State) (a__VALUES : Addr) (a_ANNUAL : Addr) (a_SEMIANNUAL : Addr) (a_QUARTERLY : Addr) (a_MONTHLY : Addr) (a_EMPTY : Addr) (ka__VALUES : ClassId) (h0 : Heap) (n0 : Nat) (v : Option Value) (h : Heap) (L : List Loc) : Prop := v = some (.ref a_EMPTY) ∧ Fr n0 L ∧ h = h0
set_option maxRecDepth 65536 in
set_option maxHeartbeats 40000000 in
theorem rmM (l : Launch) (Z : State) (a0 : Array Value) (hw : ∀ d ∈ tables_1, d.before a0 Z = true) (ws : List Jvm.Cond) (a__VALUES : Addr) (a_ANNUAL : Addr) (a_SEMIANNUAL : Addr) (a_QUARTERLY : Addr) (a_MONTHLY : Addr) (a_EMPTY : Addr) (ka__VALUES : ClassId) (h0 : Heap) (n0 : Nat) (O0 : Old Z n0 h0) (hS : OwnS Z a__VALUES a_ANNUAL a_SEMIANNUAL a_QUARTERLY a_MONTHLY a_EMPTY ka__VALUES) :
    MetFree l (⟨"java/util/Optional", "empty", "()Ljava/util/Optional;"⟩ : MethodName) (head1 (Jvm.Cond.code (⟨"java/util/Optional", "empty", "()Ljava/util/Optional;"⟩ : MethodName) jdk_32_method_1_code 1 (some (.object "java/util/Optional")) :: ws) ({ frames := 0, cells := 0, slots := 0, locals := 0 } : Room)) (fun aa_ UU_ => aa_ = #[] ∧ Z.Warmed39 UU_.vm ∧ UU_.heap = h0) (fun _ _ _ _ _ => True) (fun _ UU_ oo_ UV_ => ∃ vv_ LL_, oo_ = .returned vv_ ∧ QM Z a__VALUES a_ANNUAL a_SEMIANNUAL a_QUARTERLY a_MONTHLY a_EMPTY ka__VALUES h0 n0 vv_ UV_.heap LL_ ∧ FrameEnd UU_ oo_ UV_ LL_ ({ frames := 0, cells := 0, slots := 0, locals := 0 } : Room).cells ({ frames := 0, cells := 0, slots := 0, locals := 0 } : Room).slots) := by
  refine MetFree.of_bodySF (plainFor_of_name pn_2) hisR ?_
  intro p e s m args below meth c s₁ Bd hml0 hP hK
  obtain ⟨rfl, hZ, hh⟩ := hP
  have hx := Bd.exec
  have hby := Bd.bytes
  have hlk := BodyLoose.notSynchronized Bd
  have hml : c.maxLocals = 1 := hml0
  have hown : s.vm.findClass "java/util/Optional" = some m.cls := findClass_of_methodNamed Bd.named
  have hnm := (name_of_methodNamed Bd.named Bd.method).1
  have X0 : Stand p l e ({ frames := 0, cells := 0, slots := 0, locals := 0 } : Room) s m #[] below meth c s₁ [] 0 0 := Stand.of_body Bd
  have e0 : s₁.heap = h0 := by rw [← hh, Bd.state]; rfl
  have N0 := Fr.nil n0
  suffices hOW : OW p e below s (QM Z a__VALUES a_ANNUAL a_SEMIANNUAL a_QUARTERLY a_MONTHLY a_EMPTY ka__VALUES h0 n0) 0 0 (s₁.setTop (mkF m 0 #[.unset] [])) by
    obtain ⟨q1, q2, q3, q4⟩ := hOW
    exact ⟨q1, q2, castTop (ef_M m ) q3, q4⟩
  have hS' := hS
  obtain ⟨Sa__VALUES, Ea__VALUES, Sa_ANNUAL, Ea_ANNUAL, Sa_SEMIANNUAL, Ea_SEMIANNUAL, Sa_QUARTERLY, Ea_QUARTERLY, Sa_MONTHLY, Ea_MONTHLY, Sa_EMPTY, Ea_EMPTY, Fa_ANNUAL_mPerYear, Fa_SEMIANNUAL_mPerYear, Fa_QUARTERLY_mPerYear, Fa_MONTHLY_mPerYear, Va__VALUES, Fa_EMPTY_value⟩ := hS'
  obtain ⟨T37, X37, e37, st37⟩ := getS2 X0 hx hZ hown (host := "") (Or.inl (w_33 hw)) Via.refl e0 (Sa_EMPTY.ext O0.2) (g := (mkF m 0 #[.unset] [])) rfl (hb hby d4_0)
  refine OW.st (B := T37.setTop (mkF m 3 #[.unset] [(.ref a_EMPTY)])) (st37) ?_
  refine OW.st (B := T37.setTop (mkF m 4 #[.val (.ref a_EMPTY)] [])) (fun _ kk_ => XS.astoreN X37.here hx rfl (hb hby d4_3) rfl rfl (l' := #[.val (.ref a_EMPTY)]) rfl kk_) ?_
  refine OW.st (B := T37.setTop (mkF m 5 #[.val (.ref a_EMPTY)] [(.ref a_EMPTY)])) (fun _ kk_ => XS.aloadN X37.here hx rfl (hb hby d4_4) rfl rfl kk_) ?_
  exact OW.ret X37 hx hlk (i := .areturn) Bd.returns rfl (Or.inr (Or.inr (Or.inr (Or.inr ⟨rfl, rfl, rfl⟩)))) (hb hby d4_5) e37 (by decide) (by decide) ⟨rfl, N0, rfl⟩
theorem ef_SY (m : MethodId) (x0 : Addr) : entryFrame m #[(.ref x0)] 1 = mkF m 0 #[.val (.ref x0)] [] := by first | (simp [entryFrame, mkF, argsToLocals, Value.category]; done) | rfl
def QSY (Z : State) (a : Addr) (x1 : Addr) (h0 : Heap) (n0 : Nat) (v : Option Value) (h : Heap) (L : List Loc) : Prop := v = some (.int 1) ∧ Fr n0 L ∧ h = h0
set_option maxRecDepth 65536 in
set_option maxHeartbeats 40000000 in
theorem rmSY (l : Launch) (Z : State) (a0 : Array Value) (hw : ∀ d ∈ tables_1, d.before a0 Z = true) (ws : List Jvm.Cond) (a : Addr) (x1 : Addr) (h0 : Heap) (n0 : Nat) (O0 : Old Z n0 h0) (F : Fld Z h0 a "java/util/Optional" "value" "Ljava/lang/Object;" (.ref x1)) :
    MetFree l (⟨"java/util/Optional", "isPresent", "()Z"⟩ : MethodName) (head1 (Jvm.Cond.code (⟨"java/util/Optional", "isPresent", "()Z"⟩ : MethodName) jdk_32_method_6_code 1 (some .boolean) :: ws) ({ frames := 0, cells := 0, slots := 0, locals := 0 } : Room)) (fun aa_ UU_ => aa_ = #[(.ref a)] ∧ Z.Warmed39 UU_.vm ∧ UU_.heap = h0) (fun _ _ _ _ _ => True) (fun _ UU_ oo_ UV_ => ∃ vv_ LL_, oo_ = .returned vv_ ∧ QSY Z a x1 h0 n0 vv_ UV_.heap LL_ ∧ FrameEnd UU_ oo_ UV_ LL_ ({ frames := 0, cells := 0, slots := 0, locals := 0 } : Room).cells ({ frames := 0, cells := 0, slots := 0, locals := 0 } : Room).slots) := by
  refine MetFree.of_bodySF (plainFor_of_name pn_2) hisR ?_
  intro p e s m args below meth c s₁ Bd hml0 hP hK
  obtain ⟨rfl, hZ, hh⟩ := hP
  have hx := Bd.exec
  have hby := Bd.bytes
  have hlk := BodyLoose.notSynchronized Bd
  have hml : c.maxLocals = 1 := hml0
  have hown : s.vm.findClass "java/util/Optional" = some m.cls := findClass_of_methodNamed Bd.named
  have hnm := (name_of_methodNamed Bd.named Bd.method).1
  have X0 : Stand p l e ({ frames := 0, cells := 0, slots := 0, locals := 0 } : Room) s m #[(.ref a)] below meth c s₁ [] 0 0 := Stand.of_body Bd
  have e0 : s₁.heap = h0 := by rw [← hh, Bd.state]; rfl
  have N0 := Fr.nil n0
  suffices hOW : OW p e below s (QSY Z a x1 h0 n0) 0 0 (s₁.setTop (mkF m 0 #[.val (.ref a)] [])) by
    obtain ⟨q1, q2, q3, q4⟩ := hOW
    exact ⟨q1, q2, castTop (ef_SY m a) q3, q4⟩
  refine OW.st (B := s₁.setTop (mkF m 1 #[.val (.ref a)] [(.ref a)])) (fun _ kk_ => XS.aloadN X0.here hx rfl (hb hby d5_0) rfl rfl kk_) ?_
  obtain ⟨T38, X38, e38, st38⟩ := getF X0 hx hZ hown (host := "") (Or.inl (w_39 hw)) Via.refl e0 F (g := (mkF m 1 #[.val (.ref a)] [(.ref a)])) rfl rfl (hb hby d5_1)
  refine OW.st (B := T38.setTop (mkF m 4 #[.val (.ref a)] [(.ref x1)])) (st38) ?_
  refine OW.st (B := T38.setTop (mkF m 7 #[.val (.ref a)] [])) (fun _ kk_ => XS.ifnullNo X38.here hx rfl (hb hby d5_4) rfl kk_) ?_
  refine OW.st (B := T38.setTop (mkF m 8 #[.val (.ref a)] [(.int (1 : Int32))])) (fun _ kk_ => XS.iconst X38.here hx rfl (hb hby d5_7) kk_) ?_
  refine OW.st (B := T38.setTop (mkF m 12 #[.val (.ref a)] [(.int (1 : Int32))])) (fun _ kk_ => XS.goto X38.here hx rfl (pc0 := 8) (pc' := 12) rfl (hb hby d5_8) (by decide) (by decide) kk_) ?_
  exact OW.ret X38 hx hlk (i := .ireturn) Bd.returns rfl (Or.inl ⟨rfl, Or.inr (Or.inl rfl), _, rfl⟩) (hb hby d5_12) e38 (by decide) (by decide) ⟨rfl, N0, rfl⟩
theorem ef_SN (m : MethodId) (x0 : Addr) : entryFrame m #[(.ref x0)] 1 = mkF m 0 #[.val (.ref x0)] [] := by first | (simp [entryFrame, mkF, argsToLocals, Value.category]; done) | rfl
def QSN (Z : State) (a : Addr) (h0 : Heap) (n0 : Nat) (v : Option Value) (h : Heap) (L : List Loc) : Prop := v = some (.int 0) ∧ Fr n0 L ∧ h = h0
set_option maxRecDepth 65536 in
set_option maxHeartbeats 40000000 in
theorem rmSN (l : Launch) (Z : State) (a0 : Array Value) (hw : ∀ d ∈ tables_1, d.before a0 Z = true) (ws : List Jvm.Cond) (a : Addr) (h0 : Heap) (n0 : Nat) (O0 : Old Z n0 h0) (F : Fld Z h0 a "java/util/Optional" "value" "Ljava/lang/Object;" .null) :
    MetFree l (⟨"java/util/Optional", "isPresent", "()Z"⟩ : MethodName) (head1 (Jvm.Cond.code (⟨"java/util/Optional", "isPresent", "()Z"⟩ : MethodName) jdk_32_method_6_code 1 (some .boolean) :: ws) ({ frames := 0, cells := 0, slots := 0, locals := 0 } : Room)) (fun aa_ UU_ => aa_ = #[(.ref a)] ∧ Z.Warmed39 UU_.vm ∧ UU_.heap = h0) (fun _ _ _ _ _ => True) (fun _ UU_ oo_ UV_ => ∃ vv_ LL_, oo_ = .returned vv_ ∧ QSN Z a h0 n0 vv_ UV_.heap LL_ ∧ FrameEnd UU_ oo_ UV_ LL_ ({ frames := 0, cells := 0, slots := 0, locals := 0 } : Room).cells ({ frames := 0, cells := 0, slots := 0, locals := 0 } : Room).slots) := by
  refine MetFree.of_bodySF (plainFor_of_name pn_2) hisR ?_
  intro p e s m args below meth c s₁ Bd hml0 hP hK
  obtain ⟨rfl, hZ, hh⟩ := hP
  have hx := Bd.exec
  have hby := Bd.bytes
  have hlk := BodyLoose.notSynchronized Bd
  have hml : c.maxLocals = 1 := hml0
  have hown : s.vm.findClass "java/util/Optional" = some m.cls := findClass_of_methodNamed Bd.named
  have hnm := (name_of_methodNamed Bd.named Bd.method).1
  have X0 : Stand p l e ({ frames := 0, cells := 0, slots := 0, locals := 0 } : Room) s m #[(.ref a)] below meth c s₁ [] 0 0 := Stand.of_body Bd
  have e0 : s₁.heap = h0 := by rw [← hh, Bd.state]; rfl
  have N0 := Fr.nil n0
  suffices hOW : OW p e below s (QSN Z a h0 n0) 0 0 (s₁.setTop (mkF m 0 #[.val (.ref a)] [])) by
    obtain ⟨q1, q2, q3, q4⟩ := hOW
    exact ⟨q1, q2, castTop (ef_SN m a) q3, q4⟩
  refine OW.st (B := s₁.setTop (mkF m 1 #[.val (.ref a)] [(.ref a)])) (fun _ kk_ => XS.aloadN X0.here hx rfl (hb hby d5_0) rfl rfl kk_) ?_
  obtain ⟨T39, X39, e39, st39⟩ := getF X0 hx hZ hown (host := "") (Or.inl (w_39 hw)) Via.refl e0 F (g := (mkF m 1 #[.val (.ref a)] [(.ref a)])) rfl rfl (hb hby d5_1)
  refine OW.st (B := T39.setTop (mkF m 4 #[.val (.ref a)] [.null])) (st39) ?_
  refine OW.st (B := T39.setTop (mkF m 11 #[.val (.ref a)] [])) (fun _ kk_ => XS.ifnullYes X39.here hx rfl (pc0 := 4) (pc' := 11) rfl (hb hby d5_4) rfl (by decide) (by decide) kk_) ?_
  refine OW.st (B := T39.setTop (mkF m 12 #[.val (.ref a)] [(.int (0 : Int32))])) (fun _ kk_ => XS.iconst X39.here hx rfl (hb hby d5_11) kk_) ?_
  exact OW.ret X39 hx hlk (i := .ireturn) Bd.returns rfl (Or.inl ⟨rfl, Or.inr (Or.inl rfl), _, rfl⟩) (hb hby d5_12) e39 (by decide) (by decide) ⟨rfl, N0, rfl⟩
theorem ef_G (m : MethodId) (x0 : Addr) : entryFrame m #[(.ref x0)] 1 = mkF m 0 #[.val (.ref x0)] [] := by first | (simp [entryFrame, mkF, argsToLocals, Value.category]; done) | rfl
def QG (Z : State) (a : Addr) (x1 : Addr) (h0 : Heap) (n0 : Nat) (v : Option Value) (h : Heap) (L : List Loc) : Prop := v = some (.ref x1) ∧ Fr n0 L ∧ h = h0
set_option maxRecDepth 65536 in
set_option maxHeartbeats 40000000 in
theorem rmG (l : Launch) (Z : State) (a0 : Array Value) (hw : ∀ d ∈ tables_1, d.before a0 Z = true) (ws : List Jvm.Cond) (a : Addr) (x1 : Addr) (h0 : Heap) (n0 : Nat) (O0 : Old Z n0 h0) (F : Fld Z h0 a "java/util/Optional" "value" "Ljava/lang/Object;" (.ref x1)) :
    MetFree l (⟨"java/util/Optional", "get", "()Ljava/lang/Object;"⟩ : MethodName) (head1 (Jvm.Cond.code (⟨"java/util/Optional", "get", "()Ljava/lang/Object;"⟩ : MethodName) jdk_32_method_5_code 1 (some (.object "java/lang/Object")) :: ws) ({ frames := 0, cells := 0, slots := 0, locals := 0 } : Room)) (fun aa_ UU_ => aa_ = #[(.ref a)] ∧ Z.Warmed39 UU_.vm ∧ UU_.heap = h0) (fun _ _ _ _ _ => True) (fun _ UU_ oo_ UV_ => ∃ vv_ LL_, oo_ = .returned vv_ ∧ QG Z a x1 h0 n0 vv_ UV_.heap LL_ ∧ FrameEnd UU_ oo_ UV_ LL_ ({ frames := 0, cells := 0, slots := 0, locals := 0 } : Room).cells ({ frames := 0, cells := 0, slots := 0, locals := 0 } : Room).slots) := by
  refine MetFree.of_bodySF (plainFor_of_name pn_2) hisR ?_
  intro p e s m args below meth c s₁ Bd hml0 hP hK
  obtain ⟨rfl, hZ, hh⟩ := hP
  have hx := Bd.exec
  have hby := Bd.bytes
  have hlk := BodyLoose.notSynchronized Bd
  have hml : c.maxLocals = 1 := hml0
  have hown : s.vm.findClass "java/util/Optional" = some m.cls := findClass_of_methodNamed Bd.named
  have hnm := (name_of_methodNamed Bd.named Bd.method).1
  have X0 : Stand p l e ({ frames := 0, cells := 0, slots := 0, locals := 0 } : Room) s m #[(.ref a)] below meth c s₁ [] 0 0 := Stand.of_body Bd
  have e0 : s₁.heap = h0 := by rw [← hh, Bd.state]; rfl
  have N0 := Fr.nil n0
  suffices hOW : OW p e below s (QG Z a x1 h0 n0) 0 0 (s₁.setTop (mkF m 0 #[.val (.ref a)] [])) by
    obtain ⟨q1, q2, q3, q4⟩ := hOW
    exact ⟨q1, q2, castTop (ef_G m a) q3, q4⟩
  refine OW.st (B := s₁.setTop (mkF m 1 #[.val (.ref a)] [(.ref a)])) (fun _ kk_ => XS.aloadN X0.here hx rfl (hb hby d10_0) rfl rfl kk_) ?_
  obtain ⟨T40, X40, e40, st40⟩ := getF X0 hx hZ hown (host := "") (Or.inl (w_39 hw)) Via.refl e0 F (g := (mkF m 1 #[.val (.ref a)] [(.ref a)])) rfl rfl (hb hby d10_1)
  refine OW.st (B := T40.setTop (mkF m 4 #[.val (.ref a)] [(.ref x1)])) (st40) ?_
  refine OW.st (B := T40.setTop (mkF m 17 #[.val (.ref a)] [])) (fun _ kk_ => XS.ifnonnullYes X40.here hx rfl (pc0 := 4) (pc' := 17) rfl (hb hby d10_4) rfl (by decide) (by decide) kk_) ?_
  refine OW.st (B := T40.setTop (mkF m 18 #[.val (.ref a)] [(.ref a)])) (fun _ kk_ => XS.aloadN X40.here hx rfl (hb hby d10_17) rfl rfl kk_) ?_
  obtain ⟨T41, X41, e41, st41⟩ := getF X40 hx hZ hown (host := "") (Or.inl (w_39 hw)) Via.refl e40 F (g := (mkF m 18 #[.val (.ref a)] [(.ref a)])) rfl rfl (hb hby d10_18)
  refine OW.st (B := T41.setTop (mkF m 21 #[.val (.ref a)] [(.ref x1)])) (st41) ?_
  exact OW.ret X41 hx hlk (i := .areturn) Bd.returns rfl (Or.inr (Or.inr (Or.inr (Or.inr ⟨rfl, rfl, rfl⟩)))) (hb hby d10_21) e41 (by decide) (by decide) ⟨rfl, N0, rfl⟩
theorem ef_E (m : MethodId) (x0 : Int32) : entryFrame m #[(.int x0)] 1 = mkF m 0 #[.val (.int x0)] [] := by first | (simp [entryFrame, mkF, argsToLocals, Value.category]; done) | rfl
def QE (Z : State) (n : Int32) (a__VALUES : Addr) (a_ANNUAL : Addr) (a_SEMIANNUAL : Addr) (a_QUARTERLY : Addr) (a_MONTHLY : Addr) (a_EMPTY : Addr) (ka__VALUES : ClassId) (h0 : Heap) (n0 : Nat) (v : Option Value) (h : Heap) (L : List Loc) : Prop := v = some (own_exp a_ANNUAL a_SEMIANNUAL a_QUARTERLY a_MONTHLY n) ∧ Fr n0 L ∧ h = h0
set_option maxRecDepth 65536 in
set_option maxHeartbeats 40000000 in
theorem rmE (l : Launch) (Z : State) (a0 : Array Value) (hw : ∀ d ∈ tables_1, d.before a0 Z = true) (ws : List Jvm.Cond) (n : Int32) (a__VALUES : Addr) (a_ANNUAL : Addr) (a_SEMIANNUAL : Addr) (a_QUARTERLY : Addr) (a_MONTHLY : Addr) (a_EMPTY : Addr) (ka__VALUES : ClassId) (h0 : Heap) (n0 : Nat) (O0 : Old Z n0 h0) (hS : OwnS Z a__VALUES a_ANNUAL a_SEMIANNUAL a_QUARTERLY a_MONTHLY a_EMPTY ka__VALUES) :
    MetFree l (⟨"tenorbook/core/FrequencyOfPerYearPinLaw", "expected", "(I)Ltenorbook/core/Frequency;"⟩ : MethodName) (head1 (Jvm.Cond.code (⟨"tenorbook/core/FrequencyOfPerYearPinLaw", "expected", "(I)Ltenorbook/core/Frequency;"⟩ : MethodName) method_2_code 1 (some (.object "tenorbook/core/Frequency")) :: ws) ({ frames := 0, cells := 0, slots := 0, locals := 0 } : Room)) (fun aa_ UU_ => aa_ = #[(.int n)] ∧ Z.Warmed39 UU_.vm ∧ UU_.heap = h0) (fun _ _ _ _ _ => True) (fun _ UU_ oo_ UV_ => ∃ vv_ LL_, oo_ = .returned vv_ ∧ QE Z n a__VALUES a_ANNUAL a_SEMIANNUAL a_QUARTERLY a_MONTHLY a_EMPTY ka__VALUES h0 n0 vv_ UV_.heap LL_ ∧ FrameEnd UU_ oo_ UV_ LL_ ({ frames := 0, cells := 0, slots := 0, locals := 0 } : Room).cells ({ frames := 0, cells := 0, slots := 0, locals := 0 } : Room).slots) := by
  refine MetFree.of_bodySF (plainFor_of_name pn_3) hisR ?_
  intro p e s m args below meth c s₁ Bd hml0 hP hK
  obtain ⟨rfl, hZ, hh⟩ := hP
  have hx := Bd.exec
  have hby := Bd.bytes
  have hlk := BodyLoose.notSynchronized Bd
  have hml : c.maxLocals = 1 := hml0
  have hown : s.vm.findClass "tenorbook/core/FrequencyOfPerYearPinLaw" = some m.cls := findClass_of_methodNamed Bd.named
  have hnm := (name_of_methodNamed Bd.named Bd.method).1
  have X0 : Stand p l e ({ frames := 0, cells := 0, slots := 0, locals := 0 } : Room) s m #[(.int n)] below meth c s₁ [] 0 0 := Stand.of_body Bd
  have e0 : s₁.heap = h0 := by rw [← hh, Bd.state]; rfl
  have N0 := Fr.nil n0
  suffices hOW : OW p e below s (QE Z n a__VALUES a_ANNUAL a_SEMIANNUAL a_QUARTERLY a_MONTHLY a_EMPTY ka__VALUES h0 n0) 0 0 (s₁.setTop (mkF m 0 #[.val (.int n)] [])) by
    obtain ⟨q1, q2, q3, q4⟩ := hOW
    exact ⟨q1, q2, castTop (ef_E m n) q3, q4⟩
  have hS' := hS
  obtain ⟨Sa__VALUES, Ea__VALUES, Sa_ANNUAL, Ea_ANNUAL, Sa_SEMIANNUAL, Ea_SEMIANNUAL, Sa_QUARTERLY, Ea_QUARTERLY, Sa_MONTHLY, Ea_MONTHLY, Sa_EMPTY, Ea_EMPTY, Fa_ANNUAL_mPerYear, Fa_SEMIANNUAL_mPerYear, Fa_QUARTERLY_mPerYear, Fa_MONTHLY_mPerYear, Va__VALUES, Fa_EMPTY_value⟩ := hS'
  refine OW.st (B := s₁.setTop (mkF m 1 #[.val (.int n)] [(.int n)])) (fun _ kk_ => XS.iloadN X0.here hx rfl (hb hby d1_0) rfl kk_) ?_
  refine OW.st (B := s₁.setTop (mkF m 2 #[.val (.int n)] [(.int (1 : Int32)), (.int n)])) (fun _ kk_ => XS.iconst X0.here hx rfl (hb hby d1_1) kk_) ?_
  by_cases hc42 : n = (1 : Int32)
  · refine OW.st (B := s₁.setTop (mkF m 5 #[.val (.int n)] [])) (fun _ kk_ => XS.icmpNo X0.here hx rfl (hb hby d1_2) rfl (teq hc42).2 kk_) ?_
    obtain ⟨T43, X43, e43, st43⟩ := getS2 X0 hx hZ hown (host := "") (Or.inl (w_64 hw)) Via.refl e0 (Sa_ANNUAL.ext O0.2) (g := (mkF m 5 #[.val (.int n)] [])) rfl (hb hby d1_5)
    refine OW.st (B := T43.setTop (mkF m 8 #[.val (.int n)] [(.ref a_ANNUAL)])) (st43) ?_
    exact OW.ret X43 hx hlk (i := .areturn) Bd.returns rfl (Or.inr (Or.inr (Or.inr (Or.inr ⟨rfl, rfl, rfl⟩)))) (hb hby d1_8) e43 (by decide) (by decide) ⟨by simp [own_exp, hc42], N0, rfl⟩
  · refine OW.st (B := s₁.setTop (mkF m 9 #[.val (.int n)] [])) (fun _ kk_ => XS.icmpYes X0.here hx rfl (pc0 := 2) (pc' := 9) rfl (hb hby d1_2) rfl (feq hc42).2 (by decide) (by decide) kk_) ?_
    refine OW.st (B := s₁.setTop (mkF m 10 #[.val (.int n)] [(.int n)])) (fun _ kk_ => XS.iloadN X0.here hx rfl (hb hby d1_9) rfl kk_) ?_
    refine OW.st (B := s₁.setTop (mkF m 11 #[.val (.int n)] [(.int (2 : Int32)), (.int n)])) (fun _ kk_ => XS.iconst X0.here hx rfl (hb hby d1_10) kk_) ?_
    by_cases hc44 : n = (2 : Int32)
    · refine OW.st (B := s₁.setTop (mkF m 14 #[.val (.int n)] [])) (fun _ kk_ => XS.icmpNo X0.here hx rfl (hb hby d1_11) rfl (teq hc44).2 kk_) ?_
      obtain ⟨T45, X45, e45, st45⟩ := getS2 X0 hx hZ hown (host := "") (Or.inl (w_63 hw)) Via.refl e0 (Sa_SEMIANNUAL.ext O0.2) (g := (mkF m 14 #[.val (.int n)] [])) rfl (hb hby d1_14)
      refine OW.st (B := T45.setTop (mkF m 17 #[.val (.int n)] [(.ref a_SEMIANNUAL)])) (st45) ?_
      exact OW.ret X45 hx hlk (i := .areturn) Bd.returns rfl (Or.inr (Or.inr (Or.inr (Or.inr ⟨rfl, rfl, rfl⟩)))) (hb hby d1_17) e45 (by decide) (by decide) ⟨by simp [own_exp, hc42, hc44], N0, rfl⟩
    · refine OW.st (B := s₁.setTop (mkF m 18 #[.val (.int n)] [])) (fun _ kk_ => XS.icmpYes X0.here hx rfl (pc0 := 11) (pc' := 18) rfl (hb hby d1_11) rfl (feq hc44).2 (by decide) (by decide) kk_) ?_
      refine OW.st (B := s₁.setTop (mkF m 19 #[.val (.int n)] [(.int n)])) (fun _ kk_ => XS.iloadN X0.here hx rfl (hb hby d1_18) rfl kk_) ?_
      refine OW.st (B := s₁.setTop (mkF m 20 #[.val (.int n)] [(.int (4 : Int32)), (.int n)])) (fun _ kk_ => XS.iconst X0.here hx rfl (hb hby d1_19) kk_) ?_
      by_cases hc46 : n = (4 : Int32)
      · refine OW.st (B := s₁.setTop (mkF m 23 #[.val (.int n)] [])) (fun _ kk_ => XS.icmpNo X0.here hx rfl (hb hby d1_20) rfl (teq hc46).2 kk_) ?_
        obtain ⟨T47, X47, e47, st47⟩ := getS2 X0 hx hZ hown (host := "") (Or.inl (w_65 hw)) Via.refl e0 (Sa_QUARTERLY.ext O0.2) (g := (mkF m 23 #[.val (.int n)] [])) rfl (hb hby d1_23)
        refine OW.st (B := T47.setTop (mkF m 26 #[.val (.int n)] [(.ref a_QUARTERLY)])) (st47) ?_
        exact OW.ret X47 hx hlk (i := .areturn) Bd.returns rfl (Or.inr (Or.inr (Or.inr (Or.inr ⟨rfl, rfl, rfl⟩)))) (hb hby d1_26) e47 (by decide) (by decide) ⟨by simp [own_exp, hc42, hc44, hc46], N0, rfl⟩
      · refine OW.st (B := s₁.setTop (mkF m 27 #[.val (.int n)] [])) (fun _ kk_ => XS.icmpYes X0.here hx rfl (pc0 := 20) (pc' := 27) rfl (hb hby d1_20) rfl (feq hc46).2 (by decide) (by decide) kk_) ?_
        refine OW.st (B := s₁.setTop (mkF m 28 #[.val (.int n)] [(.int n)])) (fun _ kk_ => XS.iloadN X0.here hx rfl (hb hby d1_27) rfl kk_) ?_
        refine OW.st (B := s₁.setTop (mkF m 30 #[.val (.int n)] [(.int (12 : Int32)), (.int n)])) (fun _ kk_ => XS.bipush X0.here hx rfl (hb hby d1_28) kk_) ?_
        by_cases hc48 : n = (12 : Int32)
        · refine OW.st (B := s₁.setTop (mkF m 33 #[.val (.int n)] [])) (fun _ kk_ => XS.icmpNo X0.here hx rfl (hb hby d1_30) rfl (teq hc48).2 kk_) ?_
          obtain ⟨T49, X49, e49, st49⟩ := getS2 X0 hx hZ hown (host := "") (Or.inl (w_41 hw)) Via.refl e0 (Sa_MONTHLY.ext O0.2) (g := (mkF m 33 #[.val (.int n)] [])) rfl (hb hby d1_33)
          refine OW.st (B := T49.setTop (mkF m 36 #[.val (.int n)] [(.ref a_MONTHLY)])) (st49) ?_
          exact OW.ret X49 hx hlk (i := .areturn) Bd.returns rfl (Or.inr (Or.inr (Or.inr (Or.inr ⟨rfl, rfl, rfl⟩)))) (hb hby d1_36) e49 (by decide) (by decide) ⟨by simp [own_exp, hc42, hc44, hc46, hc48], N0, rfl⟩
        · refine OW.st (B := s₁.setTop (mkF m 37 #[.val (.int n)] [])) (fun _ kk_ => XS.icmpYes X0.here hx rfl (pc0 := 30) (pc' := 37) rfl (hb hby d1_30) rfl (feq hc48).2 (by decide) (by decide) kk_) ?_
          refine OW.st (B := s₁.setTop (mkF m 38 #[.val (.int n)] [.null])) (fun _ kk_ => XS.aconstNull X0.here hx rfl (hb hby d1_37) kk_) ?_
          exact OW.ret X0 hx hlk (i := .areturn) Bd.returns rfl (Or.inr (Or.inr (Or.inr (Or.inr ⟨rfl, rfl, rfl⟩)))) (hb hby d1_38) e0 (by decide) (by decide) ⟨by simp [own_exp, hc42, hc44, hc46, hc48], N0, rfl⟩
theorem ef_Y (m : MethodId) (x0 : Int32) : entryFrame m #[(.int x0)] 5 = mkF m 0 #[.val (.int x0), .unset, .unset, .unset, .unset] [] := by first | (simp [entryFrame, mkF, argsToLocals, Value.category]; done) | rfl
def QY (Z : State) (n : Int32) (a__VALUES : Addr) (a_ANNUAL : Addr) (a_SEMIANNUAL : Addr) (a_QUARTERLY : Addr) (a_MONTHLY : Addr) (a_EMPTY : Addr) (ka__VALUES : ClassId) (h0 : Heap) (n0 : Nat) (v : Option Value) (h : Heap) (L : List Loc) : Prop := ∃ b : Addr, v = some (.ref b) ∧ Fr n0 L ∧ Keep h0 h [] ∧ Exa Z h b "java/util/Optional" ∧ Fld Z h b "java/util/Optional" "value" "Ljava/lang/Object;" (own_exp a_ANNUAL a_SEMIANNUAL a_QUARTERLY a_MONTHLY n)
set_option maxRecDepth 65536 in
set_option maxHeartbeats 40000000 in
theorem rmY (l : Launch) (Z : State) (a0 : Array Value) (hw : ∀ d ∈ tables_1, d.before a0 Z = true) (ws : List Jvm.Cond) (n : Int32) (a__VALUES : Addr) (a_ANNUAL : Addr) (a_SEMIANNUAL : Addr) (a_QUARTERLY : Addr) (a_MONTHLY : Addr) (a_EMPTY : Addr) (ka__VALUES : ClassId) (h0 : Heap) (n0 : Nat) (O0 : Old Z n0 h0) (hS : OwnS Z a__VALUES a_ANNUAL a_SEMIANNUAL a_QUARTERLY a_MONTHLY a_EMPTY ka__VALUES) :
    MetFree l (⟨"tenorbook/core/Frequency", "ofPerYear", "(I)Ljava/util/Optional;"⟩ : MethodName) (head1 (Jvm.Cond.code (⟨"tenorbook/core/Frequency", "ofPerYear", "(I)Ljava/util/Optional;"⟩ : MethodName) prog_65_method_4_code 5 (some (.object "java/util/Optional")) :: ws) ({ frames := 3, cells := 2, slots := 5, locals := 38 } : Room)) (fun aa_ UU_ => aa_ = #[(.int n)] ∧ Z.Warmed39 UU_.vm ∧ UU_.heap = h0) (fun _ _ _ _ _ => True) (fun _ UU_ oo_ UV_ => ∃ vv_ LL_, oo_ = .returned vv_ ∧ QY Z n a__VALUES a_ANNUAL a_SEMIANNUAL a_QUARTERLY a_MONTHLY a_EMPTY ka__VALUES h0 n0 vv_ UV_.heap LL_ ∧ FrameEnd UU_ oo_ UV_ LL_ ({ frames := 3, cells := 2, slots := 5, locals := 38 } : Room).cells ({ frames := 3, cells := 2, slots := 5, locals := 38 } : Room).slots) := by
  refine MetFree.of_bodySF (plainFor_of_name pn_0) hisR ?_
  intro p e s m args below meth c s₁ Bd hml0 hP hK
  obtain ⟨rfl, hZ, hh⟩ := hP
  have hx := Bd.exec
  have hby := Bd.bytes
  have hlk := BodyLoose.notSynchronized Bd
  have hml : c.maxLocals = 5 := hml0
  have hown : s.vm.findClass "tenorbook/core/Frequency" = some m.cls := findClass_of_methodNamed Bd.named
  have hnm := (name_of_methodNamed Bd.named Bd.method).1
  have X0 : Stand p l e ({ frames := 3, cells := 2, slots := 5, locals := 38 } : Room) s m #[(.int n)] below meth c s₁ [] 0 0 := Stand.of_body Bd
  have e0 : s₁.heap = h0 := by rw [← hh, Bd.state]; rfl
  have N0 := Fr.nil n0
  have KC0 : Keep h0 h0 [] := Keep.refl _ _
  suffices hOW : OW p e below s (QY Z n a__VALUES a_ANNUAL a_SEMIANNUAL a_QUARTERLY a_MONTHLY a_EMPTY ka__VALUES h0 n0) 2 5 (s₁.setTop (mkF m 0 #[.val (.int n), .unset, .unset, .unset, .unset] [])) by
    obtain ⟨q1, q2, q3, q4⟩ := hOW
    exact ⟨q1, q2, castTop (ef_Y m n) q3, q4⟩
  have hS' := hS
  obtain ⟨Sa__VALUES, Ea__VALUES, Sa_ANNUAL, Ea_ANNUAL, Sa_SEMIANNUAL, Ea_SEMIANNUAL, Sa_QUARTERLY, Ea_QUARTERLY, Sa_MONTHLY, Ea_MONTHLY, Sa_EMPTY, Ea_EMPTY, Fa_ANNUAL_mPerYear, Fa_SEMIANNUAL_mPerYear, Fa_QUARTERLY_mPerYear, Fa_MONTHLY_mPerYear, Va__VALUES, Fa_EMPTY_value⟩ := hS'
  obtain ⟨_, _, ⟨T50, L50, k50, n50⟩, -, X50, ⟨Lc50, hQ50, l50, y50, z50⟩, st50⟩ := Jvm.LawKit.callS X0 hx (y := (⟨"tenorbook/core/Frequency", "values", "()[Ltenorbook/core/Frequency;"⟩ : MethodName)) hown (mvT hZ (w_8 hw)) (mvT hZ (w_9 hw)) (mvT hZ (w_6 hw)) (mvT hZ (w_10 hw)) (by decide) (backOf (W := 0) (rmV l Z a0 hw [] a__VALUES a_ANNUAL a_SEMIANNUAL a_QUARTERLY a_MONTHLY a_EMPTY ka__VALUES h0 n0 O0 hS) hZ (w_10 hw) (w_6 hw) (by decide) (by decide)) (g := (mkF m 0 #[.val (.int n), .unset, .unset, .unset, .unset] [])) rfl (by rw [hml]; rfl) (argsL := []) (rest := []) (lenOf pd_2 rfl) rfl (by show 2 * 0 + _ ≤ _; exact Nat.le_of_eq rfl) (hb hby d2_0) (fun _ _ => ⟨rfl, e0, (by decide : 0 + 1 ≤ _), (by decide : 0 + 4 ≤ _)⟩)
  dsimp only [Pt.U, Pt.locs, Pt.cells, Pt.slots] at X50 l50 y50 z50 st50 hQ50
  subst l50 y50 z50
  obtain ⟨b50, rfl, Nq50, K50, Vb50, nb50⟩ := hQ50
  have N50 := Fr.app N0 Nq50
  have O50 : Old Z n0 T50.heap := O0.keep K50 all0
  have KC50 : Keep h0 T50.heap [] := KC0.trans K50 all0
  refine OW.st (B := T50.setTop (mkF m 3 #[.val (.int n), .unset, .unset, .unset, .unset] [(.ref b50)])) (st50) ?_
  refine OW.st (B := T50.setTop (mkF m 4 #[.val (.int n), .val (.ref b50), .unset, .unset, .unset] [])) (fun _ kk_ => XS.astoreN X50.here hx rfl (hb hby d2_3) rfl rfl (l' := #[.val (.int n), .val (.ref b50), .unset, .unset, .unset]) rfl kk_) ?_
  refine OW.st (B := T50.setTop (mkF m 5 #[.val (.int n), .val (.ref b50), .unset, .unset, .unset] [(.ref b50)])) (fun _ kk_ => XS.aloadN X50.here hx rfl (hb hby d2_4) rfl rfl kk_) ?_
  obtain ⟨cl51, Ar51, q51, S51, Ng51, Hs51, G51⟩ := id Vb50
  refine OW.st (X50.arraylength hx Ar51.1 (State.isArrayOf_alike hZ.alike Ar51.2.1) (g := (mkF m 5 #[.val (.int n), .val (.ref b50), .unset, .unset, .unset] [(.ref b50)])) rfl rfl (hb hby d2_5)) ?_
  rw [len_of S51 Ng51]
  show OW p e below s (QY Z n a__VALUES a_ANNUAL a_SEMIANNUAL a_QUARTERLY a_MONTHLY a_EMPTY ka__VALUES h0 n0) 2 5 (T50.setTop (mkF m 6 #[.val (.int n), .val (.ref b50), .unset, .unset, .unset] [(.int (4 : Int32))]))
  refine OW.st (B := T50.setTop (mkF m 7 #[.val (.int n), .val (.ref b50), .val (.int (4 : Int32)), .unset, .unset] [])) (fun _ kk_ => XS.istoreN X50.here hx rfl (hb hby d2_6) rfl (l' := #[.val (.int n), .val (.ref b50), .val (.int (4 : Int32)), .unset, .unset]) rfl kk_) ?_
  refine OW.st (B := T50.setTop (mkF m 8 #[.val (.int n), .val (.ref b50), .val (.int (4 : Int32)), .unset, .unset] [(.int (0 : Int32))])) (fun _ kk_ => XS.iconst X50.here hx rfl (hb hby d2_7) kk_) ?_
  refine OW.st (B := T50.setTop (mkF m 9 #[.val (.int n), .val (.ref b50), .val (.int (4 : Int32)), .val (.int (0 : Int32)), .unset] [])) (fun _ kk_ => XS.istoreN X50.here hx rfl (hb hby d2_8) rfl (l' := #[.val (.int n), .val (.ref b50), .val (.int (4 : Int32)), .val (.int (0 : Int32)), .unset]) rfl kk_) ?_
  refine OW.st (B := T50.setTop (mkF m 10 #[.val (.int n), .val (.ref b50), .val (.int (4 : Int32)), .val (.int (0 : Int32)), .unset] [(.int (0 : Int32))])) (fun _ kk_ => XS.iloadN X50.here hx rfl (hb hby d2_9) rfl kk_) ?_
  refine OW.st (B := T50.setTop (mkF m 11 #[.val (.int n), .val (.ref b50), .val (.int (4 : Int32)), .val (.int (0 : Int32)), .unset] [(.int (4 : Int32)), (.int (0 : Int32))])) (fun _ kk_ => XS.iloadN X50.here hx rfl (hb hby d2_10) rfl kk_) ?_
  refine OW.st (B := T50.setTop (mkF m 14 #[.val (.int n), .val (.ref b50), .val (.int (4 : Int32)), .val (.int (0 : Int32)), .unset] [])) (fun _ kk_ => XS.icmpNo X50.here hx rfl (hb hby d2_11) rfl (tlt (by decide)).2.1 kk_) ?_
  refine OW.st (B := T50.setTop (mkF m 15 #[.val (.int n), .val (.ref b50), .val (.int (4 : Int32)), .val (.int (0 : Int32)), .unset] [(.ref b50)])) (fun _ kk_ => XS.aloadN X50.here hx rfl (hb hby d2_14) rfl rfl kk_) ?_
  refine OW.st (B := T50.setTop (mkF m 16 #[.val (.int n), .val (.ref b50), .val (.int (4 : Int32)), .val (.int (0 : Int32)), .unset] [(.int (0 : Int32)), (.ref b50)])) (fun _ kk_ => XS.iloadN X50.here hx rfl (hb hby d2_15) rfl kk_) ?_
  obtain ⟨cl52, Ar52, q52, S52, Ng52, Hs52, G52⟩ := id Vb50
  have hin52 : ¬ ((0 : Int32) < 0 ∨ cl52.slots.size ≤ ((0 : Int32)).toNatClampNeg) := inb_of S52 ⟨by decide, by decide⟩
  refine OW.st (B := T50.setTop (mkF m 17 #[.val (.int n), .val (.ref b50), .val (.int (4 : Int32)), .val (.int (0 : Int32)), .unset] [(.ref a_ANNUAL)])) (X50.aaload hx (j := (0 : Int32)) (v := (.ref a_ANNUAL)) Ar52.1 (State.isArrayOf_alike hZ.alike Ar52.2.1) rfl Ar52.2.2 hin52 (Has.at Hs52 hin52 rfl) (g := (mkF m 16 #[.val (.int n), .val (.ref b50), .val (.int (4 : Int32)), .val (.int (0 : Int32)), .unset] [(.int (0 : Int32)), (.ref b50)])) rfl rfl (hb hby d2_16)) ?_
  refine OW.st (B := T50.setTop (mkF m 19 #[.val (.int n), .val (.ref b50), .val (.int (4 : Int32)), .val (.int (0 : Int32)), .val (.ref a_ANNUAL)] [])) (fun _ kk_ => XS.astore X50.here hx rfl (hb hby d2_17) rfl rfl (l' := #[.val (.int n), .val (.ref b50), .val (.int (4 : Int32)), .val (.int (0 : Int32)), .val (.ref a_ANNUAL)]) rfl kk_) ?_
  refine OW.st (B := T50.setTop (mkF m 21 #[.val (.int n), .val (.ref b50), .val (.int (4 : Int32)), .val (.int (0 : Int32)), .val (.ref a_ANNUAL)] [(.ref a_ANNUAL)])) (fun _ kk_ => XS.aload X50.here hx rfl (hb hby d2_19) rfl rfl kk_) ?_
  obtain ⟨T53, X53, e53, st53⟩ := getF X50 hx hZ hown (host := "") (Or.inl (w_27 hw)) Via.refl rfl (Fa_ANNUAL_mPerYear.ext O50.2) (g := (mkF m 21 #[.val (.int n), .val (.ref b50), .val (.int (4 : Int32)), .val (.int (0 : Int32)), .val (.ref a_ANNUAL)] [(.ref a_ANNUAL)])) rfl rfl (hb hby d2_21)
  refine OW.st (B := T53.setTop (mkF m 24 #[.val (.int n), .val (.ref b50), .val (.int (4 : Int32)), .val (.int (0 : Int32)), .val (.ref a_ANNUAL)] [(.int (1 : Int32))])) (st53) ?_
  refine OW.st (B := T53.setTop (mkF m 25 #[.val (.int n), .val (.ref b50), .val (.int (4 : Int32)), .val (.int (0 : Int32)), .val (.ref a_ANNUAL)] [(.int n), (.int (1 : Int32))])) (fun _ kk_ => XS.iloadN X53.here hx rfl (hb hby d2_24) rfl kk_) ?_
  by_cases hc54 : (1 : Int32) = n
  · refine OW.st (B := T53.setTop (mkF m 28 #[.val (.int n), .val (.ref b50), .val (.int (4 : Int32)), .val (.int (0 : Int32)), .val (.ref a_ANNUAL)] [])) (fun _ kk_ => XS.icmpNo X53.here hx rfl (hb hby d2_25) rfl (teq hc54).2 kk_) ?_
    refine OW.st (B := T53.setTop (mkF m 30 #[.val (.int n), .val (.ref b50), .val (.int (4 : Int32)), .val (.int (0 : Int32)), .val (.ref a_ANNUAL)] [(.ref a_ANNUAL)])) (fun _ kk_ => XS.aload X53.here hx rfl (hb hby d2_28) rfl rfl kk_) ?_
    obtain ⟨_, _, ⟨T55, L55, k55, n55⟩, -, X55, ⟨Lc55, hQ55, l55, y55, z55⟩, st55⟩ := Jvm.LawKit.callS X53 hx (y := (⟨"java/util/Optional", "of", "(Ljava/lang/Object;)Ljava/util/Optional;"⟩ : MethodName)) hown (mvT hZ (w_42 hw)) (mvT hZ (w_43 hw)) (mvT hZ (w_31 hw)) (mvT hZ (w_44 hw)) (by decide) (backOf (W := 0) (rmP l Z a0 hw [] a_ANNUAL T50.heap n0 O50 ) hZ (w_44 hw) (w_31 hw) (by decide) (by decide)) (g := (mkF m 30 #[.val (.int n), .val (.ref b50), .val (.int (4 : Int32)), .val (.int (0 : Int32)), .val (.ref a_ANNUAL)] [(.ref a_ANNUAL)])) rfl (by rw [hml]; rfl) (argsL := [(.ref a_ANNUAL)]) (rest := []) (lenOf pd_3 rfl) rfl (by show 2 * 0 + _ ≤ _; exact Nat.le_of_eq rfl) (hb hby d2_30) (fun _ _ => ⟨rfl, e53, (by decide : 1 + 1 ≤ _), (by decide : 4 + 1 ≤ _)⟩)
    dsimp only [Pt.U, Pt.locs, Pt.cells, Pt.slots] at X55 l55 y55 z55 st55 hQ55
    subst l55 y55 z55
    obtain ⟨b55, rfl, Nq55, K55, Eo55, Fo55⟩ := hQ55
    have N55 := Fr.app N50 Nq55
    have O55 : Old Z n0 T55.heap := O50.keep K55 all0
    have KC55 : Keep h0 T55.heap [] := KC50.trans K55 all0
    refine OW.st (B := T55.setTop (mkF m 33 #[.val (.int n), .val (.ref b50), .val (.int (4 : Int32)), .val (.int (0 : Int32)), .val (.ref a_ANNUAL)] [(.ref b55)])) (st55) ?_
    exact OW.ret X55 hx hlk (i := .areturn) Bd.returns rfl (Or.inr (Or.inr (Or.inr (Or.inr ⟨rfl, rfl, rfl⟩)))) (hb hby d2_33) rfl (by decide) (by decide) ⟨b55, rfl, N55, KC55, Eo55, (show (.ref a_ANNUAL) = (own_exp a_ANNUAL a_SEMIANNUAL a_QUARTERLY a_MONTHLY n) by simp [own_exp, eq_comm (a := n), hc54]) ▸ Fo55⟩
  · refine OW.st (B := T53.setTop (mkF m 34 #[.val (.int n), .val (.ref b50), .val (.int (4 : Int32)), .val (.int (0 : Int32)), .val (.ref a_ANNUAL)] [])) (fun _ kk_ => XS.icmpYes X53.here hx rfl (pc0 := 25) (pc' := 34) rfl (hb hby d2_25) rfl (feq hc54).2 (by decide) (by decide) kk_) ?_
    refine OW.st (B := T53.setTop (mkF m 37 #[.val (.int n), .val (.ref b50), .val (.int (4 : Int32)), .val (.int ((0 : Int32) + (1 : Int32))), .val (.ref a_ANNUAL)] [])) (fun _ kk_ => XS.iinc X53.here hx rfl (hb hby d2_34) rfl (l' := #[.val (.int n), .val (.ref b50), .val (.int (4 : Int32)), .val (.int ((0 : Int32) + (1 : Int32))), .val (.ref a_ANNUAL)]) rfl kk_) ?_
    refine OW.st (B := T53.setTop (mkF m 9 #[.val (.int n), .val (.ref b50), .val (.int (4 : Int32)), .val (.int ((0 : Int32) + (1 : Int32))), .val (.ref a_ANNUAL)] [])) (fun _ kk_ => XS.goto X53.here hx rfl (pc0 := 37) (pc' := 9) rfl (hb hby d2_37) (by decide) (by decide) kk_) ?_
    refine OW.st (B := T53.setTop (mkF m 10 #[.val (.int n), .val (.ref b50), .val (.int (4 : Int32)), .val (.int ((0 : Int32) + (1 : Int32))), .val (.ref a_ANNUAL)] [(.int ((0 : Int32) + (1 : Int32)))])) (fun _ kk_ => XS.iloadN X53.here hx rfl (hb hby d2_9) rfl kk_) ?_
    refine OW.st (B := T53.setTop (mkF m 11 #[.val (.int n), .val (.ref b50), .val (.int (4 : Int32)), .val (.int ((0 : Int32) + (1 : Int32))), .val (.ref a_ANNUAL)] [(.int (4 : Int32)), (.int ((0 : Int32) + (1 : Int32)))])) (fun _ kk_ => XS.iloadN X53.here hx rfl (hb hby d2_10) rfl kk_) ?_
    refine OW.st (B := T53.setTop (mkF m 14 #[.val (.int n), .val (.ref b50), .val (.int (4 : Int32)), .val (.int ((0 : Int32) + (1 : Int32))), .val (.ref a_ANNUAL)] [])) (fun _ kk_ => XS.icmpNo X53.here hx rfl (hb hby d2_11) rfl (tlt (by decide)).2.1 kk_) ?_
    refine OW.st (B := T53.setTop (mkF m 15 #[.val (.int n), .val (.ref b50), .val (.int (4 : Int32)), .val (.int ((0 : Int32) + (1 : Int32))), .val (.ref a_ANNUAL)] [(.ref b50)])) (fun _ kk_ => XS.aloadN X53.here hx rfl (hb hby d2_14) rfl rfl kk_) ?_
    refine OW.st (B := T53.setTop (mkF m 16 #[.val (.int n), .val (.ref b50), .val (.int (4 : Int32)), .val (.int ((0 : Int32) + (1 : Int32))), .val (.ref a_ANNUAL)] [(.int ((0 : Int32) + (1 : Int32))), (.ref b50)])) (fun _ kk_ => XS.iloadN X53.here hx rfl (hb hby d2_15) rfl kk_) ?_
    obtain ⟨cl56, Ar56, q56, S56, Ng56, Hs56, G56⟩ := id Vb50
    have hin56 : ¬ (((0 : Int32) + (1 : Int32)) < 0 ∨ cl56.slots.size ≤ (((0 : Int32) + (1 : Int32))).toNatClampNeg) := inb_of S56 ⟨by decide, by decide⟩
    refine OW.st (B := T53.setTop (mkF m 17 #[.val (.int n), .val (.ref b50), .val (.int (4 : Int32)), .val (.int ((0 : Int32) + (1 : Int32))), .val (.ref a_ANNUAL)] [(.ref a_SEMIANNUAL)])) (X53.aaload hx (j := ((0 : Int32) + (1 : Int32))) (v := (.ref a_SEMIANNUAL)) (by rw [e53]; exact Ar56.1) (State.isArrayOf_alike hZ.alike Ar56.2.1) rfl Ar56.2.2 hin56 (Has.at Hs56 hin56 rfl) (g := (mkF m 16 #[.val (.int n), .val (.ref b50), .val (.int (4 : Int32)), .val (.int ((0 : Int32) + (1 : Int32))), .val (.ref a_ANNUAL)] [(.int ((0 : Int32) + (1 : Int32))), (.ref b50)])) rfl rfl (hb hby d2_16)) ?_
    refine OW.st (B := T53.setTop (mkF m 19 #[.val (.int n), .val (.ref b50), .val (.int (4 : Int32)), .val (.int ((0 : Int32) + (1 : Int32))), .val (.ref a_SEMIANNUAL)] [])) (fun _ kk_ => XS.astore X53.here hx rfl (hb hby d2_17) rfl rfl (l' := #[.val (.int n), .val (.ref b50), .val (.int (4 : Int32)), .val (.int ((0 : Int32) + (1 : Int32))), .val (.ref a_SEMIANNUAL)]) rfl kk_) ?_
    refine OW.st (B := T53.setTop (mkF m 21 #[.val (.int n), .val (.ref b50), .val (.int (4 : Int32)), .val (.int ((0 : Int32) + (1 : Int32))), .val (.ref a_SEMIANNUAL)] [(.ref a_SEMIANNUAL)])) (fun _ kk_ => XS.aload X53.here hx rfl (hb hby d2_19) rfl rfl kk_) ?_
    obtain ⟨T57, X57, e57, st57⟩ := getF X53 hx hZ hown (host := "") (Or.inl (w_27 hw)) Via.refl e53 (Fa_SEMIANNUAL_mPerYear.ext O50.2) (g := (mkF m 21 #[.val (.int n), .val (.ref b50), .val (.int (4 : Int32)), .val (.int ((0 : Int32) + (1 : Int32))), .val (.ref a_SEMIANNUAL)] [(.ref a_SEMIANNUAL)])) rfl rfl (hb hby d2_21)
    refine OW.st (B := T57.setTop (mkF m 24 #[.val (.int n), .val (.ref b50), .val (.int (4 : Int32)), .val (.int ((0 : Int32) + (1 : Int32))), .val (.ref a_SEMIANNUAL)] [(.int (2 : Int32))])) (st57) ?_
    refine OW.st (B := T57.setTop (mkF m 25 #[.val (.int n), .val (.ref b50), .val (.int (4 : Int32)), .val (.int ((0 : Int32) + (1 : Int32))), .val (.ref a_SEMIANNUAL)] [(.int n), (.int (2 : Int32))])) (fun _ kk_ => XS.iloadN X57.here hx rfl (hb hby d2_24) rfl kk_) ?_
    by_cases hc58 : (2 : Int32) = n
    · refine OW.st (B := T57.setTop (mkF m 28 #[.val (.int n), .val (.ref b50), .val (.int (4 : Int32)), .val (.int ((0 : Int32) + (1 : Int32))), .val (.ref a_SEMIANNUAL)] [])) (fun _ kk_ => XS.icmpNo X57.here hx rfl (hb hby d2_25) rfl (teq hc58).2 kk_) ?_
      refine OW.st (B := T57.setTop (mkF m 30 #[.val (.int n), .val (.ref b50), .val (.int (4 : Int32)), .val (.int ((0 : Int32) + (1 : Int32))), .val (.ref a_SEMIANNUAL)] [(.ref a_SEMIANNUAL)])) (fun _ kk_ => XS.aload X57.here hx rfl (hb hby d2_28) rfl rfl kk_) ?_
      obtain ⟨_, _, ⟨T59, L59, k59, n59⟩, -, X59, ⟨Lc59, hQ59, l59, y59, z59⟩, st59⟩ := Jvm.LawKit.callS X57 hx (y := (⟨"java/util/Optional", "of", "(Ljava/lang/Object;)Ljava/util/Optional;"⟩ : MethodName)) hown (mvT hZ (w_42 hw)) (mvT hZ (w_43 hw)) (mvT hZ (w_31 hw)) (mvT hZ (w_44 hw)) (by decide) (backOf (W := 0) (rmP l Z a0 hw [] a_SEMIANNUAL T50.heap n0 O50 ) hZ (w_44 hw) (w_31 hw) (by decide) (by decide)) (g := (mkF m 30 #[.val (.int n), .val (.ref b50), .val (.int (4 : Int32)), .val (.int ((0 : Int32) + (1 : Int32))), .val (.ref a_SEMIANNUAL)] [(.ref a_SEMIANNUAL)])) rfl (by rw [hml]; rfl) (argsL := [(.ref a_SEMIANNUAL)]) (rest := []) (lenOf pd_3 rfl) rfl (by show 2 * 0 + _ ≤ _; exact Nat.le_of_eq rfl) (hb hby d2_30) (fun _ _ => ⟨rfl, e57, (by decide : 1 + 1 ≤ _), (by decide : 4 + 1 ≤ _)⟩)
      dsimp only [Pt.U, Pt.locs, Pt.cells, Pt.slots] at X59 l59 y59 z59 st59 hQ59
      subst l59 y59 z59
      obtain ⟨b59, rfl, Nq59, K59, Eo59, Fo59⟩ := hQ59
      have N59 := Fr.app N50 Nq59
      have O59 : Old Z n0 T59.heap := O50.keep K59 all0
      have KC59 : Keep h0 T59.heap [] := KC50.trans K59 all0
      refine OW.st (B := T59.setTop (mkF m 33 #[.val (.int n), .val (.ref b50), .val (.int (4 : Int32)), .val (.int ((0 : Int32) + (1 : Int32))), .val (.ref a_SEMIANNUAL)] [(.ref b59)])) (st59) ?_
      exact OW.ret X59 hx hlk (i := .areturn) Bd.returns rfl (Or.inr (Or.inr (Or.inr (Or.inr ⟨rfl, rfl, rfl⟩)))) (hb hby d2_33) rfl (by decide) (by decide) ⟨b59, rfl, N59, KC59, Eo59, (show (.ref a_SEMIANNUAL) = (own_exp a_ANNUAL a_SEMIANNUAL a_QUARTERLY a_MONTHLY n) by simp [own_exp, eq_comm (a := n), hc54, hc58]) ▸ Fo59⟩
    · refine OW.st (B := T57.setTop (mkF m 34 #[.val (.int n), .val (.ref b50), .val (.int (4 : Int32)), .val (.int ((0 : Int32) + (1 : Int32))), .val (.ref a_SEMIANNUAL)] [])) (fun _ kk_ => XS.icmpYes X57.here hx rfl (pc0 := 25) (pc' := 34) rfl (hb hby d2_25) rfl (feq hc58).2 (by decide) (by decide) kk_) ?_
      refine OW.st (B := T57.setTop (mkF m 37 #[.val (.int n), .val (.ref b50), .val (.int (4 : Int32)), .val (.int (((0 : Int32) + (1 : Int32)) + (1 : Int32))), .val (.ref a_SEMIANNUAL)] [])) (fun _ kk_ => XS.iinc X57.here hx rfl (hb hby d2_34) rfl (l' := #[.val (.int n), .val (.ref b50), .val (.int (4 : Int32)), .val (.int (((0 : Int32) + (1 : Int32)) + (1 : Int32))), .val (.ref a_SEMIANNUAL)]) rfl kk_) ?_
      refine OW.st (B := T57.setTop (mkF m 9 #[.val (.int n), .val (.ref b50), .val (.int (4 : Int32)), .val (.int (((0 : Int32) + (1 : Int32)) + (1 : Int32))), .val (.ref a_SEMIANNUAL)] [])) (fun _ kk_ => XS.goto X57.here hx rfl (pc0 := 37) (pc' := 9) rfl (hb hby d2_37) (by decide) (by decide) kk_) ?_
      refine OW.st (B := T57.setTop (mkF m 10 #[.val (.int n), .val (.ref b50), .val (.int (4 : Int32)), .val (.int (((0 : Int32) + (1 : Int32)) + (1 : Int32))), .val (.ref a_SEMIANNUAL)] [(.int (((0 : Int32) + (1 : Int32)) + (1 : Int32)))])) (fun _ kk_ => XS.iloadN X57.here hx rfl (hb hby d2_9) rfl kk_) ?_
      refine OW.st (B := T57.setTop (mkF m 11 #[.val (.int n), .val (.ref b50), .val (.int (4 : Int32)), .val (.int (((0 : Int32) + (1 : Int32)) + (1 : Int32))), .val (.ref a_SEMIANNUAL)] [(.int (4 : Int32)), (.int (((0 : Int32) + (1 : Int32)) + (1 : Int32)))])) (fun _ kk_ => XS.iloadN X57.here hx rfl (hb hby d2_10) rfl kk_) ?_
      refine OW.st (B := T57.setTop (mkF m 14 #[.val (.int n), .val (.ref b50), .val (.int (4 : Int32)), .val (.int (((0 : Int32) + (1 : Int32)) + (1 : Int32))), .val (.ref a_SEMIANNUAL)] [])) (fun _ kk_ => XS.icmpNo X57.here hx rfl (hb hby d2_11) rfl (tlt (by decide)).2.1 kk_) ?_
      refine OW.st (B := T57.setTop (mkF m 15 #[.val (.int n), .val (.ref b50), .val (.int (4 : Int32)), .val (.int (((0 : Int32) + (1 : Int32)) + (1 : Int32))), .val (.ref a_SEMIANNUAL)] [(.ref b50)])) (fun _ kk_ => XS.aloadN X57.here hx rfl (hb hby d2_14) rfl rfl kk_) ?_
      refine OW.st (B := T57.setTop (mkF m 16 #[.val (.int n), .val (.ref b50), .val (.int (4 : Int32)), .val (.int (((0 : Int32) + (1 : Int32)) + (1 : Int32))), .val (.ref a_SEMIANNUAL)] [(.int (((0 : Int32) + (1 : Int32)) + (1 : Int32))), (.ref b50)])) (fun _ kk_ => XS.iloadN X57.here hx rfl (hb hby d2_15) rfl kk_) ?_
      obtain ⟨cl60, Ar60, q60, S60, Ng60, Hs60, G60⟩ := id Vb50
      have hin60 : ¬ ((((0 : Int32) + (1 : Int32)) + (1 : Int32)) < 0 ∨ cl60.slots.size ≤ ((((0 : Int32) + (1 : Int32)) + (1 : Int32))).toNatClampNeg) := inb_of S60 ⟨by decide, by decide⟩
      refine OW.st (B := T57.setTop (mkF m 17 #[.val (.int n), .val (.ref b50), .val (.int (4 : Int32)), .val (.int (((0 : Int32) + (1 : Int32)) + (1 : Int32))), .val (.ref a_SEMIANNUAL)] [(.ref a_QUARTERLY)])) (X57.aaload hx (j := (((0 : Int32) + (1 : Int32)) + (1 : Int32))) (v := (.ref a_QUARTERLY)) (by rw [e57]; exact Ar60.1) (State.isArrayOf_alike hZ.alike Ar60.2.1) rfl Ar60.2.2 hin60 (Has.at Hs60 hin60 rfl) (g := (mkF m 16 #[.val (.int n), .val (.ref b50), .val (.int (4 : Int32)), .val (.int (((0 : Int32) + (1 : Int32)) + (1 : Int32))), .val (.ref a_SEMIANNUAL)] [(.int (((0 : Int32) + (1 : Int32)) + (1 : Int32))), (.ref b50)])) rfl rfl (hb hby d2_16)) ?_
      refine OW.st (B := T57.setTop (mkF m 19 #[.val (.int n), .val (.ref b50), .val (.int (4 : Int32)), .val (.int (((0 : Int32) + (1 : Int32)) + (1 : Int32))), .val (.ref a_QUARTERLY)] [])) (fun _ kk_ => XS.astore X57.here hx rfl (hb hby d2_17) rfl rfl (l' := #[.val (.int n), .val (.ref b50), .val (.int (4 : Int32)), .val (.int (((0 : Int32) + (1 : Int32)) + (1 : Int32))), .val (.ref a_QUARTERLY)]) rfl kk_) ?_
      refine OW.st (B := T57.setTop (mkF m 21 #[.val (.int n), .val (.ref b50), .val (.int (4 : Int32)), .val (.int (((0 : Int32) + (1 : Int32)) + (1 : Int32))), .val (.ref a_QUARTERLY)] [(.ref a_QUARTERLY)])) (fun _ kk_ => XS.aload X57.here hx rfl (hb hby d2_19) rfl rfl kk_) ?_
      obtain ⟨T61, X61, e61, st61⟩ := getF X57 hx hZ hown (host := "") (Or.inl (w_27 hw)) Via.refl e57 (Fa_QUARTERLY_mPerYear.ext O50.2) (g := (mkF m 21 #[.val (.int n), .val (.ref b50), .val (.int (4 : Int32)), .val (.int (((0 : Int32) + (1 : Int32)) + (1 : Int32))), .val (.ref a_QUARTERLY)] [(.ref a_QUARTERLY)])) rfl rfl (hb hby d2_21)
      refine OW.st (B := T61.setTop (mkF m 24 #[.val (.int n), .val (.ref b50), .val (.int (4 : Int32)), .val (.int (((0 : Int32) + (1 : Int32)) + (1 : Int32))), .val (.ref a_QUARTERLY)] [(.int (4 : Int32))])) (st61) ?_
      refine OW.st (B := T61.setTop (mkF m 25 #[.val (.int n), .val (.ref b50), .val (.int (4 : Int32)), .val (.int (((0 : Int32) + (1 : Int32)) + (1 : Int32))), .val (.ref a_QUARTERLY)] [(.int n), (.int (4 : Int32))])) (fun _ kk_ => XS.iloadN X61.here hx rfl (hb hby d2_24) rfl kk_) ?_
      by_cases hc62 : (4 : Int32) = n
      · refine OW.st (B := T61.setTop (mkF m 28 #[.val (.int n), .val (.ref b50), .val (.int (4 : Int32)), .val (.int (((0 : Int32) + (1 : Int32)) + (1 : Int32))), .val (.ref a_QUARTERLY)] [])) (fun _ kk_ => XS.icmpNo X61.here hx rfl (hb hby d2_25) rfl (teq hc62).2 kk_) ?_
        refine OW.st (B := T61.setTop (mkF m 30 #[.val (.int n), .val (.ref b50), .val (.int (4 : Int32)), .val (.int (((0 : Int32) + (1 : Int32)) + (1 : Int32))), .val (.ref a_QUARTERLY)] [(.ref a_QUARTERLY)])) (fun _ kk_ => XS.aload X61.here hx rfl (hb hby d2_28) rfl rfl kk_) ?_
        obtain ⟨_, _, ⟨T63, L63, k63, n63⟩, -, X63, ⟨Lc63, hQ63, l63, y63, z63⟩, st63⟩ := Jvm.LawKit.callS X61 hx (y := (⟨"java/util/Optional", "of", "(Ljava/lang/Object;)Ljava/util/Optional;"⟩ : MethodName)) hown (mvT hZ (w_42 hw)) (mvT hZ (w_43 hw)) (mvT hZ (w_31 hw)) (mvT hZ (w_44 hw)) (by decide) (backOf (W := 0) (rmP l Z a0 hw [] a_QUARTERLY T50.heap n0 O50 ) hZ (w_44 hw) (w_31 hw) (by decide) (by decide)) (g := (mkF m 30 #[.val (.int n), .val (.ref b50), .val (.int (4 : Int32)), .val (.int (((0 : Int32) + (1 : Int32)) + (1 : Int32))), .val (.ref a_QUARTERLY)] [(.ref a_QUARTERLY)])) rfl (by rw [hml]; rfl) (argsL := [(.ref a_QUARTERLY)]) (rest := []) (lenOf pd_3 rfl) rfl (by show 2 * 0 + _ ≤ _; exact Nat.le_of_eq rfl) (hb hby d2_30) (fun _ _ => ⟨rfl, e61, (by decide : 1 + 1 ≤ _), (by decide : 4 + 1 ≤ _)⟩)
        dsimp only [Pt.U, Pt.locs, Pt.cells, Pt.slots] at X63 l63 y63 z63 st63 hQ63
        subst l63 y63 z63
        obtain ⟨b63, rfl, Nq63, K63, Eo63, Fo63⟩ := hQ63
        have N63 := Fr.app N50 Nq63
        have O63 : Old Z n0 T63.heap := O50.keep K63 all0
        have KC63 : Keep h0 T63.heap [] := KC50.trans K63 all0
        refine OW.st (B := T63.setTop (mkF m 33 #[.val (.int n), .val (.ref b50), .val (.int (4 : Int32)), .val (.int (((0 : Int32) + (1 : Int32)) + (1 : Int32))), .val (.ref a_QUARTERLY)] [(.ref b63)])) (st63) ?_
        exact OW.ret X63 hx hlk (i := .areturn) Bd.returns rfl (Or.inr (Or.inr (Or.inr (Or.inr ⟨rfl, rfl, rfl⟩)))) (hb hby d2_33) rfl (by decide) (by decide) ⟨b63, rfl, N63, KC63, Eo63, (show (.ref a_QUARTERLY) = (own_exp a_ANNUAL a_SEMIANNUAL a_QUARTERLY a_MONTHLY n) by simp [own_exp, eq_comm (a := n), hc54, hc58, hc62]) ▸ Fo63⟩
      · refine OW.st (B := T61.setTop (mkF m 34 #[.val (.int n), .val (.ref b50), .val (.int (4 : Int32)), .val (.int (((0 : Int32) + (1 : Int32)) + (1 : Int32))), .val (.ref a_QUARTERLY)] [])) (fun _ kk_ => XS.icmpYes X61.here hx rfl (pc0 := 25) (pc' := 34) rfl (hb hby d2_25) rfl (feq hc62).2 (by decide) (by decide) kk_) ?_
        refine OW.st (B := T61.setTop (mkF m 37 #[.val (.int n), .val (.ref b50), .val (.int (4 : Int32)), .val (.int ((((0 : Int32) + (1 : Int32)) + (1 : Int32)) + (1 : Int32))), .val (.ref a_QUARTERLY)] [])) (fun _ kk_ => XS.iinc X61.here hx rfl (hb hby d2_34) rfl (l' := #[.val (.int n), .val (.ref b50), .val (.int (4 : Int32)), .val (.int ((((0 : Int32) + (1 : Int32)) + (1 : Int32)) + (1 : Int32))), .val (.ref a_QUARTERLY)]) rfl kk_) ?_
        refine OW.st (B := T61.setTop (mkF m 9 #[.val (.int n), .val (.ref b50), .val (.int (4 : Int32)), .val (.int ((((0 : Int32) + (1 : Int32)) + (1 : Int32)) + (1 : Int32))), .val (.ref a_QUARTERLY)] [])) (fun _ kk_ => XS.goto X61.here hx rfl (pc0 := 37) (pc' := 9) rfl (hb hby d2_37) (by decide) (by decide) kk_) ?_
        refine OW.st (B := T61.setTop (mkF m 10 #[.val (.int n), .val (.ref b50), .val (.int (4 : Int32)), .val (.int ((((0 : Int32) + (1 : Int32)) + (1 : Int32)) + (1 : Int32))), .val (.ref a_QUARTERLY)] [(.int ((((0 : Int32) + (1 : Int32)) + (1 : Int32)) + (1 : Int32)))])) (fun _ kk_ => XS.iloadN X61.here hx rfl (hb hby d2_9) rfl kk_) ?_
        refine OW.st (B := T61.setTop (mkF m 11 #[.val (.int n), .val (.ref b50), .val (.int (4 : Int32)), .val (.int ((((0 : Int32) + (1 : Int32)) + (1 : Int32)) + (1 : Int32))), .val (.ref a_QUARTERLY)] [(.int (4 : Int32)), (.int ((((0 : Int32) + (1 : Int32)) + (1 : Int32)) + (1 : Int32)))])) (fun _ kk_ => XS.iloadN X61.here hx rfl (hb hby d2_10) rfl kk_) ?_
        refine OW.st (B := T61.setTop (mkF m 14 #[.val (.int n), .val (.ref b50), .val (.int (4 : Int32)), .val (.int ((((0 : Int32) + (1 : Int32)) + (1 : Int32)) + (1 : Int32))), .val (.ref a_QUARTERLY)] [])) (fun _ kk_ => XS.icmpNo X61.here hx rfl (hb hby d2_11) rfl (tlt (by decide)).2.1 kk_) ?_
        refine OW.st (B := T61.setTop (mkF m 15 #[.val (.int n), .val (.ref b50), .val (.int (4 : Int32)), .val (.int ((((0 : Int32) + (1 : Int32)) + (1 : Int32)) + (1 : Int32))), .val (.ref a_QUARTERLY)] [(.ref b50)])) (fun _ kk_ => XS.aloadN X61.here hx rfl (hb hby d2_14) rfl rfl kk_) ?_
        refine OW.st (B := T61.setTop (mkF m 16 #[.val (.int n), .val (.ref b50), .val (.int (4 : Int32)), .val (.int ((((0 : Int32) + (1 : Int32)) + (1 : Int32)) + (1 : Int32))), .val (.ref a_QUARTERLY)] [(.int ((((0 : Int32) + (1 : Int32)) + (1 : Int32)) + (1 : Int32))), (.ref b50)])) (fun _ kk_ => XS.iloadN X61.here hx rfl (hb hby d2_15) rfl kk_) ?_
        obtain ⟨cl64, Ar64, q64, S64, Ng64, Hs64, G64⟩ := id Vb50
        have hin64 : ¬ (((((0 : Int32) + (1 : Int32)) + (1 : Int32)) + (1 : Int32)) < 0 ∨ cl64.slots.size ≤ (((((0 : Int32) + (1 : Int32)) + (1 : Int32)) + (1 : Int32))).toNatClampNeg) := inb_of S64 ⟨by decide, by decide⟩
        refine OW.st (B := T61.setTop (mkF m 17 #[.val (.int n), .val (.ref b50), .val (.int (4 : Int32)), .val (.int ((((0 : Int32) + (1 : Int32)) + (1 : Int32)) + (1 : Int32))), .val (.ref a_QUARTERLY)] [(.ref a_MONTHLY)])) (X61.aaload hx (j := ((((0 : Int32) + (1 : Int32)) + (1 : Int32)) + (1 : Int32))) (v := (.ref a_MONTHLY)) (by rw [e61]; exact Ar64.1) (State.isArrayOf_alike hZ.alike Ar64.2.1) rfl Ar64.2.2 hin64 (Has.at Hs64 hin64 rfl) (g := (mkF m 16 #[.val (.int n), .val (.ref b50), .val (.int (4 : Int32)), .val (.int ((((0 : Int32) + (1 : Int32)) + (1 : Int32)) + (1 : Int32))), .val (.ref a_QUARTERLY)] [(.int ((((0 : Int32) + (1 : Int32)) + (1 : Int32)) + (1 : Int32))), (.ref b50)])) rfl rfl (hb hby d2_16)) ?_
        refine OW.st (B := T61.setTop (mkF m 19 #[.val (.int n), .val (.ref b50), .val (.int (4 : Int32)), .val (.int ((((0 : Int32) + (1 : Int32)) + (1 : Int32)) + (1 : Int32))), .val (.ref a_MONTHLY)] [])) (fun _ kk_ => XS.astore X61.here hx rfl (hb hby d2_17) rfl rfl (l' := #[.val (.int n), .val (.ref b50), .val (.int (4 : Int32)), .val (.int ((((0 : Int32) + (1 : Int32)) + (1 : Int32)) + (1 : Int32))), .val (.ref a_MONTHLY)]) rfl kk_) ?_
        refine OW.st (B := T61.setTop (mkF m 21 #[.val (.int n), .val (.ref b50), .val (.int (4 : Int32)), .val (.int ((((0 : Int32) + (1 : Int32)) + (1 : Int32)) + (1 : Int32))), .val (.ref a_MONTHLY)] [(.ref a_MONTHLY)])) (fun _ kk_ => XS.aload X61.here hx rfl (hb hby d2_19) rfl rfl kk_) ?_
        obtain ⟨T65, X65, e65, st65⟩ := getF X61 hx hZ hown (host := "") (Or.inl (w_27 hw)) Via.refl e61 (Fa_MONTHLY_mPerYear.ext O50.2) (g := (mkF m 21 #[.val (.int n), .val (.ref b50), .val (.int (4 : Int32)), .val (.int ((((0 : Int32) + (1 : Int32)) + (1 : Int32)) + (1 : Int32))), .val (.ref a_MONTHLY)] [(.ref a_MONTHLY)])) rfl rfl (hb hby d2_21)
        refine OW.st (B := T65.setTop (mkF m 24 #[.val (.int n), .val (.ref b50), .val (.int (4 : Int32)), .val (.int ((((0 : Int32) + (1 : Int32)) + (1 : Int32)) + (1 : Int32))), .val (.ref a_MONTHLY)] [(.int (12 : Int32))])) (st65) ?_
        refine OW.st (B := T65.setTop (mkF m 25 #[.val (.int n), .val (.ref b50), .val (.int (4 : Int32)), .val (.int ((((0 : Int32) + (1 : Int32)) + (1 : Int32)) + (1 : Int32))), .val (.ref a_MONTHLY)] [(.int n), (.int (12 : Int32))])) (fun _ kk_ => XS.iloadN X65.here hx rfl (hb hby d2_24) rfl kk_) ?_
        by_cases hc66 : (12 : Int32) = n
        · refine OW.st (B := T65.setTop (mkF m 28 #[.val (.int n), .val (.ref b50), .val (.int (4 : Int32)), .val (.int ((((0 : Int32) + (1 : Int32)) + (1 : Int32)) + (1 : Int32))), .val (.ref a_MONTHLY)] [])) (fun _ kk_ => XS.icmpNo X65.here hx rfl (hb hby d2_25) rfl (teq hc66).2 kk_) ?_
          refine OW.st (B := T65.setTop (mkF m 30 #[.val (.int n), .val (.ref b50), .val (.int (4 : Int32)), .val (.int ((((0 : Int32) + (1 : Int32)) + (1 : Int32)) + (1 : Int32))), .val (.ref a_MONTHLY)] [(.ref a_MONTHLY)])) (fun _ kk_ => XS.aload X65.here hx rfl (hb hby d2_28) rfl rfl kk_) ?_
          obtain ⟨_, _, ⟨T67, L67, k67, n67⟩, -, X67, ⟨Lc67, hQ67, l67, y67, z67⟩, st67⟩ := Jvm.LawKit.callS X65 hx (y := (⟨"java/util/Optional", "of", "(Ljava/lang/Object;)Ljava/util/Optional;"⟩ : MethodName)) hown (mvT hZ (w_42 hw)) (mvT hZ (w_43 hw)) (mvT hZ (w_31 hw)) (mvT hZ (w_44 hw)) (by decide) (backOf (W := 0) (rmP l Z a0 hw [] a_MONTHLY T50.heap n0 O50 ) hZ (w_44 hw) (w_31 hw) (by decide) (by decide)) (g := (mkF m 30 #[.val (.int n), .val (.ref b50), .val (.int (4 : Int32)), .val (.int ((((0 : Int32) + (1 : Int32)) + (1 : Int32)) + (1 : Int32))), .val (.ref a_MONTHLY)] [(.ref a_MONTHLY)])) rfl (by rw [hml]; rfl) (argsL := [(.ref a_MONTHLY)]) (rest := []) (lenOf pd_3 rfl) rfl (by show 2 * 0 + _ ≤ _; exact Nat.le_of_eq rfl) (hb hby d2_30) (fun _ _ => ⟨rfl, e65, (by decide : 1 + 1 ≤ _), (by decide : 4 + 1 ≤ _)⟩)
          dsimp only [Pt.U, Pt.locs, Pt.cells, Pt.slots] at X67 l67 y67 z67 st67 hQ67
          subst l67 y67 z67
          obtain ⟨b67, rfl, Nq67, K67, Eo67, Fo67⟩ := hQ67
          have N67 := Fr.app N50 Nq67
          have O67 : Old Z n0 T67.heap := O50.keep K67 all0
          have KC67 : Keep h0 T67.heap [] := KC50.trans K67 all0
          refine OW.st (B := T67.setTop (mkF m 33 #[.val (.int n), .val (.ref b50), .val (.int (4 : Int32)), .val (.int ((((0 : Int32) + (1 : Int32)) + (1 : Int32)) + (1 : Int32))), .val (.ref a_MONTHLY)] [(.ref b67)])) (st67) ?_
          exact OW.ret X67 hx hlk (i := .areturn) Bd.returns rfl (Or.inr (Or.inr (Or.inr (Or.inr ⟨rfl, rfl, rfl⟩)))) (hb hby d2_33) rfl (by decide) (by decide) ⟨b67, rfl, N67, KC67, Eo67, (show (.ref a_MONTHLY) = (own_exp a_ANNUAL a_SEMIANNUAL a_QUARTERLY a_MONTHLY n) by simp [own_exp, eq_comm (a := n), hc54, hc58, hc62, hc66]) ▸ Fo67⟩
        · refine OW.st (B := T65.setTop (mkF m 34 #[.val (.int n), .val (.ref b50), .val (.int (4 : Int32)), .val (.int ((((0 : Int32) + (1 : Int32)) + (1 : Int32)) + (1 : Int32))), .val (.ref a_MONTHLY)] [])) (fun _ kk_ => XS.icmpYes X65.here hx rfl (pc0 := 25) (pc' := 34) rfl (hb hby d2_25) rfl (feq hc66).2 (by decide) (by decide) kk_) ?_
          refine OW.st (B := T65.setTop (mkF m 37 #[.val (.int n), .val (.ref b50), .val (.int (4 : Int32)), .val (.int (((((0 : Int32) + (1 : Int32)) + (1 : Int32)) + (1 : Int32)) + (1 : Int32))), .val (.ref a_MONTHLY)] [])) (fun _ kk_ => XS.iinc X65.here hx rfl (hb hby d2_34) rfl (l' := #[.val (.int n), .val (.ref b50), .val (.int (4 : Int32)), .val (.int (((((0 : Int32) + (1 : Int32)) + (1 : Int32)) + (1 : Int32)) + (1 : Int32))), .val (.ref a_MONTHLY)]) rfl kk_) ?_
          refine OW.st (B := T65.setTop (mkF m 9 #[.val (.int n), .val (.ref b50), .val (.int (4 : Int32)), .val (.int (((((0 : Int32) + (1 : Int32)) + (1 : Int32)) + (1 : Int32)) + (1 : Int32))), .val (.ref a_MONTHLY)] [])) (fun _ kk_ => XS.goto X65.here hx rfl (pc0 := 37) (pc' := 9) rfl (hb hby d2_37) (by decide) (by decide) kk_) ?_
          refine OW.st (B := T65.setTop (mkF m 10 #[.val (.int n), .val (.ref b50), .val (.int (4 : Int32)), .val (.int (((((0 : Int32) + (1 : Int32)) + (1 : Int32)) + (1 : Int32)) + (1 : Int32))), .val (.ref a_MONTHLY)] [(.int (((((0 : Int32) + (1 : Int32)) + (1 : Int32)) + (1 : Int32)) + (1 : Int32)))])) (fun _ kk_ => XS.iloadN X65.here hx rfl (hb hby d2_9) rfl kk_) ?_
          refine OW.st (B := T65.setTop (mkF m 11 #[.val (.int n), .val (.ref b50), .val (.int (4 : Int32)), .val (.int (((((0 : Int32) + (1 : Int32)) + (1 : Int32)) + (1 : Int32)) + (1 : Int32))), .val (.ref a_MONTHLY)] [(.int (4 : Int32)), (.int (((((0 : Int32) + (1 : Int32)) + (1 : Int32)) + (1 : Int32)) + (1 : Int32)))])) (fun _ kk_ => XS.iloadN X65.here hx rfl (hb hby d2_10) rfl kk_) ?_
          refine OW.st (B := T65.setTop (mkF m 40 #[.val (.int n), .val (.ref b50), .val (.int (4 : Int32)), .val (.int (((((0 : Int32) + (1 : Int32)) + (1 : Int32)) + (1 : Int32)) + (1 : Int32))), .val (.ref a_MONTHLY)] [])) (fun _ kk_ => XS.icmpYes X65.here hx rfl (pc0 := 11) (pc' := 40) rfl (hb hby d2_11) rfl (flt (by decide)).2.1 (by decide) (by decide) kk_) ?_
          obtain ⟨_, _, ⟨T68, L68, k68, n68⟩, -, X68, ⟨Lc68, hQ68, l68, y68, z68⟩, st68⟩ := Jvm.LawKit.callS X65 hx (y := (⟨"java/util/Optional", "empty", "()Ljava/util/Optional;"⟩ : MethodName)) hown (mvT hZ (w_29 hw)) (mvT hZ (w_30 hw)) (mvT hZ (w_31 hw)) (mvT hZ (w_32 hw)) (by decide) (backOf (W := 0) (rmM l Z a0 hw [] a__VALUES a_ANNUAL a_SEMIANNUAL a_QUARTERLY a_MONTHLY a_EMPTY ka__VALUES T50.heap n0 O50 hS) hZ (w_32 hw) (w_31 hw) (by decide) (by decide)) (g := (mkF m 40 #[.val (.int n), .val (.ref b50), .val (.int (4 : Int32)), .val (.int (((((0 : Int32) + (1 : Int32)) + (1 : Int32)) + (1 : Int32)) + (1 : Int32))), .val (.ref a_MONTHLY)] [])) rfl (by rw [hml]; rfl) (argsL := []) (rest := []) (lenOf pd_4 rfl) rfl (by show 2 * 0 + _ ≤ _; exact Nat.le_of_eq rfl) (hb hby d2_40) (fun _ _ => ⟨rfl, e65, (by decide : 1 + 0 ≤ _), (by decide : 4 + 0 ≤ _)⟩)
          dsimp only [Pt.U, Pt.locs, Pt.cells, Pt.slots] at X68 l68 y68 z68 st68 hQ68
          subst l68 y68 z68
          obtain ⟨rfl, Nq68, e68⟩ := hQ68
          have N68 := Fr.app N50 Nq68
          refine OW.st (B := T68.setTop (mkF m 43 #[.val (.int n), .val (.ref b50), .val (.int (4 : Int32)), .val (.int (((((0 : Int32) + (1 : Int32)) + (1 : Int32)) + (1 : Int32)) + (1 : Int32))), .val (.ref a_MONTHLY)] [(.ref a_EMPTY)])) (st68) ?_
          exact OW.ret X68 hx hlk (i := .areturn) Bd.returns rfl (Or.inr (Or.inr (Or.inr (Or.inr ⟨rfl, rfl, rfl⟩)))) (hb hby d2_43) e68 (by decide) (by decide) ⟨a_EMPTY, rfl, N68, KC50, (Ea_EMPTY.ext O50.2), (show .null = (own_exp a_ANNUAL a_SEMIANNUAL a_QUARTERLY a_MONTHLY n) by simp [own_exp, eq_comm (a := n), hc54, hc58, hc62, hc66]) ▸ (Fa_EMPTY_value.ext O50.2)⟩
theorem ef_0 (m : MethodId) (x0 : Int32) (x1 : Int32) : entryFrame m #[(.int x0), (.int x1)] maxLocals = mkF m 0 #[.val (.int x0), .val (.int x1), .unset, .unset, .unset] [] := by first | (simp [entryFrame, mkF, argsToLocals, Value.category, maxLocals]; done) | rfl
def Q0 (Z : State) (n1 : Int32) (n2 : Int32) (a__VALUES : Addr) (a_ANNUAL : Addr) (a_SEMIANNUAL : Addr) (a_QUARTERLY : Addr) (a_MONTHLY : Addr) (a_EMPTY : Addr) (ka__VALUES : ClassId) (h0 : Heap) (n0 : Nat) (v : Option Value) (h : Heap) (L : List Loc) : Prop := v = some (.int 1) ∧ Fr n0 L
set_option maxRecDepth 65536 in
set_option maxHeartbeats 40000000 in
theorem rm0 (l : Launch) (Z : State) (a0 : Array Value) (hw : ∀ d ∈ tables_1, d.before a0 Z = true) (ws : List Jvm.Cond) (n1 : Int32) (n2 : Int32) (a__VALUES : Addr) (a_ANNUAL : Addr) (a_SEMIANNUAL : Addr) (a_QUARTERLY : Addr) (a_MONTHLY : Addr) (a_EMPTY : Addr) (ka__VALUES : ClassId) (h0 : Heap) (n0 : Nat) (O0 : Old Z n0 h0) (hS : OwnS Z a__VALUES a_ANNUAL a_SEMIANNUAL a_QUARTERLY a_MONTHLY a_EMPTY ka__VALUES) :
    MetFree l x (head1 (Jvm.Cond.code x code maxLocals ret :: ws) room_1) (fun aa_ UU_ => aa_ = #[(.int n1), (.int n2)] ∧ Z.Warmed39 UU_.vm ∧ UU_.heap = h0) (fun _ _ _ _ _ => True) (fun _ UU_ oo_ UV_ => ∃ vv_ LL_, oo_ = .returned vv_ ∧ Q0 Z n1 n2 a__VALUES a_ANNUAL a_SEMIANNUAL a_QUARTERLY a_MONTHLY a_EMPTY ka__VALUES h0 n0 vv_ UV_.heap LL_ ∧ FrameEnd UU_ oo_ UV_ LL_ 2 5) := by
  refine MetFree.of_bodySF (plainFor_of_name pn_3) hisR ?_
  intro p e s m args below meth c s₁ Bd hml0 hP hK
  obtain ⟨rfl, hZ, hh⟩ := hP
  have hx := Bd.exec
  have hby := Bd.bytes
  have hlk := BodyLoose.notSynchronized Bd
  have hml : c.maxLocals = 5 := hml0
  have hown : s.vm.findClass "tenorbook/core/FrequencyOfPerYearPinLaw" = some m.cls := findClass_of_methodNamed Bd.named
  have hnm := (name_of_methodNamed Bd.named Bd.method).1
  have X0 : Stand p l e room_1 s m #[(.int n1), (.int n2)] below meth c s₁ [] 0 0 := Stand.of_body Bd
  have e0 : s₁.heap = h0 := by rw [← hh, Bd.state]; rfl
  have N0 := Fr.nil n0
  suffices hOW : OW p e below s (Q0 Z n1 n2 a__VALUES a_ANNUAL a_SEMIANNUAL a_QUARTERLY a_MONTHLY a_EMPTY ka__VALUES h0 n0) 2 5 (s₁.setTop (mkF m 0 #[.val (.int n1), .val (.int n2), .unset, .unset, .unset] [])) by
    obtain ⟨q1, q2, q3, q4⟩ := hOW
    exact ⟨q1, q2, castTop (ef_0 m n1 n2) q3, q4⟩
  have hS' := hS
  obtain ⟨Sa__VALUES, Ea__VALUES, Sa_ANNUAL, Ea_ANNUAL, Sa_SEMIANNUAL, Ea_SEMIANNUAL, Sa_QUARTERLY, Ea_QUARTERLY, Sa_MONTHLY, Ea_MONTHLY, Sa_EMPTY, Ea_EMPTY, Fa_ANNUAL_mPerYear, Fa_SEMIANNUAL_mPerYear, Fa_QUARTERLY_mPerYear, Fa_MONTHLY_mPerYear, Va__VALUES, Fa_EMPTY_value⟩ := hS'
  have J69 : ∀ (T69 : State) (L69 : List Loc) (X69 : Stand p l e room_1 s m #[(.int n1), (.int n2)] below meth c T69 L69 0 0) (N69 : Fr n0 L69) (e69 : T69.heap = h0) (n : Int32), OW p e below s (Q0 Z n1 n2 a__VALUES a_ANNUAL a_SEMIANNUAL a_QUARTERLY a_MONTHLY a_EMPTY ka__VALUES h0 n0) 2 5 (T69.setTop (mkF m 18 #[.val (.int n1), .val (.int n2), .val (.int n), .unset, .unset] [])) := by
    intro T69 L69 X69 N69 e69 n 
    rcases own_five n with rfl | rfl | rfl | rfl | ⟨f1, f2, f3, f4⟩
    · refine OW.st (B := T69.setTop (mkF m 19 #[.val (.int n1), .val (.int n2), .val (.int (1 : Int32)), .unset, .unset] [(.int (1 : Int32))])) (fun _ kk_ => XS.iloadN X69.here hx rfl (hb hby at_18) rfl kk_) ?_
      obtain ⟨_, _, ⟨T70, L70, k70, n70⟩, -, X70, ⟨Lc70, hQ70, l70, y70, z70⟩, st70⟩ := Jvm.LawKit.callS X69 hx (y := (⟨"tenorbook/core/FrequencyOfPerYearPinLaw", "expected", "(I)Ltenorbook/core/Frequency;"⟩ : MethodName)) hown (mvT hZ (w_0 hw)) (mvT hZ (w_1 hw)) (mvT hZ (w_2 hw)) (mvT hZ (w_3 hw)) (by decide) (backOf (W := 0) (rmE l Z a0 hw [] (1 : Int32) a__VALUES a_ANNUAL a_SEMIANNUAL a_QUARTERLY a_MONTHLY a_EMPTY ka__VALUES h0 n0 O0 hS) hZ (w_3 hw) (w_2 hw) (by decide) (by decide)) (g := (mkF m 19 #[.val (.int n1), .val (.int n2), .val (.int (1 : Int32)), .unset, .unset] [(.int (1 : Int32))])) rfl (by rw [hml]; rfl) (argsL := [(.int (1 : Int32))]) (rest := []) (lenOf pd_5 rfl) rfl (by show 2 * 0 + _ ≤ _; exact Nat.le_of_eq rfl) (hb hby at_19) (fun _ _ => ⟨rfl, e69, (by decide : 0 + 0 ≤ _), (by decide : 0 + 0 ≤ _)⟩)
      dsimp only [Pt.U, Pt.locs, Pt.cells, Pt.slots] at X70 l70 y70 z70 st70 hQ70
      subst l70 y70 z70
      obtain ⟨hv70, Nq70, e70⟩ := hQ70
      have N70 := Fr.app N69 Nq70
      rw [show (own_exp a_ANNUAL a_SEMIANNUAL a_QUARTERLY a_MONTHLY (1 : Int32)) = (.ref a_ANNUAL) by simp [own_exp]] at hv70; subst hv70
      refine OW.st (B := T70.setTop (mkF m 22 #[.val (.int n1), .val (.int n2), .val (.int (1 : Int32)), .unset, .unset] [(.ref a_ANNUAL)])) (st70) ?_
      refine OW.st (B := T70.setTop (mkF m 23 #[.val (.int n1), .val (.int n2), .val (.int (1 : Int32)), .val (.ref a_ANNUAL), .unset] [])) (fun _ kk_ => XS.astoreN X70.here hx rfl (hb hby at_22) rfl rfl (l' := #[.val (.int n1), .val (.int n2), .val (.int (1 : Int32)), .val (.ref a_ANNUAL), .unset]) rfl kk_) ?_
      refine OW.st (B := T70.setTop (mkF m 24 #[.val (.int n1), .val (.int n2), .val (.int (1 : Int32)), .val (.ref a_ANNUAL), .unset] [(.int (1 : Int32))])) (fun _ kk_ => XS.iloadN X70.here hx rfl (hb hby at_23) rfl kk_) ?_
      obtain ⟨_, _, ⟨T71, L71, k71, n71⟩, -, X71, ⟨Lc71, hQ71, l71, y71, z71⟩, st71⟩ := Jvm.LawKit.callS X70 hx (y := (⟨"tenorbook/core/Frequency", "ofPerYear", "(I)Ljava/util/Optional;"⟩ : MethodName)) hown (mvT hZ (w_4 hw)) (mvT hZ (w_5 hw)) (mvT hZ (w_6 hw)) (mvT hZ (w_7 hw)) (by decide) (backOf (W := 0) (rmY l Z a0 hw [] (1 : Int32) a__VALUES a_ANNUAL a_SEMIANNUAL a_QUARTERLY a_MONTHLY a_EMPTY ka__VALUES h0 n0 O0 hS) hZ (w_7 hw) (w_6 hw) (by decide) (by decide)) (g := (mkF m 24 #[.val (.int n1), .val (.int n2), .val (.int (1 : Int32)), .val (.ref a_ANNUAL), .unset] [(.int (1 : Int32))])) rfl (by rw [hml]; rfl) (argsL := [(.int (1 : Int32))]) (rest := []) (lenOf pd_6 rfl) rfl (by show 2 * 0 + _ ≤ _; exact Nat.le_of_eq rfl) (hb hby at_24) (fun _ _ => ⟨rfl, e70, (by decide : 0 + 2 ≤ _), (by decide : 0 + 5 ≤ _)⟩)
      dsimp only [Pt.U, Pt.locs, Pt.cells, Pt.slots] at X71 l71 y71 z71 st71 hQ71
      subst l71 y71 z71
      obtain ⟨b71, rfl, Nq71, K71, Ey71, Fy71⟩ := hQ71
      have N71 := Fr.app N70 Nq71
      have O71 : Old Z n0 T71.heap := O0.keep K71 all0
      rw [show (own_exp a_ANNUAL a_SEMIANNUAL a_QUARTERLY a_MONTHLY (1 : Int32)) = (.ref a_ANNUAL) by simp [own_exp]] at Fy71
      refine OW.st (B := T71.setTop (mkF m 27 #[.val (.int n1), .val (.int n2), .val (.int (1 : Int32)), .val (.ref a_ANNUAL), .unset] [(.ref b71)])) (st71) ?_
      refine OW.st (B := T71.setTop (mkF m 29 #[.val (.int n1), .val (.int n2), .val (.int (1 : Int32)), .val (.ref a_ANNUAL), .val (.ref b71)] [])) (fun _ kk_ => XS.astore X71.here hx rfl (hb hby at_27) rfl rfl (l' := #[.val (.int n1), .val (.int n2), .val (.int (1 : Int32)), .val (.ref a_ANNUAL), .val (.ref b71)]) rfl kk_) ?_
      refine OW.st (B := T71.setTop (mkF m 30 #[.val (.int n1), .val (.int n2), .val (.int (1 : Int32)), .val (.ref a_ANNUAL), .val (.ref b71)] [(.ref a_ANNUAL)])) (fun _ kk_ => XS.aloadN X71.here hx rfl (hb hby at_29) rfl rfl kk_) ?_
      refine OW.st (B := T71.setTop (mkF m 47 #[.val (.int n1), .val (.int n2), .val (.int (1 : Int32)), .val (.ref a_ANNUAL), .val (.ref b71)] [])) (fun _ kk_ => XS.ifnonnullYes X71.here hx rfl (pc0 := 30) (pc' := 47) rfl (hb hby at_30) rfl (by decide) (by decide) kk_) ?_
      refine OW.st (B := T71.setTop (mkF m 49 #[.val (.int n1), .val (.int n2), .val (.int (1 : Int32)), .val (.ref a_ANNUAL), .val (.ref b71)] [(.ref b71)])) (fun _ kk_ => XS.aload X71.here hx rfl (hb hby at_47) rfl rfl kk_) ?_
      obtain ⟨cq72, kq72, q72a, q72b, q72c⟩ := isOf hZ rfl Ey71
      obtain ⟨_, _, ⟨T72, L72, k72, n72⟩, -, X72, ⟨Lc72, hQ72, l72, y72, z72⟩, st72⟩ := X71.virtualBack hx (y := (⟨"java/util/Optional", "isPresent", "()Z"⟩ : MethodName)) (z := (⟨"java/util/Optional", "isPresent", "()Z"⟩ : MethodName)) hown (mvT hZ (w_34 hw)) (mvT hZ (w_35 hw)) (notFace_of_selects (args := #[]) (mvT hZ (w_37 hw))) (mvT hZ (w_37 hw)) (mvT hZ (w_36 hw)) (by decide) (backOf (W := 0) (rmSY l Z a0 hw [] b71 a_ANNUAL T71.heap n0 O71 Fy71) hZ (w_38 hw) (w_31 hw) (by decide) (by decide)) q72a q72c (g := (mkF m 49 #[.val (.int n1), .val (.int n2), .val (.int (1 : Int32)), .val (.ref a_ANNUAL), .val (.ref b71)] [(.ref b71)])) rfl (by rw [hml]; rfl) (Steps.refl _) (argsL := []) (rest := []) (lenOf pd_7 rfl) rfl (by show 2 * 0 + _ ≤ _; exact Nat.le_of_eq rfl) (hb hby at_49) (fun _ _ => ⟨rfl, rfl, (by decide : 2 + 0 ≤ _), (by decide : 5 + 0 ≤ _)⟩)
      dsimp only [Pt.U, Pt.locs, Pt.cells, Pt.slots] at X72 l72 y72 z72 st72 hQ72
      subst l72 y72 z72
      obtain ⟨rfl, Nq72, e72⟩ := hQ72
      have N72 := Fr.app N71 Nq72
      refine OW.tr (B := T72.setTop (mkF m 52 #[.val (.int n1), .val (.int n2), .val (.int (1 : Int32)), .val (.ref a_ANNUAL), .val (.ref b71)] [(.int (1 : Int32))])) (st72) ?_
      refine OW.st (B := T72.setTop (mkF m 55 #[.val (.int n1), .val (.int n2), .val (.int (1 : Int32)), .val (.ref a_ANNUAL), .val (.ref b71)] [])) (fun _ kk_ => XS.ifNo X72.here hx rfl (hb hby at_52) rfl ((if0 _ _).trans (feq (by decide)).1) kk_) ?_
      refine OW.st (B := T72.setTop (mkF m 57 #[.val (.int n1), .val (.int n2), .val (.int (1 : Int32)), .val (.ref a_ANNUAL), .val (.ref b71)] [(.ref b71)])) (fun _ kk_ => XS.aload X72.here hx rfl (hb hby at_55) rfl rfl kk_) ?_
      obtain ⟨cq73, kq73, q73a, q73b, q73c⟩ := isOf hZ e72 Ey71
      obtain ⟨_, _, ⟨T73, L73, k73, n73⟩, -, X73, ⟨Lc73, hQ73, l73, y73, z73⟩, st73⟩ := X72.virtualBack hx (y := (⟨"java/util/Optional", "get", "()Ljava/lang/Object;"⟩ : MethodName)) (z := (⟨"java/util/Optional", "get", "()Ljava/lang/Object;"⟩ : MethodName)) hown (mvT hZ (w_58 hw)) (mvT hZ (w_59 hw)) (notFace_of_selects (args := #[]) (mvT hZ (w_61 hw))) (mvT hZ (w_61 hw)) (mvT hZ (w_60 hw)) (by decide) (backOf (W := 0) (rmG l Z a0 hw [] b71 a_ANNUAL T71.heap n0 O71 Fy71) hZ (w_62 hw) (w_31 hw) (by decide) (by decide)) q73a q73c (g := (mkF m 57 #[.val (.int n1), .val (.int n2), .val (.int (1 : Int32)), .val (.ref a_ANNUAL), .val (.ref b71)] [(.ref b71)])) rfl (by rw [hml]; rfl) (Steps.refl _) (argsL := []) (rest := []) (lenOf pd_8 rfl) rfl (by show 2 * 0 + _ ≤ _; exact Nat.le_of_eq rfl) (hb hby at_57) (fun _ _ => ⟨rfl, e72, (by decide : 2 + 0 ≤ _), (by decide : 5 + 0 ≤ _)⟩)
      dsimp only [Pt.U, Pt.locs, Pt.cells, Pt.slots] at X73 l73 y73 z73 st73 hQ73
      subst l73 y73 z73
      obtain ⟨rfl, Nq73, e73⟩ := hQ73
      have N73 := Fr.app N72 Nq73
      refine OW.tr (B := T73.setTop (mkF m 60 #[.val (.int n1), .val (.int n2), .val (.int (1 : Int32)), .val (.ref a_ANNUAL), .val (.ref b71)] [(.ref a_ANNUAL)])) (st73) ?_
      refine OW.st (B := T73.setTop (mkF m 61 #[.val (.int n1), .val (.int n2), .val (.int (1 : Int32)), .val (.ref a_ANNUAL), .val (.ref b71)] [(.ref a_ANNUAL), (.ref a_ANNUAL)])) (fun _ kk_ => XS.aloadN X73.here hx rfl (hb hby at_60) rfl rfl kk_) ?_
      refine OW.st (B := T73.setTop (mkF m 64 #[.val (.int n1), .val (.int n2), .val (.int (1 : Int32)), .val (.ref a_ANNUAL), .val (.ref b71)] [])) (fun _ kk_ => Jvm.RoadKit.acmp (g := (mkF m 61 #[.val (.int n1), .val (.int n2), .val (.int (1 : Int32)), .val (.ref a_ANNUAL), .val (.ref b71)] [(.ref a_ANNUAL), (.ref a_ANNUAL)])) X73 hx rfl rfl rfl (pc0 := 61) (pc' := 64) (same := true) rfl (hb hby at_61) rfl (decide_eq_true rfl) (by decide) (by decide) kk_) ?_
      refine OW.st (B := T73.setTop (mkF m 65 #[.val (.int n1), .val (.int n2), .val (.int (1 : Int32)), .val (.ref a_ANNUAL), .val (.ref b71)] [(.int (1 : Int32))])) (fun _ kk_ => XS.iconst X73.here hx rfl (hb hby at_64) kk_) ?_
      refine OW.st (B := T73.setTop (mkF m 69 #[.val (.int n1), .val (.int n2), .val (.int (1 : Int32)), .val (.ref a_ANNUAL), .val (.ref b71)] [(.int (1 : Int32))])) (fun _ kk_ => XS.goto X73.here hx rfl (pc0 := 65) (pc' := 69) rfl (hb hby at_65) (by decide) (by decide) kk_) ?_
      exact OW.ret X73 hx hlk (i := .ireturn) Bd.returns rfl (Or.inl ⟨rfl, Or.inr (Or.inl rfl), _, rfl⟩) (hb hby at_69) e73 (by decide) (by decide) ⟨rfl, N73⟩
    · refine OW.st (B := T69.setTop (mkF m 19 #[.val (.int n1), .val (.int n2), .val (.int (2 : Int32)), .unset, .unset] [(.int (2 : Int32))])) (fun _ kk_ => XS.iloadN X69.here hx rfl (hb hby at_18) rfl kk_) ?_
      obtain ⟨_, _, ⟨T74, L74, k74, n74⟩, -, X74, ⟨Lc74, hQ74, l74, y74, z74⟩, st74⟩ := Jvm.LawKit.callS X69 hx (y := (⟨"tenorbook/core/FrequencyOfPerYearPinLaw", "expected", "(I)Ltenorbook/core/Frequency;"⟩ : MethodName)) hown (mvT hZ (w_0 hw)) (mvT hZ (w_1 hw)) (mvT hZ (w_2 hw)) (mvT hZ (w_3 hw)) (by decide) (backOf (W := 0) (rmE l Z a0 hw [] (2 : Int32) a__VALUES a_ANNUAL a_SEMIANNUAL a_QUARTERLY a_MONTHLY a_EMPTY ka__VALUES h0 n0 O0 hS) hZ (w_3 hw) (w_2 hw) (by decide) (by decide)) (g := (mkF m 19 #[.val (.int n1), .val (.int n2), .val (.int (2 : Int32)), .unset, .unset] [(.int (2 : Int32))])) rfl (by rw [hml]; rfl) (argsL := [(.int (2 : Int32))]) (rest := []) (lenOf pd_5 rfl) rfl (by show 2 * 0 + _ ≤ _; exact Nat.le_of_eq rfl) (hb hby at_19) (fun _ _ => ⟨rfl, e69, (by decide : 0 + 0 ≤ _), (by decide : 0 + 0 ≤ _)⟩)
      dsimp only [Pt.U, Pt.locs, Pt.cells, Pt.slots] at X74 l74 y74 z74 st74 hQ74
      subst l74 y74 z74
      obtain ⟨hv74, Nq74, e74⟩ := hQ74
      have N74 := Fr.app N69 Nq74
      rw [show (own_exp a_ANNUAL a_SEMIANNUAL a_QUARTERLY a_MONTHLY (2 : Int32)) = (.ref a_SEMIANNUAL) by simp [own_exp]] at hv74; subst hv74
      refine OW.st (B := T74.setTop (mkF m 22 #[.val (.int n1), .val (.int n2), .val (.int (2 : Int32)), .unset, .unset] [(.ref a_SEMIANNUAL)])) (st74) ?_
      refine OW.st (B := T74.setTop (mkF m 23 #[.val (.int n1), .val (.int n2), .val (.int (2 : Int32)), .val (.ref a_SEMIANNUAL), .unset] [])) (fun _ kk_ => XS.astoreN X74.here hx rfl (hb hby at_22) rfl rfl (l' := #[.val (.int n1), .val (.int n2), .val (.int (2 : Int32)), .val (.ref a_SEMIANNUAL), .unset]) rfl kk_) ?_
      refine OW.st (B := T74.setTop (mkF m 24 #[.val (.int n1), .val (.int n2), .val (.int (2 : Int32)), .val (.ref a_SEMIANNUAL), .unset] [(.int (2 : Int32))])) (fun _ kk_ => XS.iloadN X74.here hx rfl (hb hby at_23) rfl kk_) ?_
      obtain ⟨_, _, ⟨T75, L75, k75, n75⟩, -, X75, ⟨Lc75, hQ75, l75, y75, z75⟩, st75⟩ := Jvm.LawKit.callS X74 hx (y := (⟨"tenorbook/core/Frequency", "ofPerYear", "(I)Ljava/util/Optional;"⟩ : MethodName)) hown (mvT hZ (w_4 hw)) (mvT hZ (w_5 hw)) (mvT hZ (w_6 hw)) (mvT hZ (w_7 hw)) (by decide) (backOf (W := 0) (rmY l Z a0 hw [] (2 : Int32) a__VALUES a_ANNUAL a_SEMIANNUAL a_QUARTERLY a_MONTHLY a_EMPTY ka__VALUES h0 n0 O0 hS) hZ (w_7 hw) (w_6 hw) (by decide) (by decide)) (g := (mkF m 24 #[.val (.int n1), .val (.int n2), .val (.int (2 : Int32)), .val (.ref a_SEMIANNUAL), .unset] [(.int (2 : Int32))])) rfl (by rw [hml]; rfl) (argsL := [(.int (2 : Int32))]) (rest := []) (lenOf pd_6 rfl) rfl (by show 2 * 0 + _ ≤ _; exact Nat.le_of_eq rfl) (hb hby at_24) (fun _ _ => ⟨rfl, e74, (by decide : 0 + 2 ≤ _), (by decide : 0 + 5 ≤ _)⟩)
      dsimp only [Pt.U, Pt.locs, Pt.cells, Pt.slots] at X75 l75 y75 z75 st75 hQ75
      subst l75 y75 z75
      obtain ⟨b75, rfl, Nq75, K75, Ey75, Fy75⟩ := hQ75
      have N75 := Fr.app N74 Nq75
      have O75 : Old Z n0 T75.heap := O0.keep K75 all0
      rw [show (own_exp a_ANNUAL a_SEMIANNUAL a_QUARTERLY a_MONTHLY (2 : Int32)) = (.ref a_SEMIANNUAL) by simp [own_exp]] at Fy75
      refine OW.st (B := T75.setTop (mkF m 27 #[.val (.int n1), .val (.int n2), .val (.int (2 : Int32)), .val (.ref a_SEMIANNUAL), .unset] [(.ref b75)])) (st75) ?_
      refine OW.st (B := T75.setTop (mkF m 29 #[.val (.int n1), .val (.int n2), .val (.int (2 : Int32)), .val (.ref a_SEMIANNUAL), .val (.ref b75)] [])) (fun _ kk_ => XS.astore X75.here hx rfl (hb hby at_27) rfl rfl (l' := #[.val (.int n1), .val (.int n2), .val (.int (2 : Int32)), .val (.ref a_SEMIANNUAL), .val (.ref b75)]) rfl kk_) ?_
      refine OW.st (B := T75.setTop (mkF m 30 #[.val (.int n1), .val (.int n2), .val (.int (2 : Int32)), .val (.ref a_SEMIANNUAL), .val (.ref b75)] [(.ref a_SEMIANNUAL)])) (fun _ kk_ => XS.aloadN X75.here hx rfl (hb hby at_29) rfl rfl kk_) ?_
      refine OW.st (B := T75.setTop (mkF m 47 #[.val (.int n1), .val (.int n2), .val (.int (2 : Int32)), .val (.ref a_SEMIANNUAL), .val (.ref b75)] [])) (fun _ kk_ => XS.ifnonnullYes X75.here hx rfl (pc0 := 30) (pc' := 47) rfl (hb hby at_30) rfl (by decide) (by decide) kk_) ?_
      refine OW.st (B := T75.setTop (mkF m 49 #[.val (.int n1), .val (.int n2), .val (.int (2 : Int32)), .val (.ref a_SEMIANNUAL), .val (.ref b75)] [(.ref b75)])) (fun _ kk_ => XS.aload X75.here hx rfl (hb hby at_47) rfl rfl kk_) ?_
      obtain ⟨cq76, kq76, q76a, q76b, q76c⟩ := isOf hZ rfl Ey75
      obtain ⟨_, _, ⟨T76, L76, k76, n76⟩, -, X76, ⟨Lc76, hQ76, l76, y76, z76⟩, st76⟩ := X75.virtualBack hx (y := (⟨"java/util/Optional", "isPresent", "()Z"⟩ : MethodName)) (z := (⟨"java/util/Optional", "isPresent", "()Z"⟩ : MethodName)) hown (mvT hZ (w_34 hw)) (mvT hZ (w_35 hw)) (notFace_of_selects (args := #[]) (mvT hZ (w_37 hw))) (mvT hZ (w_37 hw)) (mvT hZ (w_36 hw)) (by decide) (backOf (W := 0) (rmSY l Z a0 hw [] b75 a_SEMIANNUAL T75.heap n0 O75 Fy75) hZ (w_38 hw) (w_31 hw) (by decide) (by decide)) q76a q76c (g := (mkF m 49 #[.val (.int n1), .val (.int n2), .val (.int (2 : Int32)), .val (.ref a_SEMIANNUAL), .val (.ref b75)] [(.ref b75)])) rfl (by rw [hml]; rfl) (Steps.refl _) (argsL := []) (rest := []) (lenOf pd_7 rfl) rfl (by show 2 * 0 + _ ≤ _; exact Nat.le_of_eq rfl) (hb hby at_49) (fun _ _ => ⟨rfl, rfl, (by decide : 2 + 0 ≤ _), (by decide : 5 + 0 ≤ _)⟩)
      dsimp only [Pt.U, Pt.locs, Pt.cells, Pt.slots] at X76 l76 y76 z76 st76 hQ76
      subst l76 y76 z76
      obtain ⟨rfl, Nq76, e76⟩ := hQ76
      have N76 := Fr.app N75 Nq76
      refine OW.tr (B := T76.setTop (mkF m 52 #[.val (.int n1), .val (.int n2), .val (.int (2 : Int32)), .val (.ref a_SEMIANNUAL), .val (.ref b75)] [(.int (1 : Int32))])) (st76) ?_
      refine OW.st (B := T76.setTop (mkF m 55 #[.val (.int n1), .val (.int n2), .val (.int (2 : Int32)), .val (.ref a_SEMIANNUAL), .val (.ref b75)] [])) (fun _ kk_ => XS.ifNo X76.here hx rfl (hb hby at_52) rfl ((if0 _ _).trans (feq (by decide)).1) kk_) ?_
      refine OW.st (B := T76.setTop (mkF m 57 #[.val (.int n1), .val (.int n2), .val (.int (2 : Int32)), .val (.ref a_SEMIANNUAL), .val (.ref b75)] [(.ref b75)])) (fun _ kk_ => XS.aload X76.here hx rfl (hb hby at_55) rfl rfl kk_) ?_
      obtain ⟨cq77, kq77, q77a, q77b, q77c⟩ := isOf hZ e76 Ey75
      obtain ⟨_, _, ⟨T77, L77, k77, n77⟩, -, X77, ⟨Lc77, hQ77, l77, y77, z77⟩, st77⟩ := X76.virtualBack hx (y := (⟨"java/util/Optional", "get", "()Ljava/lang/Object;"⟩ : MethodName)) (z := (⟨"java/util/Optional", "get", "()Ljava/lang/Object;"⟩ : MethodName)) hown (mvT hZ (w_58 hw)) (mvT hZ (w_59 hw)) (notFace_of_selects (args := #[]) (mvT hZ (w_61 hw))) (mvT hZ (w_61 hw)) (mvT hZ (w_60 hw)) (by decide) (backOf (W := 0) (rmG l Z a0 hw [] b75 a_SEMIANNUAL T75.heap n0 O75 Fy75) hZ (w_62 hw) (w_31 hw) (by decide) (by decide)) q77a q77c (g := (mkF m 57 #[.val (.int n1), .val (.int n2), .val (.int (2 : Int32)), .val (.ref a_SEMIANNUAL), .val (.ref b75)] [(.ref b75)])) rfl (by rw [hml]; rfl) (Steps.refl _) (argsL := []) (rest := []) (lenOf pd_8 rfl) rfl (by show 2 * 0 + _ ≤ _; exact Nat.le_of_eq rfl) (hb hby at_57) (fun _ _ => ⟨rfl, e76, (by decide : 2 + 0 ≤ _), (by decide : 5 + 0 ≤ _)⟩)
      dsimp only [Pt.U, Pt.locs, Pt.cells, Pt.slots] at X77 l77 y77 z77 st77 hQ77
      subst l77 y77 z77
      obtain ⟨rfl, Nq77, e77⟩ := hQ77
      have N77 := Fr.app N76 Nq77
      refine OW.tr (B := T77.setTop (mkF m 60 #[.val (.int n1), .val (.int n2), .val (.int (2 : Int32)), .val (.ref a_SEMIANNUAL), .val (.ref b75)] [(.ref a_SEMIANNUAL)])) (st77) ?_
      refine OW.st (B := T77.setTop (mkF m 61 #[.val (.int n1), .val (.int n2), .val (.int (2 : Int32)), .val (.ref a_SEMIANNUAL), .val (.ref b75)] [(.ref a_SEMIANNUAL), (.ref a_SEMIANNUAL)])) (fun _ kk_ => XS.aloadN X77.here hx rfl (hb hby at_60) rfl rfl kk_) ?_
      refine OW.st (B := T77.setTop (mkF m 64 #[.val (.int n1), .val (.int n2), .val (.int (2 : Int32)), .val (.ref a_SEMIANNUAL), .val (.ref b75)] [])) (fun _ kk_ => Jvm.RoadKit.acmp (g := (mkF m 61 #[.val (.int n1), .val (.int n2), .val (.int (2 : Int32)), .val (.ref a_SEMIANNUAL), .val (.ref b75)] [(.ref a_SEMIANNUAL), (.ref a_SEMIANNUAL)])) X77 hx rfl rfl rfl (pc0 := 61) (pc' := 64) (same := true) rfl (hb hby at_61) rfl (decide_eq_true rfl) (by decide) (by decide) kk_) ?_
      refine OW.st (B := T77.setTop (mkF m 65 #[.val (.int n1), .val (.int n2), .val (.int (2 : Int32)), .val (.ref a_SEMIANNUAL), .val (.ref b75)] [(.int (1 : Int32))])) (fun _ kk_ => XS.iconst X77.here hx rfl (hb hby at_64) kk_) ?_
      refine OW.st (B := T77.setTop (mkF m 69 #[.val (.int n1), .val (.int n2), .val (.int (2 : Int32)), .val (.ref a_SEMIANNUAL), .val (.ref b75)] [(.int (1 : Int32))])) (fun _ kk_ => XS.goto X77.here hx rfl (pc0 := 65) (pc' := 69) rfl (hb hby at_65) (by decide) (by decide) kk_) ?_
      exact OW.ret X77 hx hlk (i := .ireturn) Bd.returns rfl (Or.inl ⟨rfl, Or.inr (Or.inl rfl), _, rfl⟩) (hb hby at_69) e77 (by decide) (by decide) ⟨rfl, N77⟩
    · refine OW.st (B := T69.setTop (mkF m 19 #[.val (.int n1), .val (.int n2), .val (.int (4 : Int32)), .unset, .unset] [(.int (4 : Int32))])) (fun _ kk_ => XS.iloadN X69.here hx rfl (hb hby at_18) rfl kk_) ?_
      obtain ⟨_, _, ⟨T78, L78, k78, n78⟩, -, X78, ⟨Lc78, hQ78, l78, y78, z78⟩, st78⟩ := Jvm.LawKit.callS X69 hx (y := (⟨"tenorbook/core/FrequencyOfPerYearPinLaw", "expected", "(I)Ltenorbook/core/Frequency;"⟩ : MethodName)) hown (mvT hZ (w_0 hw)) (mvT hZ (w_1 hw)) (mvT hZ (w_2 hw)) (mvT hZ (w_3 hw)) (by decide) (backOf (W := 0) (rmE l Z a0 hw [] (4 : Int32) a__VALUES a_ANNUAL a_SEMIANNUAL a_QUARTERLY a_MONTHLY a_EMPTY ka__VALUES h0 n0 O0 hS) hZ (w_3 hw) (w_2 hw) (by decide) (by decide)) (g := (mkF m 19 #[.val (.int n1), .val (.int n2), .val (.int (4 : Int32)), .unset, .unset] [(.int (4 : Int32))])) rfl (by rw [hml]; rfl) (argsL := [(.int (4 : Int32))]) (rest := []) (lenOf pd_5 rfl) rfl (by show 2 * 0 + _ ≤ _; exact Nat.le_of_eq rfl) (hb hby at_19) (fun _ _ => ⟨rfl, e69, (by decide : 0 + 0 ≤ _), (by decide : 0 + 0 ≤ _)⟩)
      dsimp only [Pt.U, Pt.locs, Pt.cells, Pt.slots] at X78 l78 y78 z78 st78 hQ78
      subst l78 y78 z78
      obtain ⟨hv78, Nq78, e78⟩ := hQ78
      have N78 := Fr.app N69 Nq78
      rw [show (own_exp a_ANNUAL a_SEMIANNUAL a_QUARTERLY a_MONTHLY (4 : Int32)) = (.ref a_QUARTERLY) by simp [own_exp]] at hv78; subst hv78
      refine OW.st (B := T78.setTop (mkF m 22 #[.val (.int n1), .val (.int n2), .val (.int (4 : Int32)), .unset, .unset] [(.ref a_QUARTERLY)])) (st78) ?_
      refine OW.st (B := T78.setTop (mkF m 23 #[.val (.int n1), .val (.int n2), .val (.int (4 : Int32)), .val (.ref a_QUARTERLY), .unset] [])) (fun _ kk_ => XS.astoreN X78.here hx rfl (hb hby at_22) rfl rfl (l' := #[.val (.int n1), .val (.int n2), .val (.int (4 : Int32)), .val (.ref a_QUARTERLY), .unset]) rfl kk_) ?_
      refine OW.st (B := T78.setTop (mkF m 24 #[.val (.int n1), .val (.int n2), .val (.int (4 : Int32)), .val (.ref a_QUARTERLY), .unset] [(.int (4 : Int32))])) (fun _ kk_ => XS.iloadN X78.here hx rfl (hb hby at_23) rfl kk_) ?_
      obtain ⟨_, _, ⟨T79, L79, k79, n79⟩, -, X79, ⟨Lc79, hQ79, l79, y79, z79⟩, st79⟩ := Jvm.LawKit.callS X78 hx (y := (⟨"tenorbook/core/Frequency", "ofPerYear", "(I)Ljava/util/Optional;"⟩ : MethodName)) hown (mvT hZ (w_4 hw)) (mvT hZ (w_5 hw)) (mvT hZ (w_6 hw)) (mvT hZ (w_7 hw)) (by decide) (backOf (W := 0) (rmY l Z a0 hw [] (4 : Int32) a__VALUES a_ANNUAL a_SEMIANNUAL a_QUARTERLY a_MONTHLY a_EMPTY ka__VALUES h0 n0 O0 hS) hZ (w_7 hw) (w_6 hw) (by decide) (by decide)) (g := (mkF m 24 #[.val (.int n1), .val (.int n2), .val (.int (4 : Int32)), .val (.ref a_QUARTERLY), .unset] [(.int (4 : Int32))])) rfl (by rw [hml]; rfl) (argsL := [(.int (4 : Int32))]) (rest := []) (lenOf pd_6 rfl) rfl (by show 2 * 0 + _ ≤ _; exact Nat.le_of_eq rfl) (hb hby at_24) (fun _ _ => ⟨rfl, e78, (by decide : 0 + 2 ≤ _), (by decide : 0 + 5 ≤ _)⟩)
      dsimp only [Pt.U, Pt.locs, Pt.cells, Pt.slots] at X79 l79 y79 z79 st79 hQ79
      subst l79 y79 z79
      obtain ⟨b79, rfl, Nq79, K79, Ey79, Fy79⟩ := hQ79
      have N79 := Fr.app N78 Nq79
      have O79 : Old Z n0 T79.heap := O0.keep K79 all0
      rw [show (own_exp a_ANNUAL a_SEMIANNUAL a_QUARTERLY a_MONTHLY (4 : Int32)) = (.ref a_QUARTERLY) by simp [own_exp]] at Fy79
      refine OW.st (B := T79.setTop (mkF m 27 #[.val (.int n1), .val (.int n2), .val (.int (4 : Int32)), .val (.ref a_QUARTERLY), .unset] [(.ref b79)])) (st79) ?_
      refine OW.st (B := T79.setTop (mkF m 29 #[.val (.int n1), .val (.int n2), .val (.int (4 : Int32)), .val (.ref a_QUARTERLY), .val (.ref b79)] [])) (fun _ kk_ => XS.astore X79.here hx rfl (hb hby at_27) rfl rfl (l' := #[.val (.int n1), .val (.int n2), .val (.int (4 : Int32)), .val (.ref a_QUARTERLY), .val (.ref b79)]) rfl kk_) ?_
      refine OW.st (B := T79.setTop (mkF m 30 #[.val (.int n1), .val (.int n2), .val (.int (4 : Int32)), .val (.ref a_QUARTERLY), .val (.ref b79)] [(.ref a_QUARTERLY)])) (fun _ kk_ => XS.aloadN X79.here hx rfl (hb hby at_29) rfl rfl kk_) ?_
      refine OW.st (B := T79.setTop (mkF m 47 #[.val (.int n1), .val (.int n2), .val (.int (4 : Int32)), .val (.ref a_QUARTERLY), .val (.ref b79)] [])) (fun _ kk_ => XS.ifnonnullYes X79.here hx rfl (pc0 := 30) (pc' := 47) rfl (hb hby at_30) rfl (by decide) (by decide) kk_) ?_
      refine OW.st (B := T79.setTop (mkF m 49 #[.val (.int n1), .val (.int n2), .val (.int (4 : Int32)), .val (.ref a_QUARTERLY), .val (.ref b79)] [(.ref b79)])) (fun _ kk_ => XS.aload X79.here hx rfl (hb hby at_47) rfl rfl kk_) ?_
      obtain ⟨cq80, kq80, q80a, q80b, q80c⟩ := isOf hZ rfl Ey79
      obtain ⟨_, _, ⟨T80, L80, k80, n80⟩, -, X80, ⟨Lc80, hQ80, l80, y80, z80⟩, st80⟩ := X79.virtualBack hx (y := (⟨"java/util/Optional", "isPresent", "()Z"⟩ : MethodName)) (z := (⟨"java/util/Optional", "isPresent", "()Z"⟩ : MethodName)) hown (mvT hZ (w_34 hw)) (mvT hZ (w_35 hw)) (notFace_of_selects (args := #[]) (mvT hZ (w_37 hw))) (mvT hZ (w_37 hw)) (mvT hZ (w_36 hw)) (by decide) (backOf (W := 0) (rmSY l Z a0 hw [] b79 a_QUARTERLY T79.heap n0 O79 Fy79) hZ (w_38 hw) (w_31 hw) (by decide) (by decide)) q80a q80c (g := (mkF m 49 #[.val (.int n1), .val (.int n2), .val (.int (4 : Int32)), .val (.ref a_QUARTERLY), .val (.ref b79)] [(.ref b79)])) rfl (by rw [hml]; rfl) (Steps.refl _) (argsL := []) (rest := []) (lenOf pd_7 rfl) rfl (by show 2 * 0 + _ ≤ _; exact Nat.le_of_eq rfl) (hb hby at_49) (fun _ _ => ⟨rfl, rfl, (by decide : 2 + 0 ≤ _), (by decide : 5 + 0 ≤ _)⟩)
      dsimp only [Pt.U, Pt.locs, Pt.cells, Pt.slots] at X80 l80 y80 z80 st80 hQ80
      subst l80 y80 z80
      obtain ⟨rfl, Nq80, e80⟩ := hQ80
      have N80 := Fr.app N79 Nq80
      refine OW.tr (B := T80.setTop (mkF m 52 #[.val (.int n1), .val (.int n2), .val (.int (4 : Int32)), .val (.ref a_QUARTERLY), .val (.ref b79)] [(.int (1 : Int32))])) (st80) ?_
      refine OW.st (B := T80.setTop (mkF m 55 #[.val (.int n1), .val (.int n2), .val (.int (4 : Int32)), .val (.ref a_QUARTERLY), .val (.ref b79)] [])) (fun _ kk_ => XS.ifNo X80.here hx rfl (hb hby at_52) rfl ((if0 _ _).trans (feq (by decide)).1) kk_) ?_
      refine OW.st (B := T80.setTop (mkF m 57 #[.val (.int n1), .val (.int n2), .val (.int (4 : Int32)), .val (.ref a_QUARTERLY), .val (.ref b79)] [(.ref b79)])) (fun _ kk_ => XS.aload X80.here hx rfl (hb hby at_55) rfl rfl kk_) ?_
      obtain ⟨cq81, kq81, q81a, q81b, q81c⟩ := isOf hZ e80 Ey79
      obtain ⟨_, _, ⟨T81, L81, k81, n81⟩, -, X81, ⟨Lc81, hQ81, l81, y81, z81⟩, st81⟩ := X80.virtualBack hx (y := (⟨"java/util/Optional", "get", "()Ljava/lang/Object;"⟩ : MethodName)) (z := (⟨"java/util/Optional", "get", "()Ljava/lang/Object;"⟩ : MethodName)) hown (mvT hZ (w_58 hw)) (mvT hZ (w_59 hw)) (notFace_of_selects (args := #[]) (mvT hZ (w_61 hw))) (mvT hZ (w_61 hw)) (mvT hZ (w_60 hw)) (by decide) (backOf (W := 0) (rmG l Z a0 hw [] b79 a_QUARTERLY T79.heap n0 O79 Fy79) hZ (w_62 hw) (w_31 hw) (by decide) (by decide)) q81a q81c (g := (mkF m 57 #[.val (.int n1), .val (.int n2), .val (.int (4 : Int32)), .val (.ref a_QUARTERLY), .val (.ref b79)] [(.ref b79)])) rfl (by rw [hml]; rfl) (Steps.refl _) (argsL := []) (rest := []) (lenOf pd_8 rfl) rfl (by show 2 * 0 + _ ≤ _; exact Nat.le_of_eq rfl) (hb hby at_57) (fun _ _ => ⟨rfl, e80, (by decide : 2 + 0 ≤ _), (by decide : 5 + 0 ≤ _)⟩)
      dsimp only [Pt.U, Pt.locs, Pt.cells, Pt.slots] at X81 l81 y81 z81 st81 hQ81
      subst l81 y81 z81
      obtain ⟨rfl, Nq81, e81⟩ := hQ81
      have N81 := Fr.app N80 Nq81
      refine OW.tr (B := T81.setTop (mkF m 60 #[.val (.int n1), .val (.int n2), .val (.int (4 : Int32)), .val (.ref a_QUARTERLY), .val (.ref b79)] [(.ref a_QUARTERLY)])) (st81) ?_
      refine OW.st (B := T81.setTop (mkF m 61 #[.val (.int n1), .val (.int n2), .val (.int (4 : Int32)), .val (.ref a_QUARTERLY), .val (.ref b79)] [(.ref a_QUARTERLY), (.ref a_QUARTERLY)])) (fun _ kk_ => XS.aloadN X81.here hx rfl (hb hby at_60) rfl rfl kk_) ?_
      refine OW.st (B := T81.setTop (mkF m 64 #[.val (.int n1), .val (.int n2), .val (.int (4 : Int32)), .val (.ref a_QUARTERLY), .val (.ref b79)] [])) (fun _ kk_ => Jvm.RoadKit.acmp (g := (mkF m 61 #[.val (.int n1), .val (.int n2), .val (.int (4 : Int32)), .val (.ref a_QUARTERLY), .val (.ref b79)] [(.ref a_QUARTERLY), (.ref a_QUARTERLY)])) X81 hx rfl rfl rfl (pc0 := 61) (pc' := 64) (same := true) rfl (hb hby at_61) rfl (decide_eq_true rfl) (by decide) (by decide) kk_) ?_
      refine OW.st (B := T81.setTop (mkF m 65 #[.val (.int n1), .val (.int n2), .val (.int (4 : Int32)), .val (.ref a_QUARTERLY), .val (.ref b79)] [(.int (1 : Int32))])) (fun _ kk_ => XS.iconst X81.here hx rfl (hb hby at_64) kk_) ?_
      refine OW.st (B := T81.setTop (mkF m 69 #[.val (.int n1), .val (.int n2), .val (.int (4 : Int32)), .val (.ref a_QUARTERLY), .val (.ref b79)] [(.int (1 : Int32))])) (fun _ kk_ => XS.goto X81.here hx rfl (pc0 := 65) (pc' := 69) rfl (hb hby at_65) (by decide) (by decide) kk_) ?_
      exact OW.ret X81 hx hlk (i := .ireturn) Bd.returns rfl (Or.inl ⟨rfl, Or.inr (Or.inl rfl), _, rfl⟩) (hb hby at_69) e81 (by decide) (by decide) ⟨rfl, N81⟩
    · refine OW.st (B := T69.setTop (mkF m 19 #[.val (.int n1), .val (.int n2), .val (.int (12 : Int32)), .unset, .unset] [(.int (12 : Int32))])) (fun _ kk_ => XS.iloadN X69.here hx rfl (hb hby at_18) rfl kk_) ?_
      obtain ⟨_, _, ⟨T82, L82, k82, n82⟩, -, X82, ⟨Lc82, hQ82, l82, y82, z82⟩, st82⟩ := Jvm.LawKit.callS X69 hx (y := (⟨"tenorbook/core/FrequencyOfPerYearPinLaw", "expected", "(I)Ltenorbook/core/Frequency;"⟩ : MethodName)) hown (mvT hZ (w_0 hw)) (mvT hZ (w_1 hw)) (mvT hZ (w_2 hw)) (mvT hZ (w_3 hw)) (by decide) (backOf (W := 0) (rmE l Z a0 hw [] (12 : Int32) a__VALUES a_ANNUAL a_SEMIANNUAL a_QUARTERLY a_MONTHLY a_EMPTY ka__VALUES h0 n0 O0 hS) hZ (w_3 hw) (w_2 hw) (by decide) (by decide)) (g := (mkF m 19 #[.val (.int n1), .val (.int n2), .val (.int (12 : Int32)), .unset, .unset] [(.int (12 : Int32))])) rfl (by rw [hml]; rfl) (argsL := [(.int (12 : Int32))]) (rest := []) (lenOf pd_5 rfl) rfl (by show 2 * 0 + _ ≤ _; exact Nat.le_of_eq rfl) (hb hby at_19) (fun _ _ => ⟨rfl, e69, (by decide : 0 + 0 ≤ _), (by decide : 0 + 0 ≤ _)⟩)
      dsimp only [Pt.U, Pt.locs, Pt.cells, Pt.slots] at X82 l82 y82 z82 st82 hQ82
      subst l82 y82 z82
      obtain ⟨hv82, Nq82, e82⟩ := hQ82
      have N82 := Fr.app N69 Nq82
      rw [show (own_exp a_ANNUAL a_SEMIANNUAL a_QUARTERLY a_MONTHLY (12 : Int32)) = (.ref a_MONTHLY) by simp [own_exp]] at hv82; subst hv82
      refine OW.st (B := T82.setTop (mkF m 22 #[.val (.int n1), .val (.int n2), .val (.int (12 : Int32)), .unset, .unset] [(.ref a_MONTHLY)])) (st82) ?_
      refine OW.st (B := T82.setTop (mkF m 23 #[.val (.int n1), .val (.int n2), .val (.int (12 : Int32)), .val (.ref a_MONTHLY), .unset] [])) (fun _ kk_ => XS.astoreN X82.here hx rfl (hb hby at_22) rfl rfl (l' := #[.val (.int n1), .val (.int n2), .val (.int (12 : Int32)), .val (.ref a_MONTHLY), .unset]) rfl kk_) ?_
      refine OW.st (B := T82.setTop (mkF m 24 #[.val (.int n1), .val (.int n2), .val (.int (12 : Int32)), .val (.ref a_MONTHLY), .unset] [(.int (12 : Int32))])) (fun _ kk_ => XS.iloadN X82.here hx rfl (hb hby at_23) rfl kk_) ?_
      obtain ⟨_, _, ⟨T83, L83, k83, n83⟩, -, X83, ⟨Lc83, hQ83, l83, y83, z83⟩, st83⟩ := Jvm.LawKit.callS X82 hx (y := (⟨"tenorbook/core/Frequency", "ofPerYear", "(I)Ljava/util/Optional;"⟩ : MethodName)) hown (mvT hZ (w_4 hw)) (mvT hZ (w_5 hw)) (mvT hZ (w_6 hw)) (mvT hZ (w_7 hw)) (by decide) (backOf (W := 0) (rmY l Z a0 hw [] (12 : Int32) a__VALUES a_ANNUAL a_SEMIANNUAL a_QUARTERLY a_MONTHLY a_EMPTY ka__VALUES h0 n0 O0 hS) hZ (w_7 hw) (w_6 hw) (by decide) (by decide)) (g := (mkF m 24 #[.val (.int n1), .val (.int n2), .val (.int (12 : Int32)), .val (.ref a_MONTHLY), .unset] [(.int (12 : Int32))])) rfl (by rw [hml]; rfl) (argsL := [(.int (12 : Int32))]) (rest := []) (lenOf pd_6 rfl) rfl (by show 2 * 0 + _ ≤ _; exact Nat.le_of_eq rfl) (hb hby at_24) (fun _ _ => ⟨rfl, e82, (by decide : 0 + 2 ≤ _), (by decide : 0 + 5 ≤ _)⟩)
      dsimp only [Pt.U, Pt.locs, Pt.cells, Pt.slots] at X83 l83 y83 z83 st83 hQ83
      subst l83 y83 z83
      obtain ⟨b83, rfl, Nq83, K83, Ey83, Fy83⟩ := hQ83
      have N83 := Fr.app N82 Nq83
      have O83 : Old Z n0 T83.heap := O0.keep K83 all0
      rw [show (own_exp a_ANNUAL a_SEMIANNUAL a_QUARTERLY a_MONTHLY (12 : Int32)) = (.ref a_MONTHLY) by simp [own_exp]] at Fy83
      refine OW.st (B := T83.setTop (mkF m 27 #[.val (.int n1), .val (.int n2), .val (.int (12 : Int32)), .val (.ref a_MONTHLY), .unset] [(.ref b83)])) (st83) ?_
      refine OW.st (B := T83.setTop (mkF m 29 #[.val (.int n1), .val (.int n2), .val (.int (12 : Int32)), .val (.ref a_MONTHLY), .val (.ref b83)] [])) (fun _ kk_ => XS.astore X83.here hx rfl (hb hby at_27) rfl rfl (l' := #[.val (.int n1), .val (.int n2), .val (.int (12 : Int32)), .val (.ref a_MONTHLY), .val (.ref b83)]) rfl kk_) ?_
      refine OW.st (B := T83.setTop (mkF m 30 #[.val (.int n1), .val (.int n2), .val (.int (12 : Int32)), .val (.ref a_MONTHLY), .val (.ref b83)] [(.ref a_MONTHLY)])) (fun _ kk_ => XS.aloadN X83.here hx rfl (hb hby at_29) rfl rfl kk_) ?_
      refine OW.st (B := T83.setTop (mkF m 47 #[.val (.int n1), .val (.int n2), .val (.int (12 : Int32)), .val (.ref a_MONTHLY), .val (.ref b83)] [])) (fun _ kk_ => XS.ifnonnullYes X83.here hx rfl (pc0 := 30) (pc' := 47) rfl (hb hby at_30) rfl (by decide) (by decide) kk_) ?_
      refine OW.st (B := T83.setTop (mkF m 49 #[.val (.int n1), .val (.int n2), .val (.int (12 : Int32)), .val (.ref a_MONTHLY), .val (.ref b83)] [(.ref b83)])) (fun _ kk_ => XS.aload X83.here hx rfl (hb hby at_47) rfl rfl kk_) ?_
      obtain ⟨cq84, kq84, q84a, q84b, q84c⟩ := isOf hZ rfl Ey83
      obtain ⟨_, _, ⟨T84, L84, k84, n84⟩, -, X84, ⟨Lc84, hQ84, l84, y84, z84⟩, st84⟩ := X83.virtualBack hx (y := (⟨"java/util/Optional", "isPresent", "()Z"⟩ : MethodName)) (z := (⟨"java/util/Optional", "isPresent", "()Z"⟩ : MethodName)) hown (mvT hZ (w_34 hw)) (mvT hZ (w_35 hw)) (notFace_of_selects (args := #[]) (mvT hZ (w_37 hw))) (mvT hZ (w_37 hw)) (mvT hZ (w_36 hw)) (by decide) (backOf (W := 0) (rmSY l Z a0 hw [] b83 a_MONTHLY T83.heap n0 O83 Fy83) hZ (w_38 hw) (w_31 hw) (by decide) (by decide)) q84a q84c (g := (mkF m 49 #[.val (.int n1), .val (.int n2), .val (.int (12 : Int32)), .val (.ref a_MONTHLY), .val (.ref b83)] [(.ref b83)])) rfl (by rw [hml]; rfl) (Steps.refl _) (argsL := []) (rest := []) (lenOf pd_7 rfl) rfl (by show 2 * 0 + _ ≤ _; exact Nat.le_of_eq rfl) (hb hby at_49) (fun _ _ => ⟨rfl, rfl, (by decide : 2 + 0 ≤ _), (by decide : 5 + 0 ≤ _)⟩)
      dsimp only [Pt.U, Pt.locs, Pt.cells, Pt.slots] at X84 l84 y84 z84 st84 hQ84
      subst l84 y84 z84
      obtain ⟨rfl, Nq84, e84⟩ := hQ84
      have N84 := Fr.app N83 Nq84
      refine OW.tr (B := T84.setTop (mkF m 52 #[.val (.int n1), .val (.int n2), .val (.int (12 : Int32)), .val (.ref a_MONTHLY), .val (.ref b83)] [(.int (1 : Int32))])) (st84) ?_
      refine OW.st (B := T84.setTop (mkF m 55 #[.val (.int n1), .val (.int n2), .val (.int (12 : Int32)), .val (.ref a_MONTHLY), .val (.ref b83)] [])) (fun _ kk_ => XS.ifNo X84.here hx rfl (hb hby at_52) rfl ((if0 _ _).trans (feq (by decide)).1) kk_) ?_
      refine OW.st (B := T84.setTop (mkF m 57 #[.val (.int n1), .val (.int n2), .val (.int (12 : Int32)), .val (.ref a_MONTHLY), .val (.ref b83)] [(.ref b83)])) (fun _ kk_ => XS.aload X84.here hx rfl (hb hby at_55) rfl rfl kk_) ?_
      obtain ⟨cq85, kq85, q85a, q85b, q85c⟩ := isOf hZ e84 Ey83
      obtain ⟨_, _, ⟨T85, L85, k85, n85⟩, -, X85, ⟨Lc85, hQ85, l85, y85, z85⟩, st85⟩ := X84.virtualBack hx (y := (⟨"java/util/Optional", "get", "()Ljava/lang/Object;"⟩ : MethodName)) (z := (⟨"java/util/Optional", "get", "()Ljava/lang/Object;"⟩ : MethodName)) hown (mvT hZ (w_58 hw)) (mvT hZ (w_59 hw)) (notFace_of_selects (args := #[]) (mvT hZ (w_61 hw))) (mvT hZ (w_61 hw)) (mvT hZ (w_60 hw)) (by decide) (backOf (W := 0) (rmG l Z a0 hw [] b83 a_MONTHLY T83.heap n0 O83 Fy83) hZ (w_62 hw) (w_31 hw) (by decide) (by decide)) q85a q85c (g := (mkF m 57 #[.val (.int n1), .val (.int n2), .val (.int (12 : Int32)), .val (.ref a_MONTHLY), .val (.ref b83)] [(.ref b83)])) rfl (by rw [hml]; rfl) (Steps.refl _) (argsL := []) (rest := []) (lenOf pd_8 rfl) rfl (by show 2 * 0 + _ ≤ _; exact Nat.le_of_eq rfl) (hb hby at_57) (fun _ _ => ⟨rfl, e84, (by decide : 2 + 0 ≤ _), (by decide : 5 + 0 ≤ _)⟩)
      dsimp only [Pt.U, Pt.locs, Pt.cells, Pt.slots] at X85 l85 y85 z85 st85 hQ85
      subst l85 y85 z85
      obtain ⟨rfl, Nq85, e85⟩ := hQ85
      have N85 := Fr.app N84 Nq85
      refine OW.tr (B := T85.setTop (mkF m 60 #[.val (.int n1), .val (.int n2), .val (.int (12 : Int32)), .val (.ref a_MONTHLY), .val (.ref b83)] [(.ref a_MONTHLY)])) (st85) ?_
      refine OW.st (B := T85.setTop (mkF m 61 #[.val (.int n1), .val (.int n2), .val (.int (12 : Int32)), .val (.ref a_MONTHLY), .val (.ref b83)] [(.ref a_MONTHLY), (.ref a_MONTHLY)])) (fun _ kk_ => XS.aloadN X85.here hx rfl (hb hby at_60) rfl rfl kk_) ?_
      refine OW.st (B := T85.setTop (mkF m 64 #[.val (.int n1), .val (.int n2), .val (.int (12 : Int32)), .val (.ref a_MONTHLY), .val (.ref b83)] [])) (fun _ kk_ => Jvm.RoadKit.acmp (g := (mkF m 61 #[.val (.int n1), .val (.int n2), .val (.int (12 : Int32)), .val (.ref a_MONTHLY), .val (.ref b83)] [(.ref a_MONTHLY), (.ref a_MONTHLY)])) X85 hx rfl rfl rfl (pc0 := 61) (pc' := 64) (same := true) rfl (hb hby at_61) rfl (decide_eq_true rfl) (by decide) (by decide) kk_) ?_
      refine OW.st (B := T85.setTop (mkF m 65 #[.val (.int n1), .val (.int n2), .val (.int (12 : Int32)), .val (.ref a_MONTHLY), .val (.ref b83)] [(.int (1 : Int32))])) (fun _ kk_ => XS.iconst X85.here hx rfl (hb hby at_64) kk_) ?_
      refine OW.st (B := T85.setTop (mkF m 69 #[.val (.int n1), .val (.int n2), .val (.int (12 : Int32)), .val (.ref a_MONTHLY), .val (.ref b83)] [(.int (1 : Int32))])) (fun _ kk_ => XS.goto X85.here hx rfl (pc0 := 65) (pc' := 69) rfl (hb hby at_65) (by decide) (by decide) kk_) ?_
      exact OW.ret X85 hx hlk (i := .ireturn) Bd.returns rfl (Or.inl ⟨rfl, Or.inr (Or.inl rfl), _, rfl⟩) (hb hby at_69) e85 (by decide) (by decide) ⟨rfl, N85⟩
    · refine OW.st (B := T69.setTop (mkF m 19 #[.val (.int n1), .val (.int n2), .val (.int n), .unset, .unset] [(.int n)])) (fun _ kk_ => XS.iloadN X69.here hx rfl (hb hby at_18) rfl kk_) ?_
      obtain ⟨_, _, ⟨T86, L86, k86, n86⟩, -, X86, ⟨Lc86, hQ86, l86, y86, z86⟩, st86⟩ := Jvm.LawKit.callS X69 hx (y := (⟨"tenorbook/core/FrequencyOfPerYearPinLaw", "expected", "(I)Ltenorbook/core/Frequency;"⟩ : MethodName)) hown (mvT hZ (w_0 hw)) (mvT hZ (w_1 hw)) (mvT hZ (w_2 hw)) (mvT hZ (w_3 hw)) (by decide) (backOf (W := 0) (rmE l Z a0 hw [] n a__VALUES a_ANNUAL a_SEMIANNUAL a_QUARTERLY a_MONTHLY a_EMPTY ka__VALUES h0 n0 O0 hS) hZ (w_3 hw) (w_2 hw) (by decide) (by decide)) (g := (mkF m 19 #[.val (.int n1), .val (.int n2), .val (.int n), .unset, .unset] [(.int n)])) rfl (by rw [hml]; rfl) (argsL := [(.int n)]) (rest := []) (lenOf pd_5 rfl) rfl (by show 2 * 0 + _ ≤ _; exact Nat.le_of_eq rfl) (hb hby at_19) (fun _ _ => ⟨rfl, e69, (by decide : 0 + 0 ≤ _), (by decide : 0 + 0 ≤ _)⟩)
      dsimp only [Pt.U, Pt.locs, Pt.cells, Pt.slots] at X86 l86 y86 z86 st86 hQ86
      subst l86 y86 z86
      obtain ⟨hv86, Nq86, e86⟩ := hQ86
      have N86 := Fr.app N69 Nq86
      rw [show (own_exp a_ANNUAL a_SEMIANNUAL a_QUARTERLY a_MONTHLY n) = .null by simp [own_exp, f1, f2, f3, f4]] at hv86; subst hv86
      refine OW.st (B := T86.setTop (mkF m 22 #[.val (.int n1), .val (.int n2), .val (.int n), .unset, .unset] [.null])) (st86) ?_
      refine OW.st (B := T86.setTop (mkF m 23 #[.val (.int n1), .val (.int n2), .val (.int n), .val .null, .unset] [])) (fun _ kk_ => XS.astoreN X86.here hx rfl (hb hby at_22) rfl rfl (l' := #[.val (.int n1), .val (.int n2), .val (.int n), .val .null, .unset]) rfl kk_) ?_
      refine OW.st (B := T86.setTop (mkF m 24 #[.val (.int n1), .val (.int n2), .val (.int n), .val .null, .unset] [(.int n)])) (fun _ kk_ => XS.iloadN X86.here hx rfl (hb hby at_23) rfl kk_) ?_
      obtain ⟨_, _, ⟨T87, L87, k87, n87⟩, -, X87, ⟨Lc87, hQ87, l87, y87, z87⟩, st87⟩ := Jvm.LawKit.callS X86 hx (y := (⟨"tenorbook/core/Frequency", "ofPerYear", "(I)Ljava/util/Optional;"⟩ : MethodName)) hown (mvT hZ (w_4 hw)) (mvT hZ (w_5 hw)) (mvT hZ (w_6 hw)) (mvT hZ (w_7 hw)) (by decide) (backOf (W := 0) (rmY l Z a0 hw [] n a__VALUES a_ANNUAL a_SEMIANNUAL a_QUARTERLY a_MONTHLY a_EMPTY ka__VALUES h0 n0 O0 hS) hZ (w_7 hw) (w_6 hw) (by decide) (by decide)) (g := (mkF m 24 #[.val (.int n1), .val (.int n2), .val (.int n), .val .null, .unset] [(.int n)])) rfl (by rw [hml]; rfl) (argsL := [(.int n)]) (rest := []) (lenOf pd_6 rfl) rfl (by show 2 * 0 + _ ≤ _; exact Nat.le_of_eq rfl) (hb hby at_24) (fun _ _ => ⟨rfl, e86, (by decide : 0 + 2 ≤ _), (by decide : 0 + 5 ≤ _)⟩)
      dsimp only [Pt.U, Pt.locs, Pt.cells, Pt.slots] at X87 l87 y87 z87 st87 hQ87
      subst l87 y87 z87
      obtain ⟨b87, rfl, Nq87, K87, Ey87, Fy87⟩ := hQ87
      have N87 := Fr.app N86 Nq87
      have O87 : Old Z n0 T87.heap := O0.keep K87 all0
      rw [show (own_exp a_ANNUAL a_SEMIANNUAL a_QUARTERLY a_MONTHLY n) = .null by simp [own_exp, f1, f2, f3, f4]] at Fy87
      refine OW.st (B := T87.setTop (mkF m 27 #[.val (.int n1), .val (.int n2), .val (.int n), .val .null, .unset] [(.ref b87)])) (st87) ?_
      refine OW.st (B := T87.setTop (mkF m 29 #[.val (.int n1), .val (.int n2), .val (.int n), .val .null, .val (.ref b87)] [])) (fun _ kk_ => XS.astore X87.here hx rfl (hb hby at_27) rfl rfl (l' := #[.val (.int n1), .val (.int n2), .val (.int n), .val .null, .val (.ref b87)]) rfl kk_) ?_
      refine OW.st (B := T87.setTop (mkF m 30 #[.val (.int n1), .val (.int n2), .val (.int n), .val .null, .val (.ref b87)] [.null])) (fun _ kk_ => XS.aloadN X87.here hx rfl (hb hby at_29) rfl rfl kk_) ?_
      refine OW.st (B := T87.setTop (mkF m 33 #[.val (.int n1), .val (.int n2), .val (.int n), .val .null, .val (.ref b87)] [])) (fun _ kk_ => XS.ifnonnullNo X87.here hx rfl (hb hby at_30) rfl kk_) ?_
      refine OW.st (B := T87.setTop (mkF m 35 #[.val (.int n1), .val (.int n2), .val (.int n), .val .null, .val (.ref b87)] [(.ref b87)])) (fun _ kk_ => XS.aload X87.here hx rfl (hb hby at_33) rfl rfl kk_) ?_
      obtain ⟨cq88, kq88, q88a, q88b, q88c⟩ := isOf hZ rfl Ey87
      obtain ⟨_, _, ⟨T88, L88, k88, n88⟩, -, X88, ⟨Lc88, hQ88, l88, y88, z88⟩, st88⟩ := X87.virtualBack hx (y := (⟨"java/util/Optional", "isPresent", "()Z"⟩ : MethodName)) (z := (⟨"java/util/Optional", "isPresent", "()Z"⟩ : MethodName)) hown (mvT hZ (w_34 hw)) (mvT hZ (w_35 hw)) (notFace_of_selects (args := #[]) (mvT hZ (w_37 hw))) (mvT hZ (w_37 hw)) (mvT hZ (w_36 hw)) (by decide) (backOf (W := 0) (rmSN l Z a0 hw [] b87 T87.heap n0 O87 Fy87) hZ (w_38 hw) (w_31 hw) (by decide) (by decide)) q88a q88c (g := (mkF m 35 #[.val (.int n1), .val (.int n2), .val (.int n), .val .null, .val (.ref b87)] [(.ref b87)])) rfl (by rw [hml]; rfl) (Steps.refl _) (argsL := []) (rest := []) (lenOf pd_7 rfl) rfl (by show 2 * 0 + _ ≤ _; exact Nat.le_of_eq rfl) (hb hby at_35) (fun _ _ => ⟨rfl, rfl, (by decide : 2 + 0 ≤ _), (by decide : 5 + 0 ≤ _)⟩)
      dsimp only [Pt.U, Pt.locs, Pt.cells, Pt.slots] at X88 l88 y88 z88 st88 hQ88
      subst l88 y88 z88
      obtain ⟨rfl, Nq88, e88⟩ := hQ88
      have N88 := Fr.app N87 Nq88
      refine OW.tr (B := T88.setTop (mkF m 38 #[.val (.int n1), .val (.int n2), .val (.int n), .val .null, .val (.ref b87)] [(.int (0 : Int32))])) (st88) ?_
      refine OW.st (B := T88.setTop (mkF m 41 #[.val (.int n1), .val (.int n2), .val (.int n), .val .null, .val (.ref b87)] [])) (fun _ kk_ => XS.ifNo X88.here hx rfl (hb hby at_38) rfl ((if0 _ _).trans (teq (by decide)).2) kk_) ?_
      refine OW.st (B := T88.setTop (mkF m 42 #[.val (.int n1), .val (.int n2), .val (.int n), .val .null, .val (.ref b87)] [(.int (1 : Int32))])) (fun _ kk_ => XS.iconst X88.here hx rfl (hb hby at_41) kk_) ?_
      refine OW.st (B := T88.setTop (mkF m 46 #[.val (.int n1), .val (.int n2), .val (.int n), .val .null, .val (.ref b87)] [(.int (1 : Int32))])) (fun _ kk_ => XS.goto X88.here hx rfl (pc0 := 42) (pc' := 46) rfl (hb hby at_42) (by decide) (by decide) kk_) ?_
      exact OW.ret X88 hx hlk (i := .ireturn) Bd.returns rfl (Or.inl ⟨rfl, Or.inr (Or.inl rfl), _, rfl⟩) (hb hby at_46) e88 (by decide) (by decide) ⟨rfl, N88⟩
  refine OW.st (B := s₁.setTop (mkF m 1 #[.val (.int n1), .val (.int n2), .unset, .unset, .unset] [(.int n2)])) (fun _ kk_ => XS.iloadN X0.here hx rfl (hb hby at_0) rfl kk_) ?_
  refine OW.st (B := s₁.setTop (mkF m 2 #[.val (.int n1), .val (.int n2), .unset, .unset, .unset] [(.int (1 : Int32)), (.int n2)])) (fun _ kk_ => XS.iconst X0.here hx rfl (hb hby at_1) kk_) ?_
  refine OW.st (B := s₁.setTop (mkF m 3 #[.val (.int n1), .val (.int n2), .unset, .unset, .unset] [(.int (n2 &&& (1 : Int32)))])) (fun _ kk_ => XS.iand X0.here hx rfl (hb hby at_2) rfl kk_) ?_
  by_cases hc89 : (n2 &&& (1 : Int32)) = (0 : Int32)
  · refine OW.st (B := s₁.setTop (mkF m 6 #[.val (.int n1), .val (.int n2), .unset, .unset, .unset] [])) (fun _ kk_ => XS.ifNo X0.here hx rfl (hb hby at_3) rfl ((if0 _ _).trans (teq hc89).2) kk_) ?_
    refine OW.st (B := s₁.setTop (mkF m 7 #[.val (.int n1), .val (.int n2), .unset, .unset, .unset] [(.int n1)])) (fun _ kk_ => XS.iloadN X0.here hx rfl (hb hby at_6) rfl kk_) ?_
    refine OW.st (B := s₁.setTop (mkF m 8 #[.val (.int n1), .val (.int n2), .val (.int n1), .unset, .unset] [])) (fun _ kk_ => XS.istoreN X0.here hx rfl (hb hby at_7) rfl (l' := #[.val (.int n1), .val (.int n2), .val (.int n1), .unset, .unset]) rfl kk_) ?_
    refine OW.st (B := s₁.setTop (mkF m 18 #[.val (.int n1), .val (.int n2), .val (.int n1), .unset, .unset] [])) (fun _ kk_ => XS.goto X0.here hx rfl (pc0 := 8) (pc' := 18) rfl (hb hby at_8) (by decide) (by decide) kk_) ?_
    exact J69 _ _ X0 N0 e0 _ 
  · refine OW.st (B := s₁.setTop (mkF m 11 #[.val (.int n1), .val (.int n2), .unset, .unset, .unset] [])) (fun _ kk_ => XS.ifYes X0.here hx rfl (pc0 := 3) (pc' := 11) rfl (hb hby at_3) rfl ((if0 _ _).trans (feq hc89).2) (by decide) (by decide) kk_) ?_
    refine OW.st (B := s₁.setTop (mkF m 12 #[.val (.int n1), .val (.int n2), .unset, .unset, .unset] [(.int n1)])) (fun _ kk_ => XS.iloadN X0.here hx rfl (hb hby at_11) rfl kk_) ?_
    refine OW.st (B := s₁.setTop (mkF m 14 #[.val (.int n1), .val (.int n2), .unset, .unset, .unset] [(.int (15 : Int32)), (.int n1)])) (fun _ kk_ => XS.bipush X0.here hx rfl (hb hby at_12) kk_) ?_
    refine OW.st (B := s₁.setTop (mkF m 15 #[.val (.int n1), .val (.int n2), .unset, .unset, .unset] [(.int (n1 &&& (15 : Int32)))])) (fun _ kk_ => XS.iand X0.here hx rfl (hb hby at_14) rfl kk_) ?_
    refine OW.st (B := s₁.setTop (mkF m 16 #[.val (.int n1), .val (.int n2), .unset, .unset, .unset] [(.int (1 : Int32)), (.int (n1 &&& (15 : Int32)))])) (fun _ kk_ => XS.iconst X0.here hx rfl (hb hby at_15) kk_) ?_
    refine OW.st (B := s₁.setTop (mkF m 17 #[.val (.int n1), .val (.int n2), .unset, .unset, .unset] [(.int ((n1 &&& (15 : Int32)) - (1 : Int32)))])) (fun _ kk_ => XS.isub X0.here hx rfl (hb hby at_16) rfl kk_) ?_
    refine OW.st (B := s₁.setTop (mkF m 18 #[.val (.int n1), .val (.int n2), .val (.int ((n1 &&& (15 : Int32)) - (1 : Int32))), .unset, .unset] [])) (fun _ kk_ => XS.istoreN X0.here hx rfl (hb hby at_17) rfl (l' := #[.val (.int n1), .val (.int n2), .val (.int ((n1 &&& (15 : Int32)) - (1 : Int32))), .unset, .unset]) rfl kk_) ?_
    exact J69 _ _ X0 N0 e0 _ 
set_option maxRecDepth 65536 in
set_option maxHeartbeats 40000000 in
theorem comes_1 {Post : Tables → Env → Array Value → State → Outcome → State → Prop} (hpost : ∀ tb e args s v u, (limb_1_1.after args s (.returned v) u = true ∧ limb_1_2.after args s (.returned v) u = true ∧ True) → FrameEnd s (.returned v) u (Jvm.fieldLocs frame_1_writes args s ++ Jvm.arrayLocs frame_1_arrays args s ++ Jvm.staticLocs frame_1_statics s) 16 128 → Post tb e args s (.returned v) u) :
    ArmFor flags0 classFile x code maxLocals ret World_1 tables_1 room_1 Calls_1 rest_1 Pre_1 Post := by
  intro l hfl _ _ p e ha hc hk s m args below hf hA hF happ hP
  obtain ⟨hcalls, hrest, hpre⟩ := hP
  obtain ⟨-, -, -, hnamed, -, -, -, hat⟩ := (Spec.applies_iff hf).mp happ
  obtain ⟨hg, hn⟩ := and_e (Cond.before_iff.mp (show (Jvm.Cond.and given_1 narrow_1).before args s = true from hpre))
  obtain ⟨k90, k91⟩ := and_e hg
  obtain ⟨k92, k93⟩ := and_e k91
  obtain ⟨w0, w1, rfl⟩ : ∃ w0 w1 : Value, args = #[w0, w1] := by
    have hs : args.size = 2 := by simpa [Cond.value, given_1] using k90
    obtain ⟨L⟩ := args
    match L, hs with
    | [w0, w1], _ => exact ⟨w0, w1, rfl⟩
  have hw := fun d (hd : d ∈ tables_1) => atoms_spec (ws := Jvm.Cond.code x code maxLocals ret :: tables_1) hat d (List.mem_cons_of_mem _ hd)
  have hfit : Fit s := fun {y c} hc i hi => by
    obtain ⟨ha, rfl⟩ := Array.getElem?_eq_some_iff.mp hc
    have q := List.all_eq_true.mp ((Array.all_eq_true_iff_forall_mem.mp hF) _ (Array.getElem_mem ha)) i (List.mem_range.mpr hi)
    simpa [Array.getElem?_eq_getElem hi] using q
  obtain ⟨i0, ei0⟩ := is_v k92
  obtain rfl : w0 = (.int i0) := Option.some.inj ei0
  obtain ⟨i1, ei1⟩ := is_v k93
  obtain rfl : w1 = (.int i1) := Option.some.inj ei1
  obtain ⟨hsets, hown0⟩ := atoms_of _ (rest_1_c_eq ▸ (show rest_1_c.before _ s = true from hrest))
  have hr0 := Cond.before_iff.mp hown0
  obtain ⟨k1, k2⟩ := and_e hn
  obtain ⟨k3, k4⟩ := and_e k2
  obtain ⟨k5, k6⟩ := and_e k4
  obtain ⟨k7, k8⟩ := and_e k6
  obtain ⟨k9, k10⟩ := and_e k8
  obtain ⟨k11, k12⟩ := and_e k10
  obtain ⟨k13, k14⟩ := and_e k12
  obtain ⟨k15, k16⟩ := and_e k14
  obtain ⟨k17, k18⟩ := and_e k16
  obtain ⟨k19, k20⟩ := and_e k18
  obtain ⟨k21, k22⟩ := and_e k20
  obtain ⟨k23, k24⟩ := and_e k22
  obtain ⟨k25, k26⟩ := and_e k24
  obtain ⟨k27, k28⟩ := and_e k26
  obtain ⟨a__VALUES, eva__VALUES⟩ := exa_v k3
  obtain ⟨a_ANNUAL, eva_ANNUAL⟩ := exa_v k7
  obtain ⟨a_SEMIANNUAL, eva_SEMIANNUAL⟩ := exa_v k11
  obtain ⟨a_QUARTERLY, eva_QUARTERLY⟩ := exa_v k15
  obtain ⟨a_MONTHLY, eva_MONTHLY⟩ := exa_v k19
  obtain ⟨a_EMPTY, eva_EMPTY⟩ := exa_v (Cond.before_iff.mp (hsets _ (List.mem_of_getElem? (i := 2) rfl)))
  obtain ⟨cla__VALUES, Ara__VALUES, qa__VALUES, la__VALUES, Ha__VALUES⟩ := own_arr eva__VALUES k1 (own_eq_int k5)
  obtain ⟨ka__VALUES, hka__VALUES⟩ : ∃ z, z = cla__VALUES.cls := ⟨_, rfl⟩
  have hS : OwnS s a__VALUES a_ANNUAL a_SEMIANNUAL a_QUARTERLY a_MONTHLY a_EMPTY ka__VALUES := ⟨Sta.start eva__VALUES (Or.inl (w_24 hw)), Exa.start eva__VALUES k3, Sta.start eva_ANNUAL (Or.inr ⟨(w_6 hw), (w_20 hw)⟩), Exa.start eva_ANNUAL k7, Sta.start eva_SEMIANNUAL (Or.inr ⟨(w_6 hw), (w_21 hw)⟩), Exa.start eva_SEMIANNUAL k11, Sta.start eva_QUARTERLY (Or.inr ⟨(w_6 hw), (w_22 hw)⟩), Exa.start eva_QUARTERLY k15, Sta.start eva_MONTHLY (Or.inr ⟨(w_6 hw), (w_23 hw)⟩), Exa.start eva_MONTHLY k19, Sta.start eva_EMPTY (Or.inl (hsets _ (List.mem_of_getElem? (i := 1) rfl))), Exa.start eva_EMPTY (Cond.before_iff.mp (hsets _ (List.mem_of_getElem? (i := 2) rfl))), Fld.start ((fld_at eva_ANNUAL).symm.trans (own_eq_int k23)), Fld.start ((fld_at eva_SEMIANNUAL).symm.trans (own_eq_int k25)), Fld.start ((fld_at eva_QUARTERLY).symm.trans (own_eq_int k27)), Fld.start ((fld_at eva_MONTHLY).symm.trans (own_eq_int k28)), (hka__VALUES ▸ Arv.start hfit Ara__VALUES qa__VALUES la__VALUES (by decide) rfl ⟨Ha__VALUES (0 : Int32) (by decide) _ (own_eq_ref k9 eva_ANNUAL), Ha__VALUES (1 : Int32) (by decide) _ (own_eq_ref k13 eva_SEMIANNUAL), Ha__VALUES (2 : Int32) (by decide) _ (own_eq_ref k17 eva_QUARTERLY), Ha__VALUES (3 : Int32) (by decide) _ (own_eq_ref k21 eva_MONTHLY), trivial⟩), Fld.start ((fld_at eva_EMPTY).symm.trans (null_v (Cond.before_iff.mp (hsets _ (List.mem_of_getElem? (i := 3) rfl)))))⟩
  obtain ⟨n, o, h1, h2, h3, _, L, rfl, ⟨rfl, N⟩, hq⟩ := rm0 l s _ hw tables_1 i0 i1 a__VALUES a_ANNUAL a_SEMIANNUAL a_QUARTERLY a_MONTHLY a_EMPTY ka__VALUES s.heap s.heap.size (Old.start s) hS p e ha hc hk s m _ below hf ((Spec.applies_iff_loose hf).mp happ).1 ⟨rfl, State.Warmed39.refl s, rfl⟩ trivial
  refine ⟨n, _, h1, h2, h3, hpost _ _ _ _ _ _ ⟨Cond.after_iff.mpr rfl, Cond.after_iff.mpr (eq_i res_at (Term.int_eval (1)) rfl), trivial⟩ ⟨hq.1, hq.2.1, (hq.2.2.sift fun y hy => Or.inr (N y hy)).mono (by decide) (by decide)⟩⟩
theorem main_1_1 : Claimed_1_1 := comes_1 fun _ _ _ _ _ _ h hF => ⟨h.1, hF⟩
theorem main_1_2 : Claimed_1_2 := comes_1 fun _ _ _ _ _ _ h hF => ⟨h.2.1, hF⟩
end Jvm.Pilot.@@N@@
namespace Jvm.Pilot.@@N@@
open Jvm Jvm.ClassFile Sem Op Lib Jvm.Free Jvm.Stand Jvm.Pilot.@@N@@.Jvm.D
/-! MADE BY PROGRAM (witnessworld.py) out of the Statement's table words and the real class files: 15 classes; the members and pool entries that the words name. The judged class is class 1, her method 2. -/
namespace start1
open Jvm.ClassFile
def u (s : String) : CpInfo := .utf8 (stringToUtf16 s)
/-- a pool by its gaps: so many unusable entries, then the entry; so many at the end -/
def gap : Nat → List CpInfo → List CpInfo
  | 0, r => r
  | n + 1, r => .unusable :: gap n r
def poolList (es : List (Nat × CpInfo)) (last : Nat) : List CpInfo := es.foldr (fun e r => gap e.1 (e.2 :: r)) (gap last [])
def pool (es : List (Nat × CpInfo)) (last : Nat) : Array CpInfo := ⟨poolList es last⟩
def fileOf (pool : Array CpInfo) (this : Nat) (attrs : Array Attribute := #[]) (ms : Array MethodInfo := #[]) (fl : Nat := 33) (sup : Nat := 0) (ifs : Array Nat := #[]) (fds : Array FieldInfo := #[]) : ClassFile where
  minorVersion := 0
  majorVersion := 65
  constantPool := pool
  accessFlags := fl
  thisClass := this
  superClass := sup
  interfaces := ifs
  fields := fds
  methods := ms
  attributes := attrs
def plain (name : String) (sup : Option ClassId) : Class where
  name := name
  kind := .ordinary
  loader := none
  accessFlags := 33
  super := sup
  interfaces := #[]
  cf := none
  fields := #[]
  methods := #[]
  instanceTypes := #[]
  staticTypes := #[]
  resolved := #[]
  callSites := []
  init := .initialized
  statics := none
  mirror := none

def pool0 : Array CpInfo := pool [(5, u "<init>"), (0, u "()V"), (1, .class_ 10), (1, u "java/lang/Object"), (85, u "clone"), (0, u "()Ljava/lang/Object;")] 26

def k0c0 : Code := { maxStack := 0, maxLocals := 1, code := object_method_1_code, exceptionTable := #[], attributes := #[] }
def k0m0 : Method := { name := "<init>", desc := "()V", sig := { parameters := [], returnType := none }, accessFlags := 1, code := some k0c0 }
def k0m1 : Method := { name := "clone", desc := "()Ljava/lang/Object;", sig := { parameters := [], returnType := some (.object "java/lang/Object") }, accessFlags := 260, code := none }
/-- java/lang/Object -/
def k0 : Class := { plain "java/lang/Object" none with
  accessFlags := 33
  interfaces := #[]
  cf := some (fileOf pool0 8 #[] #[{ accessFlags := 1, nameIndex := 5, descriptorIndex := 6, attributes := #[] }, { accessFlags := 260, nameIndex := 96, descriptorIndex := 97, attributes := #[] }] 33 0 #[] #[])
  fields := #[]
  methods := #[k0m0, k0m1]
  instanceTypes := #[]
  staticTypes := #[]
  resolved := Array.replicate 124 none
  statics := none }

def pool1 : Array CpInfo := pool [(2, .class_ 4), (1, u "java/lang/Object"), (0, u "<init>"), (0, u "()V"), (0, .fieldref 8 9), (0, .class_ 10), (0, .nameAndType 11 12), (0, u "tenorbook/core/Frequency"), (0, u "ANNUAL"), (0, u "Ltenorbook/core/Frequency;"), (0, .fieldref 8 14), (0, .nameAndType 15 12), (0, u "SEMIANNUAL"), (0, .fieldref 8 17), (0, .nameAndType 18 12), (0, u "QUARTERLY"), (0, .fieldref 8 20), (0, .nameAndType 21 12), (0, u "MONTHLY"), (0, .methodref 23 24), (0, .class_ 25), (0, .nameAndType 26 27), (0, u "tenorbook/core/FrequencyOfPerYearPinLaw"), (0, u "expected"), (0, u "(I)Ltenorbook/core/Frequency;"), (0, .methodref 8 29), (0, .nameAndType 30 31), (0, u "ofPerYear"), (0, u "(I)Ljava/util/Optional;"), (0, .methodref 33 34), (0, .class_ 35), (0, .nameAndType 36 37), (0, u "java/util/Optional"), (0, u "isPresent"), (0, u "()Z"), (0, .methodref 33 39), (0, .nameAndType 40 41), (0, u "get"), (0, u "()Ljava/lang/Object;"), (3, u "law"), (0, u "(II)Z")] 2

def k1m0 : Method := { name := "<init>", desc := "()V", sig := { parameters := [], returnType := none }, accessFlags := 1, code := none }
def k1c1 : Code := { maxStack := 2, maxLocals := 1, code := method_2_code, exceptionTable := #[], attributes := #[] }
def k1m1 : Method := { name := "expected", desc := "(I)Ltenorbook/core/Frequency;", sig := { parameters := [.int], returnType := some (.object "tenorbook/core/Frequency") }, accessFlags := 10, code := some k1c1 }
def k1c2 : Code := { maxStack := 2, maxLocals := 5, code := code, exceptionTable := #[], attributes := #[] }
def k1m2 : Method := { name := "law", desc := "(II)Z", sig := { parameters := [.int, .int], returnType := some .boolean }, accessFlags := 9, code := some k1c2 }
/-- tenorbook/core/FrequencyOfPerYearPinLaw -/
def k1 : Class := { plain "tenorbook/core/FrequencyOfPerYearPinLaw" (some 0) with
  accessFlags := 49
  interfaces := #[]
  cf := some (fileOf pool1 23 #[] #[{ accessFlags := 1, nameIndex := 5, descriptorIndex := 6, attributes := #[] }, { accessFlags := 10, nameIndex := 26, descriptorIndex := 27, attributes := #[] }, { accessFlags := 9, nameIndex := 45, descriptorIndex := 46, attributes := #[] }] 49 2 #[] #[])
  fields := #[]
  methods := #[k1m0, k1m1, k1m2]
  instanceTypes := #[]
  staticTypes := #[]
  resolved := Array.replicate 49 none
  statics := none }

def pool2 : Array CpInfo := pool [(1, .class_ 2), (0, u "java/lang/constant/Constable"), (0, .class_ 4), (0, u "java/lang/Object")] 6

/-- java/lang/constant/Constable -/
def k2 : Class := { plain "java/lang/constant/Constable" (some 0) with
  accessFlags := 1537
  interfaces := #[]
  cf := some (fileOf pool2 1 #[] #[] 1537 3 #[] #[])
  fields := #[]
  methods := #[]
  instanceTypes := #[]
  staticTypes := #[]
  resolved := Array.replicate 11 none
  statics := none }

def pool3 : Array CpInfo := pool [(1, .class_ 2), (0, u "java/lang/Comparable"), (0, .class_ 4), (0, u "java/lang/Object")] 7

/-- java/lang/Comparable -/
def k3 : Class := { plain "java/lang/Comparable" (some 0) with
  accessFlags := 1537
  interfaces := #[]
  cf := some (fileOf pool3 1 #[] #[] 1537 3 #[] #[])
  fields := #[]
  methods := #[]
  instanceTypes := #[]
  staticTypes := #[]
  resolved := Array.replicate 12 none
  statics := none }

def pool4 : Array CpInfo := pool [(1, .class_ 2), (0, u "java/io/Serializable"), (0, .class_ 4), (0, u "java/lang/Object")] 2

/-- java/io/Serializable -/
def k4 : Class := { plain "java/io/Serializable" (some 0) with
  accessFlags := 1537
  interfaces := #[]
  cf := some (fileOf pool4 1 #[] #[] 1537 3 #[] #[])
  fields := #[]
  methods := #[]
  instanceTypes := #[]
  staticTypes := #[]
  resolved := Array.replicate 7 none
  statics := none }

def pool5 : Array CpInfo := pool [(2, .class_ 4), (1, u "java/lang/Enum"), (0, u "name"), (0, u "Ljava/lang/String;"), (2, u "ordinal"), (0, u "I"), (1, .class_ 14), (1, u "java/lang/Object"), (4, u "hash"), (86, .class_ 108), (1, u "java/lang/Enum$EnumDesc"), (2, .class_ 112), (0, u "java/lang/constant/Constable"), (0, .class_ 114), (0, u "java/lang/Comparable"), (0, .class_ 116), (0, u "java/io/Serializable")] 87

/-- java/lang/Enum -/
def k5 : Class := { plain "java/lang/Enum" (some 0) with
  accessFlags := 1057
  interfaces := #[2, 3, 4]
  cf := some (fileOf pool5 2 #[.nestMembers #[106]] #[] 1057 12 #[111, 113, 115] #[{ accessFlags := 18, nameIndex := 5, descriptorIndex := 6, attributes := #[] }, { accessFlags := 18, nameIndex := 9, descriptorIndex := 10, attributes := #[] }, { accessFlags := 2, nameIndex := 19, descriptorIndex := 10, attributes := #[] }])
  fields := #[{ name := "name", type := (.object "java/lang/String"), accessFlags := 18, slot := 0, constantValue := 0 }, { name := "ordinal", type := .int, accessFlags := 18, slot := 1, constantValue := 0 }, { name := "hash", type := .int, accessFlags := 2, slot := 2, constantValue := 0 }]
  methods := #[]
  instanceTypes := #[(.object "java/lang/String"), .int, .int]
  staticTypes := #[]
  resolved := Array.replicate 204 none
  statics := none }

def pool6 : Array CpInfo := pool [(1, .class_ 2), (0, u "tenorbook/core/Frequency"), (2, u "ANNUAL"), (0, u "Ltenorbook/core/Frequency;"), (2, u "SEMIANNUAL"), (2, u "QUARTERLY"), (2, u "MONTHLY"), (0, .fieldref 1 17), (0, .nameAndType 18 19), (0, u "$VALUES"), (0, u "[Ltenorbook/core/Frequency;"), (0, .methodref 21 22), (0, .class_ 19), (0, .nameAndType 23 24), (0, u "clone"), (0, u "()Ljava/lang/Object;"), (1, .class_ 28), (1, u "java/lang/Enum"), (6, .fieldref 1 36), (0, .nameAndType 37 38), (0, u "mPerYear"), (0, u "I"), (0, .methodref 1 40), (0, .nameAndType 41 42), (0, u "values"), (0, u "()[Ltenorbook/core/Frequency;"), (0, .methodref 44 45), (0, .class_ 46), (0, .nameAndType 47 48), (0, u "java/util/Optional"), (0, u "of"), (0, u "(Ljava/lang/Object;)Ljava/util/Optional;"), (0, .methodref 44 50), (0, .nameAndType 51 52), (0, u "empty"), (0, u "()Ljava/util/Optional;"), (16, u "ofPerYear"), (0, u "(I)Ljava/util/Optional;")] 10

def k6c0 : Code := { maxStack := 1, maxLocals := 0, code := prog_65_method_1_code, exceptionTable := #[], attributes := #[] }
def k6m0 : Method := { name := "values", desc := "()[Ltenorbook/core/Frequency;", sig := { parameters := [], returnType := some (.array (.object "tenorbook/core/Frequency")) }, accessFlags := 9, code := some k6c0 }
def k6c1 : Code := { maxStack := 2, maxLocals := 5, code := prog_65_method_4_code, exceptionTable := #[], attributes := #[] }
def k6m1 : Method := { name := "ofPerYear", desc := "(I)Ljava/util/Optional;", sig := { parameters := [.int], returnType := some (.object "java/util/Optional") }, accessFlags := 9, code := some k6c1 }
/-- tenorbook/core/Frequency -/
def k6 : Class := { plain "tenorbook/core/Frequency" (some 5) with
  accessFlags := 16433
  interfaces := #[]
  cf := some (fileOf pool6 1 #[] #[{ accessFlags := 9, nameIndex := 41, descriptorIndex := 42, attributes := #[] }, { accessFlags := 9, nameIndex := 69, descriptorIndex := 70, attributes := #[] }] 16433 26 #[] #[{ accessFlags := 16409, nameIndex := 5, descriptorIndex := 6, attributes := #[] }, { accessFlags := 16409, nameIndex := 9, descriptorIndex := 6, attributes := #[] }, { accessFlags := 16409, nameIndex := 12, descriptorIndex := 6, attributes := #[] }, { accessFlags := 16409, nameIndex := 15, descriptorIndex := 6, attributes := #[] }, { accessFlags := 18, nameIndex := 37, descriptorIndex := 38, attributes := #[] }, { accessFlags := 4122, nameIndex := 18, descriptorIndex := 19, attributes := #[] }])
  fields := #[{ name := "ANNUAL", type := (.object "tenorbook/core/Frequency"), accessFlags := 16409, slot := 0, constantValue := 0 }, { name := "SEMIANNUAL", type := (.object "tenorbook/core/Frequency"), accessFlags := 16409, slot := 1, constantValue := 0 }, { name := "QUARTERLY", type := (.object "tenorbook/core/Frequency"), accessFlags := 16409, slot := 2, constantValue := 0 }, { name := "MONTHLY", type := (.object "tenorbook/core/Frequency"), accessFlags := 16409, slot := 3, constantValue := 0 }, { name := "mPerYear", type := .int, accessFlags := 18, slot := 3, constantValue := 0 }, { name := "$VALUES", type := (.array (.object "tenorbook/core/Frequency")), accessFlags := 4122, slot := 4, constantValue := 0 }]
  methods := #[k6m0, k6m1]
  instanceTypes := #[(.object "java/lang/String"), .int, .int, .int]
  staticTypes := #[(.object "tenorbook/core/Frequency"), (.object "tenorbook/core/Frequency"), (.object "tenorbook/core/Frequency"), (.object "tenorbook/core/Frequency"), (.array (.object "tenorbook/core/Frequency"))]
  resolved := Array.replicate 81 none
  statics := some 0 }

def pool7 : Array CpInfo := pool [(1, .class_ 2), (0, u "java/lang/Cloneable"), (0, .class_ 4), (0, u "java/lang/Object")] 2

/-- java/lang/Cloneable -/
def k7 : Class := { plain "java/lang/Cloneable" (some 0) with
  accessFlags := 1537
  interfaces := #[]
  cf := some (fileOf pool7 1 #[] #[] 1537 3 #[] #[])
  fields := #[]
  methods := #[]
  instanceTypes := #[]
  staticTypes := #[]
  resolved := Array.replicate 7 none
  statics := none }

def pool8 : Array CpInfo := pool [(1, .fieldref 2 3), (0, .class_ 4), (0, .nameAndType 5 6), (0, u "java/util/Optional"), (0, u "EMPTY"), (0, u "Ljava/util/Optional;"), (0, .methodref 8 9), (0, .class_ 10), (0, .nameAndType 11 12), (0, u "java/lang/Object"), (0, u "<init>"), (0, u "()V"), (0, .fieldref 2 14), (0, .nameAndType 15 16), (0, u "value"), (0, u "Ljava/lang/Object;"), (0, .methodref 18 19), (0, .class_ 20), (0, .nameAndType 21 22), (0, u "java/util/Objects"), (0, u "requireNonNull"), (0, u "(Ljava/lang/Object;)Ljava/lang/Object;"), (0, .methodref 2 24), (0, .nameAndType 11 25), (0, u "(Ljava/lang/Object;)V"), (20, u "()Z"), (8, u "empty"), (0, u "()Ljava/util/Optional;"), (8, u "(Ljava/lang/Object;)Ljava/util/Optional;"), (2, u "isPresent"), (4, u "get"), (0, u "()Ljava/lang/Object;"), (7, u "of")] 104

def k8c0 : Code := { maxStack := 1, maxLocals := 1, code := jdk_32_method_1_code, exceptionTable := #[], attributes := #[] }
def k8m0 : Method := { name := "empty", desc := "()Ljava/util/Optional;", sig := { parameters := [], returnType := some (.object "java/util/Optional") }, accessFlags := 9, code := some k8c0 }
def k8c1 : Code := { maxStack := 2, maxLocals := 2, code := jdk_32_method_2_code, exceptionTable := #[], attributes := #[] }
def k8m1 : Method := { name := "<init>", desc := "(Ljava/lang/Object;)V", sig := { parameters := [(.object "java/lang/Object")], returnType := none }, accessFlags := 2, code := some k8c1 }
def k8c2 : Code := { maxStack := 3, maxLocals := 1, code := jdk_32_method_3_code, exceptionTable := #[], attributes := #[] }
def k8m2 : Method := { name := "of", desc := "(Ljava/lang/Object;)Ljava/util/Optional;", sig := { parameters := [(.object "java/lang/Object")], returnType := some (.object "java/util/Optional") }, accessFlags := 9, code := some k8c2 }
def k8c3 : Code := { maxStack := 3, maxLocals := 1, code := jdk_32_method_5_code, exceptionTable := #[], attributes := #[] }
def k8m3 : Method := { name := "get", desc := "()Ljava/lang/Object;", sig := { parameters := [], returnType := some (.object "java/lang/Object") }, accessFlags := 1, code := some k8c3 }
def k8c4 : Code := { maxStack := 1, maxLocals := 1, code := jdk_32_method_6_code, exceptionTable := #[], attributes := #[] }
def k8m4 : Method := { name := "isPresent", desc := "()Z", sig := { parameters := [], returnType := some .boolean }, accessFlags := 1, code := some k8c4 }
/-- java/util/Optional -/
def k8 : Class := { plain "java/util/Optional" (some 0) with
  accessFlags := 49
  interfaces := #[]
  cf := some (fileOf pool8 2 #[] #[{ accessFlags := 9, nameIndex := 55, descriptorIndex := 56, attributes := #[] }, { accessFlags := 2, nameIndex := 11, descriptorIndex := 25, attributes := #[] }, { accessFlags := 9, nameIndex := 82, descriptorIndex := 65, attributes := #[] }, { accessFlags := 1, nameIndex := 73, descriptorIndex := 74, attributes := #[] }, { accessFlags := 1, nameIndex := 68, descriptorIndex := 46, attributes := #[] }] 49 8 #[] #[{ accessFlags := 26, nameIndex := 5, descriptorIndex := 6, attributes := #[] }, { accessFlags := 18, nameIndex := 15, descriptorIndex := 16, attributes := #[] }])
  fields := #[{ name := "EMPTY", type := (.object "java/util/Optional"), accessFlags := 26, slot := 0, constantValue := 0 }, { name := "value", type := (.object "java/lang/Object"), accessFlags := 18, slot := 0, constantValue := 0 }]
  methods := #[k8m0, k8m1, k8m2, k8m3, k8m4]
  instanceTypes := #[(.object "java/lang/Object")]
  staticTypes := #[(.object "java/util/Optional")]
  resolved := Array.replicate 187 none
  statics := some 1 }

def pool9 : Array CpInfo := pool [(2, .class_ 4), (1, u "java/lang/Object"), (0, u "<init>"), (0, u "()V"), (35, .class_ 44), (1, u "java/util/Objects"), (0, u "requireNonNull"), (0, u "(Ljava/lang/Object;)Ljava/lang/Object;")] 137

def k9m0 : Method := { name := "<init>", desc := "()V", sig := { parameters := [], returnType := none }, accessFlags := 2, code := none }
def k9c1 : Code := { maxStack := 2, maxLocals := 1, code := jdk_31_method_10_code, exceptionTable := #[], attributes := #[] }
def k9m1 : Method := { name := "requireNonNull", desc := "(Ljava/lang/Object;)Ljava/lang/Object;", sig := { parameters := [(.object "java/lang/Object")], returnType := some (.object "java/lang/Object") }, accessFlags := 9, code := some k9c1 }
/-- java/util/Objects -/
def k9 : Class := { plain "java/util/Objects" (some 0) with
  accessFlags := 49
  interfaces := #[]
  cf := some (fileOf pool9 42 #[] #[{ accessFlags := 2, nameIndex := 5, descriptorIndex := 6, attributes := #[] }, { accessFlags := 9, nameIndex := 45, descriptorIndex := 46, attributes := #[] }] 49 2 #[] #[])
  fields := #[]
  methods := #[k9m0, k9m1]
  instanceTypes := #[]
  staticTypes := #[]
  resolved := Array.replicate 184 none
  statics := none }

/-- the primitive byte -/
def k10 : Class := { plain "byte" none with kind := .primitive 'B', accessFlags := 0x411 }
/-- [B -/
def k11 : Class := { plain "[B" (some 0) with kind := .array 10 .byte, interfaces := #[7, 4], accessFlags := 1041 }

/-- the primitive int -/
def k12 : Class := { plain "int" none with kind := .primitive 'I', accessFlags := 0x411 }
/-- [I -/
def k13 : Class := { plain "[I" (some 0) with kind := .array 12 .int, interfaces := #[7, 4], accessFlags := 1041 }

/-- [Ltenorbook/core/Frequency; -/
def k14 : Class := { plain "[Ltenorbook/core/Frequency;" (some 0) with kind := .array 6 (.object "tenorbook/core/Frequency"), interfaces := #[7, 4], accessFlags := 1041 }

def heap : Heap := #[{ cls := 6, slots := #[.ref 3, .ref 4, .ref 5, .ref 6, .ref 2], vm := .statics 6 },
  { cls := 8, slots := #[.ref 7], vm := .statics 8 },
  { cls := 14, slots := #[.ref 3, .ref 4, .ref 5, .ref 6], vm := .none },
  { cls := 6, slots := #[.null, .int 0, .int 0, .int 1], vm := .none },
  { cls := 6, slots := #[.null, .int 0, .int 0, .int 2], vm := .none },
  { cls := 6, slots := #[.null, .int 0, .int 0, .int 4], vm := .none },
  { cls := 6, slots := #[.null, .int 0, .int 0, .int 12], vm := .none },
  { cls := 8, slots := #[.null], vm := .none }]
def classes : Array Class := #[k0, k1, k2, k3, k4, k5, k6, k7, k8, k9, k10, k11, k12, k13, k14]
def interned : List (Array UInt16 × Addr) := []
def slotsUsed : Nat := 27
def theMethod : MethodId := ⟨1, 2⟩
def args0 : Array Value := #[.int 5, .int 7]
def aboutOver (below : List Frame) : State where
  vm := { classes := classes, interned := interned.toArray }
  heap := heap
  slotsUsed := slotsUsed
  threads := #[{ frames := .invoking theMethod args0 :: below }]
def below0 : List Frame := [.native { method := ⟨0, 0⟩, args := #[] }]
def about1 : State := aboutOver below0
def p0 : Program := .bare "" "" ""
def e0 : Env := launch0.env 0 0 0
theorem w_frames : about1.frames = Frame.invoking theMethod args0 :: below0 := rfl
set_option maxRecDepth 65536 in
theorem w_args : argsFit about1.vm theMethod args0 = true := by decide +kernel
set_option maxRecDepth 65536 in
theorem w_heap : heapFits about1 = true := by decide +kernel
set_option maxRecDepth 65536 in
theorem w_runnable : about1.curStatus? = some .runnable := by decide +kernel
set_option maxRecDepth 65536 in
theorem w_alone : about1.alone = true := by decide +kernel
set_option maxRecDepth 65536 in
theorem w_named : about1.methodNamed? x = some theMethod := by decide +kernel
set_option maxRecDepth 65536 in
theorem w_hears : about1.hears theMethod below0 = true := by decide +kernel
set_option maxRecDepth 65536 in
theorem w_ripe : about1.ripe theMethod args0 below0 = true := by decide +kernel
theorem w_running : about1.status = .running := rfl
set_option maxRecDepth 65536 in
theorem w_room : about1.hasRoom e0.platform room_1 = true :=
  launch0.hasRoom_least _ room_1 (by decide +kernel) (by decide +kernel) (by decide +kernel) (by decide +kernel) (by decide +kernel) (by decide +kernel)
theorem allAtoms_all (ts : List Jvm.Cond) (a : Array Jvm.Value) (st : Jvm.State) : (allAtoms ts).before a st = ts.all (fun c => c.before a st) := by
  induction ts with
  | nil => rfl
  | cons c t ih =>
    show (Jvm.Cond.and c (allAtoms t)).before a st = _
    rw [Jvm.Cond.before_and, ih, List.all_cons]
def words1 : List Jvm.Cond := Jvm.Cond.code x code maxLocals ret :: tables_1
/-- a 'code' word, met by the world's own term for the bytes: nothing is compared byte by byte -/
theorem code_word {y : MethodName} {bytes : ByteArray} {mx : Nat} {rt : Option FieldType} {a : Array Value} {s : State} {m : MethodId} {meth : Method} {c : Code} (h1 : s.methodNamed? y = some m) (h2 : s.vm.method? m = some meth) (h3 : meth.code = some c) (h4 : c.code = bytes)
    (h5 : (c.maxLocals == mx && c.exceptionTable.isEmpty && decide (c.maxStack ≤ mostOperands) && decide (meth.sig.returnType = rt) && !meth.locks && decide (parseMethodDescriptor y.desc = some meth.sig)) = true) : (Jvm.Cond.code y bytes mx rt).before a s = true := by
  simp only [Bool.and_eq_true, beq_iff_eq, Bool.not_eq_true', decide_eq_true_eq] at h5
  obtain ⟨⟨⟨⟨⟨g1, g2⟩, g3⟩, g4⟩, g5⟩, g6⟩ := h5
  simp [Cond.before, Cond.holds, Cond.value, h1, h2, h3, h4, g1, g2, g3, g4, g5, g6]
def isCode : Jvm.Cond → Bool
  | .code _ _ _ _ => true
  | _ => false
theorem all_split {L : List Jvm.Cond} {P : Jvm.Cond → Bool} (h1 : L.all (fun c => isCode c || P c) = true) (h2 : ∀ c ∈ L.filter isCode, P c = true) : L.all P = true := by
  refine List.all_eq_true.mpr fun c hc => ?_
  have h := List.all_eq_true.mp h1 c hc
  rcases Bool.eq_false_or_eq_true (isCode c) with hi | hi
  · exact h2 c (List.mem_filter.mpr ⟨hc, hi⟩)
  · simpa [hi] using h
set_option maxRecDepth 65536 in
theorem w_c0 : (Jvm.Cond.code x code maxLocals ret).before args0 about1 = true := code_word (m := ⟨1, 2⟩) (meth := k1m2) (c := k1c2) (by decide +kernel) rfl rfl rfl (by decide +kernel)
set_option maxRecDepth 65536 in
theorem w_c1 : (Jvm.Cond.code ({ cls := "tenorbook/core/FrequencyOfPerYearPinLaw", name := "expected", desc := "(I)Ltenorbook/core/Frequency;" } : Jvm.MethodName) method_2_code (1 : Nat) (Option.some (Jvm.ClassFile.FieldType.object "tenorbook/core/Frequency"))).before args0 about1 = true := code_word (m := ⟨1, 1⟩) (meth := k1m1) (c := k1c1) (by decide +kernel) rfl rfl rfl (by decide +kernel)
set_option maxRecDepth 65536 in
theorem w_c2 : (Jvm.Cond.code ({ cls := "tenorbook/core/Frequency", name := "ofPerYear", desc := "(I)Ljava/util/Optional;" } : Jvm.MethodName) prog_65_method_4_code (5 : Nat) (Option.some (Jvm.ClassFile.FieldType.object "java/util/Optional"))).before args0 about1 = true := code_word (m := ⟨6, 1⟩) (meth := k6m1) (c := k6c1) (by decide +kernel) rfl rfl rfl (by decide +kernel)
set_option maxRecDepth 65536 in
theorem w_c3 : (Jvm.Cond.code ({ cls := "tenorbook/core/Frequency", name := "values", desc := "()[Ltenorbook/core/Frequency;" } : Jvm.MethodName) prog_65_method_1_code (0 : Nat) (Option.some (Jvm.ClassFile.FieldType.array (Jvm.ClassFile.FieldType.object "tenorbook/core/Frequency")))).before args0 about1 = true := code_word (m := ⟨6, 0⟩) (meth := k6m0) (c := k6c0) (by decide +kernel) rfl rfl rfl (by decide +kernel)
set_option maxRecDepth 65536 in
theorem w_c4 : (Jvm.Cond.code ({ cls := "java/util/Optional", name := "empty", desc := "()Ljava/util/Optional;" } : Jvm.MethodName) jdk_32_method_1_code (1 : Nat) (Option.some (Jvm.ClassFile.FieldType.object "java/util/Optional"))).before args0 about1 = true := code_word (m := ⟨8, 0⟩) (meth := k8m0) (c := k8c0) (by decide +kernel) rfl rfl rfl (by decide +kernel)
set_option maxRecDepth 65536 in
theorem w_c5 : (Jvm.Cond.code ({ cls := "java/util/Optional", name := "isPresent", desc := "()Z" } : Jvm.MethodName) jdk_32_method_6_code (1 : Nat) (Option.some Jvm.ClassFile.FieldType.boolean)).before args0 about1 = true := code_word (m := ⟨8, 4⟩) (meth := k8m4) (c := k8c4) (by decide +kernel) rfl rfl rfl (by decide +kernel)
set_option maxRecDepth 65536 in
theorem w_c6 : (Jvm.Cond.code ({ cls := "java/util/Optional", name := "of", desc := "(Ljava/lang/Object;)Ljava/util/Optional;" } : Jvm.MethodName) jdk_32_method_3_code (1 : Nat) (Option.some (Jvm.ClassFile.FieldType.object "java/util/Optional"))).before args0 about1 = true := code_word (m := ⟨8, 2⟩) (meth := k8m2) (c := k8c2) (by decide +kernel) rfl rfl rfl (by decide +kernel)
set_option maxRecDepth 65536 in
theorem w_c7 : (Jvm.Cond.code ({ cls := "java/util/Objects", name := "requireNonNull", desc := "(Ljava/lang/Object;)Ljava/lang/Object;" } : Jvm.MethodName) jdk_31_method_10_code (1 : Nat) (Option.some (Jvm.ClassFile.FieldType.object "java/lang/Object"))).before args0 about1 = true := code_word (m := ⟨9, 1⟩) (meth := k9m1) (c := k9c1) (by decide +kernel) rfl rfl rfl (by decide +kernel)
set_option maxRecDepth 65536 in
theorem w_c8 : (Jvm.Cond.code ({ cls := "java/util/Optional", name := "<init>", desc := "(Ljava/lang/Object;)V" } : Jvm.MethodName) jdk_32_method_2_code (2 : Nat) (Option.none : Option Jvm.ClassFile.FieldType)).before args0 about1 = true := code_word (m := ⟨8, 1⟩) (meth := k8m1) (c := k8c1) (by decide +kernel) rfl rfl rfl (by decide +kernel)
set_option maxRecDepth 65536 in
theorem w_c9 : (Jvm.Cond.code ({ cls := "java/lang/Object", name := "<init>", desc := "()V" } : Jvm.MethodName) object_method_1_code (1 : Nat) (Option.none : Option Jvm.ClassFile.FieldType)).before args0 about1 = true := code_word (m := ⟨0, 0⟩) (meth := k0m0) (c := k0c0) (by decide +kernel) rfl rfl rfl (by decide +kernel)
set_option maxRecDepth 65536 in
theorem w_c10 : (Jvm.Cond.code ({ cls := "java/util/Optional", name := "get", desc := "()Ljava/lang/Object;" } : Jvm.MethodName) jdk_32_method_5_code (1 : Nat) (Option.some (Jvm.ClassFile.FieldType.object "java/lang/Object"))).before args0 about1 = true := code_word (m := ⟨8, 3⟩) (meth := k8m3) (c := k8c3) (by decide +kernel) rfl rfl rfl (by decide +kernel)
def codes1 : List Jvm.Cond := [Jvm.Cond.code x code maxLocals ret, Jvm.Cond.code ({ cls := "tenorbook/core/FrequencyOfPerYearPinLaw", name := "expected", desc := "(I)Ltenorbook/core/Frequency;" } : Jvm.MethodName) method_2_code (1 : Nat) (Option.some (Jvm.ClassFile.FieldType.object "tenorbook/core/Frequency")), Jvm.Cond.code ({ cls := "tenorbook/core/Frequency", name := "ofPerYear", desc := "(I)Ljava/util/Optional;" } : Jvm.MethodName) prog_65_method_4_code (5 : Nat) (Option.some (Jvm.ClassFile.FieldType.object "java/util/Optional")), Jvm.Cond.code ({ cls := "tenorbook/core/Frequency", name := "values", desc := "()[Ltenorbook/core/Frequency;" } : Jvm.MethodName) prog_65_method_1_code (0 : Nat) (Option.some (Jvm.ClassFile.FieldType.array (Jvm.ClassFile.FieldType.object "tenorbook/core/Frequency"))), Jvm.Cond.code ({ cls := "java/util/Optional", name := "empty", desc := "()Ljava/util/Optional;" } : Jvm.MethodName) jdk_32_method_1_code (1 : Nat) (Option.some (Jvm.ClassFile.FieldType.object "java/util/Optional")), Jvm.Cond.code ({ cls := "java/util/Optional", name := "isPresent", desc := "()Z" } : Jvm.MethodName) jdk_32_method_6_code (1 : Nat) (Option.some Jvm.ClassFile.FieldType.boolean), Jvm.Cond.code ({ cls := "java/util/Optional", name := "of", desc := "(Ljava/lang/Object;)Ljava/util/Optional;" } : Jvm.MethodName) jdk_32_method_3_code (1 : Nat) (Option.some (Jvm.ClassFile.FieldType.object "java/util/Optional")), Jvm.Cond.code ({ cls := "java/util/Objects", name := "requireNonNull", desc := "(Ljava/lang/Object;)Ljava/lang/Object;" } : Jvm.MethodName) jdk_31_method_10_code (1 : Nat) (Option.some (Jvm.ClassFile.FieldType.object "java/lang/Object")), Jvm.Cond.code ({ cls := "java/util/Optional", name := "<init>", desc := "(Ljava/lang/Object;)V" } : Jvm.MethodName) jdk_32_method_2_code (2 : Nat) (Option.none : Option Jvm.ClassFile.FieldType), Jvm.Cond.code ({ cls := "java/lang/Object", name := "<init>", desc := "()V" } : Jvm.MethodName) object_method_1_code (1 : Nat) (Option.none : Option Jvm.ClassFile.FieldType), Jvm.Cond.code ({ cls := "java/util/Optional", name := "get", desc := "()Ljava/lang/Object;" } : Jvm.MethodName) jdk_32_method_5_code (1 : Nat) (Option.some (Jvm.ClassFile.FieldType.object "java/lang/Object"))]
set_option maxRecDepth 65536 in
theorem codes_eq : words1.filter isCode = codes1 := rfl
theorem w_codes : ∀ c ∈ words1.filter isCode, c.before args0 about1 = true := by
  rw [codes_eq]
  intro c hc
  simp only [codes1, List.mem_cons, List.not_mem_nil, or_false] at hc
  rcases hc with rfl | rfl | rfl | rfl | rfl | rfl | rfl | rfl | rfl | rfl | rfl
  · exact w_c0
  · exact w_c1
  · exact w_c2
  · exact w_c3
  · exact w_c4
  · exact w_c5
  · exact w_c6
  · exact w_c7
  · exact w_c8
  · exact w_c9
  · exact w_c10
set_option maxRecDepth 65536 in
theorem w_t1 : (words1.take 24).all (fun c => isCode c || c.before args0 about1) = true := by decide +kernel
set_option maxRecDepth 65536 in
theorem w_t2 : ((words1.drop 24).take 24).all (fun c => isCode c || c.before args0 about1) = true := by decide +kernel
set_option maxRecDepth 65536 in
theorem w_t3 : ((words1.drop 24).drop 24).all (fun c => isCode c || c.before args0 about1) = true := by decide +kernel
theorem w_tables : (allAtoms (Jvm.Cond.code x code maxLocals ret :: tables_1)).before args0 about1 = true := by
  rw [allAtoms_all]
  show words1.all (fun c => c.before args0 about1) = true
  refine all_split ?_ w_codes
  rw [← List.take_append_drop 24 words1, List.all_append, w_t1, ← List.take_append_drop 24 (words1.drop 24), List.all_append, w_t2, w_t3]
  rfl
set_option maxRecDepth 65536 in
theorem w_rest : rest_1_c.before args0 about1 = true := by decide +kernel
set_option maxRecDepth 65536 in
theorem w_case : (Jvm.Cond.and given_1 narrow_1).before args0 about1 = true := by decide +kernel
theorem w_applies : (headSpec (Jvm.Cond.code x code maxLocals ret :: tables_1) room_1).applies x e0.platform about1 = true :=
  (Spec.applies_iff w_frames).mpr ⟨w_running, w_runnable, w_alone, w_named, w_hears, w_ripe, w_room, w_tables⟩
theorem atStart : AtStart classFile x code maxLocals ret World_1 tables_1 room_1 Calls_1 rest_1 Pre_1 launch0 p0 e0 about1 theMethod args0 below0 :=
  ⟨lists_1, trivial, launch0.admits_env _ _ _, launch0.least_env, fairChoices_fair.cas, fairChoices_fair.clock, w_frames, w_args, w_heap, w_applies, trivial, w_rest, w_case⟩
end start1
theorem witness_1 : WitnessClaimed_1 := ⟨start1.p0, start1.e0, start1.about1, start1.theMethod, start1.args0, start1.below0, start1.atStart⟩
end Jvm.Pilot.@@N@@
