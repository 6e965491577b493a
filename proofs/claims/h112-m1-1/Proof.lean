import JvmDerived
import JvmDerived.Pilot.@@N@@Statement
import JvmDerived.Pilot.@@N@@Code
set_option linter.unusedVariables false
set_option linter.unusedSimpArgs false
namespace Jvm.Pilot.@@N@@
open Jvm Jvm.ClassFile Sem Op Lib Jvm.Free Jvm.Stand Jvm.LawKit Jvm.RoadKit Bundle Jvm.Pilot.@@N@@.Jvm.D
section OwnKit
variable {p : Program} {l : Launch} {e : Env} {R : Room} {s : State} {m : MethodId} {args : Array Value} {below : List Frame} {meth : Method} {c : Code} {T : State} {locs : List Loc} {cells slots kc ks : Nat} {Q : Option Value → Heap → List Loc → Prop} {A B : State}
/-- the rest of a walk: from the state A the run comes to a return that Q describes -/
def OW (p : Program) (e : Env) (below : List Frame) (s : State) (Q : Option Value → Heap → List Loc → Prop) (kc ks : Nat) (A : State) : Prop :=
  ∃ s₂ o, Steps p.tables e below A s₂ ∧ s₂.status = .running ∧ Ended s₂ below o ∧ ∃ v L, o = .returned v ∧ Q v s₂.heap L ∧ FrameEnd s o s₂ L kc ks
theorem OW.st (h : ∀ t, Steps p.tables e below B t → Steps p.tables e below A t) (k : OW p e below s Q kc ks B) : OW p e below s Q kc ks A := by
  obtain ⟨a, o, h1, h2⟩ := k; exact ⟨a, o, h _ h1, h2⟩
theorem OW.tr (h : Steps p.tables e below A B) (k : OW p e below s Q kc ks B) : OW p e below s Q kc ks A := by
  obtain ⟨a, o, h1, h2⟩ := k; exact ⟨a, o, h.trans h1, h2⟩
theorem OW.ret (X : Stand p l e R s m args below meth c T locs cells slots) (hx : p.tables.exec = Jvm.exec) (hlk : meth.locks = false) {pc : Nat} {Ls : Array Slot} {w : Value} {t : FieldType} {i : Instr} {rest : List Value} (hret : meth.sig.returnType = some t) (hn : narrow t w = w)
    (hi : (i = .ireturn ∧ (t = .int ∨ t = .boolean ∨ t = .byte ∨ t = .char ∨ t = .short) ∧ ∃ z, w = .int z) ∨ (i = .lreturn ∧ t = .long ∧ ∃ z, w = .long z) ∨ (i = .dreturn ∧ t = .double ∧ ∃ z, w = .double z) ∨ (i = .freturn ∧ t = .float ∧ ∃ z, w = .float z) ∨ (i = .areturn ∧ t.isReference = true ∧ w.isRef = true))
    (hd : decode c.code pc = .ok (i, 1)) {h : Heap} (eT : T.heap = h) (hc : cells ≤ kc) (hs : slots ≤ ks) (q : Q (some w) h locs) : OW p e below s Q kc ks (T.setTop (mkF m pc Ls (w :: rest))) := by
  obtain ⟨fs, hr, hrun, hended, hW, hsame⟩ := X.leave (v := some w) (fun h => by rw [hret] at h; cases h) hlk
  subst eT
  exact ⟨_, _, retOut X hx hret hn hi hd hr, hrun, hended, _, _, rfl, q, ⟨_, rfl⟩, hW, hsame.mono hc hs⟩
theorem OW.retV (X : Stand p l e R s m args below meth c T locs cells slots) (hx : p.tables.exec = Jvm.exec) (hlk : meth.locks = false) {pc : Nat} {Ls : Array Slot} (hret : meth.sig.returnType = none)
    (hd : decode c.code pc = .ok (.return_, 1)) {h : Heap} (eT : T.heap = h) (hc : cells ≤ kc) (hs : slots ≤ ks) (q : Q none h locs) : OW p e below s Q kc ks (T.setTop (mkF m pc Ls [])) := by
  obtain ⟨fs, hr, hrun, hended, hW, hsame⟩ := X.leave (v := none) (fun _ => rfl) hlk
  subst eT
  exact ⟨_, _, X.returnOut hx hret hd hr, hrun, hended, _, _, rfl, q, ⟨_, rfl⟩, hW, hsame.mono hc hs⟩
/-- the same for a walk that may intern: its Stand is over 's.setVm vm0' -/
def OWW (p : Program) (e : Env) (below : List Frame) (s : State) (Q : Option Value → Heap → List Loc → Prop) (kc ks : Nat) (A : State) : Prop :=
  ∃ s₂ o, Steps p.tables e below A s₂ ∧ s₂.status = .running ∧ Ended s₂ below o ∧ ∃ v L, o = .returned v ∧ Q v s₂.heap L ∧ ReturnedEndW s o s₂ L kc ks
theorem OWW.st (h : ∀ t, Steps p.tables e below B t → Steps p.tables e below A t) (k : OWW p e below s Q kc ks B) : OWW p e below s Q kc ks A := by
  obtain ⟨a, o, h1, h2⟩ := k; exact ⟨a, o, h _ h1, h2⟩
theorem OWW.tr (h : Steps p.tables e below A B) (k : OWW p e below s Q kc ks B) : OWW p e below s Q kc ks A := by
  obtain ⟨a, o, h1, h2⟩ := k; exact ⟨a, o, h.trans h1, h2⟩
theorem OWW.ret {vm0 : Vm} {k0 : Nat} (X : Stand p l e R (s.setVm vm0) m args below meth c T locs cells slots) {h : Heap} (hS : s.Since vm0 k0) (hk : k0 ≤ h.size) (hx : p.tables.exec = Jvm.exec) (hlk : meth.locks = false) {pc : Nat} {Ls : Array Slot} {w : Value} {t : FieldType} {i : Instr} {rest : List Value} (hret : meth.sig.returnType = some t) (hn : narrow t w = w)
    (hi : (i = .ireturn ∧ (t = .int ∨ t = .boolean ∨ t = .byte ∨ t = .char ∨ t = .short) ∧ ∃ z, w = .int z) ∨ (i = .lreturn ∧ t = .long ∧ ∃ z, w = .long z) ∨ (i = .dreturn ∧ t = .double ∧ ∃ z, w = .double z) ∨ (i = .freturn ∧ t = .float ∧ ∃ z, w = .float z) ∨ (i = .areturn ∧ t.isReference = true ∧ w.isRef = true))
    (hd : decode c.code pc = .ok (i, 1)) (eT : T.heap = h) (hc : cells ≤ kc) (hs : slots ≤ ks) (q : Q (some w) h locs) : OWW p e below s Q kc ks (T.setTop (mkF m pc Ls (w :: rest))) := by
  obtain ⟨fs, hr, hrun, hended, hW, hsame⟩ := X.leave (v := some w) (fun h => by rw [hret] at h; cases h) hlk
  subst eT
  obtain ⟨g1, g2, g3⟩ := hS.ended (U := T.setFrames fs) hW hk hsame
  exact ⟨_, _, retOut X hx hret hn hi hd hr, hrun, hended, _, _, rfl, q, ⟨_, rfl⟩, g1, g2, g3.mono hc hs⟩
theorem OWW.retV {vm0 : Vm} {k0 : Nat} (X : Stand p l e R (s.setVm vm0) m args below meth c T locs cells slots) {h : Heap} (hS : s.Since vm0 k0) (hk : k0 ≤ h.size) (hx : p.tables.exec = Jvm.exec) (hlk : meth.locks = false) {pc : Nat} {Ls : Array Slot} (hret : meth.sig.returnType = none)
    (hd : decode c.code pc = .ok (.return_, 1)) (eT : T.heap = h) (hc : cells ≤ kc) (hs : slots ≤ ks) (q : Q none h locs) : OWW p e below s Q kc ks (T.setTop (mkF m pc Ls [])) := by
  obtain ⟨fs, hr, hrun, hended, hW, hsame⟩ := X.leave (v := none) (fun _ => rfl) hlk
  subst eT
  obtain ⟨g1, g2, g3⟩ := hS.ended (U := T.setFrames fs) hW hk hsame
  exact ⟨_, _, X.returnOut hx hret hd hr, hrun, hended, _, _, rfl, q, ⟨_, rfl⟩, g1, g2, g3.mono hc hs⟩
end OwnKit
section OwnWords
variable {args : Array Value} {first s : State} {o : Option Outcome} {idx : List Nat} {t : Term}
theorem own_eq_int {k : Int32} (h : (Jvm.Cond.eq t (.int k)).value args first o s idx = some true) : t.eval args first o idx s = some (.int k) := by
  obtain ⟨x, y, h1, h2, k1, k2⟩ := cmp_v (Or.inl h)
  rw [Term.int_eval] at h2
  cases h2
  obtain ⟨z, rfl⟩ := k2
  rw [h1, gotT (Cond.eq_ints h1 (Term.int_eval k)) h]
theorem own_eq_ref {u : Term} {a : Addr} (h : (Jvm.Cond.eq t u).value args first o s idx = some true) (hu : u.eval args first o idx s = some (.ref a)) : t.eval args first o idx s = some (.ref a) := by
  obtain ⟨x, y, h1, h2, k1, k2⟩ := cmp_v (Or.inl h)
  cases hu.symm.trans h2
  have q := gotT (eq_R h1 hu k2.2 rfl) h
  rw [h1, q]
theorem own_eq_dbl {n : Int64} {b : UInt64} (hb : Jvm.Unary.bitsD.apply (.long n) = some (.double b)) (h : (Jvm.Cond.eq t (.op1 .bitsD (.long n))).value args first o s idx = some true) : t.eval args first o idx s = some (.double b) := by
  obtain ⟨x, y, h1, h2, k1, k2⟩ := cmp_v (Or.inl h)
  rw [op1_f (long_at n), hb] at h2
  cases h2
  obtain ⟨z, rfl⟩ := k2
  have h3 : (Term.op1 Jvm.Unary.bitsD (.long n)).eval args first o idx s = some (.double b) := by rw [op1_f (long_at n), hb]
  simp only [Cond.value, h1, h3, Option.some.injEq, decide_eq_true_eq] at h
  rw [h1, h]
theorem own_arr {ty : FieldType} {a : Addr} {z : Int32} (ev : t.eval args s none [] s = some (.ref a)) (ha : (Jvm.Cond.arrayOf t ty).value args s none s [] = some true) (hl : (Term.length t).eval args s none [] s = some (.int z)) :
    ∃ cl : Cell, Arr s s.heap a cl ty ∧ cl.slots.size < 2 ^ 31 ∧ cl.slots.size.toInt32 = z ∧ ∀ j : Int32, ¬ j < 0 → ∀ v, (Term.elem t (.int j)).eval args s none [] s = some v → cl.slots[j.toNatClampNeg]? = some v := by
  obtain ⟨cl, A⟩ := Arr.start ev ha
  have hat := A.fin (Vm.Alike.refl _)
  have hlt : cl.slots.size < 2 ^ 31 := by
    refine Decidable.byContradiction fun q => ?_
    simp [Term.eval, ev, hat, q] at hl
  refine ⟨cl, A, hlt, ?_, fun j hj v hv => ?_⟩
  · rw [len_f ev hat hlt] at hl; exact Value.int.inj (Option.some.inj hl)
  · rw [elem_f ev (Term.int_eval j) hat hj] at hv; exact hv
end OwnWords
theorem own_oldle {Z : State} {n0 : Nat} {h : Heap} (X : Old Z n0 h) : n0 ≤ h.size := X.1 ▸ X.2.1
theorem own_cat {v : Value} (h : v.isRef = true) : v.category = 1 := by cases v <;> first | rfl | simp [Value.isRef] at h
theorem own_nar {v : Value} {t : FieldType} (h : v.isRef = true) (ht : t.isReference = true) : narrow t v = v := by cases t <;> first | (cases ht; done) | (cases v <;> first | rfl | simp [Value.isRef] at h)
theorem own_fit {v : Value} {t : FieldType} (h : v.isRef = true) (ht : t.isReference = true) : fits t v = true := by cases t <;> first | (cases ht; done) | (cases v <;> first | rfl | simp [Value.isRef] at h)

theorem own_nz {r : Int32} (h : r = 0 ∨ r = 1) : narrow .boolean (.int r) = .int r := by rcases h with rfl | rfl <;> rfl
theorem own_fz {r : Int32} (h : r = 0 ∨ r = 1) : fits .boolean (.int r) = true := by rcases h with rfl | rfl <;> rfl
theorem w_0 {a0 : Array Value} {Z : State} (hw : ∀ d ∈ tables_1, d.before a0 Z = true) : (Jvm.Cond.constant "com/example/graded_search/gradedsearch/engine/Bm25QueryFactorPinLaw" (7 : Nat) (2147483647 : Int32)).before a0 Z = true := hw _ (List.mem_of_getElem? (i := 0) rfl)
theorem w_1 {a0 : Array Value} {Z : State} (hw : ∀ d ∈ tables_1, d.before a0 Z = true) : (Jvm.Cond.methodLink "com/example/graded_search/gradedsearch/engine/Bm25QueryFactorPinLaw" (8 : Nat) ({ cls := "java/lang/Math", name := "max", desc := "(II)I" } : Jvm.MethodName)).before a0 Z = true := hw _ (List.mem_of_getElem? (i := 1) rfl)
theorem w_2 {a0 : Array Value} {Z : State} (hw : ∀ d ∈ tables_1, d.before a0 Z = true) : (Jvm.Cond.static ({ cls := "java/lang/Math", name := "max", desc := "(II)I" } : Jvm.MethodName)).before a0 Z = true := hw _ (List.mem_of_getElem? (i := 2) rfl)
theorem w_3 {a0 : Array Value} {Z : State} (hw : ∀ d ∈ tables_1, d.before a0 Z = true) : (Jvm.Cond.initialized "java/lang/Math").before a0 Z = true := hw _ (List.mem_of_getElem? (i := 3) rfl)
theorem w_4 {a0 : Array Value} {Z : State} (hw : ∀ d ∈ tables_1, d.before a0 Z = true) : (Jvm.Cond.code ({ cls := "java/lang/Math", name := "max", desc := "(II)I" } : Jvm.MethodName) jdk_29_method_65_code (2 : Nat) (Option.some Jvm.ClassFile.FieldType.int)).before a0 Z = true := hw _ (List.mem_of_getElem? (i := 4) rfl)
theorem w_5 {a0 : Array Value} {Z : State} (hw : ∀ d ∈ tables_1, d.before a0 Z = true) : (Jvm.Cond.constant "com/example/graded_search/gradedsearch/engine/Bm25QueryFactorPinLaw" (14 : Nat) (1048575 : Int32)).before a0 Z = true := hw _ (List.mem_of_getElem? (i := 5) rfl)
theorem w_6 {a0 : Array Value} {Z : State} (hw : ∀ d ∈ tables_1, d.before a0 Z = true) : (Jvm.Cond.classLink "com/example/graded_search/gradedsearch/engine/Bm25QueryFactorPinLaw" (15 : Nat) "com/example/graded_search/gradedsearch/engine/Bm25").before a0 Z = true := hw _ (List.mem_of_getElem? (i := 6) rfl)
theorem w_7 {a0 : Array Value} {Z : State} (hw : ∀ d ∈ tables_1, d.before a0 Z = true) : (Jvm.Cond.instantiable "com/example/graded_search/gradedsearch/engine/Bm25" (3 : Nat)).before a0 Z = true := hw _ (List.mem_of_getElem? (i := 7) rfl)
theorem w_8 {a0 : Array Value} {Z : State} (hw : ∀ d ∈ tables_1, d.before a0 Z = true) : (Jvm.Cond.initialized "com/example/graded_search/gradedsearch/engine/Bm25").before a0 Z = true := hw _ (List.mem_of_getElem? (i := 8) rfl)
theorem w_9 {a0 : Array Value} {Z : State} (hw : ∀ d ∈ tables_1, d.before a0 Z = true) : (Jvm.Cond.constantDouble "com/example/graded_search/gradedsearch/engine/Bm25QueryFactorPinLaw" (17 : Nat) (4602678819172646912 : UInt64)).before a0 Z = true := hw _ (List.mem_of_getElem? (i := 9) rfl)
theorem w_10 {a0 : Array Value} {Z : State} (hw : ∀ d ∈ tables_1, d.before a0 Z = true) : (Jvm.Cond.methodLink "com/example/graded_search/gradedsearch/engine/Bm25QueryFactorPinLaw" (19 : Nat) ({ cls := "com/example/graded_search/gradedsearch/engine/Bm25", name := "<init>", desc := "(DDD)V" } : Jvm.MethodName)).before a0 Z = true := hw _ (List.mem_of_getElem? (i := 10) rfl)
theorem w_11 {a0 : Array Value} {Z : State} (hw : ∀ d ∈ tables_1, d.before a0 Z = true) : (Jvm.Cond.instanceMethod ({ cls := "com/example/graded_search/gradedsearch/engine/Bm25", name := "<init>", desc := "(DDD)V" } : Jvm.MethodName)).before a0 Z = true := hw _ (List.mem_of_getElem? (i := 11) rfl)
theorem w_12 {a0 : Array Value} {Z : State} (hw : ∀ d ∈ tables_1, d.before a0 Z = true) : (Jvm.Cond.code ({ cls := "com/example/graded_search/gradedsearch/engine/Bm25", name := "<init>", desc := "(DDD)V" } : Jvm.MethodName) prog_17_method_3_code (7 : Nat) (Option.none : Option Jvm.ClassFile.FieldType)).before a0 Z = true := hw _ (List.mem_of_getElem? (i := 12) rfl)
theorem w_13 {a0 : Array Value} {Z : State} (hw : ∀ d ∈ tables_1, d.before a0 Z = true) : (Jvm.Cond.methodLink "com/example/graded_search/gradedsearch/engine/Bm25" (14 : Nat) ({ cls := "com/example/graded_search/gradedsearch/engine/RankingModel", name := "<init>", desc := "()V" } : Jvm.MethodName)).before a0 Z = true := hw _ (List.mem_of_getElem? (i := 13) rfl)
theorem w_14 {a0 : Array Value} {Z : State} (hw : ∀ d ∈ tables_1, d.before a0 Z = true) : (Jvm.Cond.instanceMethod ({ cls := "com/example/graded_search/gradedsearch/engine/RankingModel", name := "<init>", desc := "()V" } : Jvm.MethodName)).before a0 Z = true := hw _ (List.mem_of_getElem? (i := 14) rfl)
theorem w_16 {a0 : Array Value} {Z : State} (hw : ∀ d ∈ tables_1, d.before a0 Z = true) : (Jvm.Cond.initialized "com/example/graded_search/gradedsearch/engine/RankingModel").before a0 Z = true := hw _ (List.mem_of_getElem? (i := 16) rfl)
theorem w_17 {a0 : Array Value} {Z : State} (hw : ∀ d ∈ tables_1, d.before a0 Z = true) : (Jvm.Cond.code ({ cls := "com/example/graded_search/gradedsearch/engine/RankingModel", name := "<init>", desc := "()V" } : Jvm.MethodName) prog_49_method_1_code (1 : Nat) (Option.none : Option Jvm.ClassFile.FieldType)).before a0 Z = true := hw _ (List.mem_of_getElem? (i := 17) rfl)
theorem w_18 {a0 : Array Value} {Z : State} (hw : ∀ d ∈ tables_1, d.before a0 Z = true) : (Jvm.Cond.methodLink "com/example/graded_search/gradedsearch/engine/RankingModel" (1 : Nat) ({ cls := "java/lang/Object", name := "<init>", desc := "()V" } : Jvm.MethodName)).before a0 Z = true := hw _ (List.mem_of_getElem? (i := 18) rfl)
theorem w_19 {a0 : Array Value} {Z : State} (hw : ∀ d ∈ tables_1, d.before a0 Z = true) : (Jvm.Cond.instanceMethod ({ cls := "java/lang/Object", name := "<init>", desc := "()V" } : Jvm.MethodName)).before a0 Z = true := hw _ (List.mem_of_getElem? (i := 19) rfl)
theorem w_20 {a0 : Array Value} {Z : State} (hw : ∀ d ∈ tables_1, d.before a0 Z = true) : (Jvm.Cond.code ({ cls := "java/lang/Object", name := "<init>", desc := "()V" } : Jvm.MethodName) object_method_1_code (1 : Nat) (Option.none : Option Jvm.ClassFile.FieldType)).before a0 Z = true := hw _ (List.mem_of_getElem? (i := 20) rfl)
theorem w_21 {a0 : Array Value} {Z : State} (hw : ∀ d ∈ tables_1, d.before a0 Z = true) : (Jvm.Cond.stringLink "com/example/graded_search/gradedsearch/engine/Bm25" (19 : Nat) "k1").before a0 Z = true := hw _ (List.mem_of_getElem? (i := 21) rfl)
theorem w_22 {a0 : Array Value} {Z : State} (hw : ∀ d ∈ tables_1, d.before a0 Z = true) : (Jvm.Cond.initialized "java/lang/String").before a0 Z = true := hw _ (List.mem_of_getElem? (i := 22) rfl)
theorem w_23 {a0 : Array Value} {Z : State} (hw : ∀ d ∈ tables_1, d.before a0 Z = true) : (Jvm.Cond.instantiable "java/lang/String" (4 : Nat)).before a0 Z = true := hw _ (List.mem_of_getElem? (i := 23) rfl)
theorem w_24 {a0 : Array Value} {Z : State} (hw : ∀ d ∈ tables_1, d.before a0 Z = true) : (Jvm.Cond.arrayClass Jvm.ClassFile.FieldType.byte).before a0 Z = true := hw _ (List.mem_of_getElem? (i := 24) rfl)
theorem w_25 {a0 : Array Value} {Z : State} (hw : ∀ d ∈ tables_1, d.before a0 Z = true) : (Jvm.Cond.laysFinal "java/lang/String" "java/lang/String" "value" "[B").before a0 Z = true := hw _ (List.mem_of_getElem? (i := 25) rfl)
theorem w_26 {a0 : Array Value} {Z : State} (hw : ∀ d ∈ tables_1, d.before a0 Z = true) : (Jvm.Cond.laysFinal "java/lang/String" "java/lang/String" "coder" "B").before a0 Z = true := hw _ (List.mem_of_getElem? (i := 26) rfl)
theorem w_27 {a0 : Array Value} {Z : State} (hw : ∀ d ∈ tables_1, d.before a0 Z = true) : (Jvm.Cond.soleField "java/lang/String" "value").before a0 Z = true := hw _ (List.mem_of_getElem? (i := 27) rfl)
theorem w_28 {a0 : Array Value} {Z : State} (hw : ∀ d ∈ tables_1, d.before a0 Z = true) : (Jvm.Cond.soleField "java/lang/String" "coder").before a0 Z = true := hw _ (List.mem_of_getElem? (i := 28) rfl)
theorem w_29 {a0 : Array Value} {Z : State} (hw : ∀ d ∈ tables_1, d.before a0 Z = true) : (Jvm.Cond.methodLink "com/example/graded_search/gradedsearch/engine/Bm25" (21 : Nat) ({ cls := "com/example/graded_search/gradedsearch/engine/Bm25", name := "finiteAtLeast0", desc := "(Ljava/lang/String;D)D" } : Jvm.MethodName)).before a0 Z = true := hw _ (List.mem_of_getElem? (i := 29) rfl)
theorem w_30 {a0 : Array Value} {Z : State} (hw : ∀ d ∈ tables_1, d.before a0 Z = true) : (Jvm.Cond.static ({ cls := "com/example/graded_search/gradedsearch/engine/Bm25", name := "finiteAtLeast0", desc := "(Ljava/lang/String;D)D" } : Jvm.MethodName)).before a0 Z = true := hw _ (List.mem_of_getElem? (i := 30) rfl)
theorem w_31 {a0 : Array Value} {Z : State} (hw : ∀ d ∈ tables_1, d.before a0 Z = true) : (Jvm.Cond.code ({ cls := "com/example/graded_search/gradedsearch/engine/Bm25", name := "finiteAtLeast0", desc := "(Ljava/lang/String;D)D" } : Jvm.MethodName) prog_17_method_4_code (3 : Nat) (Option.some Jvm.ClassFile.FieldType.double)).before a0 Z = true := hw _ (List.mem_of_getElem? (i := 31) rfl)
theorem w_32 {a0 : Array Value} {Z : State} (hw : ∀ d ∈ tables_1, d.before a0 Z = true) : (Jvm.Cond.constantDouble "com/example/graded_search/gradedsearch/engine/Bm25" (46 : Nat) (9218868437227405312 : UInt64)).before a0 Z = true := hw _ (List.mem_of_getElem? (i := 32) rfl)
theorem w_33 {a0 : Array Value} {Z : State} (hw : ∀ d ∈ tables_1, d.before a0 Z = true) : (Jvm.Cond.fieldLink "com/example/graded_search/gradedsearch/engine/Bm25" (25 : Nat) "com/example/graded_search/gradedsearch/engine/Bm25" "k1" "D").before a0 Z = true := hw _ (List.mem_of_getElem? (i := 33) rfl)
theorem w_34 {a0 : Array Value} {Z : State} (hw : ∀ d ∈ tables_1, d.before a0 Z = true) : (Jvm.Cond.laysFinal "com/example/graded_search/gradedsearch/engine/Bm25" "com/example/graded_search/gradedsearch/engine/Bm25" "k1" "D").before a0 Z = true := hw _ (List.mem_of_getElem? (i := 34) rfl)
theorem w_35 {a0 : Array Value} {Z : State} (hw : ∀ d ∈ tables_1, d.before a0 Z = true) : (Jvm.Cond.fieldLink "com/example/graded_search/gradedsearch/engine/Bm25" (37 : Nat) "com/example/graded_search/gradedsearch/engine/Bm25" "b" "D").before a0 Z = true := hw _ (List.mem_of_getElem? (i := 35) rfl)
theorem w_36 {a0 : Array Value} {Z : State} (hw : ∀ d ∈ tables_1, d.before a0 Z = true) : (Jvm.Cond.laysFinal "com/example/graded_search/gradedsearch/engine/Bm25" "com/example/graded_search/gradedsearch/engine/Bm25" "b" "D").before a0 Z = true := hw _ (List.mem_of_getElem? (i := 36) rfl)
theorem w_37 {a0 : Array Value} {Z : State} (hw : ∀ d ∈ tables_1, d.before a0 Z = true) : (Jvm.Cond.stringLink "com/example/graded_search/gradedsearch/engine/Bm25" (40 : Nat) "k3").before a0 Z = true := hw _ (List.mem_of_getElem? (i := 37) rfl)
theorem w_38 {a0 : Array Value} {Z : State} (hw : ∀ d ∈ tables_1, d.before a0 Z = true) : (Jvm.Cond.fieldLink "com/example/graded_search/gradedsearch/engine/Bm25" (42 : Nat) "com/example/graded_search/gradedsearch/engine/Bm25" "k3" "D").before a0 Z = true := hw _ (List.mem_of_getElem? (i := 38) rfl)
theorem w_39 {a0 : Array Value} {Z : State} (hw : ∀ d ∈ tables_1, d.before a0 Z = true) : (Jvm.Cond.laysFinal "com/example/graded_search/gradedsearch/engine/Bm25" "com/example/graded_search/gradedsearch/engine/Bm25" "k3" "D").before a0 Z = true := hw _ (List.mem_of_getElem? (i := 39) rfl)
theorem w_40 {a0 : Array Value} {Z : State} (hw : ∀ d ∈ tables_1, d.before a0 Z = true) : (Jvm.Cond.methodLink "com/example/graded_search/gradedsearch/engine/Bm25QueryFactorPinLaw" (22 : Nat) ({ cls := "com/example/graded_search/gradedsearch/engine/Bm25", name := "queryFactor", desc := "(I)D" } : Jvm.MethodName)).before a0 Z = true := hw _ (List.mem_of_getElem? (i := 40) rfl)
theorem w_41 {a0 : Array Value} {Z : State} (hw : ∀ d ∈ tables_1, d.before a0 Z = true) : (Jvm.Cond.declares ({ cls := "com/example/graded_search/gradedsearch/engine/Bm25", name := "queryFactor", desc := "(I)D" } : Jvm.MethodName)).before a0 Z = true := hw _ (List.mem_of_getElem? (i := 41) rfl)
theorem w_42 {a0 : Array Value} {Z : State} (hw : ∀ d ∈ tables_1, d.before a0 Z = true) : (Jvm.Cond.instanceMethod ({ cls := "com/example/graded_search/gradedsearch/engine/Bm25", name := "queryFactor", desc := "(I)D" } : Jvm.MethodName)).before a0 Z = true := hw _ (List.mem_of_getElem? (i := 42) rfl)
theorem w_43 {a0 : Array Value} {Z : State} (hw : ∀ d ∈ tables_1, d.before a0 Z = true) : (Jvm.Cond.selects "com/example/graded_search/gradedsearch/engine/Bm25" ({ cls := "com/example/graded_search/gradedsearch/engine/Bm25", name := "queryFactor", desc := "(I)D" } : Jvm.MethodName) ({ cls := "com/example/graded_search/gradedsearch/engine/Bm25", name := "queryFactor", desc := "(I)D" } : Jvm.MethodName)).before a0 Z = true := hw _ (List.mem_of_getElem? (i := 43) rfl)
theorem w_44 {a0 : Array Value} {Z : State} (hw : ∀ d ∈ tables_1, d.before a0 Z = true) : (Jvm.Cond.code ({ cls := "com/example/graded_search/gradedsearch/engine/Bm25", name := "queryFactor", desc := "(I)D" } : Jvm.MethodName) prog_17_method_10_code (2 : Nat) (Option.some Jvm.ClassFile.FieldType.double)).before a0 Z = true := hw _ (List.mem_of_getElem? (i := 44) rfl)
theorem d1_0 : decode jdk_29_method_65_code 0 = .ok (.iload_n 0, 1) := by decide +kernel
theorem d1_1 : decode jdk_29_method_65_code 1 = .ok (.iload_n 1, 1) := by decide +kernel
theorem d1_2 : decode jdk_29_method_65_code 2 = .ok (.if_icmp .lt 7, 3) := by decide +kernel
theorem d1_5 : decode jdk_29_method_65_code 5 = .ok (.iload_n 0, 1) := by decide +kernel
theorem d1_6 : decode jdk_29_method_65_code 6 = .ok (.goto 4, 3) := by decide +kernel
theorem d1_9 : decode jdk_29_method_65_code 9 = .ok (.iload_n 1, 1) := by decide +kernel
theorem d1_10 : decode jdk_29_method_65_code 10 = .ok (.ireturn, 1) := by decide +kernel
theorem d2_0 : decode prog_17_method_3_code 0 = .ok (.aload_n 0, 1) := by decide +kernel
theorem d2_1 : decode prog_17_method_3_code 1 = .ok (.invokespecial 14, 3) := by decide +kernel
theorem d2_4 : decode prog_17_method_3_code 4 = .ok (.aload_n 0, 1) := by decide +kernel
theorem d2_5 : decode prog_17_method_3_code 5 = .ok (.ldc 19, 2) := by decide +kernel
theorem d2_7 : decode prog_17_method_3_code 7 = .ok (.dload_n 1, 1) := by decide +kernel
theorem d2_8 : decode prog_17_method_3_code 8 = .ok (.invokestatic 21, 3) := by decide +kernel
theorem d2_11 : decode prog_17_method_3_code 11 = .ok (.putfield 25, 3) := by decide +kernel
theorem d2_14 : decode prog_17_method_3_code 14 = .ok (.dload_n 3, 1) := by decide +kernel
theorem d2_15 : decode prog_17_method_3_code 15 = .ok (.dconst 0, 1) := by decide +kernel
theorem d2_16 : decode prog_17_method_3_code 16 = .ok (.dcmp .l, 1) := by decide +kernel
theorem d2_17 : decode prog_17_method_3_code 17 = .ok (.ifCond .lt 9, 3) := by decide +kernel
theorem d2_20 : decode prog_17_method_3_code 20 = .ok (.dload_n 3, 1) := by decide +kernel
theorem d2_21 : decode prog_17_method_3_code 21 = .ok (.dconst 1, 1) := by decide +kernel
theorem d2_22 : decode prog_17_method_3_code 22 = .ok (.dcmp .g, 1) := by decide +kernel
theorem d2_23 : decode prog_17_method_3_code 23 = .ok (.ifCond .le 17, 3) := by decide +kernel
theorem d2_40 : decode prog_17_method_3_code 40 = .ok (.aload_n 0, 1) := by decide +kernel
theorem d2_41 : decode prog_17_method_3_code 41 = .ok (.dload_n 3, 1) := by decide +kernel
theorem d2_42 : decode prog_17_method_3_code 42 = .ok (.putfield 37, 3) := by decide +kernel
theorem d2_45 : decode prog_17_method_3_code 45 = .ok (.aload_n 0, 1) := by decide +kernel
theorem d2_46 : decode prog_17_method_3_code 46 = .ok (.ldc 40, 2) := by decide +kernel
theorem d2_48 : decode prog_17_method_3_code 48 = .ok (.dload 5, 2) := by decide +kernel
theorem d2_50 : decode prog_17_method_3_code 50 = .ok (.invokestatic 21, 3) := by decide +kernel
theorem d2_53 : decode prog_17_method_3_code 53 = .ok (.putfield 42, 3) := by decide +kernel
theorem d2_56 : decode prog_17_method_3_code 56 = .ok (.return_, 1) := by decide +kernel
theorem d3_0 : decode prog_49_method_1_code 0 = .ok (.aload_n 0, 1) := by decide +kernel
theorem d3_1 : decode prog_49_method_1_code 1 = .ok (.invokespecial 1, 3) := by decide +kernel
theorem d3_4 : decode prog_49_method_1_code 4 = .ok (.return_, 1) := by decide +kernel
theorem d5_0 : decode prog_17_method_4_code 0 = .ok (.dload_n 1, 1) := by decide +kernel
theorem d5_1 : decode prog_17_method_4_code 1 = .ok (.dconst 0, 1) := by decide +kernel
theorem d5_2 : decode prog_17_method_4_code 2 = .ok (.dcmp .l, 1) := by decide +kernel
theorem d5_3 : decode prog_17_method_4_code 3 = .ok (.ifCond .lt 11, 3) := by decide +kernel
theorem d5_6 : decode prog_17_method_4_code 6 = .ok (.dload_n 1, 1) := by decide +kernel
theorem d5_7 : decode prog_17_method_4_code 7 = .ok (.ldc2_w 46, 3) := by decide +kernel
theorem d5_10 : decode prog_17_method_4_code 10 = .ok (.dcmp .g, 1) := by decide +kernel
theorem d5_11 : decode prog_17_method_4_code 11 = .ok (.ifCond .lt 18, 3) := by decide +kernel
theorem d5_29 : decode prog_17_method_4_code 29 = .ok (.dload_n 1, 1) := by decide +kernel
theorem d5_30 : decode prog_17_method_4_code 30 = .ok (.dreturn, 1) := by decide +kernel
theorem d6_0 : decode prog_17_method_10_code 0 = .ok (.aload_n 0, 1) := by decide +kernel
theorem d6_1 : decode prog_17_method_10_code 1 = .ok (.getfield 42, 3) := by decide +kernel
theorem d6_4 : decode prog_17_method_10_code 4 = .ok (.dconst 1, 1) := by decide +kernel
theorem d6_5 : decode prog_17_method_10_code 5 = .ok (.dadd, 1) := by decide +kernel
theorem d6_6 : decode prog_17_method_10_code 6 = .ok (.iload_n 1, 1) := by decide +kernel
theorem d6_7 : decode prog_17_method_10_code 7 = .ok (.i2d, 1) := by decide +kernel
theorem d6_8 : decode prog_17_method_10_code 8 = .ok (.dmul, 1) := by decide +kernel
theorem d6_9 : decode prog_17_method_10_code 9 = .ok (.aload_n 0, 1) := by decide +kernel
theorem d6_10 : decode prog_17_method_10_code 10 = .ok (.getfield 42, 3) := by decide +kernel
theorem d6_13 : decode prog_17_method_10_code 13 = .ok (.iload_n 1, 1) := by decide +kernel
theorem d6_14 : decode prog_17_method_10_code 14 = .ok (.i2d, 1) := by decide +kernel
theorem d6_15 : decode prog_17_method_10_code 15 = .ok (.dadd, 1) := by decide +kernel
theorem d6_16 : decode prog_17_method_10_code 16 = .ok (.ddiv, 1) := by decide +kernel
theorem d6_17 : decode prog_17_method_10_code 17 = .ok (.dreturn, 1) := by decide +kernel
theorem pn_0 : plainName "com/example/graded_search/gradedsearch/engine/RankingModel" = true := by first | (simp [plainName, overriddenIn]; done) | decide +kernel
theorem pn_1 : plainName "com/example/graded_search/gradedsearch/engine/Bm25" = true := by first | (simp [plainName, overriddenIn]; done) | decide +kernel
theorem pn_2 : plainName "com/example/graded_search/gradedsearch/engine/Bm25QueryFactorPinLaw" = true := by first | (simp [plainName, overriddenIn]; done) | decide +kernel
theorem pd_0 : parseMethodDescriptor "()V" = some ⟨[], none⟩ := by decide +kernel
theorem pd_1 : parseMethodDescriptor "(Ljava/lang/String;D)D" = some ⟨[(.object "java/lang/String"), .double], some .double⟩ := by decide +kernel
theorem pd_2 : parseMethodDescriptor "(II)I" = some ⟨[.int, .int], some .int⟩ := by decide +kernel
theorem pd_3 : parseMethodDescriptor "(DDD)V" = some ⟨[.double, .double, .double], none⟩ := by decide +kernel
theorem pd_4 : parseMethodDescriptor "(I)D" = some ⟨[.int], some .double⟩ := by decide +kernel
theorem own_wS {a0 : Array Value} {Z : State} (hw : ∀ d ∈ tables_1, d.before a0 Z = true) : ∀ a ∈ Bundle.stringAtoms, a.before a0 Z = true := fun d hd => by
  simp only [Bundle.stringAtoms, List.mem_cons, List.not_mem_nil, or_false] at hd
  rcases hd with rfl | rfl | rfl | rfl | rfl | rfl | rfl
  · exact (w_22 hw)
  · exact (w_23 hw)
  · exact (w_24 hw)
  · exact (w_25 hw)
  · exact (w_26 hw)
  · exact (w_27 hw)
  · exact (w_28 hw)
section OwnFloats2
open Jvm.FP Jvm.Free.Fl Jvm.FP.Core
/-- the quotient of two whole numbers is their ratio, rounded once -/
theorem own_quot {n j : Int64} (hn : 0 ≤ n.toInt) (hn2 : B53 n) (hj : 0 < j.toInt) (hj2 : B53 j) :
    Core.val64 (FP.ddiv (FP.l2d n) (FP.l2d j)) = roundRatio b64 false n.toInt.toNat j.toInt.toNat 0 := by
  obtain ⟨c, q, hx⟩ := Core.l2d_shape n
  obtain ⟨d, r, hy⟩ := Core.l2d_shape j
  rw [show decide (n.toInt < 0) = false by simpa using hn] at hx
  rw [show decide (j.toInt < 0) = false by simpa using Int.le_of_lt hj] at hy
  have w1 := Core.l2d_whole (sm hn2)
  have w2 := Core.l2d_whole (sm hj2)
  rw [hx] at w1
  rw [hy] at w2
  have e1 : c * 2 ^ q.toNat = n.toInt.toNat * 2 ^ (-q).toNat := by
    have : (((c * 2 ^ q.toNat : Nat)) : Int) = n.toInt * ((2 ^ (-q).toNat : Nat) : Int) := w1
    have h2 : ((n.toInt.toNat : Nat) : Int) = n.toInt := Int.toNat_of_nonneg hn
    rw [← h2, ← Int.natCast_mul] at this
    exact Int.ofNat.inj this
  have e2 : d * 2 ^ r.toNat = j.toInt.toNat * 2 ^ (-r).toNat := by
    have : (((d * 2 ^ r.toNat : Nat)) : Int) = j.toInt * ((2 ^ (-r).toNat : Nat) : Int) := w2
    have h2 : ((j.toInt.toNat : Nat) : Int) = j.toInt := Int.toNat_of_nonneg (Int.le_of_lt hj)
    rw [← h2, ← Int.natCast_mul] at this
    exact Int.ofNat.inj this
  have hjn : 0 < j.toInt.toNat := by omega
  have hd : 0 < d := by
    rcases Nat.eq_zero_or_pos d with h | h
    · rw [h, Nat.zero_mul] at e2
      have := Nat.mul_pos hjn (Nat.two_pow_pos (-r).toNat)
      omega
    · exact h
  rw [val64_ddiv, hx, hy]
  show (if d = 0 then (if c = 0 then Datum.nan else .inf (false != false)) else roundRatio b64 (false != false) c d (q - r)) = _
  rw [if_neg (by omega)]
  refine roundRatio_congr hd hjn ?_
  refine Nat.eq_of_mul_eq_mul_right (Nat.two_pow_pos (q.toNat + (-r).toNat)) ?_
  generalize n.toInt.toNat = N at *
  generalize j.toInt.toNat = J at *
  calc c * J * 2 ^ (q - r - 0).toNat * 2 ^ (q.toNat + (-r).toNat) = (c * 2 ^ q.toNat) * (J * 2 ^ (-r).toNat) * 2 ^ (q - r - 0).toNat := by rw [Nat.pow_add]; ac_rfl
    _ = (N * 2 ^ (-q).toNat) * (d * 2 ^ r.toNat) * 2 ^ (q - r - 0).toNat := by rw [e1, e2]
    _ = N * d * 2 ^ ((-q).toNat + r.toNat + (q - r - 0).toNat) := by rw [Nat.pow_add, Nat.pow_add]; ac_rfl
    _ = N * d * 2 ^ ((0 - (q - r)).toNat + (q.toNat + (-r).toNat)) := by rw [show (-q).toNat + r.toNat + (q - r - 0).toNat = (0 - (q - r)).toNat + (q.toNat + (-r).toNat) by omega]
    _ = N * d * 2 ^ (0 - (q - r)).toNat * 2 ^ (q.toNat + (-r).toNat) := by rw [Nat.pow_add]; ac_rfl
theorem own_units (cV m : Nat) (hm : m ≤ 1074) : inUnits cV (-(m : Int)) b64.qmin = cV * 2 ^ (1074 - m) := by
  unfold inUnits
  rw [qmin_b64, show (-(m : Int) - -1074).toNat = 1074 - m by omega]
theorem own_rle {n j cV m : Nat} (hm : m ≤ 1074) (hj : 0 < j) (hV : Core.fits b64 (Datum.fin false cV (-(m : Int)))) (h : n * 2 ^ m ≤ cV * j) : zmag b64 (roundRatio b64 false n j 0) ≤ zmag b64 (Datum.fin false cV (-(m : Int))) := by
  refine zmag_roundRatio_le good_b64 (e0 := b64.qmin) hj hV Datum.noConfusion (Int.le_refl _) (by decide) ?_
  show inUnits n 0 b64.qmin ≤ inUnits cV (-(m : Int)) b64.qmin * 2 ^ (b64.qmin - b64.qmin).toNat * j
  have e1 := own_units n 0 (by decide)
  rw [show (-((0 : Nat) : Int)) = 0 by rfl] at e1
  rw [e1, own_units cV m hm, Int.sub_self]
  have e2 := Nat.mul_le_mul_right (2 ^ (1074 - m)) h
  calc n * 2 ^ (1074 - 0) = n * 2 ^ m * 2 ^ (1074 - m) := by rw [Nat.mul_assoc, ← Nat.pow_add, show m + (1074 - m) = 1074 - 0 by omega]
    _ ≤ cV * j * 2 ^ (1074 - m) := e2
    _ = cV * 2 ^ (1074 - m) * 2 ^ (0 : Int).toNat * j := by rw [show (2 : Nat) ^ (0 : Int).toNat = 1 by rfl]; rw [Nat.mul_one]; ac_rfl
theorem own_rge {n j cV m : Nat} (hm : m ≤ 1074) (hj : 0 < j) (hV : Core.fits b64 (Datum.fin false cV (-(m : Int)))) (h : cV * j ≤ n * 2 ^ m) : zmag b64 (Datum.fin false cV (-(m : Int))) ≤ zmag b64 (roundRatio b64 false n j 0) := by
  refine zmag_roundRatio_ge good_b64 (e0 := b64.qmin) hj hV (Int.le_refl _) (by decide) ?_
  show inUnits cV (-(m : Int)) b64.qmin * 2 ^ (b64.qmin - b64.qmin).toNat * j ≤ inUnits n 0 b64.qmin
  have e1 := own_units n 0 (by decide)
  rw [show (-((0 : Nat) : Int)) = 0 by rfl] at e1
  rw [e1, own_units cV m hm, Int.sub_self]
  have e2 := Nat.mul_le_mul_right (2 ^ (1074 - m)) h
  calc cV * 2 ^ (1074 - m) * 2 ^ (0 : Int).toNat * j = cV * j * 2 ^ (1074 - m) := by rw [show (2 : Nat) ^ (0 : Int).toNat = 1 by rfl]; rw [Nat.mul_one]; ac_rfl
    _ ≤ n * 2 ^ m * 2 ^ (1074 - m) := e2
    _ = n * 2 ^ (1074 - 0) := by rw [Nat.mul_assoc, ← Nat.pow_add, show m + (1074 - m) = 1074 - 0 by omega]
theorem own_zval {x : UInt64} {n j : Nat} (h : Core.val64 x = roundRatio b64 false n j 0) : zval b64 (Core.val64 x) = (zmag b64 (roundRatio b64 false n j 0) : Int) := by
  rw [h]
  show signed (sgn _) _ = _
  rw [sgn_roundRatio]
  rfl
theorem own_nn {x : UInt64} {n j : Nat} (h : Core.val64 x = roundRatio b64 false n j 0) : Core.val64 x ≠ .nan := by rw [h]; exact roundRatio_ne_nan _ _ _ _ _
theorem own_cmpG {x R : UInt64} (hx : Core.val64 x ≠ .nan) (hR : Core.val64 R ≠ .nan) : (0 : Int32) < cmpValue (FP.dcmp x R) .g ↔ zval b64 (Core.val64 R) < zval b64 (Core.val64 x) := by
  rw [show FP.dcmp x R = some (compare (zval b64 (Core.val64 x)) (zval b64 (Core.val64 R))) from dcmp_zval hx hR]
  generalize zval b64 (Core.val64 x) = a
  generalize zval b64 (Core.val64 R) = b
  rw [compare_ite]
  by_cases h1 : a < b
  · rw [if_pos h1]; exact ⟨fun q => absurd q (by decide), fun q => by omega⟩
  · rw [if_neg h1]
    by_cases h2 : a = b
    · rw [if_pos h2]; exact ⟨fun q => absurd q (by decide), fun q => by omega⟩
    · rw [if_neg h2]; exact ⟨fun _ => by omega, fun _ => by decide⟩
end OwnFloats2

section OwnFloats3
open Jvm.FP Jvm.Free.Fl Jvm.FP.Core
theorem own_fin {n j : Nat} (hj : 0 < j) (h : n ≤ 2 ^ 52 * j) : ∃ c q, roundRatio b64 false n j 0 = .fin false c q := by
  rcases roundRatio_cases b64 false n j 0 with h1 | h1
  · exact h1
  · have h2 := own_rle (n := n) (j := j) (cV := 2 ^ 52) (m := 0) (by decide) hj (by unfold Core.fits; decide +kernel) (by omega)
    rw [h1] at h2
    exact absurd h2 (by decide +kernel)
/-- rounding is monotone -/
theorem own_mono {n j n' j' : Nat} (hj : 0 < j) (hj' : 0 < j') (h1 : n ≤ 2 ^ 52 * j) (h2 : n' ≤ 2 ^ 52 * j') (h : n * j' ≤ n' * j) :
    zmag b64 (roundRatio b64 false n j 0) ≤ zmag b64 (roundRatio b64 false n' j' 0) := by
  obtain ⟨c, q, e1⟩ := own_fin hj h1
  obtain ⟨c', q', e2⟩ := own_fin hj' h2
  have f1 := roundRatio_fits good_b64 false n hj 0
  have f2 := roundRatio_fits good_b64 false n' hj' 0
  rw [e1] at f1
  rw [e2] at f2
  refine Decidable.byContradiction fun hlt => ?_
  have d1 := roundRatio_nearest good_b64 (e0 := b64.qmin) hj e1 f2.1 f2.2.1 (Int.le_refl _) (by decide)
  have d2 := roundRatio_nearest good_b64 (e0 := b64.qmin) hj' e2 f1.1 f1.2.1 (Int.le_refl _) (by decide)
  have hcon : n * j' = n' * j → False := fun hq => hlt (Nat.le_of_eq (by rw [roundRatio_congr (f := b64) (s := false) (A := n) (B := j) (A' := n') (B' := j') (e := 0) (e' := 0) hj hj' (by rw [hq])]))
  rw [e1, e2] at hlt
  simp only [zmag] at hlt
  unfold Core.distance at d1 d2
  generalize inUnits c q b64.qmin = F at *
  generalize inUnits c' q' b64.qmin = G at *
  have u1 : inUnits n 0 b64.qmin = n * 2 ^ 1074 := own_units n 0 (by decide)
  have u2 : inUnits n' 0 b64.qmin = n' * 2 ^ 1074 := own_units n' 0 (by decide)
  rw [u1] at d1
  rw [u2] at d2
  have hU : 0 < 2 ^ 1074 := Nat.two_pow_pos _
  generalize 2 ^ 1074 = U at *
  have hGF : G < F := by omega
  have m1 : G * j < F * j := Nat.mul_lt_mul_of_pos_right hGF hj
  have m2 : G * j' < F * j' := Nat.mul_lt_mul_of_pos_right hGF hj'
  have a1 : F * j + G * j ≤ 2 * (n * U) := by
    have t1 : ((F * j : Nat) : Int) = (F : Int) * j := Int.natCast_mul _ _
    have t2 : ((G * j : Nat) : Int) = (G : Int) * j := Int.natCast_mul _ _
    rw [← t1, ← t2] at d1
    omega
  have a2 : 2 * (n' * U) ≤ F * j' + G * j' := by
    have t1 : ((F * j' : Nat) : Int) = (F : Int) * j' := Int.natCast_mul _ _
    have t2 : ((G * j' : Nat) : Int) = (G : Int) * j' := Int.natCast_mul _ _
    rw [← t1, ← t2] at d2
    omega
  have b1 : (F + G) * (j * j') ≤ 2 * U * (n * j') := by
    calc (F + G) * (j * j') = (F * j + G * j) * j' := by rw [← Nat.add_mul]; ac_rfl
      _ ≤ 2 * (n * U) * j' := Nat.mul_le_mul_right _ a1
      _ = 2 * U * (n * j') := by ac_rfl
  have b2 : 2 * U * (n' * j) ≤ (F + G) * (j * j') := by
    calc 2 * U * (n' * j) = 2 * (n' * U) * j := by ac_rfl
      _ ≤ (F * j' + G * j') * j := Nat.mul_le_mul_right _ a2
      _ = (F + G) * (j * j') := by rw [← Nat.add_mul]; ac_rfl
  have b3 : n' * j ≤ n * j' := Nat.le_of_mul_le_mul_left (Nat.le_trans b2 b1) (by omega)
  exact hcon (by omega)
theorem own_nn64 {x : UInt64} (h : Core.val64 x ≠ .nan) : NoNaN64 x := (Jvm.Free.Fl.dcmp_some (show FP.dcmp x x = some _ from dcmp_zval h h)).1
/-- what is a ratio of whole numbers, rounded once -/
def OwnR (x : UInt64) (n j : Nat) : Prop := Core.val64 x = roundRatio b64 false n j 0 ∧ 0 < j ∧ n ≤ 2 ^ 52 * j
theorem OwnR.nn {x : UInt64} {n j : Nat} (h : OwnR x n j) : NoNaN64 x := own_nn64 (own_nn h.1)
theorem OwnR.le {x y : UInt64} {n j n' j' : Nat} (h : OwnR x n j) (h' : OwnR y n' j') (hl : n * j' ≤ n' * j) : ¬ (0 : Int32) < cmpValue (FP.dcmp x y) .g := by
  rw [own_cmpG (own_nn h.1) (own_nn h'.1), own_zval h.1, own_zval h'.1]
  have := own_mono h.2.1 h'.2.1 h.2.2 h'.2.2 hl
  omega
theorem OwnR.eq {x y : UInt64} {n j n' j' : Nat} (h : OwnR x n j) (h' : OwnR y n' j') (hl : n * j' = n' * j) : x = y :=
  val64_inj (own_nn h.1) (by rw [h.1, h'.1]; exact roundRatio_congr h.2.1 h'.2.1 (by rw [hl]))
theorem OwnR.of {a : Int64} (h0 : 0 ≤ a.toInt) (h1 : a.toInt ≤ 2 ^ 52) : OwnR (FP.l2d a) a.toInt.toNat 1 := by
  refine ⟨?_, by decide, by omega⟩
  rw [show Core.val64 (FP.l2d a) = _ from val64_l2d a]
  show roundRatio b64 (decide (a.toInt < 0)) a.toInt.natAbs 1 0 = _
  rw [show decide (a.toInt < 0) = false by simpa using h0, show a.toInt.natAbs = a.toInt.toNat by omega]
theorem OwnR.ofI {a : Int32} (h0 : 0 ≤ a.toInt) : OwnR (FP.i2d a) a.toInt.toNat 1 := by
  have h := OwnR.of (a := a.toInt64) (by rw [c_i2l]; exact h0) (by rw [c_i2l]; have := Int32.toInt_lt a; omega)
  rw [c_i2l] at h
  rw [i2d_w]
  exact h
theorem own_one : (4607182418800017408 : UInt64) = FP.l2d 1 := by decide +kernel
theorem OwnR.one : OwnR (4607182418800017408 : UInt64) 1 1 := by rw [own_one]; exact OwnR.of (a := 1) (by decide) (by decide)
def own_f (kd : UInt64) (q : Int32) : UInt64 := FP.ddiv (FP.dmul (FP.dadd kd (4607182418800017408 : UInt64)) (FP.i2d q)) (FP.dadd kd (FP.i2d q))
/-- the field's value: a whole number -/
def OwnK (kd : UInt64) (K : Int64) : Prop := kd = FP.l2d K ∧ 0 ≤ K.toInt ∧ K.toInt < 2 ^ 40
theorem OwnK.eq {kd : UInt64} {K : Int64} (h : OwnK kd K) : kd = FP.l2d K := h.1
theorem OwnK.lo {kd : UInt64} {K : Int64} (h : OwnK kd K) : 0 ≤ K.toInt := h.2.1
theorem OwnK.hi {kd : UInt64} {K : Int64} (h : OwnK kd K) : K.toInt < 2 ^ 40 := h.2.2
theorem OwnK.add1 {kd : UInt64} {K : Int64} (h : OwnK kd K) : FP.dadd kd (4607182418800017408 : UInt64) = FP.l2d (K + 1) ∧ (K + 1).toInt = K.toInt + 1 := by
  have h1 := h.lo
  have h2 := h.hi
  have b1 : B53 K := ⟨by omega, by omega⟩
  have b2 : B53 1 := ⟨by decide, by decide⟩
  exact ⟨by rw [h.eq, own_one, dadd_w b1 b2], add64 b1 b2⟩
theorem OwnK.addq {kd : UInt64} {K : Int64} {q : Int32} (h : OwnK kd K) (hq : 1 ≤ q.toInt) : FP.dadd kd (FP.i2d q) = FP.l2d (K + q.toInt64) ∧ (K + q.toInt64).toInt = K.toInt + q.toInt := by
  have h1 := h.lo
  have h2 := h.hi
  have h3 := Int32.toInt_lt q
  have b1 : B53 K := ⟨by omega, by omega⟩
  have b2 : B53 q.toInt64 := by unfold B53; rw [c_i2l]; omega
  refine ⟨by rw [h.eq, i2d_w, dadd_w b1 b2], ?_⟩
  rw [add64 b1 b2, c_i2l]
theorem OwnK.mul {kd : UInt64} {K : Int64} {q : Int32} (h : OwnK kd K) (hq : 1 ≤ q.toInt) (hm : (K.toInt + 1) * q.toInt ≤ 2 ^ 52) :
    FP.dmul (FP.dadd kd (4607182418800017408 : UInt64)) (FP.i2d q) = FP.l2d ((K + 1) * q.toInt64) ∧ ((K + 1) * q.toInt64).toInt = (K.toInt + 1) * q.toInt := by
  obtain ⟨e1, e2⟩ := h.add1
  have h1 := h.lo
  have h2 := h.hi
  have h3 := Int32.toInt_lt q
  have hp : 0 ≤ (K.toInt + 1) * q.toInt := Int.mul_nonneg (by omega) (by omega)
  have b1 : B53 (K + 1) := by unfold B53; omega
  have b2 : B53 q.toInt64 := by unfold B53; rw [c_i2l]; omega
  refine ⟨?_, ?_⟩
  · rw [e1, i2d_w, dmul_w b1 b2 (fun z => by rw [z] at e2; exact absurd e2 (by rw [show (0 : Int64).toInt = 0 by decide]; omega)) (fun z => by have := c_i2l q; rw [z] at this; exact absurd this (by rw [show (0 : Int64).toInt = 0 by decide]; omega)) (by rw [e2, c_i2l]; omega) (by rw [e2, c_i2l]; omega)]
  · rw [Int64.toInt_mul, e2, c_i2l, Int.bmod_eq_of_le (by omega) (by omega)]
theorem OwnK.f {kd : UInt64} {K : Int64} {q : Int32} (h : OwnK kd K) (hq : 1 ≤ q.toInt) (hm : (K.toInt + 1) * q.toInt ≤ 2 ^ 52) : OwnR (own_f kd q) ((K.toInt + 1) * q.toInt).toNat (K.toInt + q.toInt).toNat := by
  obtain ⟨e1, e2⟩ := h.mul hq hm
  obtain ⟨e3, e4⟩ := h.addq (q := q) hq
  have h1 := h.lo
  have h2 := h.hi
  have h3 := Int32.toInt_lt q
  have hp : 0 ≤ (K.toInt + 1) * q.toInt := Int.mul_nonneg (by omega) (by omega)
  refine ⟨?_, by omega, ?_⟩
  · unfold own_f
    rw [e1, e3, own_quot (by omega) (by unfold B53; omega) (by omega) (by unfold B53; omega), e2, e4]
  · have : ((K.toInt + 1) * q.toInt).toNat ≤ 2 ^ 52 := by omega
    exact Nat.le_trans this (Nat.le_mul_of_pos_right _ (by omega))
/-- the guards of queryFactor -/
def OwnN (kd : UInt64) (q : Int32) : Prop := NoNaN64 (FP.dadd kd (4607182418800017408 : UInt64)) ∧ NoNaN64 (FP.dmul (FP.dadd kd (4607182418800017408 : UInt64)) (FP.i2d q)) ∧ NoNaN64 (FP.dadd kd (FP.i2d q)) ∧ NoNaN64 (own_f kd q)
theorem OwnK.n {kd : UInt64} {K : Int64} {q : Int32} (h : OwnK kd K) (hq : 1 ≤ q.toInt) (hm : (K.toInt + 1) * q.toInt ≤ 2 ^ 52) : OwnN kd q :=
  ⟨nn_w h.add1.1, nn_w (h.mul hq hm).1, nn_w (h.addq hq).1, (h.f hq hm).nn⟩
/-- the guards of finiteAtLeast0 -/
def OwnG (d : UInt64) : Prop := ¬ (cmpValue (FP.dcmp d (0 : UInt64)) .l < (0 : Int32)) ∧ cmpValue (FP.dcmp d (9218868437227405312 : UInt64)) .g < (0 : Int32)
theorem OwnG.of {x : UInt64} {n j : Nat} (h : OwnR x n j) : OwnG x := by
  obtain ⟨c, q, hf⟩ := own_fin h.2.1 h.2.2
  have hv : Core.val64 x = .fin false c q := h.1.trans hf
  constructor
  · rw [show FP.dcmp x 0 = some (compare (zval b64 (Core.val64 x)) (zval b64 (Core.val64 0))) from dcmp_zval (own_nn h.1) (by decide +kernel), show zval b64 (Core.val64 0) = 0 by decide +kernel, hv]
    have h0 : 0 ≤ zval b64 (.fin false c q) := by show (0 : Int) ≤ signed false _; simp [signed]
    rw [compare_ite, if_neg (by omega)]
    split <;> decide
  · rw [show FP.dcmp x 9218868437227405312 = some (compare (zval b64 (Core.val64 x)) (zval b64 (Core.val64 9218868437227405312))) from dcmp_zval (own_nn h.1) (by decide +kernel), own_zval h.1]
    have h2 : zmag b64 (roundRatio b64 false n j 0) ≤ zmag b64 (Datum.fin false (2 ^ 52) (-((0 : Nat) : Int))) := own_rle (by decide) h.2.1 (by unfold Core.fits; decide +kernel) (by have := h.2.2; omega)
    have h3 : ((zmag b64 (Datum.fin false (2 ^ 52) (-((0 : Nat) : Int)))) : Int) < zval b64 (Core.val64 9218868437227405312) := by decide +kernel
    rw [compare_ite, if_pos (by omega)]
    decide
end OwnFloats3

section OwnFl
open Jvm.FP Jvm.Free.Fl Jvm.FP.Core
def own_max (x y : Int32) : Int32 := if x < y then y else x
theorem own_max1 (y : Int32) : 1 ≤ (own_max 1 y).toInt := by
  unfold own_max
  split
  · rename_i h
    have := Int32.lt_iff_toInt_lt.mp h
    rw [show (1 : Int32).toInt = 1 by decide] at this
    omega
  · decide
theorem own_and (y : Int32) {k : Int32} (hk : 0 ≤ k.toInt) : 0 ≤ (y &&& k).toInt ∧ (y &&& k).toInt ≤ k.toInt := c_and y k hk
theorem own_kI {k : Int32} (h : 0 ≤ k.toInt ∧ k.toInt ≤ 1048575) : OwnK (FP.i2d k) k.toInt64 := ⟨i2d_w k, by rw [c_i2l]; omega, by rw [c_i2l]; omega⟩
theorem own_m1 {k q : Int32} (h : 0 ≤ k.toInt ∧ k.toInt ≤ 1048575) (hq : 1 ≤ q.toInt) : (k.toInt64.toInt + 1) * q.toInt ≤ 2 ^ 52 := by
  rw [c_i2l]
  have h2 := Int32.toInt_lt q
  have h3 : (k.toInt + 1) * q.toInt ≤ 1048576 * q.toInt := Int.mul_le_mul_of_nonneg_right (by omega) (by omega)
  omega
theorem own_fI {k q : Int32} (h : 0 ≤ k.toInt ∧ k.toInt ≤ 1048575) (hq : 1 ≤ q.toInt) : OwnR (own_f (FP.i2d k) q) ((k.toInt + 1) * q.toInt).toNat (k.toInt + q.toInt).toNat := by
  have := (own_kI h).f hq (own_m1 h hq)
  rwa [c_i2l] at this
theorem own_nI {k q : Int32} (h : 0 ≤ k.toInt ∧ k.toInt ≤ 1048575) (hq : 1 ≤ q.toInt) : OwnN (FP.i2d k) q := (own_kI h).n hq (own_m1 h hq)
theorem own_c1 {k : Int32} (h : 0 ≤ k.toInt ∧ k.toInt ≤ 1048575) : cmpValue (FP.dcmp (own_f (FP.i2d k) (1 : Int32)) (4607182418800017408 : UInt64)) .l = (0 : Int32) := by
  have e := (own_fI h (q := 1) (by decide)).eq OwnR.one (by rw [show (1 : Int32).toInt = 1 by decide]; omega)
  rw [e]
  decide +kernel
theorem own_nat {a b c d : Int} (ha : 0 ≤ a) (hb : 0 ≤ b) (hc : 0 ≤ c) (hd : 0 ≤ d) (h : a * b ≤ c * d) : a.toNat * b.toNat ≤ c.toNat * d.toNat := by
  obtain ⟨x, rfl⟩ := Int.eq_ofNat_of_zero_le ha
  obtain ⟨y, rfl⟩ := Int.eq_ofNat_of_zero_le hb
  obtain ⟨z, rfl⟩ := Int.eq_ofNat_of_zero_le hc
  obtain ⟨t, rfl⟩ := Int.eq_ofNat_of_zero_le hd
  simp only [Int.toNat_natCast]
  exact_mod_cast h
theorem own_c2 {k q : Int32} (h : 0 ≤ k.toInt ∧ k.toInt ≤ 1048575) (hq : 1 ≤ q.toInt) : ¬ (0 : Int32) < cmpValue (FP.dcmp (4607182418800017408 : UInt64) (own_f (FP.i2d k) q)) .g := by
  refine OwnR.one.le (own_fI h hq) ?_
  have e : (k.toInt + 1) * q.toInt = k.toInt * q.toInt + q.toInt := by rw [Int.add_mul, Int.one_mul]
  have e2 : k.toInt * 1 ≤ k.toInt * q.toInt := Int.mul_le_mul_of_nonneg_left hq h.1
  omega
theorem own_c3 {k q : Int32} (h : 0 ≤ k.toInt ∧ k.toInt ≤ 1048575) (hq : 1 ≤ q.toInt) : ¬ (0 : Int32) < cmpValue (FP.dcmp (own_f (FP.i2d k) q) (FP.i2d q)) .g := by
  refine (own_fI h hq).le (OwnR.ofI (by omega)) ?_
  have e1 : 0 ≤ (k.toInt + 1) * q.toInt := Int.mul_nonneg (by omega) (by omega)
  have e2 : (k.toInt + 1) * q.toInt ≤ (k.toInt + q.toInt) * q.toInt := Int.mul_le_mul_of_nonneg_right (by omega) (by omega)
  exact own_nat (b := 1) e1 (by decide) (by omega) (by omega) (by rw [Int.mul_one, Int.mul_comm q.toInt]; exact e2)
theorem own_a1 {k : Int32} (h : 0 ≤ k.toInt ∧ k.toInt ≤ 1048575) : OwnR (FP.dadd (FP.i2d k) (4607182418800017408 : UInt64)) (k.toInt + 1).toNat 1 := by
  obtain ⟨e1, e2⟩ := (own_kI h).add1
  rw [c_i2l] at e2
  rw [e1, ← e2]
  exact OwnR.of (by omega) (by omega)
theorem own_c4 {k q : Int32} (h : 0 ≤ k.toInt ∧ k.toInt ≤ 1048575) (hq : 1 ≤ q.toInt) : ¬ (0 : Int32) < cmpValue (FP.dcmp (own_f (FP.i2d k) q) (FP.dadd (FP.i2d k) (4607182418800017408 : UInt64))) .g := by
  refine (own_fI h hq).le (own_a1 h) ?_
  have e1 : 0 ≤ (k.toInt + 1) * q.toInt := Int.mul_nonneg (by omega) (by omega)
  exact own_nat (b := 1) e1 (by decide) (by omega) (by omega) (by rw [Int.mul_one]; exact Int.mul_le_mul_of_nonneg_left (by omega) (by omega))
theorem own_c5 {k q q2 : Int32} (h : 0 ≤ k.toInt ∧ k.toInt ≤ 1048575) (hq : 1 ≤ q.toInt) (hq2 : q.toInt ≤ q2.toInt) : ¬ (0 : Int32) < cmpValue (FP.dcmp (own_f (FP.i2d k) q) (own_f (FP.i2d k) q2)) .g := by
  refine (own_fI h hq).le (own_fI h (by omega)) ?_
  have e1 : 0 ≤ (k.toInt + 1) * q.toInt := Int.mul_nonneg (by omega) (by omega)
  have e2 : 0 ≤ (k.toInt + 1) * q2.toInt := Int.mul_nonneg (by omega) (by omega)
  refine own_nat e1 (by omega) e2 (by omega) ?_
  rw [Int.mul_assoc, Int.mul_assoc]
  refine Int.mul_le_mul_of_nonneg_left ?_ (by omega)
  rw [Int.mul_add, Int.mul_add, Int.mul_comm q.toInt q2.toInt]
  have := Int.mul_le_mul_of_nonneg_right hq2 h.1
  omega
theorem own_q2 {q : Int32} (h : q < (2147483647 : Int32)) : q.toInt ≤ (q + (1 : Int32)).toInt := by
  have h1 := Int32.lt_iff_toInt_lt.mp h
  rw [show (2147483647 : Int32).toInt = 2147483647 by decide] at h1
  have h2 := Int32.le_toInt q
  rw [Int32.toInt_add, show (1 : Int32).toInt = 1 by decide, Int.bmod_eq_of_le (by omega) (by omega)]
  omega
theorem own_s (y : Int32) : 1 ≤ ((1 : Int32) + (y &&& 1023)).toInt ∧ ((1 : Int32) + (y &&& 1023)).toInt ≤ 1024 := by
  have := c_and y 1023 (by decide)
  rw [show (1023 : Int32).toInt = 1023 by decide] at this
  rw [Int32.toInt_add, show (1 : Int32).toInt = 1 by decide, Int.bmod_eq_of_le (by omega) (by omega)]
  omega
def OwnST (si ti : Int32) : Prop := (1 ≤ si.toInt ∧ si.toInt ≤ 1024) ∧ 0 ≤ ti.toInt ∧ ti.toInt ≤ 1023
theorem own_prod {a b A B : Int} (h1 : 0 ≤ a) (h2 : a ≤ A) (h3 : 0 ≤ b) (h4 : b ≤ B) : 0 ≤ a * b ∧ a * b ≤ A * B :=
  ⟨Int.mul_nonneg h1 h3, Int.le_trans (Int.mul_le_mul_of_nonneg_right h2 h3) (Int.mul_le_mul_of_nonneg_left h4 (by omega))⟩
theorem own_q3 {si ti : Int32} (h : OwnST si ti) : ((si * ti) + (1 : Int32)).toInt = si.toInt * ti.toInt + 1 := by
  have p1 := own_prod (a := si.toInt) (b := ti.toInt) (A := 1024) (B := 1023) (by have := h.1; omega) h.1.2 h.2.1 h.2.2
  rw [Int32.toInt_add, Int32.toInt_mul, show (1 : Int32).toInt = 1 by decide, Int.bmod_eq_of_le (n := si.toInt * ti.toInt) (by omega) (by omega), Int.bmod_eq_of_le (by omega) (by omega)]
theorem own_s1 {si ti : Int32} (h : OwnST si ti) : ((si - (1 : Int32)).toInt64).toInt = si.toInt - 1 := by
  have := h.1
  rw [c_i2l, Int32.toInt_sub, show (1 : Int32).toInt = 1 by decide, Int.bmod_eq_of_le (by omega) (by omega)]
theorem own_q3r {si ti q3 : Int32} (h : OwnST si ti) (hq : q3.toInt = si.toInt * ti.toInt + 1) : 1 ≤ q3.toInt ∧ q3.toInt ≤ 1047553 := by
  have p1 := own_prod (a := si.toInt) (b := ti.toInt) (A := 1024) (B := 1023) (by have := h.1; omega) h.1.2 h.2.1 h.2.2
  omega
theorem own_kb {si ti q3 : Int32} (h : OwnST si ti) (hq : q3.toInt = si.toInt * ti.toInt + 1) : ((q3.toInt64) * ((si - (1 : Int32)).toInt64)).toInt = q3.toInt * (si.toInt - 1) := by
  have r := own_q3r h hq
  have p1 := own_prod (a := q3.toInt) (b := si.toInt - 1) (A := 1047553) (B := 1023) (by omega) r.2 (by have := h.1; omega) (by have := h.1; omega)
  rw [Int64.toInt_mul, own_s1 h, c_i2l, Int.bmod_eq_of_le (by omega) (by omega)]
theorem own_eb {si ti : Int32} (h : OwnST si ti) : (((ti.toInt64) * ((si - (1 : Int32)).toInt64)) + (1 : Int64)).toInt = ti.toInt * (si.toInt - 1) + 1 := by
  have p1 := own_prod (a := ti.toInt) (b := si.toInt - 1) (A := 1023) (B := 1023) h.2.1 h.2.2 (by have := h.1; omega) (by have := h.1; omega)
  rw [Int64.toInt_add, Int64.toInt_mul, own_s1 h, c_i2l, show (1 : Int64).toInt = 1 by decide, Int.bmod_eq_of_le (n := ti.toInt * (si.toInt - 1)) (by omega) (by omega), Int.bmod_eq_of_le (by omega) (by omega)]
theorem own_kbK {si ti q3 : Int32} {kb : Int64} (h : OwnST si ti) (hq : q3.toInt = si.toInt * ti.toInt + 1) (hk : kb.toInt = q3.toInt * (si.toInt - 1)) : OwnK (FP.l2d kb) kb ∧ kb.toInt ≤ 1071646719 := by
  have r := own_q3r h hq
  have p1 := own_prod (a := q3.toInt) (b := si.toInt - 1) (A := 1047553) (B := 1023) (by omega) r.2 (by have := h.1; omega) (by have := h.1; omega)
  exact ⟨⟨rfl, by omega, by omega⟩, by omega⟩
theorem own_kbm {si ti q3 : Int32} {kb : Int64} (h : OwnST si ti) (hq : q3.toInt = si.toInt * ti.toInt + 1) (hk : kb.toInt = q3.toInt * (si.toInt - 1)) : (kb.toInt + 1) * q3.toInt ≤ 2 ^ 52 := by
  have r := own_q3r h hq
  obtain ⟨k1, k2⟩ := own_kbK h hq hk
  have k3 := k1.lo
  have p1 := own_prod (a := kb.toInt + 1) (b := q3.toInt) (A := 1071646720) (B := 1047553) (by omega) (by omega) (by omega) r.2
  omega
theorem own_c6 {si ti q3 : Int32} {kb eb : Int64} (h : OwnST si ti) (hq : q3.toInt = si.toInt * ti.toInt + 1) (hk : kb.toInt = q3.toInt * (si.toInt - 1)) (he : eb.toInt = ti.toInt * (si.toInt - 1) + 1) : cmpValue (FP.dcmp (own_f (FP.l2d kb) q3) (FP.l2d eb)) .l = (0 : Int32) := by
  have r := own_q3r h hq
  obtain ⟨k1, k2⟩ := own_kbK h hq hk
  have k3 := k1.lo
  have p1 := own_prod (a := ti.toInt) (b := si.toInt - 1) (A := 1023) (B := 1023) h.2.1 h.2.2 (by have := h.1; omega) (by have := h.1; omega)
  have f := k1.f r.1 (own_kbm h hq hk)
  have e := f.eq (OwnR.of (a := eb) (by omega) (by omega)) (by
    have m0 : 0 ≤ (kb.toInt + 1) * q3.toInt := Int.mul_nonneg (by omega) (by omega)
    have key : (kb.toInt + 1) * q3.toInt = eb.toInt * (kb.toInt + q3.toInt) := by
      rw [he, hk]
      have : q3.toInt * (si.toInt - 1) + 1 = (ti.toInt * (si.toInt - 1) + 1) * si.toInt := by
        rw [hq]
        have z1 : (si.toInt * ti.toInt + 1) * (si.toInt - 1) = si.toInt * ti.toInt * (si.toInt - 1) + (si.toInt - 1) := by rw [Int.add_mul, Int.one_mul]
        have z2 : (ti.toInt * (si.toInt - 1) + 1) * si.toInt = si.toInt * ti.toInt * (si.toInt - 1) + si.toInt := by rw [Int.add_mul, Int.one_mul]; congr 1; ac_rfl
        rw [z1, z2]
        omega
      rw [this]
      have z3 : q3.toInt * (si.toInt - 1) + q3.toInt = si.toInt * q3.toInt := by rw [Int.mul_sub, Int.mul_one, Int.mul_comm q3.toInt si.toInt]; omega
      rw [z3]
      ac_rfl
    rw [Nat.mul_one]
    have n1 : (((kb.toInt + 1) * q3.toInt).toNat : Int) = ((eb.toInt.toNat * (kb.toInt + q3.toInt).toNat : Nat) : Int) := by
      rw [Int.toNat_of_nonneg m0, Int.natCast_mul, Int.toNat_of_nonneg (by omega), Int.toNat_of_nonneg (by omega)]
      exact key
    exact Int.ofNat.inj n1)
  rw [e]
  exact dcmpV_self (Jvm.Free.Fl.l2d_fin eb).noNaN .l
end OwnFl
theorem ef_MX (m : MethodId) (x0 : Int32) (x1 : Int32) : entryFrame m #[(.int x0), (.int x1)] 2 = mkF m 0 #[.val (.int x0), .val (.int x1)] [] := by first | (simp [entryFrame, mkF, argsToLocals, Value.category]; done) | rfl
def QMX (Z : State) (x1 : Int32) (y1 : Int32) (h0 : Heap) (n0 : Nat) (v : Option Value) (h : Heap) (L : List Loc) : Prop := v = some (.int (own_max x1 y1)) ∧ Fr n0 L ∧ h = h0
set_option maxRecDepth 65536 in
set_option maxHeartbeats 40000000 in
theorem rmMX (l : Launch) (Z : State) (a0 : Array Value) (hw : ∀ d ∈ tables_1, d.before a0 Z = true) (ws : List Jvm.Cond) (x1 : Int32) (y1 : Int32) (h0 : Heap) (n0 : Nat) (O0 : Old Z n0 h0) :
    MetFree l (⟨"java/lang/Math", "max", "(II)I"⟩ : MethodName) (head1 (Jvm.Cond.code (⟨"java/lang/Math", "max", "(II)I"⟩ : MethodName) jdk_29_method_65_code 2 (some .int) :: ws) ({ frames := 0, cells := 0, slots := 0, locals := 0 } : Room)) (fun aa_ UU_ => aa_ = #[(.int x1), (.int y1)] ∧ Z.Warmed39 UU_.vm ∧ UU_.heap = h0) (fun _ _ _ _ _ => True) (fun _ UU_ oo_ UV_ => ∃ vv_ LL_, oo_ = .returned vv_ ∧ QMX Z x1 y1 h0 n0 vv_ UV_.heap LL_ ∧ FrameEnd UU_ oo_ UV_ LL_ ({ frames := 0, cells := 0, slots := 0, locals := 0 } : Room).cells ({ frames := 0, cells := 0, slots := 0, locals := 0 } : Room).slots) := by
  refine MetFree.of_bodySF (Jvm.Free.JP.mathPlain rfl (by decide +kernel)) hisR ?_
  intro p e s m args below meth c s₁ Bd hml0 hP hK
  obtain ⟨rfl, hZ, hh⟩ := hP
  have hx := Bd.exec
  have hby := Bd.bytes
  have hlk := BodyLoose.notSynchronized Bd
  have hml : c.maxLocals = 2 := hml0
  have hown : s.vm.findClass "java/lang/Math" = some m.cls := findClass_of_methodNamed Bd.named
  have hnm := (name_of_methodNamed Bd.named Bd.method).1
  have X0 : Stand p l e ({ frames := 0, cells := 0, slots := 0, locals := 0 } : Room) s m #[(.int x1), (.int y1)] below meth c s₁ [] 0 0 := Stand.of_body Bd
  have e0 : s₁.heap = h0 := by rw [← hh, Bd.state]; rfl
  have N0 := Fr.nil n0
  suffices hOW : OW p e below s (QMX Z x1 y1 h0 n0) 0 0 (s₁.setTop (mkF m 0 #[.val (.int x1), .val (.int y1)] [])) by
    obtain ⟨oq1_, oq2_, oq3_, oq4_⟩ := hOW
    exact ⟨oq1_, oq2_, castTop (ef_MX m x1 y1) oq3_, oq4_⟩
  refine OW.st (B := s₁.setTop (mkF m 1 #[.val (.int x1), .val (.int y1)] [(.int x1)])) (fun _ kk_ => XS.iloadN X0.here hx rfl (hb hby d1_0) rfl kk_) ?_
  refine OW.st (B := s₁.setTop (mkF m 2 #[.val (.int x1), .val (.int y1)] [(.int y1), (.int x1)])) (fun _ kk_ => XS.iloadN X0.here hx rfl (hb hby d1_1) rfl kk_) ?_
  by_cases hc1 : x1 < y1
  · refine OW.st (B := s₁.setTop (mkF m 9 #[.val (.int x1), .val (.int y1)] [])) (fun _ kk_ => XS.icmpYes X0.here hx rfl (pc0 := 2) (pc' := 9) rfl (hb hby d1_2) rfl (tlt hc1).1 (by decide) (by decide) kk_) ?_
    refine OW.st (B := s₁.setTop (mkF m 10 #[.val (.int x1), .val (.int y1)] [(.int y1)])) (fun _ kk_ => XS.iloadN X0.here hx rfl (hb hby d1_9) rfl kk_) ?_
    exact OW.ret X0 hx hlk (i := .ireturn) Bd.returns rfl (Or.inl ⟨rfl, Or.inl rfl, _, rfl⟩) (hb hby d1_10) e0 (by decide) (by decide) ⟨by simp [own_max, hc1], N0, rfl⟩
  · refine OW.st (B := s₁.setTop (mkF m 5 #[.val (.int x1), .val (.int y1)] [])) (fun _ kk_ => XS.icmpNo X0.here hx rfl (hb hby d1_2) rfl (flt hc1).1 kk_) ?_
    refine OW.st (B := s₁.setTop (mkF m 6 #[.val (.int x1), .val (.int y1)] [(.int x1)])) (fun _ kk_ => XS.iloadN X0.here hx rfl (hb hby d1_5) rfl kk_) ?_
    refine OW.st (B := s₁.setTop (mkF m 10 #[.val (.int x1), .val (.int y1)] [(.int x1)])) (fun _ kk_ => XS.goto X0.here hx rfl (pc0 := 6) (pc' := 10) rfl (hb hby d1_6) (by decide) (by decide) kk_) ?_
    exact OW.ret X0 hx hlk (i := .ireturn) Bd.returns rfl (Or.inl ⟨rfl, Or.inl rfl, _, rfl⟩) (hb hby d1_10) e0 (by decide) (by decide) ⟨by simp [own_max, hc1], N0, rfl⟩
theorem ef_RI (m : MethodId) (x0 : Addr) : entryFrame m #[(.ref x0)] 1 = mkF m 0 #[.val (.ref x0)] [] := by first | (simp [entryFrame, mkF, argsToLocals, Value.category]; done) | rfl
def QRI (Z : State) (a : Addr) (h0 : Heap) (n0 : Nat) (v : Option Value) (h : Heap) (L : List Loc) : Prop := v = none ∧ Fr n0 L ∧ h = h0
set_option maxRecDepth 65536 in
set_option maxHeartbeats 40000000 in
theorem rmRI (l : Launch) (Z : State) (a0 : Array Value) (hw : ∀ d ∈ tables_1, d.before a0 Z = true) (ws : List Jvm.Cond) (a : Addr) (h0 : Heap) (n0 : Nat) (O0 : Old Z n0 h0) :
    MetFree l (⟨"com/example/graded_search/gradedsearch/engine/RankingModel", "<init>", "()V"⟩ : MethodName) (head1 (Jvm.Cond.code (⟨"com/example/graded_search/gradedsearch/engine/RankingModel", "<init>", "()V"⟩ : MethodName) prog_49_method_1_code 1 none :: ws) ({ frames := 1, cells := 0, slots := 0, locals := 12 } : Room)) (fun aa_ UU_ => aa_ = #[(.ref a)] ∧ Z.Warmed39 UU_.vm ∧ UU_.heap = h0) (fun _ _ _ _ _ => True) (fun _ UU_ oo_ UV_ => ∃ vv_ LL_, oo_ = .returned vv_ ∧ QRI Z a h0 n0 vv_ UV_.heap LL_ ∧ FrameEnd UU_ oo_ UV_ LL_ ({ frames := 1, cells := 0, slots := 0, locals := 12 } : Room).cells ({ frames := 1, cells := 0, slots := 0, locals := 12 } : Room).slots) := by
  refine MetFree.of_bodySF (plainFor_of_name pn_0) hisR ?_
  intro p e s m args below meth c s₁ Bd hml0 hP hK
  obtain ⟨rfl, hZ, hh⟩ := hP
  have hx := Bd.exec
  have hby := Bd.bytes
  have hlk := BodyLoose.notSynchronized Bd
  have hml : c.maxLocals = 1 := hml0
  have hown : s.vm.findClass "com/example/graded_search/gradedsearch/engine/RankingModel" = some m.cls := findClass_of_methodNamed Bd.named
  have hnm := (name_of_methodNamed Bd.named Bd.method).1
  have X0 : Stand p l e ({ frames := 1, cells := 0, slots := 0, locals := 12 } : Room) s m #[(.ref a)] below meth c s₁ [] 0 0 := Stand.of_body Bd
  have e0 : s₁.heap = h0 := by rw [← hh, Bd.state]; rfl
  have N0 := Fr.nil n0
  suffices hOW : OW p e below s (QRI Z a h0 n0) 0 0 (s₁.setTop (mkF m 0 #[.val (.ref a)] [])) by
    obtain ⟨oq1_, oq2_, oq3_, oq4_⟩ := hOW
    exact ⟨oq1_, oq2_, castTop (ef_RI m a) oq3_, oq4_⟩
  refine OW.st (B := s₁.setTop (mkF m 1 #[.val (.ref a)] [(.ref a)])) (fun _ kk_ => XS.aloadN X0.here hx rfl (hb hby d3_0) rfl rfl kk_) ?_
  obtain ⟨T2, X2, e2, st2⟩ := initO X0 hx hZ hown (w_18 hw) (w_19 hw) (w_20 hw) e0 (g := (mkF m 1 #[.val (.ref a)] [(.ref a)])) rfl (by rw [hml]; rfl) rfl (hb hby d3_1) (by decide) (W := 0) (by show 2 * 0 + _ ≤ _; exact Nat.le_of_eq rfl) (by decide)
  refine OW.st (B := T2.setTop (mkF m 4 #[.val (.ref a)] [])) (st2) ?_
  exact OW.retV X2 hx hlk Bd.returns (hb hby d3_4) e2 (by decide) (by decide) ⟨rfl, N0, rfl⟩
theorem ef_FA (m : MethodId) (x0 : Addr) (x1 : UInt64) : entryFrame m #[(.ref x0), (.double x1)] 3 = mkF m 0 #[.val (.ref x0), .val (.double x1), .second] [] := by first | (simp [entryFrame, mkF, argsToLocals, Value.category]; done) | rfl
def QFA (Z : State) (a : Addr) (d1 : UInt64) (h0 : Heap) (n0 : Nat) (v : Option Value) (h : Heap) (L : List Loc) : Prop := v = some (.double d1) ∧ Fr n0 L ∧ h = h0
set_option maxRecDepth 65536 in
set_option maxHeartbeats 40000000 in
theorem rmFA (l : Launch) (Z : State) (a0 : Array Value) (hw : ∀ d ∈ tables_1, d.before a0 Z = true) (ws : List Jvm.Cond) (a : Addr) (d1 : UInt64) (h0 : Heap) (n0 : Nat) (O0 : Old Z n0 h0) (hg : OwnG d1) :
    MetFree l (⟨"com/example/graded_search/gradedsearch/engine/Bm25", "finiteAtLeast0", "(Ljava/lang/String;D)D"⟩ : MethodName) (head1 (Jvm.Cond.code (⟨"com/example/graded_search/gradedsearch/engine/Bm25", "finiteAtLeast0", "(Ljava/lang/String;D)D"⟩ : MethodName) prog_17_method_4_code 3 (some .double) :: ws) ({ frames := 0, cells := 0, slots := 0, locals := 0 } : Room)) (fun aa_ UU_ => aa_ = #[(.ref a), (.double d1)] ∧ Z.Warmed39 UU_.vm ∧ UU_.heap = h0) (fun _ _ _ _ _ => True) (fun _ UU_ oo_ UV_ => ∃ vv_ LL_, oo_ = .returned vv_ ∧ QFA Z a d1 h0 n0 vv_ UV_.heap LL_ ∧ FrameEnd UU_ oo_ UV_ LL_ ({ frames := 0, cells := 0, slots := 0, locals := 0 } : Room).cells ({ frames := 0, cells := 0, slots := 0, locals := 0 } : Room).slots) := by
  refine MetFree.of_bodySF (plainFor_of_name pn_1) hisR ?_
  intro p e s m args below meth c s₁ Bd hml0 hP hK
  obtain ⟨rfl, hZ, hh⟩ := hP
  have hx := Bd.exec
  have hby := Bd.bytes
  have hlk := BodyLoose.notSynchronized Bd
  have hml : c.maxLocals = 3 := hml0
  have hown : s.vm.findClass "com/example/graded_search/gradedsearch/engine/Bm25" = some m.cls := findClass_of_methodNamed Bd.named
  have hnm := (name_of_methodNamed Bd.named Bd.method).1
  have X0 : Stand p l e ({ frames := 0, cells := 0, slots := 0, locals := 0 } : Room) s m #[(.ref a), (.double d1)] below meth c s₁ [] 0 0 := Stand.of_body Bd
  have e0 : s₁.heap = h0 := by rw [← hh, Bd.state]; rfl
  have N0 := Fr.nil n0
  suffices hOW : OW p e below s (QFA Z a d1 h0 n0) 0 0 (s₁.setTop (mkF m 0 #[.val (.ref a), .val (.double d1), .second] [])) by
    obtain ⟨oq1_, oq2_, oq3_, oq4_⟩ := hOW
    exact ⟨oq1_, oq2_, castTop (ef_FA m a d1) oq3_, oq4_⟩
  refine OW.st (B := s₁.setTop (mkF m 1 #[.val (.ref a), .val (.double d1), .second] [(.double d1)])) (fun _ kk_ => XS.dloadN X0.here hx rfl (hb hby d5_0) rfl kk_) ?_
  refine OW.st (B := s₁.setTop (mkF m 2 #[.val (.ref a), .val (.double d1), .second] [(.double (0 : UInt64)), (.double d1)])) (fun _ kk_ => XS.dconst0 X0.here hx rfl (hb hby d5_1) rfl kk_) ?_
  refine OW.st (B := s₁.setTop (mkF m 3 #[.val (.ref a), .val (.double d1), .second] [(.int (cmpValue (FP.dcmp d1 (0 : UInt64)) .l))])) (fun _ kk_ => XS.dcmpS X0.here hx rfl (hb hby d5_2) rfl rfl kk_) ?_
  refine OW.st (B := s₁.setTop (mkF m 6 #[.val (.ref a), .val (.double d1), .second] [])) (fun _ kk_ => XS.ifNo X0.here hx rfl (hb hby d5_3) rfl ((if0 _ _).trans (flt hg.1).1) kk_) ?_
  refine OW.st (B := s₁.setTop (mkF m 7 #[.val (.ref a), .val (.double d1), .second] [(.double d1)])) (fun _ kk_ => XS.dloadN X0.here hx rfl (hb hby d5_6) rfl kk_) ?_
  refine OW.st (B := s₁.setTop (mkF m 10 #[.val (.ref a), .val (.double d1), .second] [(.double (9218868437227405312 : UInt64)), (.double d1)])) (X0.ldc2DoubleC hx hown (mvT hZ (w_32 hw)) (g := (mkF m 7 #[.val (.ref a), .val (.double d1), .second] [(.double d1)])) rfl (hb hby d5_7)) ?_
  refine OW.st (B := s₁.setTop (mkF m 11 #[.val (.ref a), .val (.double d1), .second] [(.int (cmpValue (FP.dcmp d1 (9218868437227405312 : UInt64)) .g))])) (fun _ kk_ => XS.dcmpS X0.here hx rfl (hb hby d5_10) rfl rfl kk_) ?_
  refine OW.st (B := s₁.setTop (mkF m 29 #[.val (.ref a), .val (.double d1), .second] [])) (fun _ kk_ => XS.ifYes X0.here hx rfl (pc0 := 11) (pc' := 29) rfl (hb hby d5_11) rfl ((if0 _ _).trans (tlt hg.2).1) (by decide) (by decide) kk_) ?_
  refine OW.st (B := s₁.setTop (mkF m 30 #[.val (.ref a), .val (.double d1), .second] [(.double d1)])) (fun _ kk_ => XS.dloadN X0.here hx rfl (hb hby d5_29) rfl kk_) ?_
  exact OW.ret X0 hx hlk (i := .dreturn) Bd.returns rfl (Or.inr (Or.inr (Or.inl ⟨rfl, rfl, _, rfl⟩))) (hb hby d5_30) e0 (by decide) (by decide) ⟨rfl, N0, rfl⟩
theorem ef_BI (m : MethodId) (x0 : Addr) (x1 : UInt64) (x2 : UInt64) (x3 : UInt64) : entryFrame m #[(.ref x0), (.double x1), (.double x2), (.double x3)] 7 = mkF m 0 #[.val (.ref x0), .val (.double x1), .second, .val (.double x2), .second, .val (.double x3), .second] [] := by first | (simp [entryFrame, mkF, argsToLocals, Value.category]; done) | rfl
def QBI (Z : State) (b : Addr) (kd : UInt64) (h0 : Heap) (n0 : Nat) (v : Option Value) (h : Heap) (L : List Loc) : Prop := v = none ∧ Fr n0 L ∧ Keep h0 h [b] ∧ Exa Z h b "com/example/graded_search/gradedsearch/engine/Bm25" ∧ Fld Z h b "com/example/graded_search/gradedsearch/engine/Bm25" "k3" "D" (.double kd)
set_option maxRecDepth 65536 in
set_option maxHeartbeats 40000000 in
theorem rmBI (l : Launch) (Z : State) (a0 : Array Value) (hw : ∀ d ∈ tables_1, d.before a0 Z = true) (ws : List Jvm.Cond) (b : Addr) (kd : UInt64) (h0 : Heap) (n0 : Nat) (O0 : Old Z n0 h0) (E : Exa Z h0 b "com/example/graded_search/gradedsearch/engine/Bm25") (F1 : Fld Z h0 b "com/example/graded_search/gradedsearch/engine/Bm25" "k1" "D" (.double (0 : UInt64))) (F2 : Fld Z h0 b "com/example/graded_search/gradedsearch/engine/Bm25" "b" "D" (.double (0 : UInt64))) (F3 : Fld Z h0 b "com/example/graded_search/gradedsearch/engine/Bm25" "k3" "D" (.double (0 : UInt64))) (g : n0 ≤ b) (hg : OwnG kd) :
    MetFree l (⟨"com/example/graded_search/gradedsearch/engine/Bm25", "<init>", "(DDD)V"⟩ : MethodName) (head1 (Jvm.Cond.code (⟨"com/example/graded_search/gradedsearch/engine/Bm25", "<init>", "(DDD)V"⟩ : MethodName) prog_17_method_3_code 7 none :: ws) ({ frames := 2, cells := 4, slots := 24, locals := 24 } : Room)) (fun aa_ UU_ => aa_ = #[(.ref b), (.double (4607182418800017408 : UInt64)), (.double (4602678819172646912 : UInt64)), (.double kd)] ∧ Z.Warmed39 UU_.vm ∧ UU_.heap = h0) (fun _ _ _ _ _ => True) (fun _ UU_ oo_ UV_ => ∃ vv_ LL_, oo_ = .returned vv_ ∧ QBI Z b kd h0 n0 vv_ UV_.heap LL_ ∧ ReturnedEndW UU_ oo_ UV_ LL_ ({ frames := 2, cells := 4, slots := 24, locals := 24 } : Room).cells ({ frames := 2, cells := 4, slots := 24, locals := 24 } : Room).slots) := by
  refine MetFree.of_bodySF (plainFor_of_name pn_1) hisR ?_
  intro p e s m args below meth c s₁ Bd hml0 hP hK
  obtain ⟨rfl, hZ, hh⟩ := hP
  have hx := Bd.exec
  have hby := Bd.bytes
  have hlk := BodyLoose.notSynchronized Bd
  have hml : c.maxLocals = 7 := hml0
  have hown : s.vm.findClass "com/example/graded_search/gradedsearch/engine/Bm25" = some m.cls := findClass_of_methodNamed Bd.named
  have hnm := (name_of_methodNamed Bd.named Bd.method).1
  have X0 : Stand p l e ({ frames := 2, cells := 4, slots := 24, locals := 24 } : Room) s m #[(.ref b), (.double (4607182418800017408 : UInt64)), (.double (4602678819172646912 : UInt64)), (.double kd)] below meth c s₁ [] 0 0 := Stand.of_body Bd
  have e0 : s₁.heap = h0 := by rw [← hh, Bd.state]; rfl
  have N0 := Fr.nil n0
  have hS0 : s.Since s.vm 0 := (State.WarmedH.refl s).since 0
  have hk0 : 0 ≤ h0.size := Nat.zero_le _
  have KC0 : Keep h0 h0 [b] := Keep.refl _ _
  suffices hOW : OWW p e below s (QBI Z b kd h0 n0) 4 24 (s₁.setTop (mkF m 0 #[.val (.ref b), .val (.double (4607182418800017408 : UInt64)), .second, .val (.double (4602678819172646912 : UInt64)), .second, .val (.double kd), .second] [])) by
    obtain ⟨oq1_, oq2_, oq3_, oq4_⟩ := hOW
    exact ⟨oq1_, oq2_, castTop (ef_BI m b (4607182418800017408 : UInt64) (4602678819172646912 : UInt64) kd) oq3_, oq4_⟩
  refine OWW.st (B := s₁.setTop (mkF m 1 #[.val (.ref b), .val (.double (4607182418800017408 : UInt64)), .second, .val (.double (4602678819172646912 : UInt64)), .second, .val (.double kd), .second] [(.ref b)])) (fun _ kk_ => XS.aloadN X0.here hx rfl (hb hby d2_0) rfl rfl kk_) ?_
  obtain ⟨_, _, ⟨T3, L3, k3, n3⟩, -, X3, ⟨Lc3, hQ3, l3, y3, z3⟩, st3⟩ := X0.specialBack hx (y := (⟨"com/example/graded_search/gradedsearch/engine/RankingModel", "<init>", "()V"⟩ : MethodName)) rfl hown (mvT hZ (w_13 hw)) (mvT hZ (w_14 hw)) (mvT hZ (w_17 hw)) (by decide) (backOf (W := 0) (rmRI l Z a0 hw [] b h0 n0 O0 ) hZ (w_17 hw) (w_16 hw) (by decide) (by decide)) (g := (mkF m 1 #[.val (.ref b), .val (.double (4607182418800017408 : UInt64)), .second, .val (.double (4602678819172646912 : UInt64)), .second, .val (.double kd), .second] [(.ref b)])) rfl (by rw [hml]; rfl) (Steps.refl _) (a := b) (argsL := []) (rest := []) (lenOf pd_0 rfl) rfl (by show 2 * 0 + _ ≤ _; exact Nat.le_of_eq rfl) (hb hby d2_1) (fun _ _ => ⟨rfl, e0, (by decide : 0 + 0 ≤ _), (by decide : 0 + 0 ≤ _)⟩)
  dsimp only [Pt.U, Pt.locs, Pt.cells, Pt.slots] at X3 l3 y3 z3 st3 hQ3
  subst l3 y3 z3
  obtain ⟨rfl, Nq3, e3⟩ := hQ3
  have N3 := Fr.app N0 Nq3
  refine OWW.tr (B := T3.setTop (mkF m 4 #[.val (.ref b), .val (.double (4607182418800017408 : UInt64)), .second, .val (.double (4602678819172646912 : UInt64)), .second, .val (.double kd), .second] [])) (st3) ?_
  refine OWW.st (B := T3.setTop (mkF m 5 #[.val (.ref b), .val (.double (4607182418800017408 : UInt64)), .second, .val (.double (4602678819172646912 : UInt64)), .second, .val (.double kd), .second] [(.ref b)])) (fun _ kk_ => XS.aloadN X3.here hx rfl (hb hby d2_4) rfl rfl kk_) ?_
  obtain ⟨a4, T4, h4, k4, X4, e4, E4, hS4, hk4, hZ4, hown4, st4⟩ := ldcS (s := s) (vm0 := s.vm) X3 hx hZ hown (w_21 hw) (own_wS hw) e3 hS0 hk0 (g := (mkF m 5 #[.val (.ref b), .val (.double (4607182418800017408 : UInt64)), .second, .val (.double (4602678819172646912 : UInt64)), .second, .val (.double kd), .second] [(.ref b)])) rfl (hb hby d2_5) (n := 8) (by decide) (by decide) (by decide) (by decide)
  have O4 : Old Z n0 h4 := O0.ext E4
  have KC4 : Keep h0 h4 [b] := KC0.ext E4
  refine OWW.st (B := T4.setTop (mkF m 7 #[.val (.ref b), .val (.double (4607182418800017408 : UInt64)), .second, .val (.double (4602678819172646912 : UInt64)), .second, .val (.double kd), .second] [(.ref a4), (.ref b)])) (st4) ?_
  refine OWW.st (B := T4.setTop (mkF m 8 #[.val (.ref b), .val (.double (4607182418800017408 : UInt64)), .second, .val (.double (4602678819172646912 : UInt64)), .second, .val (.double kd), .second] [(.double (4607182418800017408 : UInt64)), (.ref a4), (.ref b)])) (fun _ kk_ => XS.dloadN X4.here hx rfl (hb hby d2_7) rfl kk_) ?_
  obtain ⟨_, _, ⟨T5, L5, k5, n5⟩, -, X5, ⟨Lc5, hQ5, l5, y5, z5⟩, st5⟩ := Jvm.LawKit.callS X4 hx (y := (⟨"com/example/graded_search/gradedsearch/engine/Bm25", "finiteAtLeast0", "(Ljava/lang/String;D)D"⟩ : MethodName)) hown4 (mvT hZ4 (w_29 hw)) (mvT hZ4 (w_30 hw)) (mvT hZ4 (w_8 hw)) (mvT hZ4 (w_31 hw)) (by decide) (backOf (W := 1) (rmFA l Z a0 hw [] a4 (4607182418800017408 : UInt64) h4 n0 O4 (OwnG.of OwnR.one)) hZ4 (w_31 hw) (w_8 hw) (by decide) (by decide)) (g := (mkF m 8 #[.val (.ref b), .val (.double (4607182418800017408 : UInt64)), .second, .val (.double (4602678819172646912 : UInt64)), .second, .val (.double kd), .second] [(.double (4607182418800017408 : UInt64)), (.ref a4), (.ref b)])) rfl (by rw [hml]; rfl) (argsL := [(.ref a4), (.double (4607182418800017408 : UInt64))]) (rest := [(.ref b)]) (lenOf pd_1 rfl) rfl (by show 2 * 0 + _ ≤ _; exact Nat.le_of_eq rfl) (hb hby d2_8) (fun _ _ => ⟨rfl, e4, (by decide : 2 + 0 ≤ _), (by decide : 12 + 0 ≤ _)⟩)
  dsimp only [Pt.U, Pt.locs, Pt.cells, Pt.slots] at X5 l5 y5 z5 st5 hQ5
  subst l5 y5 z5
  obtain ⟨rfl, Nq5, e5⟩ := hQ5
  have N5 := Fr.app N3 Nq5
  refine OWW.st (B := T5.setTop (mkF m 11 #[.val (.ref b), .val (.double (4607182418800017408 : UInt64)), .second, .val (.double (4602678819172646912 : UInt64)), .second, .val (.double kd), .second] [(.double (4607182418800017408 : UInt64)), (.ref b)])) (st5) ?_
  obtain ⟨T6, h6, X6, e6, W6, st6⟩ := putF X5 hx hZ4 hown4 (host := "") (Or.inl (w_33 hw)) Via.refl e5 (F1.ext E4) (E.ext E4) (Or.inr ⟨(w_34 hw), rfl, hnm⟩) (w_7 hw) (ty := .double) (by decide) rfl rfl (g := (mkF m 11 #[.val (.ref b), .val (.double (4607182418800017408 : UInt64)), .second, .val (.double (4602678819172646912 : UInt64)), .second, .val (.double kd), .second] [(.double (4607182418800017408 : UInt64)), (.ref b)])) rfl rfl (hb hby d2_11)
  have N6 := Fr.snoc X6 N5 g
  have O6 : Old Z n0 h6 := O4.wr W6 g
  have KC6 : Keep h0 h6 [b] := KC4.wr W6 (Or.inl (List.mem_of_getElem? (i := 0) rfl))
  have F6 : Fld Z h6 b "com/example/graded_search/gradedsearch/engine/Bm25" "k1" "D" (.double (4607182418800017408 : UInt64)) := Fld.same W6 (F1.ext E4)
  refine OWW.st (B := T6.setTop (mkF m 14 #[.val (.ref b), .val (.double (4607182418800017408 : UInt64)), .second, .val (.double (4602678819172646912 : UInt64)), .second, .val (.double kd), .second] [])) (st6) ?_
  refine OWW.st (B := T6.setTop (mkF m 15 #[.val (.ref b), .val (.double (4607182418800017408 : UInt64)), .second, .val (.double (4602678819172646912 : UInt64)), .second, .val (.double kd), .second] [(.double (4602678819172646912 : UInt64))])) (fun _ kk_ => XS.dloadN X6.here hx rfl (hb hby d2_14) rfl kk_) ?_
  refine OWW.st (B := T6.setTop (mkF m 16 #[.val (.ref b), .val (.double (4607182418800017408 : UInt64)), .second, .val (.double (4602678819172646912 : UInt64)), .second, .val (.double kd), .second] [(.double (0 : UInt64)), (.double (4602678819172646912 : UInt64))])) (fun _ kk_ => XS.dconst0 X6.here hx rfl (hb hby d2_15) rfl kk_) ?_
  refine OWW.st (B := T6.setTop (mkF m 17 #[.val (.ref b), .val (.double (4607182418800017408 : UInt64)), .second, .val (.double (4602678819172646912 : UInt64)), .second, .val (.double kd), .second] [(.int (cmpValue (FP.dcmp (4602678819172646912 : UInt64) (0 : UInt64)) .l))])) (fun _ kk_ => XS.dcmpS X6.here hx rfl (hb hby d2_16) rfl rfl kk_) ?_
  refine OWW.st (B := T6.setTop (mkF m 20 #[.val (.ref b), .val (.double (4607182418800017408 : UInt64)), .second, .val (.double (4602678819172646912 : UInt64)), .second, .val (.double kd), .second] [])) (fun _ kk_ => XS.ifNo X6.here hx rfl (hb hby d2_17) rfl ((if0 _ _).trans (flt (by decide +kernel)).1) kk_) ?_
  refine OWW.st (B := T6.setTop (mkF m 21 #[.val (.ref b), .val (.double (4607182418800017408 : UInt64)), .second, .val (.double (4602678819172646912 : UInt64)), .second, .val (.double kd), .second] [(.double (4602678819172646912 : UInt64))])) (fun _ kk_ => XS.dloadN X6.here hx rfl (hb hby d2_20) rfl kk_) ?_
  refine OWW.st (B := T6.setTop (mkF m 22 #[.val (.ref b), .val (.double (4607182418800017408 : UInt64)), .second, .val (.double (4602678819172646912 : UInt64)), .second, .val (.double kd), .second] [(.double (4607182418800017408 : UInt64)), (.double (4602678819172646912 : UInt64))])) (fun _ kk_ => XS.dconst1 X6.here hx rfl (hb hby d2_21) rfl kk_) ?_
  refine OWW.st (B := T6.setTop (mkF m 23 #[.val (.ref b), .val (.double (4607182418800017408 : UInt64)), .second, .val (.double (4602678819172646912 : UInt64)), .second, .val (.double kd), .second] [(.int (cmpValue (FP.dcmp (4602678819172646912 : UInt64) (4607182418800017408 : UInt64)) .g))])) (fun _ kk_ => XS.dcmpS X6.here hx rfl (hb hby d2_22) rfl rfl kk_) ?_
  refine OWW.st (B := T6.setTop (mkF m 40 #[.val (.ref b), .val (.double (4607182418800017408 : UInt64)), .second, .val (.double (4602678819172646912 : UInt64)), .second, .val (.double kd), .second] [])) (fun _ kk_ => XS.ifYes X6.here hx rfl (pc0 := 23) (pc' := 40) rfl (hb hby d2_23) rfl ((if0 _ _).trans (flt (by decide +kernel)).2.2.2) (by decide) (by decide) kk_) ?_
  refine OWW.st (B := T6.setTop (mkF m 41 #[.val (.ref b), .val (.double (4607182418800017408 : UInt64)), .second, .val (.double (4602678819172646912 : UInt64)), .second, .val (.double kd), .second] [(.ref b)])) (fun _ kk_ => XS.aloadN X6.here hx rfl (hb hby d2_40) rfl rfl kk_) ?_
  refine OWW.st (B := T6.setTop (mkF m 42 #[.val (.ref b), .val (.double (4607182418800017408 : UInt64)), .second, .val (.double (4602678819172646912 : UInt64)), .second, .val (.double kd), .second] [(.double (4602678819172646912 : UInt64)), (.ref b)])) (fun _ kk_ => XS.dloadN X6.here hx rfl (hb hby d2_41) rfl kk_) ?_
  obtain ⟨T7, h7, X7, e7, W7, st7⟩ := putF X6 hx hZ4 hown4 (host := "") (Or.inl (w_35 hw)) Via.refl e6 ((F2.ext E4).other W6 (Or.inr (slot_ne (Or.inr (w_36 hw)) (Or.inr (w_34 hw)) (by decide) (t := .double) (t' := .double) (by decide) (by decide)))) ((E.ext E4).wr W6) (Or.inr ⟨(w_36 hw), rfl, hnm⟩) (w_7 hw) (ty := .double) (by decide) rfl rfl (g := (mkF m 42 #[.val (.ref b), .val (.double (4607182418800017408 : UInt64)), .second, .val (.double (4602678819172646912 : UInt64)), .second, .val (.double kd), .second] [(.double (4602678819172646912 : UInt64)), (.ref b)])) rfl rfl (hb hby d2_42)
  have N7 := Fr.snoc X7 N6 g
  have O7 : Old Z n0 h7 := O6.wr W7 g
  have KC7 : Keep h0 h7 [b] := KC6.wr W7 (Or.inl (List.mem_of_getElem? (i := 0) rfl))
  have F7 : Fld Z h7 b "com/example/graded_search/gradedsearch/engine/Bm25" "b" "D" (.double (4602678819172646912 : UInt64)) := Fld.same W7 ((F2.ext E4).other W6 (Or.inr (slot_ne (Or.inr (w_36 hw)) (Or.inr (w_34 hw)) (by decide) (t := .double) (t' := .double) (by decide) (by decide))))
  refine OWW.st (B := T7.setTop (mkF m 45 #[.val (.ref b), .val (.double (4607182418800017408 : UInt64)), .second, .val (.double (4602678819172646912 : UInt64)), .second, .val (.double kd), .second] [])) (st7) ?_
  refine OWW.st (B := T7.setTop (mkF m 46 #[.val (.ref b), .val (.double (4607182418800017408 : UInt64)), .second, .val (.double (4602678819172646912 : UInt64)), .second, .val (.double kd), .second] [(.ref b)])) (fun _ kk_ => XS.aloadN X7.here hx rfl (hb hby d2_45) rfl rfl kk_) ?_
  obtain ⟨a8, T8, h8, k8, X8, e8, E8, hS8, hk8, hZ8, hown8, st8⟩ := ldcS (s := s) (vm0 := T4.vm) X7 hx hZ4 hown4 (w_37 hw) (own_wS hw) e7 hS4 (Nat.le_trans (Nat.le_trans hk4 (Keep.of_wr W6).1) (Keep.of_wr W7).1) (g := (mkF m 46 #[.val (.ref b), .val (.double (4607182418800017408 : UInt64)), .second, .val (.double (4602678819172646912 : UInt64)), .second, .val (.double kd), .second] [(.ref b)])) rfl (hb hby d2_46) (n := 8) (by decide) (by decide) (by decide) (by decide)
  have O8 : Old Z n0 h8 := O7.ext E8
  have KC8 : Keep h0 h8 [b] := KC7.ext E8
  refine OWW.st (B := T8.setTop (mkF m 48 #[.val (.ref b), .val (.double (4607182418800017408 : UInt64)), .second, .val (.double (4602678819172646912 : UInt64)), .second, .val (.double kd), .second] [(.ref a8), (.ref b)])) (st8) ?_
  refine OWW.st (B := T8.setTop (mkF m 50 #[.val (.ref b), .val (.double (4607182418800017408 : UInt64)), .second, .val (.double (4602678819172646912 : UInt64)), .second, .val (.double kd), .second] [(.double kd), (.ref a8), (.ref b)])) (fun _ kk_ => XS.dload X8.here hx rfl (hb hby d2_48) rfl kk_) ?_
  obtain ⟨_, _, ⟨T9, L9, k9, n9⟩, -, X9, ⟨Lc9, hQ9, l9, y9, z9⟩, st9⟩ := Jvm.LawKit.callS X8 hx (y := (⟨"com/example/graded_search/gradedsearch/engine/Bm25", "finiteAtLeast0", "(Ljava/lang/String;D)D"⟩ : MethodName)) hown8 (mvT hZ8 (w_29 hw)) (mvT hZ8 (w_30 hw)) (mvT hZ8 (w_8 hw)) (mvT hZ8 (w_31 hw)) (by decide) (backOf (W := 1) (rmFA l Z a0 hw [] a8 kd h8 n0 O8 hg) hZ8 (w_31 hw) (w_8 hw) (by decide) (by decide)) (g := (mkF m 50 #[.val (.ref b), .val (.double (4607182418800017408 : UInt64)), .second, .val (.double (4602678819172646912 : UInt64)), .second, .val (.double kd), .second] [(.double kd), (.ref a8), (.ref b)])) rfl (by rw [hml]; rfl) (argsL := [(.ref a8), (.double kd)]) (rest := [(.ref b)]) (lenOf pd_1 rfl) rfl (by show 2 * 0 + _ ≤ _; exact Nat.le_of_eq rfl) (hb hby d2_50) (fun _ _ => ⟨rfl, e8, (by decide : 4 + 0 ≤ _), (by decide : 24 + 0 ≤ _)⟩)
  dsimp only [Pt.U, Pt.locs, Pt.cells, Pt.slots] at X9 l9 y9 z9 st9 hQ9
  subst l9 y9 z9
  obtain ⟨rfl, Nq9, e9⟩ := hQ9
  have N9 := Fr.app N7 Nq9
  refine OWW.st (B := T9.setTop (mkF m 53 #[.val (.ref b), .val (.double (4607182418800017408 : UInt64)), .second, .val (.double (4602678819172646912 : UInt64)), .second, .val (.double kd), .second] [(.double kd), (.ref b)])) (st9) ?_
  obtain ⟨T10, h10, X10, e10, W10, st10⟩ := putF X9 hx hZ8 hown8 (host := "") (Or.inl (w_38 hw)) Via.refl e9 ((((F3.ext E4).other W6 (Or.inr (slot_ne (Or.inr (w_39 hw)) (Or.inr (w_34 hw)) (by decide) (t := .double) (t' := .double) (by decide) (by decide)))).other W7 (Or.inr (slot_ne (Or.inr (w_39 hw)) (Or.inr (w_36 hw)) (by decide) (t := .double) (t' := .double) (by decide) (by decide)))).ext E8) ((((E.ext E4).wr W6).wr W7).ext E8) (Or.inr ⟨(w_39 hw), rfl, hnm⟩) (w_7 hw) (ty := .double) (by decide) rfl rfl (g := (mkF m 53 #[.val (.ref b), .val (.double (4607182418800017408 : UInt64)), .second, .val (.double (4602678819172646912 : UInt64)), .second, .val (.double kd), .second] [(.double kd), (.ref b)])) rfl rfl (hb hby d2_53)
  have N10 := Fr.snoc X10 N9 g
  have O10 : Old Z n0 h10 := O8.wr W10 g
  have KC10 : Keep h0 h10 [b] := KC8.wr W10 (Or.inl (List.mem_of_getElem? (i := 0) rfl))
  have F10 : Fld Z h10 b "com/example/graded_search/gradedsearch/engine/Bm25" "k3" "D" (.double kd) := Fld.same W10 ((((F3.ext E4).other W6 (Or.inr (slot_ne (Or.inr (w_39 hw)) (Or.inr (w_34 hw)) (by decide) (t := .double) (t' := .double) (by decide) (by decide)))).other W7 (Or.inr (slot_ne (Or.inr (w_39 hw)) (Or.inr (w_36 hw)) (by decide) (t := .double) (t' := .double) (by decide) (by decide)))).ext E8)
  refine OWW.st (B := T10.setTop (mkF m 56 #[.val (.ref b), .val (.double (4607182418800017408 : UInt64)), .second, .val (.double (4602678819172646912 : UInt64)), .second, .val (.double kd), .second] [])) (st10) ?_
  exact OWW.retV X10 (s := s) (vm0 := T8.vm) hS8 (Nat.le_trans hk8 (Keep.of_wr W10).1) hx hlk Bd.returns (hb hby d2_56) e10 (by decide) (by decide) ⟨rfl, N10, KC10, (((((E.ext E4).wr W6).wr W7).ext E8).wr W10), F10⟩
theorem ef_QF (m : MethodId) (x0 : Addr) (x1 : Int32) : entryFrame m #[(.ref x0), (.int x1)] 2 = mkF m 0 #[.val (.ref x0), .val (.int x1)] [] := by first | (simp [entryFrame, mkF, argsToLocals, Value.category]; done) | rfl
def QQF (Z : State) (b : Addr) (kd : UInt64) (q : Int32) (h0 : Heap) (n0 : Nat) (v : Option Value) (h : Heap) (L : List Loc) : Prop := v = some (.double (own_f kd q)) ∧ Fr n0 L ∧ h = h0
set_option maxRecDepth 65536 in
set_option maxHeartbeats 40000000 in
theorem rmQF (l : Launch) (Z : State) (a0 : Array Value) (hw : ∀ d ∈ tables_1, d.before a0 Z = true) (ws : List Jvm.Cond) (b : Addr) (kd : UInt64) (q : Int32) (h0 : Heap) (n0 : Nat) (O0 : Old Z n0 h0) (F : Fld Z h0 b "com/example/graded_search/gradedsearch/engine/Bm25" "k3" "D" (.double kd)) (hn : OwnN kd q) :
    MetFree l (⟨"com/example/graded_search/gradedsearch/engine/Bm25", "queryFactor", "(I)D"⟩ : MethodName) (head1 (Jvm.Cond.code (⟨"com/example/graded_search/gradedsearch/engine/Bm25", "queryFactor", "(I)D"⟩ : MethodName) prog_17_method_10_code 2 (some .double) :: ws) ({ frames := 0, cells := 0, slots := 0, locals := 0 } : Room)) (fun aa_ UU_ => aa_ = #[(.ref b), (.int q)] ∧ Z.Warmed39 UU_.vm ∧ UU_.heap = h0) (fun _ _ _ _ _ => True) (fun _ UU_ oo_ UV_ => ∃ vv_ LL_, oo_ = .returned vv_ ∧ QQF Z b kd q h0 n0 vv_ UV_.heap LL_ ∧ FrameEnd UU_ oo_ UV_ LL_ ({ frames := 0, cells := 0, slots := 0, locals := 0 } : Room).cells ({ frames := 0, cells := 0, slots := 0, locals := 0 } : Room).slots) := by
  refine MetFree.of_bodySF (plainFor_of_name pn_1) hisR ?_
  intro p e s m args below meth c s₁ Bd hml0 hP hK
  obtain ⟨rfl, hZ, hh⟩ := hP
  have hx := Bd.exec
  have hby := Bd.bytes
  have hlk := BodyLoose.notSynchronized Bd
  have hml : c.maxLocals = 2 := hml0
  have hown : s.vm.findClass "com/example/graded_search/gradedsearch/engine/Bm25" = some m.cls := findClass_of_methodNamed Bd.named
  have hnm := (name_of_methodNamed Bd.named Bd.method).1
  have X0 : Stand p l e ({ frames := 0, cells := 0, slots := 0, locals := 0 } : Room) s m #[(.ref b), (.int q)] below meth c s₁ [] 0 0 := Stand.of_body Bd
  have e0 : s₁.heap = h0 := by rw [← hh, Bd.state]; rfl
  have N0 := Fr.nil n0
  suffices hOW : OW p e below s (QQF Z b kd q h0 n0) 0 0 (s₁.setTop (mkF m 0 #[.val (.ref b), .val (.int q)] [])) by
    obtain ⟨oq1_, oq2_, oq3_, oq4_⟩ := hOW
    exact ⟨oq1_, oq2_, castTop (ef_QF m b q) oq3_, oq4_⟩
  refine OW.st (B := s₁.setTop (mkF m 1 #[.val (.ref b), .val (.int q)] [(.ref b)])) (fun _ kk_ => XS.aloadN X0.here hx rfl (hb hby d6_0) rfl rfl kk_) ?_
  obtain ⟨T11, X11, e11, st11⟩ := getF X0 hx hZ hown (host := "") (Or.inl (w_38 hw)) Via.refl e0 F (g := (mkF m 1 #[.val (.ref b), .val (.int q)] [(.ref b)])) rfl rfl (hb hby d6_1)
  refine OW.st (B := T11.setTop (mkF m 4 #[.val (.ref b), .val (.int q)] [(.double kd)])) (st11) ?_
  refine OW.st (B := T11.setTop (mkF m 5 #[.val (.ref b), .val (.int q)] [(.double (4607182418800017408 : UInt64)), (.double kd)])) (fun _ kk_ => XS.dconst1 X11.here hx rfl (hb hby d6_4) rfl kk_) ?_
  refine OW.st (B := T11.setTop (mkF m 6 #[.val (.ref b), .val (.int q)] [(.double (FP.dadd kd (4607182418800017408 : UInt64)))])) (fun _ kk_ => XS.daddS X11.here hx rfl (hb hby d6_5) rfl hn.1 rfl kk_) ?_
  refine OW.st (B := T11.setTop (mkF m 7 #[.val (.ref b), .val (.int q)] [(.int q), (.double (FP.dadd kd (4607182418800017408 : UInt64)))])) (fun _ kk_ => XS.iloadN X11.here hx rfl (hb hby d6_6) rfl kk_) ?_
  refine OW.st (B := T11.setTop (mkF m 8 #[.val (.ref b), .val (.int q)] [(.double (FP.i2d q)), (.double (FP.dadd kd (4607182418800017408 : UInt64)))])) (fun _ kk_ => XS.i2dS X11.here hx rfl (hb hby d6_7) rfl rfl kk_) ?_
  refine OW.st (B := T11.setTop (mkF m 9 #[.val (.ref b), .val (.int q)] [(.double (FP.dmul (FP.dadd kd (4607182418800017408 : UInt64)) (FP.i2d q)))])) (fun _ kk_ => XS.dmulS X11.here hx rfl (hb hby d6_8) rfl hn.2.1 rfl kk_) ?_
  refine OW.st (B := T11.setTop (mkF m 10 #[.val (.ref b), .val (.int q)] [(.ref b), (.double (FP.dmul (FP.dadd kd (4607182418800017408 : UInt64)) (FP.i2d q)))])) (fun _ kk_ => XS.aloadN X11.here hx rfl (hb hby d6_9) rfl rfl kk_) ?_
  obtain ⟨T12, X12, e12, st12⟩ := getF X11 hx hZ hown (host := "") (Or.inl (w_38 hw)) Via.refl e11 F (g := (mkF m 10 #[.val (.ref b), .val (.int q)] [(.ref b), (.double (FP.dmul (FP.dadd kd (4607182418800017408 : UInt64)) (FP.i2d q)))])) rfl rfl (hb hby d6_10)
  refine OW.st (B := T12.setTop (mkF m 13 #[.val (.ref b), .val (.int q)] [(.double kd), (.double (FP.dmul (FP.dadd kd (4607182418800017408 : UInt64)) (FP.i2d q)))])) (st12) ?_
  refine OW.st (B := T12.setTop (mkF m 14 #[.val (.ref b), .val (.int q)] [(.int q), (.double kd), (.double (FP.dmul (FP.dadd kd (4607182418800017408 : UInt64)) (FP.i2d q)))])) (fun _ kk_ => XS.iloadN X12.here hx rfl (hb hby d6_13) rfl kk_) ?_
  refine OW.st (B := T12.setTop (mkF m 15 #[.val (.ref b), .val (.int q)] [(.double (FP.i2d q)), (.double kd), (.double (FP.dmul (FP.dadd kd (4607182418800017408 : UInt64)) (FP.i2d q)))])) (fun _ kk_ => XS.i2dS X12.here hx rfl (hb hby d6_14) rfl rfl kk_) ?_
  refine OW.st (B := T12.setTop (mkF m 16 #[.val (.ref b), .val (.int q)] [(.double (FP.dadd kd (FP.i2d q))), (.double (FP.dmul (FP.dadd kd (4607182418800017408 : UInt64)) (FP.i2d q)))])) (fun _ kk_ => XS.daddS X12.here hx rfl (hb hby d6_15) rfl hn.2.2.1 rfl kk_) ?_
  refine OW.st (B := T12.setTop (mkF m 17 #[.val (.ref b), .val (.int q)] [(.double (FP.ddiv (FP.dmul (FP.dadd kd (4607182418800017408 : UInt64)) (FP.i2d q)) (FP.dadd kd (FP.i2d q))))])) (fun _ kk_ => XS.ddivS X12.here hx rfl (hb hby d6_16) rfl hn.2.2.2 rfl kk_) ?_
  exact OW.ret X12 hx hlk (i := .dreturn) Bd.returns rfl (Or.inr (Or.inr (Or.inl ⟨rfl, rfl, _, rfl⟩))) (hb hby d6_17) e12 (by decide) (by decide) ⟨rfl, N0, rfl⟩
theorem ef_0 (m : MethodId) (x0 : Int32) (x1 : Int32) (x2 : Int32) (x3 : Int32) : entryFrame m #[(.int x0), (.int x1), (.int x2), (.int x3)] maxLocals = mkF m 0 #[.val (.int x0), .val (.int x1), .val (.int x2), .val (.int x3), .unset, .unset, .unset, .unset, .unset, .unset, .unset, .unset, .unset, .unset, .unset, .unset, .unset, .unset, .unset, .unset, .unset, .unset, .unset, .unset, .unset, .unset, .unset, .unset] [] := by first | (simp [entryFrame, mkF, argsToLocals, Value.category, maxLocals]; done) | rfl
def Q0 (Z : State) (n1 : Int32) (n2 : Int32) (n3 : Int32) (n4 : Int32) (h0 : Heap) (n0 : Nat) (v : Option Value) (h : Heap) (L : List Loc) : Prop := v = some (.int 1) ∧ Fr n0 L
set_option maxRecDepth 65536 in
set_option maxHeartbeats 40000000 in
theorem rm0 (l : Launch) (Z : State) (a0 : Array Value) (hw : ∀ d ∈ tables_1, d.before a0 Z = true) (ws : List Jvm.Cond) (n1 : Int32) (n2 : Int32) (n3 : Int32) (n4 : Int32) (h0 : Heap) (n0 : Nat) (O0 : Old Z n0 h0) :
    MetFree l x (head1 (Jvm.Cond.code x code maxLocals ret :: ws) room_1) (fun aa_ UU_ => aa_ = #[(.int n1), (.int n2), (.int n3), (.int n4)] ∧ Z.Warmed39 UU_.vm ∧ UU_.heap = h0) (fun _ _ _ _ _ => True) (fun _ UU_ oo_ UV_ => ∃ vv_ LL_, oo_ = .returned vv_ ∧ Q0 Z n1 n2 n3 n4 h0 n0 vv_ UV_.heap LL_ ∧ ReturnedEndW UU_ oo_ UV_ LL_ 10 54) := by
  refine MetFree.of_bodySF (plainFor_of_name pn_2) hisR ?_
  intro p e s m args below meth c s₁ Bd hml0 hP hK
  obtain ⟨rfl, hZ, hh⟩ := hP
  have hx := Bd.exec
  have hby := Bd.bytes
  have hlk := BodyLoose.notSynchronized Bd
  have hml : c.maxLocals = 28 := hml0
  have hown : s.vm.findClass "com/example/graded_search/gradedsearch/engine/Bm25QueryFactorPinLaw" = some m.cls := findClass_of_methodNamed Bd.named
  have hnm := (name_of_methodNamed Bd.named Bd.method).1
  have X0 : Stand p l e room_1 s m #[(.int n1), (.int n2), (.int n3), (.int n4)] below meth c s₁ [] 0 0 := Stand.of_body Bd
  have e0 : s₁.heap = h0 := by rw [← hh, Bd.state]; rfl
  have N0 := Fr.nil n0
  have hS0 : s.Since s.vm 0 := (State.WarmedH.refl s).since 0
  have hk0 : 0 ≤ h0.size := Nat.zero_le _
  suffices hOW : OWW p e below s (Q0 Z n1 n2 n3 n4 h0 n0) 10 54 (s₁.setTop (mkF m 0 #[.val (.int n1), .val (.int n2), .val (.int n3), .val (.int n4), .unset, .unset, .unset, .unset, .unset, .unset, .unset, .unset, .unset, .unset, .unset, .unset, .unset, .unset, .unset, .unset, .unset, .unset, .unset, .unset, .unset, .unset, .unset, .unset] [])) by
    obtain ⟨oq1_, oq2_, oq3_, oq4_⟩ := hOW
    exact ⟨oq1_, oq2_, castTop (ef_0 m n1 n2 n3 n4) oq3_, oq4_⟩
  refine OWW.st (B := s₁.setTop (mkF m 1 #[.val (.int n1), .val (.int n2), .val (.int n3), .val (.int n4), .unset, .unset, .unset, .unset, .unset, .unset, .unset, .unset, .unset, .unset, .unset, .unset, .unset, .unset, .unset, .unset, .unset, .unset, .unset, .unset, .unset, .unset, .unset, .unset] [(.int (1 : Int32))])) (fun _ kk_ => XS.iconst X0.here hx rfl (hb hby at_0) kk_) ?_
  refine OWW.st (B := s₁.setTop (mkF m 2 #[.val (.int n1), .val (.int n2), .val (.int n3), .val (.int n4), .unset, .unset, .unset, .unset, .unset, .unset, .unset, .unset, .unset, .unset, .unset, .unset, .unset, .unset, .unset, .unset, .unset, .unset, .unset, .unset, .unset, .unset, .unset, .unset] [(.int n1), (.int (1 : Int32))])) (fun _ kk_ => XS.iloadN X0.here hx rfl (hb hby at_1) rfl kk_) ?_
  refine OWW.st (B := s₁.setTop (mkF m 4 #[.val (.int n1), .val (.int n2), .val (.int n3), .val (.int n4), .unset, .unset, .unset, .unset, .unset, .unset, .unset, .unset, .unset, .unset, .unset, .unset, .unset, .unset, .unset, .unset, .unset, .unset, .unset, .unset, .unset, .unset, .unset, .unset] [(.int (2147483647 : Int32)), (.int n1), (.int (1 : Int32))])) (X0.ldcInt hx hown (mvT hZ (w_0 hw)) (g := (mkF m 2 #[.val (.int n1), .val (.int n2), .val (.int n3), .val (.int n4), .unset, .unset, .unset, .unset, .unset, .unset, .unset, .unset, .unset, .unset, .unset, .unset, .unset, .unset, .unset, .unset, .unset, .unset, .unset, .unset, .unset, .unset, .unset, .unset] [(.int n1), (.int (1 : Int32))])) rfl (hb hby at_2)) ?_
  refine OWW.st (B := s₁.setTop (mkF m 5 #[.val (.int n1), .val (.int n2), .val (.int n3), .val (.int n4), .unset, .unset, .unset, .unset, .unset, .unset, .unset, .unset, .unset, .unset, .unset, .unset, .unset, .unset, .unset, .unset, .unset, .unset, .unset, .unset, .unset, .unset, .unset, .unset] [(.int (n1 &&& (2147483647 : Int32))), (.int (1 : Int32))])) (fun _ kk_ => XS.iand X0.here hx rfl (hb hby at_4) rfl kk_) ?_
  obtain ⟨_, _, ⟨T13, L13, k13, n13⟩, -, X13, ⟨Lc13, hQ13, l13, y13, z13⟩, st13⟩ := Jvm.LawKit.callS X0 hx (y := (⟨"java/lang/Math", "max", "(II)I"⟩ : MethodName)) hown (mvT hZ (w_1 hw)) (mvT hZ (w_2 hw)) (mvT hZ (w_3 hw)) (mvT hZ (w_4 hw)) (by decide) (backOf (W := 0) (rmMX l Z a0 hw [] (1 : Int32) (n1 &&& (2147483647 : Int32)) h0 n0 O0 ) hZ (w_4 hw) (w_3 hw) (by decide) (by decide)) (g := (mkF m 5 #[.val (.int n1), .val (.int n2), .val (.int n3), .val (.int n4), .unset, .unset, .unset, .unset, .unset, .unset, .unset, .unset, .unset, .unset, .unset, .unset, .unset, .unset, .unset, .unset, .unset, .unset, .unset, .unset, .unset, .unset, .unset, .unset] [(.int (n1 &&& (2147483647 : Int32))), (.int (1 : Int32))])) rfl (by rw [hml]; rfl) (argsL := [(.int (1 : Int32)), (.int (n1 &&& (2147483647 : Int32)))]) (rest := []) (lenOf pd_2 rfl) rfl (by show 2 * 0 + _ ≤ _; exact Nat.le_of_eq rfl) (hb hby at_5) (fun _ _ => ⟨rfl, e0, (by decide : 0 + 0 ≤ _), (by decide : 0 + 0 ≤ _)⟩)
  dsimp only [Pt.U, Pt.locs, Pt.cells, Pt.slots] at X13 l13 y13 z13 st13 hQ13
  subst l13 y13 z13
  obtain ⟨rfl, Nq13, e13⟩ := hQ13
  have N13 := Fr.app N0 Nq13
  refine OWW.st (B := T13.setTop (mkF m 8 #[.val (.int n1), .val (.int n2), .val (.int n3), .val (.int n4), .unset, .unset, .unset, .unset, .unset, .unset, .unset, .unset, .unset, .unset, .unset, .unset, .unset, .unset, .unset, .unset, .unset, .unset, .unset, .unset, .unset, .unset, .unset, .unset] [(.int (own_max (1 : Int32) (n1 &&& (2147483647 : Int32))))])) (st13) ?_
  suffices J : ∀ q : Int32, (1 ≤ q.toInt) → OWW p e below s (Q0 Z n1 n2 n3 n4 h0 n0) 10 54 (T13.setTop (mkF m 8 #[.val (.int n1), .val (.int n2), .val (.int n3), .val (.int n4), .unset, .unset, .unset, .unset, .unset, .unset, .unset, .unset, .unset, .unset, .unset, .unset, .unset, .unset, .unset, .unset, .unset, .unset, .unset, .unset, .unset, .unset, .unset, .unset] [(.int q)])) from J _ (own_max1 _)
  intro q hq
  refine OWW.st (B := T13.setTop (mkF m 10 #[.val (.int n1), .val (.int n2), .val (.int n3), .val (.int n4), .val (.int q), .unset, .unset, .unset, .unset, .unset, .unset, .unset, .unset, .unset, .unset, .unset, .unset, .unset, .unset, .unset, .unset, .unset, .unset, .unset, .unset, .unset, .unset, .unset] [])) (fun _ kk_ => XS.istore X13.here hx rfl (hb hby at_8) rfl (l' := #[.val (.int n1), .val (.int n2), .val (.int n3), .val (.int n4), .val (.int q), .unset, .unset, .unset, .unset, .unset, .unset, .unset, .unset, .unset, .unset, .unset, .unset, .unset, .unset, .unset, .unset, .unset, .unset, .unset, .unset, .unset, .unset, .unset]) rfl kk_) ?_
  refine OWW.st (B := T13.setTop (mkF m 11 #[.val (.int n1), .val (.int n2), .val (.int n3), .val (.int n4), .val (.int q), .unset, .unset, .unset, .unset, .unset, .unset, .unset, .unset, .unset, .unset, .unset, .unset, .unset, .unset, .unset, .unset, .unset, .unset, .unset, .unset, .unset, .unset, .unset] [(.int n2)])) (fun _ kk_ => XS.iloadN X13.here hx rfl (hb hby at_10) rfl kk_) ?_
  refine OWW.st (B := T13.setTop (mkF m 13 #[.val (.int n1), .val (.int n2), .val (.int n3), .val (.int n4), .val (.int q), .unset, .unset, .unset, .unset, .unset, .unset, .unset, .unset, .unset, .unset, .unset, .unset, .unset, .unset, .unset, .unset, .unset, .unset, .unset, .unset, .unset, .unset, .unset] [(.int (1048575 : Int32)), (.int n2)])) (X13.ldcInt hx hown (mvT hZ (w_5 hw)) (g := (mkF m 11 #[.val (.int n1), .val (.int n2), .val (.int n3), .val (.int n4), .val (.int q), .unset, .unset, .unset, .unset, .unset, .unset, .unset, .unset, .unset, .unset, .unset, .unset, .unset, .unset, .unset, .unset, .unset, .unset, .unset, .unset, .unset, .unset, .unset] [(.int n2)])) rfl (hb hby at_11)) ?_
  refine OWW.st (B := T13.setTop (mkF m 14 #[.val (.int n1), .val (.int n2), .val (.int n3), .val (.int n4), .val (.int q), .unset, .unset, .unset, .unset, .unset, .unset, .unset, .unset, .unset, .unset, .unset, .unset, .unset, .unset, .unset, .unset, .unset, .unset, .unset, .unset, .unset, .unset, .unset] [(.int (n2 &&& (1048575 : Int32)))])) (fun _ kk_ => XS.iand X13.here hx rfl (hb hby at_13) rfl kk_) ?_
  suffices J : ∀ k : Int32, (0 ≤ k.toInt ∧ k.toInt ≤ 1048575) → OWW p e below s (Q0 Z n1 n2 n3 n4 h0 n0) 10 54 (T13.setTop (mkF m 14 #[.val (.int n1), .val (.int n2), .val (.int n3), .val (.int n4), .val (.int q), .unset, .unset, .unset, .unset, .unset, .unset, .unset, .unset, .unset, .unset, .unset, .unset, .unset, .unset, .unset, .unset, .unset, .unset, .unset, .unset, .unset, .unset, .unset] [(.int k)])) from J _ (own_and n2 (by decide))
  intro k hk
  refine OWW.st (B := T13.setTop (mkF m 16 #[.val (.int n1), .val (.int n2), .val (.int n3), .val (.int n4), .val (.int q), .val (.int k), .unset, .unset, .unset, .unset, .unset, .unset, .unset, .unset, .unset, .unset, .unset, .unset, .unset, .unset, .unset, .unset, .unset, .unset, .unset, .unset, .unset, .unset] [])) (fun _ kk_ => XS.istore X13.here hx rfl (hb hby at_14) rfl (l' := #[.val (.int n1), .val (.int n2), .val (.int n3), .val (.int n4), .val (.int q), .val (.int k), .unset, .unset, .unset, .unset, .unset, .unset, .unset, .unset, .unset, .unset, .unset, .unset, .unset, .unset, .unset, .unset, .unset, .unset, .unset, .unset, .unset, .unset]) rfl kk_) ?_
  refine OWW.st (B := T13.setTop (mkF m 18 #[.val (.int n1), .val (.int n2), .val (.int n3), .val (.int n4), .val (.int q), .val (.int k), .unset, .unset, .unset, .unset, .unset, .unset, .unset, .unset, .unset, .unset, .unset, .unset, .unset, .unset, .unset, .unset, .unset, .unset, .unset, .unset, .unset, .unset] [(.int k)])) (fun _ kk_ => XS.iload X13.here hx rfl (hb hby at_16) rfl kk_) ?_
  refine OWW.st (B := T13.setTop (mkF m 19 #[.val (.int n1), .val (.int n2), .val (.int n3), .val (.int n4), .val (.int q), .val (.int k), .unset, .unset, .unset, .unset, .unset, .unset, .unset, .unset, .unset, .unset, .unset, .unset, .unset, .unset, .unset, .unset, .unset, .unset, .unset, .unset, .unset, .unset] [(.double (FP.i2d k))])) (fun _ kk_ => XS.i2dS X13.here hx rfl (hb hby at_18) rfl rfl kk_) ?_
  refine OWW.st (B := T13.setTop (mkF m 21 #[.val (.int n1), .val (.int n2), .val (.int n3), .val (.int n4), .val (.int q), .val (.int k), .val (.double (FP.i2d k)), .second, .unset, .unset, .unset, .unset, .unset, .unset, .unset, .unset, .unset, .unset, .unset, .unset, .unset, .unset, .unset, .unset, .unset, .unset, .unset, .unset] [])) (fun _ kk_ => XS.dstore X13.here hx rfl (hb hby at_19) rfl (l' := #[.val (.int n1), .val (.int n2), .val (.int n3), .val (.int n4), .val (.int q), .val (.int k), .val (.double (FP.i2d k)), .second, .unset, .unset, .unset, .unset, .unset, .unset, .unset, .unset, .unset, .unset, .unset, .unset, .unset, .unset, .unset, .unset, .unset, .unset, .unset, .unset]) rfl kk_) ?_
  obtain ⟨T14, h14, X14, e14, E14, A14, D14, -, st14⟩ := newO X13 hx hZ hown (w_6 hw) (w_7 hw) (w_8 hw) e13 (g := (mkF m 21 #[.val (.int n1), .val (.int n2), .val (.int n3), .val (.int n4), .val (.int q), .val (.int k), .val (.double (FP.i2d k)), .second, .unset, .unset, .unset, .unset, .unset, .unset, .unset, .unset, .unset, .unset, .unset, .unset, .unset, .unset, .unset, .unset, .unset, .unset, .unset, .unset] [])) rfl (hb hby at_21) (by decide) (by decide)
  obtain ⟨b14, g14⟩ : ∃ z, z = h0.size := ⟨_, rfl⟩
  rw [← g14] at A14 D14 st14
  have n_b14 : n0 ≤ b14 := Nat.le_trans (own_oldle O0) (Nat.le_of_eq g14.symm)
  have O14 : Old Z n0 h14 := O0.ext E14
  have F14_34 : Fld Z h14 b14 "com/example/graded_search/gradedsearch/engine/Bm25" "k1" "D" (.double 0) := D14 (Or.inr (w_34 hw)) (ty := .double) (by decide)
  have F14_36 : Fld Z h14 b14 "com/example/graded_search/gradedsearch/engine/Bm25" "b" "D" (.double 0) := D14 (Or.inr (w_36 hw)) (ty := .double) (by decide)
  have F14_39 : Fld Z h14 b14 "com/example/graded_search/gradedsearch/engine/Bm25" "k3" "D" (.double 0) := D14 (Or.inr (w_39 hw)) (ty := .double) (by decide)
  refine OWW.st (B := T14.setTop (mkF m 24 #[.val (.int n1), .val (.int n2), .val (.int n3), .val (.int n4), .val (.int q), .val (.int k), .val (.double (FP.i2d k)), .second, .unset, .unset, .unset, .unset, .unset, .unset, .unset, .unset, .unset, .unset, .unset, .unset, .unset, .unset, .unset, .unset, .unset, .unset, .unset, .unset] [(.ref b14)])) (st14) ?_
  refine OWW.st (B := T14.setTop (mkF m 25 #[.val (.int n1), .val (.int n2), .val (.int n3), .val (.int n4), .val (.int q), .val (.int k), .val (.double (FP.i2d k)), .second, .unset, .unset, .unset, .unset, .unset, .unset, .unset, .unset, .unset, .unset, .unset, .unset, .unset, .unset, .unset, .unset, .unset, .unset, .unset, .unset] [(.ref b14), (.ref b14)])) (fun _ kk_ => XS.dup X14.here hx rfl (hb hby at_24) rfl rfl kk_) ?_
  refine OWW.st (B := T14.setTop (mkF m 26 #[.val (.int n1), .val (.int n2), .val (.int n3), .val (.int n4), .val (.int q), .val (.int k), .val (.double (FP.i2d k)), .second, .unset, .unset, .unset, .unset, .unset, .unset, .unset, .unset, .unset, .unset, .unset, .unset, .unset, .unset, .unset, .unset, .unset, .unset, .unset, .unset] [(.double (4607182418800017408 : UInt64)), (.ref b14), (.ref b14)])) (fun _ kk_ => XS.dconst1 X14.here hx rfl (hb hby at_25) rfl kk_) ?_
  refine OWW.st (B := T14.setTop (mkF m 29 #[.val (.int n1), .val (.int n2), .val (.int n3), .val (.int n4), .val (.int q), .val (.int k), .val (.double (FP.i2d k)), .second, .unset, .unset, .unset, .unset, .unset, .unset, .unset, .unset, .unset, .unset, .unset, .unset, .unset, .unset, .unset, .unset, .unset, .unset, .unset, .unset] [(.double (4602678819172646912 : UInt64)), (.double (4607182418800017408 : UInt64)), (.ref b14), (.ref b14)])) (X14.ldc2DoubleC hx hown (mvT hZ (w_9 hw)) (g := (mkF m 26 #[.val (.int n1), .val (.int n2), .val (.int n3), .val (.int n4), .val (.int q), .val (.int k), .val (.double (FP.i2d k)), .second, .unset, .unset, .unset, .unset, .unset, .unset, .unset, .unset, .unset, .unset, .unset, .unset, .unset, .unset, .unset, .unset, .unset, .unset, .unset, .unset] [(.double (4607182418800017408 : UInt64)), (.ref b14), (.ref b14)])) rfl (hb hby at_26)) ?_
  refine OWW.st (B := T14.setTop (mkF m 31 #[.val (.int n1), .val (.int n2), .val (.int n3), .val (.int n4), .val (.int q), .val (.int k), .val (.double (FP.i2d k)), .second, .unset, .unset, .unset, .unset, .unset, .unset, .unset, .unset, .unset, .unset, .unset, .unset, .unset, .unset, .unset, .unset, .unset, .unset, .unset, .unset] [(.double (FP.i2d k)), (.double (4602678819172646912 : UInt64)), (.double (4607182418800017408 : UInt64)), (.ref b14), (.ref b14)])) (fun _ kk_ => XS.dload X14.here hx rfl (hb hby at_29) rfl kk_) ?_
  obtain ⟨_, _, ⟨T15, L15, k15, n15⟩, -, X15, hs15, hsz15, ⟨Lc15, hQ15, l15, y15, z15⟩, st15⟩ := X14.specialBackS hx (y := (⟨"com/example/graded_search/gradedsearch/engine/Bm25", "<init>", "(DDD)V"⟩ : MethodName)) rfl hown (mvT hZ (w_10 hw)) (mvT hZ (w_11 hw)) (mvT hZ (w_12 hw)) (by decide) (backOfS (W := 1) (rmBI l Z a0 hw [] b14 (FP.i2d k) h14 n0 O14 A14 F14_34 F14_36 F14_39 n_b14 (OwnG.of (OwnR.ofI hk.1))) hZ (w_12 hw) (w_8 hw) (by decide) (by decide)) (g := (mkF m 31 #[.val (.int n1), .val (.int n2), .val (.int n3), .val (.int n4), .val (.int q), .val (.int k), .val (.double (FP.i2d k)), .second, .unset, .unset, .unset, .unset, .unset, .unset, .unset, .unset, .unset, .unset, .unset, .unset, .unset, .unset, .unset, .unset, .unset, .unset, .unset, .unset] [(.double (FP.i2d k)), (.double (4602678819172646912 : UInt64)), (.double (4607182418800017408 : UInt64)), (.ref b14), (.ref b14)])) rfl (by rw [hml]; rfl) (Steps.refl _) (a := b14) (argsL := [(.double (4607182418800017408 : UInt64)), (.double (4602678819172646912 : UInt64)), (.double (FP.i2d k))]) (rest := [(.ref b14)]) (lenOf pd_3 rfl) rfl (by show 2 * 0 + _ ≤ _; exact Nat.le_of_eq rfl) (hb hby at_31) (fun _ _ => ⟨rfl, e14, (by decide : 1 + 4 ≤ _), (by decide : 3 + 24 ≤ _)⟩)
  dsimp only [Pt.U, Pt.locs, Pt.cells, Pt.slots] at hs15 hsz15
  have hS15 := foldS hS0 (show _ ≤ T14.heap.size by rw [e14]; exact (Nat.le_trans hk0 E14.1)) hs15 hsz15
  have hZ15 : Z.Warmed39 (s.setVm T15.vm).vm := State.Warmed39.trans (t := s) hZ hs15.1
  have hown15 : (s.setVm T15.vm).vm.findClass "com/example/graded_search/gradedsearch/engine/Bm25QueryFactorPinLaw" = some m.cls := by rw [show (s.setVm T15.vm).vm = T15.vm from rfl, hs15.1.alike.findClass]; exact hown
  dsimp only [Pt.U, Pt.locs, Pt.cells, Pt.slots] at X15 l15 y15 z15 st15 hQ15
  subst l15 y15 z15
  obtain ⟨rfl, Nq15, K15, Ei15, Fr15⟩ := hQ15
  have N15 := Fr.app N13 Nq15
  have O15 : Old Z n0 T15.heap := O14.keep K15 (allS n_b14 all0)
  have hk15 : T15.heap.size ≤ T15.heap.size := Nat.le_of_eq (by rfl)
  refine OWW.tr (B := T15.setTop (mkF m 34 #[.val (.int n1), .val (.int n2), .val (.int n3), .val (.int n4), .val (.int q), .val (.int k), .val (.double (FP.i2d k)), .second, .unset, .unset, .unset, .unset, .unset, .unset, .unset, .unset, .unset, .unset, .unset, .unset, .unset, .unset, .unset, .unset, .unset, .unset, .unset, .unset] [(.ref b14)])) (st15) ?_
  refine OWW.st (B := T15.setTop (mkF m 36 #[.val (.int n1), .val (.int n2), .val (.int n3), .val (.int n4), .val (.int q), .val (.int k), .val (.double (FP.i2d k)), .second, .val (.ref b14), .unset, .unset, .unset, .unset, .unset, .unset, .unset, .unset, .unset, .unset, .unset, .unset, .unset, .unset, .unset, .unset, .unset, .unset, .unset] [])) (fun _ kk_ => XS.astore X15.here hx rfl (hb hby at_34) rfl rfl (l' := #[.val (.int n1), .val (.int n2), .val (.int n3), .val (.int n4), .val (.int q), .val (.int k), .val (.double (FP.i2d k)), .second, .val (.ref b14), .unset, .unset, .unset, .unset, .unset, .unset, .unset, .unset, .unset, .unset, .unset, .unset, .unset, .unset, .unset, .unset, .unset, .unset, .unset]) rfl kk_) ?_
  refine OWW.st (B := T15.setTop (mkF m 38 #[.val (.int n1), .val (.int n2), .val (.int n3), .val (.int n4), .val (.int q), .val (.int k), .val (.double (FP.i2d k)), .second, .val (.ref b14), .unset, .unset, .unset, .unset, .unset, .unset, .unset, .unset, .unset, .unset, .unset, .unset, .unset, .unset, .unset, .unset, .unset, .unset, .unset] [(.ref b14)])) (fun _ kk_ => XS.aload X15.here hx rfl (hb hby at_36) rfl rfl kk_) ?_
  refine OWW.st (B := T15.setTop (mkF m 39 #[.val (.int n1), .val (.int n2), .val (.int n3), .val (.int n4), .val (.int q), .val (.int k), .val (.double (FP.i2d k)), .second, .val (.ref b14), .unset, .unset, .unset, .unset, .unset, .unset, .unset, .unset, .unset, .unset, .unset, .unset, .unset, .unset, .unset, .unset, .unset, .unset, .unset] [(.int (1 : Int32)), (.ref b14)])) (fun _ kk_ => XS.iconst X15.here hx rfl (hb hby at_38) kk_) ?_
  obtain ⟨cq16, kq16, q16a, q16b, q16c⟩ := isOf hZ15 rfl Ei15
  obtain ⟨_, _, ⟨T16, L16, k16, n16⟩, -, X16, ⟨Lc16, hQ16, l16, y16, z16⟩, st16⟩ := X15.virtualBack hx (y := (⟨"com/example/graded_search/gradedsearch/engine/Bm25", "queryFactor", "(I)D"⟩ : MethodName)) (z := (⟨"com/example/graded_search/gradedsearch/engine/Bm25", "queryFactor", "(I)D"⟩ : MethodName)) hown15 (mvT hZ15 (w_40 hw)) (mvT hZ15 (w_41 hw)) (notFace_of_selects (args := #[]) (mvT hZ15 (w_43 hw))) (mvT hZ15 (w_43 hw)) (mvT hZ15 (w_42 hw)) (by decide) (backOf (W := 0) (rmQF l Z a0 hw [] b14 (FP.i2d k) (1 : Int32) T15.heap n0 O15 Fr15 (own_nI hk (by decide))) hZ15 (w_44 hw) (w_8 hw) (by decide) (by decide)) q16a q16c (g := (mkF m 39 #[.val (.int n1), .val (.int n2), .val (.int n3), .val (.int n4), .val (.int q), .val (.int k), .val (.double (FP.i2d k)), .second, .val (.ref b14), .unset, .unset, .unset, .unset, .unset, .unset, .unset, .unset, .unset, .unset, .unset, .unset, .unset, .unset, .unset, .unset, .unset, .unset, .unset] [(.int (1 : Int32)), (.ref b14)])) rfl (by rw [hml]; rfl) (Steps.refl _) (argsL := [(.int (1 : Int32))]) (rest := []) (lenOf pd_4 rfl) rfl (by show 2 * 0 + _ ≤ _; exact Nat.le_of_eq rfl) (hb hby at_39) (fun _ _ => ⟨rfl, rfl, (by decide : 5 + 0 ≤ _), (by decide : 27 + 0 ≤ _)⟩)
  dsimp only [Pt.U, Pt.locs, Pt.cells, Pt.slots] at X16 l16 y16 z16 st16 hQ16
  subst l16 y16 z16
  obtain ⟨rfl, Nq16, e16⟩ := hQ16
  have N16 := Fr.app N15 Nq16
  refine OWW.tr (B := T16.setTop (mkF m 42 #[.val (.int n1), .val (.int n2), .val (.int n3), .val (.int n4), .val (.int q), .val (.int k), .val (.double (FP.i2d k)), .second, .val (.ref b14), .unset, .unset, .unset, .unset, .unset, .unset, .unset, .unset, .unset, .unset, .unset, .unset, .unset, .unset, .unset, .unset, .unset, .unset, .unset] [(.double (own_f (FP.i2d k) (1 : Int32)))])) (st16) ?_
  refine OWW.st (B := T16.setTop (mkF m 44 #[.val (.int n1), .val (.int n2), .val (.int n3), .val (.int n4), .val (.int q), .val (.int k), .val (.double (FP.i2d k)), .second, .val (.ref b14), .val (.double (own_f (FP.i2d k) (1 : Int32))), .second, .unset, .unset, .unset, .unset, .unset, .unset, .unset, .unset, .unset, .unset, .unset, .unset, .unset, .unset, .unset, .unset, .unset] [])) (fun _ kk_ => XS.dstore X16.here hx rfl (hb hby at_42) rfl (l' := #[.val (.int n1), .val (.int n2), .val (.int n3), .val (.int n4), .val (.int q), .val (.int k), .val (.double (FP.i2d k)), .second, .val (.ref b14), .val (.double (own_f (FP.i2d k) (1 : Int32))), .second, .unset, .unset, .unset, .unset, .unset, .unset, .unset, .unset, .unset, .unset, .unset, .unset, .unset, .unset, .unset, .unset, .unset]) rfl kk_) ?_
  refine OWW.st (B := T16.setTop (mkF m 46 #[.val (.int n1), .val (.int n2), .val (.int n3), .val (.int n4), .val (.int q), .val (.int k), .val (.double (FP.i2d k)), .second, .val (.ref b14), .val (.double (own_f (FP.i2d k) (1 : Int32))), .second, .unset, .unset, .unset, .unset, .unset, .unset, .unset, .unset, .unset, .unset, .unset, .unset, .unset, .unset, .unset, .unset, .unset] [(.ref b14)])) (fun _ kk_ => XS.aload X16.here hx rfl (hb hby at_44) rfl rfl kk_) ?_
  refine OWW.st (B := T16.setTop (mkF m 48 #[.val (.int n1), .val (.int n2), .val (.int n3), .val (.int n4), .val (.int q), .val (.int k), .val (.double (FP.i2d k)), .second, .val (.ref b14), .val (.double (own_f (FP.i2d k) (1 : Int32))), .second, .unset, .unset, .unset, .unset, .unset, .unset, .unset, .unset, .unset, .unset, .unset, .unset, .unset, .unset, .unset, .unset, .unset] [(.int q), (.ref b14)])) (fun _ kk_ => XS.iload X16.here hx rfl (hb hby at_46) rfl kk_) ?_
  obtain ⟨cq17, kq17, q17a, q17b, q17c⟩ := isOf hZ15 e16 Ei15
  obtain ⟨_, _, ⟨T17, L17, k17, n17⟩, -, X17, ⟨Lc17, hQ17, l17, y17, z17⟩, st17⟩ := X16.virtualBack hx (y := (⟨"com/example/graded_search/gradedsearch/engine/Bm25", "queryFactor", "(I)D"⟩ : MethodName)) (z := (⟨"com/example/graded_search/gradedsearch/engine/Bm25", "queryFactor", "(I)D"⟩ : MethodName)) hown15 (mvT hZ15 (w_40 hw)) (mvT hZ15 (w_41 hw)) (notFace_of_selects (args := #[]) (mvT hZ15 (w_43 hw))) (mvT hZ15 (w_43 hw)) (mvT hZ15 (w_42 hw)) (by decide) (backOf (W := 0) (rmQF l Z a0 hw [] b14 (FP.i2d k) q T15.heap n0 O15 Fr15 (own_nI hk hq)) hZ15 (w_44 hw) (w_8 hw) (by decide) (by decide)) q17a q17c (g := (mkF m 48 #[.val (.int n1), .val (.int n2), .val (.int n3), .val (.int n4), .val (.int q), .val (.int k), .val (.double (FP.i2d k)), .second, .val (.ref b14), .val (.double (own_f (FP.i2d k) (1 : Int32))), .second, .unset, .unset, .unset, .unset, .unset, .unset, .unset, .unset, .unset, .unset, .unset, .unset, .unset, .unset, .unset, .unset, .unset] [(.int q), (.ref b14)])) rfl (by rw [hml]; rfl) (Steps.refl _) (argsL := [(.int q)]) (rest := []) (lenOf pd_4 rfl) rfl (by show 2 * 0 + _ ≤ _; exact Nat.le_of_eq rfl) (hb hby at_48) (fun _ _ => ⟨rfl, e16, (by decide : 5 + 0 ≤ _), (by decide : 27 + 0 ≤ _)⟩)
  dsimp only [Pt.U, Pt.locs, Pt.cells, Pt.slots] at X17 l17 y17 z17 st17 hQ17
  subst l17 y17 z17
  obtain ⟨rfl, Nq17, e17⟩ := hQ17
  have N17 := Fr.app N16 Nq17
  refine OWW.tr (B := T17.setTop (mkF m 51 #[.val (.int n1), .val (.int n2), .val (.int n3), .val (.int n4), .val (.int q), .val (.int k), .val (.double (FP.i2d k)), .second, .val (.ref b14), .val (.double (own_f (FP.i2d k) (1 : Int32))), .second, .unset, .unset, .unset, .unset, .unset, .unset, .unset, .unset, .unset, .unset, .unset, .unset, .unset, .unset, .unset, .unset, .unset] [(.double (own_f (FP.i2d k) q))])) (st17) ?_
  refine OWW.st (B := T17.setTop (mkF m 53 #[.val (.int n1), .val (.int n2), .val (.int n3), .val (.int n4), .val (.int q), .val (.int k), .val (.double (FP.i2d k)), .second, .val (.ref b14), .val (.double (own_f (FP.i2d k) (1 : Int32))), .second, .val (.double (own_f (FP.i2d k) q)), .second, .unset, .unset, .unset, .unset, .unset, .unset, .unset, .unset, .unset, .unset, .unset, .unset, .unset, .unset, .unset] [])) (fun _ kk_ => XS.dstore X17.here hx rfl (hb hby at_51) rfl (l' := #[.val (.int n1), .val (.int n2), .val (.int n3), .val (.int n4), .val (.int q), .val (.int k), .val (.double (FP.i2d k)), .second, .val (.ref b14), .val (.double (own_f (FP.i2d k) (1 : Int32))), .second, .val (.double (own_f (FP.i2d k) q)), .second, .unset, .unset, .unset, .unset, .unset, .unset, .unset, .unset, .unset, .unset, .unset, .unset, .unset, .unset, .unset]) rfl kk_) ?_
  refine OWW.st (B := T17.setTop (mkF m 55 #[.val (.int n1), .val (.int n2), .val (.int n3), .val (.int n4), .val (.int q), .val (.int k), .val (.double (FP.i2d k)), .second, .val (.ref b14), .val (.double (own_f (FP.i2d k) (1 : Int32))), .second, .val (.double (own_f (FP.i2d k) q)), .second, .unset, .unset, .unset, .unset, .unset, .unset, .unset, .unset, .unset, .unset, .unset, .unset, .unset, .unset, .unset] [(.int q)])) (fun _ kk_ => XS.iload X17.here hx rfl (hb hby at_53) rfl kk_) ?_
  refine OWW.st (B := T17.setTop (mkF m 57 #[.val (.int n1), .val (.int n2), .val (.int n3), .val (.int n4), .val (.int q), .val (.int k), .val (.double (FP.i2d k)), .second, .val (.ref b14), .val (.double (own_f (FP.i2d k) (1 : Int32))), .second, .val (.double (own_f (FP.i2d k) q)), .second, .unset, .unset, .unset, .unset, .unset, .unset, .unset, .unset, .unset, .unset, .unset, .unset, .unset, .unset, .unset] [(.int (2147483647 : Int32)), (.int q)])) (X17.ldcInt hx hown15 (mvT hZ15 (w_0 hw)) (g := (mkF m 55 #[.val (.int n1), .val (.int n2), .val (.int n3), .val (.int n4), .val (.int q), .val (.int k), .val (.double (FP.i2d k)), .second, .val (.ref b14), .val (.double (own_f (FP.i2d k) (1 : Int32))), .second, .val (.double (own_f (FP.i2d k) q)), .second, .unset, .unset, .unset, .unset, .unset, .unset, .unset, .unset, .unset, .unset, .unset, .unset, .unset, .unset, .unset] [(.int q)])) rfl (hb hby at_55)) ?_
  by_cases hc18 : q < (2147483647 : Int32)
  · refine OWW.st (B := T17.setTop (mkF m 60 #[.val (.int n1), .val (.int n2), .val (.int n3), .val (.int n4), .val (.int q), .val (.int k), .val (.double (FP.i2d k)), .second, .val (.ref b14), .val (.double (own_f (FP.i2d k) (1 : Int32))), .second, .val (.double (own_f (FP.i2d k) q)), .second, .unset, .unset, .unset, .unset, .unset, .unset, .unset, .unset, .unset, .unset, .unset, .unset, .unset, .unset, .unset] [])) (fun _ kk_ => XS.icmpNo X17.here hx rfl (hb hby at_57) rfl (tlt hc18).2.1 kk_) ?_
    refine OWW.st (B := T17.setTop (mkF m 62 #[.val (.int n1), .val (.int n2), .val (.int n3), .val (.int n4), .val (.int q), .val (.int k), .val (.double (FP.i2d k)), .second, .val (.ref b14), .val (.double (own_f (FP.i2d k) (1 : Int32))), .second, .val (.double (own_f (FP.i2d k) q)), .second, .unset, .unset, .unset, .unset, .unset, .unset, .unset, .unset, .unset, .unset, .unset, .unset, .unset, .unset, .unset] [(.int q)])) (fun _ kk_ => XS.iload X17.here hx rfl (hb hby at_60) rfl kk_) ?_
    refine OWW.st (B := T17.setTop (mkF m 63 #[.val (.int n1), .val (.int n2), .val (.int n3), .val (.int n4), .val (.int q), .val (.int k), .val (.double (FP.i2d k)), .second, .val (.ref b14), .val (.double (own_f (FP.i2d k) (1 : Int32))), .second, .val (.double (own_f (FP.i2d k) q)), .second, .unset, .unset, .unset, .unset, .unset, .unset, .unset, .unset, .unset, .unset, .unset, .unset, .unset, .unset, .unset] [(.int (1 : Int32)), (.int q)])) (fun _ kk_ => XS.iconst X17.here hx rfl (hb hby at_62) kk_) ?_
    refine OWW.st (B := T17.setTop (mkF m 64 #[.val (.int n1), .val (.int n2), .val (.int n3), .val (.int n4), .val (.int q), .val (.int k), .val (.double (FP.i2d k)), .second, .val (.ref b14), .val (.double (own_f (FP.i2d k) (1 : Int32))), .second, .val (.double (own_f (FP.i2d k) q)), .second, .unset, .unset, .unset, .unset, .unset, .unset, .unset, .unset, .unset, .unset, .unset, .unset, .unset, .unset, .unset] [(.int (q + (1 : Int32)))])) (fun _ kk_ => XS.iadd X17.here hx rfl (hb hby at_63) rfl kk_) ?_
    refine OWW.st (B := T17.setTop (mkF m 69 #[.val (.int n1), .val (.int n2), .val (.int n3), .val (.int n4), .val (.int q), .val (.int k), .val (.double (FP.i2d k)), .second, .val (.ref b14), .val (.double (own_f (FP.i2d k) (1 : Int32))), .second, .val (.double (own_f (FP.i2d k) q)), .second, .unset, .unset, .unset, .unset, .unset, .unset, .unset, .unset, .unset, .unset, .unset, .unset, .unset, .unset, .unset] [(.int (q + (1 : Int32)))])) (fun _ kk_ => XS.goto X17.here hx rfl (pc0 := 64) (pc' := 69) rfl (hb hby at_64) (by decide) (by decide) kk_) ?_
    refine OWW.st (B := T17.setTop (mkF m 71 #[.val (.int n1), .val (.int n2), .val (.int n3), .val (.int n4), .val (.int q), .val (.int k), .val (.double (FP.i2d k)), .second, .val (.ref b14), .val (.double (own_f (FP.i2d k) (1 : Int32))), .second, .val (.double (own_f (FP.i2d k) q)), .second, .val (.int (q + (1 : Int32))), .unset, .unset, .unset, .unset, .unset, .unset, .unset, .unset, .unset, .unset, .unset, .unset, .unset, .unset] [])) (fun _ kk_ => XS.istore X17.here hx rfl (hb hby at_69) rfl (l' := #[.val (.int n1), .val (.int n2), .val (.int n3), .val (.int n4), .val (.int q), .val (.int k), .val (.double (FP.i2d k)), .second, .val (.ref b14), .val (.double (own_f (FP.i2d k) (1 : Int32))), .second, .val (.double (own_f (FP.i2d k) q)), .second, .val (.int (q + (1 : Int32))), .unset, .unset, .unset, .unset, .unset, .unset, .unset, .unset, .unset, .unset, .unset, .unset, .unset, .unset]) rfl kk_) ?_
    refine OWW.st (B := T17.setTop (mkF m 73 #[.val (.int n1), .val (.int n2), .val (.int n3), .val (.int n4), .val (.int q), .val (.int k), .val (.double (FP.i2d k)), .second, .val (.ref b14), .val (.double (own_f (FP.i2d k) (1 : Int32))), .second, .val (.double (own_f (FP.i2d k) q)), .second, .val (.int (q + (1 : Int32))), .unset, .unset, .unset, .unset, .unset, .unset, .unset, .unset, .unset, .unset, .unset, .unset, .unset, .unset] [(.ref b14)])) (fun _ kk_ => XS.aload X17.here hx rfl (hb hby at_71) rfl rfl kk_) ?_
    refine OWW.st (B := T17.setTop (mkF m 75 #[.val (.int n1), .val (.int n2), .val (.int n3), .val (.int n4), .val (.int q), .val (.int k), .val (.double (FP.i2d k)), .second, .val (.ref b14), .val (.double (own_f (FP.i2d k) (1 : Int32))), .second, .val (.double (own_f (FP.i2d k) q)), .second, .val (.int (q + (1 : Int32))), .unset, .unset, .unset, .unset, .unset, .unset, .unset, .unset, .unset, .unset, .unset, .unset, .unset, .unset] [(.int (q + (1 : Int32))), (.ref b14)])) (fun _ kk_ => XS.iload X17.here hx rfl (hb hby at_73) rfl kk_) ?_
    obtain ⟨cq19, kq19, q19a, q19b, q19c⟩ := isOf hZ15 e17 Ei15
    obtain ⟨_, _, ⟨T19, L19, k19, n19⟩, -, X19, ⟨Lc19, hQ19, l19, y19, z19⟩, st19⟩ := X17.virtualBack hx (y := (⟨"com/example/graded_search/gradedsearch/engine/Bm25", "queryFactor", "(I)D"⟩ : MethodName)) (z := (⟨"com/example/graded_search/gradedsearch/engine/Bm25", "queryFactor", "(I)D"⟩ : MethodName)) hown15 (mvT hZ15 (w_40 hw)) (mvT hZ15 (w_41 hw)) (notFace_of_selects (args := #[]) (mvT hZ15 (w_43 hw))) (mvT hZ15 (w_43 hw)) (mvT hZ15 (w_42 hw)) (by decide) (backOf (W := 0) (rmQF l Z a0 hw [] b14 (FP.i2d k) (q + (1 : Int32)) T15.heap n0 O15 Fr15 (own_nI hk (Int.le_trans hq (own_q2 hc18)))) hZ15 (w_44 hw) (w_8 hw) (by decide) (by decide)) q19a q19c (g := (mkF m 75 #[.val (.int n1), .val (.int n2), .val (.int n3), .val (.int n4), .val (.int q), .val (.int k), .val (.double (FP.i2d k)), .second, .val (.ref b14), .val (.double (own_f (FP.i2d k) (1 : Int32))), .second, .val (.double (own_f (FP.i2d k) q)), .second, .val (.int (q + (1 : Int32))), .unset, .unset, .unset, .unset, .unset, .unset, .unset, .unset, .unset, .unset, .unset, .unset, .unset, .unset] [(.int (q + (1 : Int32))), (.ref b14)])) rfl (by rw [hml]; rfl) (Steps.refl _) (argsL := [(.int (q + (1 : Int32)))]) (rest := []) (lenOf pd_4 rfl) rfl (by show 2 * 0 + _ ≤ _; exact Nat.le_of_eq rfl) (hb hby at_75) (fun _ _ => ⟨rfl, e17, (by decide : 5 + 0 ≤ _), (by decide : 27 + 0 ≤ _)⟩)
    dsimp only [Pt.U, Pt.locs, Pt.cells, Pt.slots] at X19 l19 y19 z19 st19 hQ19
    subst l19 y19 z19
    obtain ⟨rfl, Nq19, e19⟩ := hQ19
    have N19 := Fr.app N17 Nq19
    refine OWW.tr (B := T19.setTop (mkF m 78 #[.val (.int n1), .val (.int n2), .val (.int n3), .val (.int n4), .val (.int q), .val (.int k), .val (.double (FP.i2d k)), .second, .val (.ref b14), .val (.double (own_f (FP.i2d k) (1 : Int32))), .second, .val (.double (own_f (FP.i2d k) q)), .second, .val (.int (q + (1 : Int32))), .unset, .unset, .unset, .unset, .unset, .unset, .unset, .unset, .unset, .unset, .unset, .unset, .unset, .unset] [(.double (own_f (FP.i2d k) (q + (1 : Int32))))])) (st19) ?_
    refine OWW.st (B := T19.setTop (mkF m 80 #[.val (.int n1), .val (.int n2), .val (.int n3), .val (.int n4), .val (.int q), .val (.int k), .val (.double (FP.i2d k)), .second, .val (.ref b14), .val (.double (own_f (FP.i2d k) (1 : Int32))), .second, .val (.double (own_f (FP.i2d k) q)), .second, .val (.int (q + (1 : Int32))), .val (.double (own_f (FP.i2d k) (q + (1 : Int32)))), .second, .unset, .unset, .unset, .unset, .unset, .unset, .unset, .unset, .unset, .unset, .unset, .unset] [])) (fun _ kk_ => XS.dstore X19.here hx rfl (hb hby at_78) rfl (l' := #[.val (.int n1), .val (.int n2), .val (.int n3), .val (.int n4), .val (.int q), .val (.int k), .val (.double (FP.i2d k)), .second, .val (.ref b14), .val (.double (own_f (FP.i2d k) (1 : Int32))), .second, .val (.double (own_f (FP.i2d k) q)), .second, .val (.int (q + (1 : Int32))), .val (.double (own_f (FP.i2d k) (q + (1 : Int32)))), .second, .unset, .unset, .unset, .unset, .unset, .unset, .unset, .unset, .unset, .unset, .unset, .unset]) rfl kk_) ?_
    refine OWW.st (B := T19.setTop (mkF m 82 #[.val (.int n1), .val (.int n2), .val (.int n3), .val (.int n4), .val (.int q), .val (.int k), .val (.double (FP.i2d k)), .second, .val (.ref b14), .val (.double (own_f (FP.i2d k) (1 : Int32))), .second, .val (.double (own_f (FP.i2d k) q)), .second, .val (.int (q + (1 : Int32))), .val (.double (own_f (FP.i2d k) (q + (1 : Int32)))), .second, .unset, .unset, .unset, .unset, .unset, .unset, .unset, .unset, .unset, .unset, .unset, .unset] [(.double (own_f (FP.i2d k) (1 : Int32)))])) (fun _ kk_ => XS.dload X19.here hx rfl (hb hby at_80) rfl kk_) ?_
    refine OWW.st (B := T19.setTop (mkF m 83 #[.val (.int n1), .val (.int n2), .val (.int n3), .val (.int n4), .val (.int q), .val (.int k), .val (.double (FP.i2d k)), .second, .val (.ref b14), .val (.double (own_f (FP.i2d k) (1 : Int32))), .second, .val (.double (own_f (FP.i2d k) q)), .second, .val (.int (q + (1 : Int32))), .val (.double (own_f (FP.i2d k) (q + (1 : Int32)))), .second, .unset, .unset, .unset, .unset, .unset, .unset, .unset, .unset, .unset, .unset, .unset, .unset] [(.double (4607182418800017408 : UInt64)), (.double (own_f (FP.i2d k) (1 : Int32)))])) (fun _ kk_ => XS.dconst1 X19.here hx rfl (hb hby at_82) rfl kk_) ?_
    refine OWW.st (B := T19.setTop (mkF m 84 #[.val (.int n1), .val (.int n2), .val (.int n3), .val (.int n4), .val (.int q), .val (.int k), .val (.double (FP.i2d k)), .second, .val (.ref b14), .val (.double (own_f (FP.i2d k) (1 : Int32))), .second, .val (.double (own_f (FP.i2d k) q)), .second, .val (.int (q + (1 : Int32))), .val (.double (own_f (FP.i2d k) (q + (1 : Int32)))), .second, .unset, .unset, .unset, .unset, .unset, .unset, .unset, .unset, .unset, .unset, .unset, .unset] [(.int (cmpValue (FP.dcmp (own_f (FP.i2d k) (1 : Int32)) (4607182418800017408 : UInt64)) .l))])) (fun _ kk_ => XS.dcmpS X19.here hx rfl (hb hby at_83) rfl rfl kk_) ?_
    refine OWW.st (B := T19.setTop (mkF m 87 #[.val (.int n1), .val (.int n2), .val (.int n3), .val (.int n4), .val (.int q), .val (.int k), .val (.double (FP.i2d k)), .second, .val (.ref b14), .val (.double (own_f (FP.i2d k) (1 : Int32))), .second, .val (.double (own_f (FP.i2d k) q)), .second, .val (.int (q + (1 : Int32))), .val (.double (own_f (FP.i2d k) (q + (1 : Int32)))), .second, .unset, .unset, .unset, .unset, .unset, .unset, .unset, .unset, .unset, .unset, .unset, .unset] [])) (fun _ kk_ => XS.ifNo X19.here hx rfl (hb hby at_84) rfl ((if0 _ _).trans (teq (own_c1 hk)).2) kk_) ?_
    refine OWW.st (B := T19.setTop (mkF m 88 #[.val (.int n1), .val (.int n2), .val (.int n3), .val (.int n4), .val (.int q), .val (.int k), .val (.double (FP.i2d k)), .second, .val (.ref b14), .val (.double (own_f (FP.i2d k) (1 : Int32))), .second, .val (.double (own_f (FP.i2d k) q)), .second, .val (.int (q + (1 : Int32))), .val (.double (own_f (FP.i2d k) (q + (1 : Int32)))), .second, .unset, .unset, .unset, .unset, .unset, .unset, .unset, .unset, .unset, .unset, .unset, .unset] [(.double (4607182418800017408 : UInt64))])) (fun _ kk_ => XS.dconst1 X19.here hx rfl (hb hby at_87) rfl kk_) ?_
    refine OWW.st (B := T19.setTop (mkF m 90 #[.val (.int n1), .val (.int n2), .val (.int n3), .val (.int n4), .val (.int q), .val (.int k), .val (.double (FP.i2d k)), .second, .val (.ref b14), .val (.double (own_f (FP.i2d k) (1 : Int32))), .second, .val (.double (own_f (FP.i2d k) q)), .second, .val (.int (q + (1 : Int32))), .val (.double (own_f (FP.i2d k) (q + (1 : Int32)))), .second, .unset, .unset, .unset, .unset, .unset, .unset, .unset, .unset, .unset, .unset, .unset, .unset] [(.double (own_f (FP.i2d k) q)), (.double (4607182418800017408 : UInt64))])) (fun _ kk_ => XS.dload X19.here hx rfl (hb hby at_88) rfl kk_) ?_
    refine OWW.st (B := T19.setTop (mkF m 91 #[.val (.int n1), .val (.int n2), .val (.int n3), .val (.int n4), .val (.int q), .val (.int k), .val (.double (FP.i2d k)), .second, .val (.ref b14), .val (.double (own_f (FP.i2d k) (1 : Int32))), .second, .val (.double (own_f (FP.i2d k) q)), .second, .val (.int (q + (1 : Int32))), .val (.double (own_f (FP.i2d k) (q + (1 : Int32)))), .second, .unset, .unset, .unset, .unset, .unset, .unset, .unset, .unset, .unset, .unset, .unset, .unset] [(.int (cmpValue (FP.dcmp (4607182418800017408 : UInt64) (own_f (FP.i2d k) q)) .g))])) (fun _ kk_ => XS.dcmpS X19.here hx rfl (hb hby at_90) rfl rfl kk_) ?_
    refine OWW.st (B := T19.setTop (mkF m 94 #[.val (.int n1), .val (.int n2), .val (.int n3), .val (.int n4), .val (.int q), .val (.int k), .val (.double (FP.i2d k)), .second, .val (.ref b14), .val (.double (own_f (FP.i2d k) (1 : Int32))), .second, .val (.double (own_f (FP.i2d k) q)), .second, .val (.int (q + (1 : Int32))), .val (.double (own_f (FP.i2d k) (q + (1 : Int32)))), .second, .unset, .unset, .unset, .unset, .unset, .unset, .unset, .unset, .unset, .unset, .unset, .unset] [])) (fun _ kk_ => XS.ifNo X19.here hx rfl (hb hby at_91) rfl ((if0 _ _).trans (flt (own_c2 hk hq)).2.2.1) kk_) ?_
    refine OWW.st (B := T19.setTop (mkF m 96 #[.val (.int n1), .val (.int n2), .val (.int n3), .val (.int n4), .val (.int q), .val (.int k), .val (.double (FP.i2d k)), .second, .val (.ref b14), .val (.double (own_f (FP.i2d k) (1 : Int32))), .second, .val (.double (own_f (FP.i2d k) q)), .second, .val (.int (q + (1 : Int32))), .val (.double (own_f (FP.i2d k) (q + (1 : Int32)))), .second, .unset, .unset, .unset, .unset, .unset, .unset, .unset, .unset, .unset, .unset, .unset, .unset] [(.double (own_f (FP.i2d k) q))])) (fun _ kk_ => XS.dload X19.here hx rfl (hb hby at_94) rfl kk_) ?_
    refine OWW.st (B := T19.setTop (mkF m 98 #[.val (.int n1), .val (.int n2), .val (.int n3), .val (.int n4), .val (.int q), .val (.int k), .val (.double (FP.i2d k)), .second, .val (.ref b14), .val (.double (own_f (FP.i2d k) (1 : Int32))), .second, .val (.double (own_f (FP.i2d k) q)), .second, .val (.int (q + (1 : Int32))), .val (.double (own_f (FP.i2d k) (q + (1 : Int32)))), .second, .unset, .unset, .unset, .unset, .unset, .unset, .unset, .unset, .unset, .unset, .unset, .unset] [(.int q), (.double (own_f (FP.i2d k) q))])) (fun _ kk_ => XS.iload X19.here hx rfl (hb hby at_96) rfl kk_) ?_
    refine OWW.st (B := T19.setTop (mkF m 99 #[.val (.int n1), .val (.int n2), .val (.int n3), .val (.int n4), .val (.int q), .val (.int k), .val (.double (FP.i2d k)), .second, .val (.ref b14), .val (.double (own_f (FP.i2d k) (1 : Int32))), .second, .val (.double (own_f (FP.i2d k) q)), .second, .val (.int (q + (1 : Int32))), .val (.double (own_f (FP.i2d k) (q + (1 : Int32)))), .second, .unset, .unset, .unset, .unset, .unset, .unset, .unset, .unset, .unset, .unset, .unset, .unset] [(.double (FP.i2d q)), (.double (own_f (FP.i2d k) q))])) (fun _ kk_ => XS.i2dS X19.here hx rfl (hb hby at_98) rfl rfl kk_) ?_
    refine OWW.st (B := T19.setTop (mkF m 100 #[.val (.int n1), .val (.int n2), .val (.int n3), .val (.int n4), .val (.int q), .val (.int k), .val (.double (FP.i2d k)), .second, .val (.ref b14), .val (.double (own_f (FP.i2d k) (1 : Int32))), .second, .val (.double (own_f (FP.i2d k) q)), .second, .val (.int (q + (1 : Int32))), .val (.double (own_f (FP.i2d k) (q + (1 : Int32)))), .second, .unset, .unset, .unset, .unset, .unset, .unset, .unset, .unset, .unset, .unset, .unset, .unset] [(.int (cmpValue (FP.dcmp (own_f (FP.i2d k) q) (FP.i2d q)) .g))])) (fun _ kk_ => XS.dcmpS X19.here hx rfl (hb hby at_99) rfl rfl kk_) ?_
    refine OWW.st (B := T19.setTop (mkF m 103 #[.val (.int n1), .val (.int n2), .val (.int n3), .val (.int n4), .val (.int q), .val (.int k), .val (.double (FP.i2d k)), .second, .val (.ref b14), .val (.double (own_f (FP.i2d k) (1 : Int32))), .second, .val (.double (own_f (FP.i2d k) q)), .second, .val (.int (q + (1 : Int32))), .val (.double (own_f (FP.i2d k) (q + (1 : Int32)))), .second, .unset, .unset, .unset, .unset, .unset, .unset, .unset, .unset, .unset, .unset, .unset, .unset] [])) (fun _ kk_ => XS.ifNo X19.here hx rfl (hb hby at_100) rfl ((if0 _ _).trans (flt (own_c3 hk hq)).2.2.1) kk_) ?_
    refine OWW.st (B := T19.setTop (mkF m 105 #[.val (.int n1), .val (.int n2), .val (.int n3), .val (.int n4), .val (.int q), .val (.int k), .val (.double (FP.i2d k)), .second, .val (.ref b14), .val (.double (own_f (FP.i2d k) (1 : Int32))), .second, .val (.double (own_f (FP.i2d k) q)), .second, .val (.int (q + (1 : Int32))), .val (.double (own_f (FP.i2d k) (q + (1 : Int32)))), .second, .unset, .unset, .unset, .unset, .unset, .unset, .unset, .unset, .unset, .unset, .unset, .unset] [(.double (own_f (FP.i2d k) q))])) (fun _ kk_ => XS.dload X19.here hx rfl (hb hby at_103) rfl kk_) ?_
    refine OWW.st (B := T19.setTop (mkF m 107 #[.val (.int n1), .val (.int n2), .val (.int n3), .val (.int n4), .val (.int q), .val (.int k), .val (.double (FP.i2d k)), .second, .val (.ref b14), .val (.double (own_f (FP.i2d k) (1 : Int32))), .second, .val (.double (own_f (FP.i2d k) q)), .second, .val (.int (q + (1 : Int32))), .val (.double (own_f (FP.i2d k) (q + (1 : Int32)))), .second, .unset, .unset, .unset, .unset, .unset, .unset, .unset, .unset, .unset, .unset, .unset, .unset] [(.double (FP.i2d k)), (.double (own_f (FP.i2d k) q))])) (fun _ kk_ => XS.dload X19.here hx rfl (hb hby at_105) rfl kk_) ?_
    refine OWW.st (B := T19.setTop (mkF m 108 #[.val (.int n1), .val (.int n2), .val (.int n3), .val (.int n4), .val (.int q), .val (.int k), .val (.double (FP.i2d k)), .second, .val (.ref b14), .val (.double (own_f (FP.i2d k) (1 : Int32))), .second, .val (.double (own_f (FP.i2d k) q)), .second, .val (.int (q + (1 : Int32))), .val (.double (own_f (FP.i2d k) (q + (1 : Int32)))), .second, .unset, .unset, .unset, .unset, .unset, .unset, .unset, .unset, .unset, .unset, .unset, .unset] [(.double (4607182418800017408 : UInt64)), (.double (FP.i2d k)), (.double (own_f (FP.i2d k) q))])) (fun _ kk_ => XS.dconst1 X19.here hx rfl (hb hby at_107) rfl kk_) ?_
    refine OWW.st (B := T19.setTop (mkF m 109 #[.val (.int n1), .val (.int n2), .val (.int n3), .val (.int n4), .val (.int q), .val (.int k), .val (.double (FP.i2d k)), .second, .val (.ref b14), .val (.double (own_f (FP.i2d k) (1 : Int32))), .second, .val (.double (own_f (FP.i2d k) q)), .second, .val (.int (q + (1 : Int32))), .val (.double (own_f (FP.i2d k) (q + (1 : Int32)))), .second, .unset, .unset, .unset, .unset, .unset, .unset, .unset, .unset, .unset, .unset, .unset, .unset] [(.double (FP.dadd (FP.i2d k) (4607182418800017408 : UInt64))), (.double (own_f (FP.i2d k) q))])) (fun _ kk_ => XS.daddS X19.here hx rfl (hb hby at_108) rfl (own_a1 hk).nn rfl kk_) ?_
    refine OWW.st (B := T19.setTop (mkF m 110 #[.val (.int n1), .val (.int n2), .val (.int n3), .val (.int n4), .val (.int q), .val (.int k), .val (.double (FP.i2d k)), .second, .val (.ref b14), .val (.double (own_f (FP.i2d k) (1 : Int32))), .second, .val (.double (own_f (FP.i2d k) q)), .second, .val (.int (q + (1 : Int32))), .val (.double (own_f (FP.i2d k) (q + (1 : Int32)))), .second, .unset, .unset, .unset, .unset, .unset, .unset, .unset, .unset, .unset, .unset, .unset, .unset] [(.int (cmpValue (FP.dcmp (own_f (FP.i2d k) q) (FP.dadd (FP.i2d k) (4607182418800017408 : UInt64))) .g))])) (fun _ kk_ => XS.dcmpS X19.here hx rfl (hb hby at_109) rfl rfl kk_) ?_
    refine OWW.st (B := T19.setTop (mkF m 113 #[.val (.int n1), .val (.int n2), .val (.int n3), .val (.int n4), .val (.int q), .val (.int k), .val (.double (FP.i2d k)), .second, .val (.ref b14), .val (.double (own_f (FP.i2d k) (1 : Int32))), .second, .val (.double (own_f (FP.i2d k) q)), .second, .val (.int (q + (1 : Int32))), .val (.double (own_f (FP.i2d k) (q + (1 : Int32)))), .second, .unset, .unset, .unset, .unset, .unset, .unset, .unset, .unset, .unset, .unset, .unset, .unset] [])) (fun _ kk_ => XS.ifNo X19.here hx rfl (hb hby at_110) rfl ((if0 _ _).trans (flt (own_c4 hk hq)).2.2.1) kk_) ?_
    refine OWW.st (B := T19.setTop (mkF m 115 #[.val (.int n1), .val (.int n2), .val (.int n3), .val (.int n4), .val (.int q), .val (.int k), .val (.double (FP.i2d k)), .second, .val (.ref b14), .val (.double (own_f (FP.i2d k) (1 : Int32))), .second, .val (.double (own_f (FP.i2d k) q)), .second, .val (.int (q + (1 : Int32))), .val (.double (own_f (FP.i2d k) (q + (1 : Int32)))), .second, .unset, .unset, .unset, .unset, .unset, .unset, .unset, .unset, .unset, .unset, .unset, .unset] [(.double (own_f (FP.i2d k) q))])) (fun _ kk_ => XS.dload X19.here hx rfl (hb hby at_113) rfl kk_) ?_
    refine OWW.st (B := T19.setTop (mkF m 117 #[.val (.int n1), .val (.int n2), .val (.int n3), .val (.int n4), .val (.int q), .val (.int k), .val (.double (FP.i2d k)), .second, .val (.ref b14), .val (.double (own_f (FP.i2d k) (1 : Int32))), .second, .val (.double (own_f (FP.i2d k) q)), .second, .val (.int (q + (1 : Int32))), .val (.double (own_f (FP.i2d k) (q + (1 : Int32)))), .second, .unset, .unset, .unset, .unset, .unset, .unset, .unset, .unset, .unset, .unset, .unset, .unset] [(.double (own_f (FP.i2d k) (q + (1 : Int32)))), (.double (own_f (FP.i2d k) q))])) (fun _ kk_ => XS.dload X19.here hx rfl (hb hby at_115) rfl kk_) ?_
    refine OWW.st (B := T19.setTop (mkF m 118 #[.val (.int n1), .val (.int n2), .val (.int n3), .val (.int n4), .val (.int q), .val (.int k), .val (.double (FP.i2d k)), .second, .val (.ref b14), .val (.double (own_f (FP.i2d k) (1 : Int32))), .second, .val (.double (own_f (FP.i2d k) q)), .second, .val (.int (q + (1 : Int32))), .val (.double (own_f (FP.i2d k) (q + (1 : Int32)))), .second, .unset, .unset, .unset, .unset, .unset, .unset, .unset, .unset, .unset, .unset, .unset, .unset] [(.int (cmpValue (FP.dcmp (own_f (FP.i2d k) q) (own_f (FP.i2d k) (q + (1 : Int32)))) .g))])) (fun _ kk_ => XS.dcmpS X19.here hx rfl (hb hby at_117) rfl rfl kk_) ?_
    refine OWW.st (B := T19.setTop (mkF m 121 #[.val (.int n1), .val (.int n2), .val (.int n3), .val (.int n4), .val (.int q), .val (.int k), .val (.double (FP.i2d k)), .second, .val (.ref b14), .val (.double (own_f (FP.i2d k) (1 : Int32))), .second, .val (.double (own_f (FP.i2d k) q)), .second, .val (.int (q + (1 : Int32))), .val (.double (own_f (FP.i2d k) (q + (1 : Int32)))), .second, .unset, .unset, .unset, .unset, .unset, .unset, .unset, .unset, .unset, .unset, .unset, .unset] [])) (fun _ kk_ => XS.ifNo X19.here hx rfl (hb hby at_118) rfl ((if0 _ _).trans (flt (own_c5 hk hq (own_q2 hc18))).2.2.1) kk_) ?_
    refine OWW.st (B := T19.setTop (mkF m 122 #[.val (.int n1), .val (.int n2), .val (.int n3), .val (.int n4), .val (.int q), .val (.int k), .val (.double (FP.i2d k)), .second, .val (.ref b14), .val (.double (own_f (FP.i2d k) (1 : Int32))), .second, .val (.double (own_f (FP.i2d k) q)), .second, .val (.int (q + (1 : Int32))), .val (.double (own_f (FP.i2d k) (q + (1 : Int32)))), .second, .unset, .unset, .unset, .unset, .unset, .unset, .unset, .unset, .unset, .unset, .unset, .unset] [(.int (1 : Int32))])) (fun _ kk_ => XS.iconst X19.here hx rfl (hb hby at_121) kk_) ?_
    refine OWW.st (B := T19.setTop (mkF m 126 #[.val (.int n1), .val (.int n2), .val (.int n3), .val (.int n4), .val (.int q), .val (.int k), .val (.double (FP.i2d k)), .second, .val (.ref b14), .val (.double (own_f (FP.i2d k) (1 : Int32))), .second, .val (.double (own_f (FP.i2d k) q)), .second, .val (.int (q + (1 : Int32))), .val (.double (own_f (FP.i2d k) (q + (1 : Int32)))), .second, .unset, .unset, .unset, .unset, .unset, .unset, .unset, .unset, .unset, .unset, .unset, .unset] [(.int (1 : Int32))])) (fun _ kk_ => XS.goto X19.here hx rfl (pc0 := 122) (pc' := 126) rfl (hb hby at_122) (by decide) (by decide) kk_) ?_
    refine OWW.st (B := T19.setTop (mkF m 128 #[.val (.int n1), .val (.int n2), .val (.int n3), .val (.int n4), .val (.int q), .val (.int k), .val (.double (FP.i2d k)), .second, .val (.ref b14), .val (.double (own_f (FP.i2d k) (1 : Int32))), .second, .val (.double (own_f (FP.i2d k) q)), .second, .val (.int (q + (1 : Int32))), .val (.double (own_f (FP.i2d k) (q + (1 : Int32)))), .second, .val (.int (1 : Int32)), .unset, .unset, .unset, .unset, .unset, .unset, .unset, .unset, .unset, .unset, .unset] [])) (fun _ kk_ => XS.istore X19.here hx rfl (hb hby at_126) rfl (l' := #[.val (.int n1), .val (.int n2), .val (.int n3), .val (.int n4), .val (.int q), .val (.int k), .val (.double (FP.i2d k)), .second, .val (.ref b14), .val (.double (own_f (FP.i2d k) (1 : Int32))), .second, .val (.double (own_f (FP.i2d k) q)), .second, .val (.int (q + (1 : Int32))), .val (.double (own_f (FP.i2d k) (q + (1 : Int32)))), .second, .val (.int (1 : Int32)), .unset, .unset, .unset, .unset, .unset, .unset, .unset, .unset, .unset, .unset, .unset]) rfl kk_) ?_
    refine OWW.st (B := T19.setTop (mkF m 129 #[.val (.int n1), .val (.int n2), .val (.int n3), .val (.int n4), .val (.int q), .val (.int k), .val (.double (FP.i2d k)), .second, .val (.ref b14), .val (.double (own_f (FP.i2d k) (1 : Int32))), .second, .val (.double (own_f (FP.i2d k) q)), .second, .val (.int (q + (1 : Int32))), .val (.double (own_f (FP.i2d k) (q + (1 : Int32)))), .second, .val (.int (1 : Int32)), .unset, .unset, .unset, .unset, .unset, .unset, .unset, .unset, .unset, .unset, .unset] [(.int (1 : Int32))])) (fun _ kk_ => XS.iconst X19.here hx rfl (hb hby at_128) kk_) ?_
    refine OWW.st (B := T19.setTop (mkF m 130 #[.val (.int n1), .val (.int n2), .val (.int n3), .val (.int n4), .val (.int q), .val (.int k), .val (.double (FP.i2d k)), .second, .val (.ref b14), .val (.double (own_f (FP.i2d k) (1 : Int32))), .second, .val (.double (own_f (FP.i2d k) q)), .second, .val (.int (q + (1 : Int32))), .val (.double (own_f (FP.i2d k) (q + (1 : Int32)))), .second, .val (.int (1 : Int32)), .unset, .unset, .unset, .unset, .unset, .unset, .unset, .unset, .unset, .unset, .unset] [(.int n3), (.int (1 : Int32))])) (fun _ kk_ => XS.iloadN X19.here hx rfl (hb hby at_129) rfl kk_) ?_
    refine OWW.st (B := T19.setTop (mkF m 133 #[.val (.int n1), .val (.int n2), .val (.int n3), .val (.int n4), .val (.int q), .val (.int k), .val (.double (FP.i2d k)), .second, .val (.ref b14), .val (.double (own_f (FP.i2d k) (1 : Int32))), .second, .val (.double (own_f (FP.i2d k) q)), .second, .val (.int (q + (1 : Int32))), .val (.double (own_f (FP.i2d k) (q + (1 : Int32)))), .second, .val (.int (1 : Int32)), .unset, .unset, .unset, .unset, .unset, .unset, .unset, .unset, .unset, .unset, .unset] [(.int (1023 : Int32)), (.int n3), (.int (1 : Int32))])) (fun _ kk_ => XS.sipush X19.here hx rfl (hb hby at_130) kk_) ?_
    refine OWW.st (B := T19.setTop (mkF m 134 #[.val (.int n1), .val (.int n2), .val (.int n3), .val (.int n4), .val (.int q), .val (.int k), .val (.double (FP.i2d k)), .second, .val (.ref b14), .val (.double (own_f (FP.i2d k) (1 : Int32))), .second, .val (.double (own_f (FP.i2d k) q)), .second, .val (.int (q + (1 : Int32))), .val (.double (own_f (FP.i2d k) (q + (1 : Int32)))), .second, .val (.int (1 : Int32)), .unset, .unset, .unset, .unset, .unset, .unset, .unset, .unset, .unset, .unset, .unset] [(.int (n3 &&& (1023 : Int32))), (.int (1 : Int32))])) (fun _ kk_ => XS.iand X19.here hx rfl (hb hby at_133) rfl kk_) ?_
    refine OWW.st (B := T19.setTop (mkF m 135 #[.val (.int n1), .val (.int n2), .val (.int n3), .val (.int n4), .val (.int q), .val (.int k), .val (.double (FP.i2d k)), .second, .val (.ref b14), .val (.double (own_f (FP.i2d k) (1 : Int32))), .second, .val (.double (own_f (FP.i2d k) q)), .second, .val (.int (q + (1 : Int32))), .val (.double (own_f (FP.i2d k) (q + (1 : Int32)))), .second, .val (.int (1 : Int32)), .unset, .unset, .unset, .unset, .unset, .unset, .unset, .unset, .unset, .unset, .unset] [(.int ((1 : Int32) + (n3 &&& (1023 : Int32))))])) (fun _ kk_ => XS.iadd X19.here hx rfl (hb hby at_134) rfl kk_) ?_
    suffices J : ∀ si : Int32, (1 ≤ si.toInt ∧ si.toInt ≤ 1024) → OWW p e below s (Q0 Z n1 n2 n3 n4 h0 n0) 10 54 (T19.setTop (mkF m 135 #[.val (.int n1), .val (.int n2), .val (.int n3), .val (.int n4), .val (.int q), .val (.int k), .val (.double (FP.i2d k)), .second, .val (.ref b14), .val (.double (own_f (FP.i2d k) (1 : Int32))), .second, .val (.double (own_f (FP.i2d k) q)), .second, .val (.int (q + (1 : Int32))), .val (.double (own_f (FP.i2d k) (q + (1 : Int32)))), .second, .val (.int (1 : Int32)), .unset, .unset, .unset, .unset, .unset, .unset, .unset, .unset, .unset, .unset, .unset] [(.int si)])) from J _ (own_s n3)
    intro si hs
    refine OWW.st (B := T19.setTop (mkF m 137 #[.val (.int n1), .val (.int n2), .val (.int n3), .val (.int n4), .val (.int q), .val (.int k), .val (.double (FP.i2d k)), .second, .val (.ref b14), .val (.double (own_f (FP.i2d k) (1 : Int32))), .second, .val (.double (own_f (FP.i2d k) q)), .second, .val (.int (q + (1 : Int32))), .val (.double (own_f (FP.i2d k) (q + (1 : Int32)))), .second, .val (.int (1 : Int32)), .val (.int si), .unset, .unset, .unset, .unset, .unset, .unset, .unset, .unset, .unset, .unset] [])) (fun _ kk_ => XS.istore X19.here hx rfl (hb hby at_135) rfl (l' := #[.val (.int n1), .val (.int n2), .val (.int n3), .val (.int n4), .val (.int q), .val (.int k), .val (.double (FP.i2d k)), .second, .val (.ref b14), .val (.double (own_f (FP.i2d k) (1 : Int32))), .second, .val (.double (own_f (FP.i2d k) q)), .second, .val (.int (q + (1 : Int32))), .val (.double (own_f (FP.i2d k) (q + (1 : Int32)))), .second, .val (.int (1 : Int32)), .val (.int si), .unset, .unset, .unset, .unset, .unset, .unset, .unset, .unset, .unset, .unset]) rfl kk_) ?_
    refine OWW.st (B := T19.setTop (mkF m 138 #[.val (.int n1), .val (.int n2), .val (.int n3), .val (.int n4), .val (.int q), .val (.int k), .val (.double (FP.i2d k)), .second, .val (.ref b14), .val (.double (own_f (FP.i2d k) (1 : Int32))), .second, .val (.double (own_f (FP.i2d k) q)), .second, .val (.int (q + (1 : Int32))), .val (.double (own_f (FP.i2d k) (q + (1 : Int32)))), .second, .val (.int (1 : Int32)), .val (.int si), .unset, .unset, .unset, .unset, .unset, .unset, .unset, .unset, .unset, .unset] [(.int n4)])) (fun _ kk_ => XS.iloadN X19.here hx rfl (hb hby at_137) rfl kk_) ?_
    refine OWW.st (B := T19.setTop (mkF m 141 #[.val (.int n1), .val (.int n2), .val (.int n3), .val (.int n4), .val (.int q), .val (.int k), .val (.double (FP.i2d k)), .second, .val (.ref b14), .val (.double (own_f (FP.i2d k) (1 : Int32))), .second, .val (.double (own_f (FP.i2d k) q)), .second, .val (.int (q + (1 : Int32))), .val (.double (own_f (FP.i2d k) (q + (1 : Int32)))), .second, .val (.int (1 : Int32)), .val (.int si), .unset, .unset, .unset, .unset, .unset, .unset, .unset, .unset, .unset, .unset] [(.int (1023 : Int32)), (.int n4)])) (fun _ kk_ => XS.sipush X19.here hx rfl (hb hby at_138) kk_) ?_
    refine OWW.st (B := T19.setTop (mkF m 142 #[.val (.int n1), .val (.int n2), .val (.int n3), .val (.int n4), .val (.int q), .val (.int k), .val (.double (FP.i2d k)), .second, .val (.ref b14), .val (.double (own_f (FP.i2d k) (1 : Int32))), .second, .val (.double (own_f (FP.i2d k) q)), .second, .val (.int (q + (1 : Int32))), .val (.double (own_f (FP.i2d k) (q + (1 : Int32)))), .second, .val (.int (1 : Int32)), .val (.int si), .unset, .unset, .unset, .unset, .unset, .unset, .unset, .unset, .unset, .unset] [(.int (n4 &&& (1023 : Int32)))])) (fun _ kk_ => XS.iand X19.here hx rfl (hb hby at_141) rfl kk_) ?_
    suffices J : ∀ ti : Int32, (0 ≤ ti.toInt ∧ ti.toInt ≤ 1023) → OWW p e below s (Q0 Z n1 n2 n3 n4 h0 n0) 10 54 (T19.setTop (mkF m 142 #[.val (.int n1), .val (.int n2), .val (.int n3), .val (.int n4), .val (.int q), .val (.int k), .val (.double (FP.i2d k)), .second, .val (.ref b14), .val (.double (own_f (FP.i2d k) (1 : Int32))), .second, .val (.double (own_f (FP.i2d k) q)), .second, .val (.int (q + (1 : Int32))), .val (.double (own_f (FP.i2d k) (q + (1 : Int32)))), .second, .val (.int (1 : Int32)), .val (.int si), .unset, .unset, .unset, .unset, .unset, .unset, .unset, .unset, .unset, .unset] [(.int ti)])) from J _ (own_and n4 (by decide))
    intro ti ht
    refine OWW.st (B := T19.setTop (mkF m 144 #[.val (.int n1), .val (.int n2), .val (.int n3), .val (.int n4), .val (.int q), .val (.int k), .val (.double (FP.i2d k)), .second, .val (.ref b14), .val (.double (own_f (FP.i2d k) (1 : Int32))), .second, .val (.double (own_f (FP.i2d k) q)), .second, .val (.int (q + (1 : Int32))), .val (.double (own_f (FP.i2d k) (q + (1 : Int32)))), .second, .val (.int (1 : Int32)), .val (.int si), .val (.int ti), .unset, .unset, .unset, .unset, .unset, .unset, .unset, .unset, .unset] [])) (fun _ kk_ => XS.istore X19.here hx rfl (hb hby at_142) rfl (l' := #[.val (.int n1), .val (.int n2), .val (.int n3), .val (.int n4), .val (.int q), .val (.int k), .val (.double (FP.i2d k)), .second, .val (.ref b14), .val (.double (own_f (FP.i2d k) (1 : Int32))), .second, .val (.double (own_f (FP.i2d k) q)), .second, .val (.int (q + (1 : Int32))), .val (.double (own_f (FP.i2d k) (q + (1 : Int32)))), .second, .val (.int (1 : Int32)), .val (.int si), .val (.int ti), .unset, .unset, .unset, .unset, .unset, .unset, .unset, .unset, .unset]) rfl kk_) ?_
    have hst : OwnST si ti := ⟨hs, ht⟩
    refine OWW.st (B := T19.setTop (mkF m 146 #[.val (.int n1), .val (.int n2), .val (.int n3), .val (.int n4), .val (.int q), .val (.int k), .val (.double (FP.i2d k)), .second, .val (.ref b14), .val (.double (own_f (FP.i2d k) (1 : Int32))), .second, .val (.double (own_f (FP.i2d k) q)), .second, .val (.int (q + (1 : Int32))), .val (.double (own_f (FP.i2d k) (q + (1 : Int32)))), .second, .val (.int (1 : Int32)), .val (.int si), .val (.int ti), .unset, .unset, .unset, .unset, .unset, .unset, .unset, .unset, .unset] [(.int si)])) (fun _ kk_ => XS.iload X19.here hx rfl (hb hby at_144) rfl kk_) ?_
    refine OWW.st (B := T19.setTop (mkF m 148 #[.val (.int n1), .val (.int n2), .val (.int n3), .val (.int n4), .val (.int q), .val (.int k), .val (.double (FP.i2d k)), .second, .val (.ref b14), .val (.double (own_f (FP.i2d k) (1 : Int32))), .second, .val (.double (own_f (FP.i2d k) q)), .second, .val (.int (q + (1 : Int32))), .val (.double (own_f (FP.i2d k) (q + (1 : Int32)))), .second, .val (.int (1 : Int32)), .val (.int si), .val (.int ti), .unset, .unset, .unset, .unset, .unset, .unset, .unset, .unset, .unset] [(.int ti), (.int si)])) (fun _ kk_ => XS.iload X19.here hx rfl (hb hby at_146) rfl kk_) ?_
    refine OWW.st (B := T19.setTop (mkF m 149 #[.val (.int n1), .val (.int n2), .val (.int n3), .val (.int n4), .val (.int q), .val (.int k), .val (.double (FP.i2d k)), .second, .val (.ref b14), .val (.double (own_f (FP.i2d k) (1 : Int32))), .second, .val (.double (own_f (FP.i2d k) q)), .second, .val (.int (q + (1 : Int32))), .val (.double (own_f (FP.i2d k) (q + (1 : Int32)))), .second, .val (.int (1 : Int32)), .val (.int si), .val (.int ti), .unset, .unset, .unset, .unset, .unset, .unset, .unset, .unset, .unset] [(.int (si * ti))])) (fun _ kk_ => XS.imul X19.here hx rfl (hb hby at_148) rfl kk_) ?_
    refine OWW.st (B := T19.setTop (mkF m 150 #[.val (.int n1), .val (.int n2), .val (.int n3), .val (.int n4), .val (.int q), .val (.int k), .val (.double (FP.i2d k)), .second, .val (.ref b14), .val (.double (own_f (FP.i2d k) (1 : Int32))), .second, .val (.double (own_f (FP.i2d k) q)), .second, .val (.int (q + (1 : Int32))), .val (.double (own_f (FP.i2d k) (q + (1 : Int32)))), .second, .val (.int (1 : Int32)), .val (.int si), .val (.int ti), .unset, .unset, .unset, .unset, .unset, .unset, .unset, .unset, .unset] [(.int (1 : Int32)), (.int (si * ti))])) (fun _ kk_ => XS.iconst X19.here hx rfl (hb hby at_149) kk_) ?_
    refine OWW.st (B := T19.setTop (mkF m 151 #[.val (.int n1), .val (.int n2), .val (.int n3), .val (.int n4), .val (.int q), .val (.int k), .val (.double (FP.i2d k)), .second, .val (.ref b14), .val (.double (own_f (FP.i2d k) (1 : Int32))), .second, .val (.double (own_f (FP.i2d k) q)), .second, .val (.int (q + (1 : Int32))), .val (.double (own_f (FP.i2d k) (q + (1 : Int32)))), .second, .val (.int (1 : Int32)), .val (.int si), .val (.int ti), .unset, .unset, .unset, .unset, .unset, .unset, .unset, .unset, .unset] [(.int ((si * ti) + (1 : Int32)))])) (fun _ kk_ => XS.iadd X19.here hx rfl (hb hby at_150) rfl kk_) ?_
    suffices J : ∀ q3 : Int32, (q3.toInt = si.toInt * ti.toInt + 1) → OWW p e below s (Q0 Z n1 n2 n3 n4 h0 n0) 10 54 (T19.setTop (mkF m 151 #[.val (.int n1), .val (.int n2), .val (.int n3), .val (.int n4), .val (.int q), .val (.int k), .val (.double (FP.i2d k)), .second, .val (.ref b14), .val (.double (own_f (FP.i2d k) (1 : Int32))), .second, .val (.double (own_f (FP.i2d k) q)), .second, .val (.int (q + (1 : Int32))), .val (.double (own_f (FP.i2d k) (q + (1 : Int32)))), .second, .val (.int (1 : Int32)), .val (.int si), .val (.int ti), .unset, .unset, .unset, .unset, .unset, .unset, .unset, .unset, .unset] [(.int q3)])) from J _ (own_q3 hst)
    intro q3 hq3
    refine OWW.st (B := T19.setTop (mkF m 153 #[.val (.int n1), .val (.int n2), .val (.int n3), .val (.int n4), .val (.int q), .val (.int k), .val (.double (FP.i2d k)), .second, .val (.ref b14), .val (.double (own_f (FP.i2d k) (1 : Int32))), .second, .val (.double (own_f (FP.i2d k) q)), .second, .val (.int (q + (1 : Int32))), .val (.double (own_f (FP.i2d k) (q + (1 : Int32)))), .second, .val (.int (1 : Int32)), .val (.int si), .val (.int ti), .val (.int q3), .unset, .unset, .unset, .unset, .unset, .unset, .unset, .unset] [])) (fun _ kk_ => XS.istore X19.here hx rfl (hb hby at_151) rfl (l' := #[.val (.int n1), .val (.int n2), .val (.int n3), .val (.int n4), .val (.int q), .val (.int k), .val (.double (FP.i2d k)), .second, .val (.ref b14), .val (.double (own_f (FP.i2d k) (1 : Int32))), .second, .val (.double (own_f (FP.i2d k) q)), .second, .val (.int (q + (1 : Int32))), .val (.double (own_f (FP.i2d k) (q + (1 : Int32)))), .second, .val (.int (1 : Int32)), .val (.int si), .val (.int ti), .val (.int q3), .unset, .unset, .unset, .unset, .unset, .unset, .unset, .unset]) rfl kk_) ?_
    refine OWW.st (B := T19.setTop (mkF m 155 #[.val (.int n1), .val (.int n2), .val (.int n3), .val (.int n4), .val (.int q), .val (.int k), .val (.double (FP.i2d k)), .second, .val (.ref b14), .val (.double (own_f (FP.i2d k) (1 : Int32))), .second, .val (.double (own_f (FP.i2d k) q)), .second, .val (.int (q + (1 : Int32))), .val (.double (own_f (FP.i2d k) (q + (1 : Int32)))), .second, .val (.int (1 : Int32)), .val (.int si), .val (.int ti), .val (.int q3), .unset, .unset, .unset, .unset, .unset, .unset, .unset, .unset] [(.int q3)])) (fun _ kk_ => XS.iload X19.here hx rfl (hb hby at_153) rfl kk_) ?_
    refine OWW.st (B := T19.setTop (mkF m 156 #[.val (.int n1), .val (.int n2), .val (.int n3), .val (.int n4), .val (.int q), .val (.int k), .val (.double (FP.i2d k)), .second, .val (.ref b14), .val (.double (own_f (FP.i2d k) (1 : Int32))), .second, .val (.double (own_f (FP.i2d k) q)), .second, .val (.int (q + (1 : Int32))), .val (.double (own_f (FP.i2d k) (q + (1 : Int32)))), .second, .val (.int (1 : Int32)), .val (.int si), .val (.int ti), .val (.int q3), .unset, .unset, .unset, .unset, .unset, .unset, .unset, .unset] [(.long (q3.toInt64))])) (fun _ kk_ => XS.i2l X19.here hx rfl (hb hby at_155) rfl kk_) ?_
    refine OWW.st (B := T19.setTop (mkF m 158 #[.val (.int n1), .val (.int n2), .val (.int n3), .val (.int n4), .val (.int q), .val (.int k), .val (.double (FP.i2d k)), .second, .val (.ref b14), .val (.double (own_f (FP.i2d k) (1 : Int32))), .second, .val (.double (own_f (FP.i2d k) q)), .second, .val (.int (q + (1 : Int32))), .val (.double (own_f (FP.i2d k) (q + (1 : Int32)))), .second, .val (.int (1 : Int32)), .val (.int si), .val (.int ti), .val (.int q3), .unset, .unset, .unset, .unset, .unset, .unset, .unset, .unset] [(.int si), (.long (q3.toInt64))])) (fun _ kk_ => XS.iload X19.here hx rfl (hb hby at_156) rfl kk_) ?_
    refine OWW.st (B := T19.setTop (mkF m 159 #[.val (.int n1), .val (.int n2), .val (.int n3), .val (.int n4), .val (.int q), .val (.int k), .val (.double (FP.i2d k)), .second, .val (.ref b14), .val (.double (own_f (FP.i2d k) (1 : Int32))), .second, .val (.double (own_f (FP.i2d k) q)), .second, .val (.int (q + (1 : Int32))), .val (.double (own_f (FP.i2d k) (q + (1 : Int32)))), .second, .val (.int (1 : Int32)), .val (.int si), .val (.int ti), .val (.int q3), .unset, .unset, .unset, .unset, .unset, .unset, .unset, .unset] [(.int (1 : Int32)), (.int si), (.long (q3.toInt64))])) (fun _ kk_ => XS.iconst X19.here hx rfl (hb hby at_158) kk_) ?_
    refine OWW.st (B := T19.setTop (mkF m 160 #[.val (.int n1), .val (.int n2), .val (.int n3), .val (.int n4), .val (.int q), .val (.int k), .val (.double (FP.i2d k)), .second, .val (.ref b14), .val (.double (own_f (FP.i2d k) (1 : Int32))), .second, .val (.double (own_f (FP.i2d k) q)), .second, .val (.int (q + (1 : Int32))), .val (.double (own_f (FP.i2d k) (q + (1 : Int32)))), .second, .val (.int (1 : Int32)), .val (.int si), .val (.int ti), .val (.int q3), .unset, .unset, .unset, .unset, .unset, .unset, .unset, .unset] [(.int (si - (1 : Int32))), (.long (q3.toInt64))])) (fun _ kk_ => XS.isub X19.here hx rfl (hb hby at_159) rfl kk_) ?_
    refine OWW.st (B := T19.setTop (mkF m 161 #[.val (.int n1), .val (.int n2), .val (.int n3), .val (.int n4), .val (.int q), .val (.int k), .val (.double (FP.i2d k)), .second, .val (.ref b14), .val (.double (own_f (FP.i2d k) (1 : Int32))), .second, .val (.double (own_f (FP.i2d k) q)), .second, .val (.int (q + (1 : Int32))), .val (.double (own_f (FP.i2d k) (q + (1 : Int32)))), .second, .val (.int (1 : Int32)), .val (.int si), .val (.int ti), .val (.int q3), .unset, .unset, .unset, .unset, .unset, .unset, .unset, .unset] [(.long ((si - (1 : Int32)).toInt64)), (.long (q3.toInt64))])) (fun _ kk_ => XS.i2l X19.here hx rfl (hb hby at_160) rfl kk_) ?_
    refine OWW.st (B := T19.setTop (mkF m 162 #[.val (.int n1), .val (.int n2), .val (.int n3), .val (.int n4), .val (.int q), .val (.int k), .val (.double (FP.i2d k)), .second, .val (.ref b14), .val (.double (own_f (FP.i2d k) (1 : Int32))), .second, .val (.double (own_f (FP.i2d k) q)), .second, .val (.int (q + (1 : Int32))), .val (.double (own_f (FP.i2d k) (q + (1 : Int32)))), .second, .val (.int (1 : Int32)), .val (.int si), .val (.int ti), .val (.int q3), .unset, .unset, .unset, .unset, .unset, .unset, .unset, .unset] [(.long ((q3.toInt64) * ((si - (1 : Int32)).toInt64)))])) (fun _ kk_ => XS.lmul X19.here hx rfl (hb hby at_161) rfl kk_) ?_
    suffices J : ∀ kb : Int64, (kb.toInt = q3.toInt * (si.toInt - 1)) → OWW p e below s (Q0 Z n1 n2 n3 n4 h0 n0) 10 54 (T19.setTop (mkF m 162 #[.val (.int n1), .val (.int n2), .val (.int n3), .val (.int n4), .val (.int q), .val (.int k), .val (.double (FP.i2d k)), .second, .val (.ref b14), .val (.double (own_f (FP.i2d k) (1 : Int32))), .second, .val (.double (own_f (FP.i2d k) q)), .second, .val (.int (q + (1 : Int32))), .val (.double (own_f (FP.i2d k) (q + (1 : Int32)))), .second, .val (.int (1 : Int32)), .val (.int si), .val (.int ti), .val (.int q3), .unset, .unset, .unset, .unset, .unset, .unset, .unset, .unset] [(.long kb)])) from J _ (own_kb hst hq3)
    intro kb hkb
    refine OWW.st (B := T19.setTop (mkF m 164 #[.val (.int n1), .val (.int n2), .val (.int n3), .val (.int n4), .val (.int q), .val (.int k), .val (.double (FP.i2d k)), .second, .val (.ref b14), .val (.double (own_f (FP.i2d k) (1 : Int32))), .second, .val (.double (own_f (FP.i2d k) q)), .second, .val (.int (q + (1 : Int32))), .val (.double (own_f (FP.i2d k) (q + (1 : Int32)))), .second, .val (.int (1 : Int32)), .val (.int si), .val (.int ti), .val (.int q3), .val (.long kb), .second, .unset, .unset, .unset, .unset, .unset, .unset] [])) (fun _ kk_ => XS.lstore X19.here hx rfl (hb hby at_162) rfl (l' := #[.val (.int n1), .val (.int n2), .val (.int n3), .val (.int n4), .val (.int q), .val (.int k), .val (.double (FP.i2d k)), .second, .val (.ref b14), .val (.double (own_f (FP.i2d k) (1 : Int32))), .second, .val (.double (own_f (FP.i2d k) q)), .second, .val (.int (q + (1 : Int32))), .val (.double (own_f (FP.i2d k) (q + (1 : Int32)))), .second, .val (.int (1 : Int32)), .val (.int si), .val (.int ti), .val (.int q3), .val (.long kb), .second, .unset, .unset, .unset, .unset, .unset, .unset]) rfl kk_) ?_
    refine OWW.st (B := T19.setTop (mkF m 166 #[.val (.int n1), .val (.int n2), .val (.int n3), .val (.int n4), .val (.int q), .val (.int k), .val (.double (FP.i2d k)), .second, .val (.ref b14), .val (.double (own_f (FP.i2d k) (1 : Int32))), .second, .val (.double (own_f (FP.i2d k) q)), .second, .val (.int (q + (1 : Int32))), .val (.double (own_f (FP.i2d k) (q + (1 : Int32)))), .second, .val (.int (1 : Int32)), .val (.int si), .val (.int ti), .val (.int q3), .val (.long kb), .second, .unset, .unset, .unset, .unset, .unset, .unset] [(.int ti)])) (fun _ kk_ => XS.iload X19.here hx rfl (hb hby at_164) rfl kk_) ?_
    refine OWW.st (B := T19.setTop (mkF m 167 #[.val (.int n1), .val (.int n2), .val (.int n3), .val (.int n4), .val (.int q), .val (.int k), .val (.double (FP.i2d k)), .second, .val (.ref b14), .val (.double (own_f (FP.i2d k) (1 : Int32))), .second, .val (.double (own_f (FP.i2d k) q)), .second, .val (.int (q + (1 : Int32))), .val (.double (own_f (FP.i2d k) (q + (1 : Int32)))), .second, .val (.int (1 : Int32)), .val (.int si), .val (.int ti), .val (.int q3), .val (.long kb), .second, .unset, .unset, .unset, .unset, .unset, .unset] [(.long (ti.toInt64))])) (fun _ kk_ => XS.i2l X19.here hx rfl (hb hby at_166) rfl kk_) ?_
    refine OWW.st (B := T19.setTop (mkF m 169 #[.val (.int n1), .val (.int n2), .val (.int n3), .val (.int n4), .val (.int q), .val (.int k), .val (.double (FP.i2d k)), .second, .val (.ref b14), .val (.double (own_f (FP.i2d k) (1 : Int32))), .second, .val (.double (own_f (FP.i2d k) q)), .second, .val (.int (q + (1 : Int32))), .val (.double (own_f (FP.i2d k) (q + (1 : Int32)))), .second, .val (.int (1 : Int32)), .val (.int si), .val (.int ti), .val (.int q3), .val (.long kb), .second, .unset, .unset, .unset, .unset, .unset, .unset] [(.int si), (.long (ti.toInt64))])) (fun _ kk_ => XS.iload X19.here hx rfl (hb hby at_167) rfl kk_) ?_
    refine OWW.st (B := T19.setTop (mkF m 170 #[.val (.int n1), .val (.int n2), .val (.int n3), .val (.int n4), .val (.int q), .val (.int k), .val (.double (FP.i2d k)), .second, .val (.ref b14), .val (.double (own_f (FP.i2d k) (1 : Int32))), .second, .val (.double (own_f (FP.i2d k) q)), .second, .val (.int (q + (1 : Int32))), .val (.double (own_f (FP.i2d k) (q + (1 : Int32)))), .second, .val (.int (1 : Int32)), .val (.int si), .val (.int ti), .val (.int q3), .val (.long kb), .second, .unset, .unset, .unset, .unset, .unset, .unset] [(.int (1 : Int32)), (.int si), (.long (ti.toInt64))])) (fun _ kk_ => XS.iconst X19.here hx rfl (hb hby at_169) kk_) ?_
    refine OWW.st (B := T19.setTop (mkF m 171 #[.val (.int n1), .val (.int n2), .val (.int n3), .val (.int n4), .val (.int q), .val (.int k), .val (.double (FP.i2d k)), .second, .val (.ref b14), .val (.double (own_f (FP.i2d k) (1 : Int32))), .second, .val (.double (own_f (FP.i2d k) q)), .second, .val (.int (q + (1 : Int32))), .val (.double (own_f (FP.i2d k) (q + (1 : Int32)))), .second, .val (.int (1 : Int32)), .val (.int si), .val (.int ti), .val (.int q3), .val (.long kb), .second, .unset, .unset, .unset, .unset, .unset, .unset] [(.int (si - (1 : Int32))), (.long (ti.toInt64))])) (fun _ kk_ => XS.isub X19.here hx rfl (hb hby at_170) rfl kk_) ?_
    refine OWW.st (B := T19.setTop (mkF m 172 #[.val (.int n1), .val (.int n2), .val (.int n3), .val (.int n4), .val (.int q), .val (.int k), .val (.double (FP.i2d k)), .second, .val (.ref b14), .val (.double (own_f (FP.i2d k) (1 : Int32))), .second, .val (.double (own_f (FP.i2d k) q)), .second, .val (.int (q + (1 : Int32))), .val (.double (own_f (FP.i2d k) (q + (1 : Int32)))), .second, .val (.int (1 : Int32)), .val (.int si), .val (.int ti), .val (.int q3), .val (.long kb), .second, .unset, .unset, .unset, .unset, .unset, .unset] [(.long ((si - (1 : Int32)).toInt64)), (.long (ti.toInt64))])) (fun _ kk_ => XS.i2l X19.here hx rfl (hb hby at_171) rfl kk_) ?_
    refine OWW.st (B := T19.setTop (mkF m 173 #[.val (.int n1), .val (.int n2), .val (.int n3), .val (.int n4), .val (.int q), .val (.int k), .val (.double (FP.i2d k)), .second, .val (.ref b14), .val (.double (own_f (FP.i2d k) (1 : Int32))), .second, .val (.double (own_f (FP.i2d k) q)), .second, .val (.int (q + (1 : Int32))), .val (.double (own_f (FP.i2d k) (q + (1 : Int32)))), .second, .val (.int (1 : Int32)), .val (.int si), .val (.int ti), .val (.int q3), .val (.long kb), .second, .unset, .unset, .unset, .unset, .unset, .unset] [(.long ((ti.toInt64) * ((si - (1 : Int32)).toInt64)))])) (fun _ kk_ => XS.lmul X19.here hx rfl (hb hby at_172) rfl kk_) ?_
    refine OWW.st (B := T19.setTop (mkF m 174 #[.val (.int n1), .val (.int n2), .val (.int n3), .val (.int n4), .val (.int q), .val (.int k), .val (.double (FP.i2d k)), .second, .val (.ref b14), .val (.double (own_f (FP.i2d k) (1 : Int32))), .second, .val (.double (own_f (FP.i2d k) q)), .second, .val (.int (q + (1 : Int32))), .val (.double (own_f (FP.i2d k) (q + (1 : Int32)))), .second, .val (.int (1 : Int32)), .val (.int si), .val (.int ti), .val (.int q3), .val (.long kb), .second, .unset, .unset, .unset, .unset, .unset, .unset] [(.long (1 : Int64)), (.long ((ti.toInt64) * ((si - (1 : Int32)).toInt64)))])) (fun _ kk_ => XS.lconst X19.here hx rfl (hb hby at_173) kk_) ?_
    refine OWW.st (B := T19.setTop (mkF m 175 #[.val (.int n1), .val (.int n2), .val (.int n3), .val (.int n4), .val (.int q), .val (.int k), .val (.double (FP.i2d k)), .second, .val (.ref b14), .val (.double (own_f (FP.i2d k) (1 : Int32))), .second, .val (.double (own_f (FP.i2d k) q)), .second, .val (.int (q + (1 : Int32))), .val (.double (own_f (FP.i2d k) (q + (1 : Int32)))), .second, .val (.int (1 : Int32)), .val (.int si), .val (.int ti), .val (.int q3), .val (.long kb), .second, .unset, .unset, .unset, .unset, .unset, .unset] [(.long (((ti.toInt64) * ((si - (1 : Int32)).toInt64)) + (1 : Int64)))])) (fun _ kk_ => XS.ladd X19.here hx rfl (hb hby at_174) rfl kk_) ?_
    suffices J : ∀ eb : Int64, (eb.toInt = ti.toInt * (si.toInt - 1) + 1) → OWW p e below s (Q0 Z n1 n2 n3 n4 h0 n0) 10 54 (T19.setTop (mkF m 175 #[.val (.int n1), .val (.int n2), .val (.int n3), .val (.int n4), .val (.int q), .val (.int k), .val (.double (FP.i2d k)), .second, .val (.ref b14), .val (.double (own_f (FP.i2d k) (1 : Int32))), .second, .val (.double (own_f (FP.i2d k) q)), .second, .val (.int (q + (1 : Int32))), .val (.double (own_f (FP.i2d k) (q + (1 : Int32)))), .second, .val (.int (1 : Int32)), .val (.int si), .val (.int ti), .val (.int q3), .val (.long kb), .second, .unset, .unset, .unset, .unset, .unset, .unset] [(.long eb)])) from J _ (own_eb hst)
    intro eb heb
    refine OWW.st (B := T19.setTop (mkF m 177 #[.val (.int n1), .val (.int n2), .val (.int n3), .val (.int n4), .val (.int q), .val (.int k), .val (.double (FP.i2d k)), .second, .val (.ref b14), .val (.double (own_f (FP.i2d k) (1 : Int32))), .second, .val (.double (own_f (FP.i2d k) q)), .second, .val (.int (q + (1 : Int32))), .val (.double (own_f (FP.i2d k) (q + (1 : Int32)))), .second, .val (.int (1 : Int32)), .val (.int si), .val (.int ti), .val (.int q3), .val (.long kb), .second, .val (.long eb), .second, .unset, .unset, .unset, .unset] [])) (fun _ kk_ => XS.lstore X19.here hx rfl (hb hby at_175) rfl (l' := #[.val (.int n1), .val (.int n2), .val (.int n3), .val (.int n4), .val (.int q), .val (.int k), .val (.double (FP.i2d k)), .second, .val (.ref b14), .val (.double (own_f (FP.i2d k) (1 : Int32))), .second, .val (.double (own_f (FP.i2d k) q)), .second, .val (.int (q + (1 : Int32))), .val (.double (own_f (FP.i2d k) (q + (1 : Int32)))), .second, .val (.int (1 : Int32)), .val (.int si), .val (.int ti), .val (.int q3), .val (.long kb), .second, .val (.long eb), .second, .unset, .unset, .unset, .unset]) rfl kk_) ?_
    obtain ⟨T20, h20, X20, e20, E20, A20, D20, -, st20⟩ := newO X19 hx hZ15 hown15 (w_6 hw) (w_7 hw) (w_8 hw) e19 (g := (mkF m 177 #[.val (.int n1), .val (.int n2), .val (.int n3), .val (.int n4), .val (.int q), .val (.int k), .val (.double (FP.i2d k)), .second, .val (.ref b14), .val (.double (own_f (FP.i2d k) (1 : Int32))), .second, .val (.double (own_f (FP.i2d k) q)), .second, .val (.int (q + (1 : Int32))), .val (.double (own_f (FP.i2d k) (q + (1 : Int32)))), .second, .val (.int (1 : Int32)), .val (.int si), .val (.int ti), .val (.int q3), .val (.long kb), .second, .val (.long eb), .second, .unset, .unset, .unset, .unset] [])) rfl (hb hby at_177) (by decide) (by decide)
    obtain ⟨b20, g20⟩ : ∃ z, z = T15.heap.size := ⟨_, rfl⟩
    rw [← g20] at A20 D20 st20
    have n_b20 : n0 ≤ b20 := Nat.le_trans (own_oldle O15) (Nat.le_of_eq g20.symm)
    have O20 : Old Z n0 h20 := O15.ext E20
    have F20_34 : Fld Z h20 b20 "com/example/graded_search/gradedsearch/engine/Bm25" "k1" "D" (.double 0) := D20 (Or.inr (w_34 hw)) (ty := .double) (by decide)
    have F20_36 : Fld Z h20 b20 "com/example/graded_search/gradedsearch/engine/Bm25" "b" "D" (.double 0) := D20 (Or.inr (w_36 hw)) (ty := .double) (by decide)
    have F20_39 : Fld Z h20 b20 "com/example/graded_search/gradedsearch/engine/Bm25" "k3" "D" (.double 0) := D20 (Or.inr (w_39 hw)) (ty := .double) (by decide)
    refine OWW.st (B := T20.setTop (mkF m 180 #[.val (.int n1), .val (.int n2), .val (.int n3), .val (.int n4), .val (.int q), .val (.int k), .val (.double (FP.i2d k)), .second, .val (.ref b14), .val (.double (own_f (FP.i2d k) (1 : Int32))), .second, .val (.double (own_f (FP.i2d k) q)), .second, .val (.int (q + (1 : Int32))), .val (.double (own_f (FP.i2d k) (q + (1 : Int32)))), .second, .val (.int (1 : Int32)), .val (.int si), .val (.int ti), .val (.int q3), .val (.long kb), .second, .val (.long eb), .second, .unset, .unset, .unset, .unset] [(.ref b20)])) (st20) ?_
    refine OWW.st (B := T20.setTop (mkF m 181 #[.val (.int n1), .val (.int n2), .val (.int n3), .val (.int n4), .val (.int q), .val (.int k), .val (.double (FP.i2d k)), .second, .val (.ref b14), .val (.double (own_f (FP.i2d k) (1 : Int32))), .second, .val (.double (own_f (FP.i2d k) q)), .second, .val (.int (q + (1 : Int32))), .val (.double (own_f (FP.i2d k) (q + (1 : Int32)))), .second, .val (.int (1 : Int32)), .val (.int si), .val (.int ti), .val (.int q3), .val (.long kb), .second, .val (.long eb), .second, .unset, .unset, .unset, .unset] [(.ref b20), (.ref b20)])) (fun _ kk_ => XS.dup X20.here hx rfl (hb hby at_180) rfl rfl kk_) ?_
    refine OWW.st (B := T20.setTop (mkF m 182 #[.val (.int n1), .val (.int n2), .val (.int n3), .val (.int n4), .val (.int q), .val (.int k), .val (.double (FP.i2d k)), .second, .val (.ref b14), .val (.double (own_f (FP.i2d k) (1 : Int32))), .second, .val (.double (own_f (FP.i2d k) q)), .second, .val (.int (q + (1 : Int32))), .val (.double (own_f (FP.i2d k) (q + (1 : Int32)))), .second, .val (.int (1 : Int32)), .val (.int si), .val (.int ti), .val (.int q3), .val (.long kb), .second, .val (.long eb), .second, .unset, .unset, .unset, .unset] [(.double (4607182418800017408 : UInt64)), (.ref b20), (.ref b20)])) (fun _ kk_ => XS.dconst1 X20.here hx rfl (hb hby at_181) rfl kk_) ?_
    refine OWW.st (B := T20.setTop (mkF m 185 #[.val (.int n1), .val (.int n2), .val (.int n3), .val (.int n4), .val (.int q), .val (.int k), .val (.double (FP.i2d k)), .second, .val (.ref b14), .val (.double (own_f (FP.i2d k) (1 : Int32))), .second, .val (.double (own_f (FP.i2d k) q)), .second, .val (.int (q + (1 : Int32))), .val (.double (own_f (FP.i2d k) (q + (1 : Int32)))), .second, .val (.int (1 : Int32)), .val (.int si), .val (.int ti), .val (.int q3), .val (.long kb), .second, .val (.long eb), .second, .unset, .unset, .unset, .unset] [(.double (4602678819172646912 : UInt64)), (.double (4607182418800017408 : UInt64)), (.ref b20), (.ref b20)])) (X20.ldc2DoubleC hx hown15 (mvT hZ15 (w_9 hw)) (g := (mkF m 182 #[.val (.int n1), .val (.int n2), .val (.int n3), .val (.int n4), .val (.int q), .val (.int k), .val (.double (FP.i2d k)), .second, .val (.ref b14), .val (.double (own_f (FP.i2d k) (1 : Int32))), .second, .val (.double (own_f (FP.i2d k) q)), .second, .val (.int (q + (1 : Int32))), .val (.double (own_f (FP.i2d k) (q + (1 : Int32)))), .second, .val (.int (1 : Int32)), .val (.int si), .val (.int ti), .val (.int q3), .val (.long kb), .second, .val (.long eb), .second, .unset, .unset, .unset, .unset] [(.double (4607182418800017408 : UInt64)), (.ref b20), (.ref b20)])) rfl (hb hby at_182)) ?_
    refine OWW.st (B := T20.setTop (mkF m 187 #[.val (.int n1), .val (.int n2), .val (.int n3), .val (.int n4), .val (.int q), .val (.int k), .val (.double (FP.i2d k)), .second, .val (.ref b14), .val (.double (own_f (FP.i2d k) (1 : Int32))), .second, .val (.double (own_f (FP.i2d k) q)), .second, .val (.int (q + (1 : Int32))), .val (.double (own_f (FP.i2d k) (q + (1 : Int32)))), .second, .val (.int (1 : Int32)), .val (.int si), .val (.int ti), .val (.int q3), .val (.long kb), .second, .val (.long eb), .second, .unset, .unset, .unset, .unset] [(.long kb), (.double (4602678819172646912 : UInt64)), (.double (4607182418800017408 : UInt64)), (.ref b20), (.ref b20)])) (fun _ kk_ => XS.lload X20.here hx rfl (hb hby at_185) rfl kk_) ?_
    refine OWW.st (B := T20.setTop (mkF m 188 #[.val (.int n1), .val (.int n2), .val (.int n3), .val (.int n4), .val (.int q), .val (.int k), .val (.double (FP.i2d k)), .second, .val (.ref b14), .val (.double (own_f (FP.i2d k) (1 : Int32))), .second, .val (.double (own_f (FP.i2d k) q)), .second, .val (.int (q + (1 : Int32))), .val (.double (own_f (FP.i2d k) (q + (1 : Int32)))), .second, .val (.int (1 : Int32)), .val (.int si), .val (.int ti), .val (.int q3), .val (.long kb), .second, .val (.long eb), .second, .unset, .unset, .unset, .unset] [(.double (FP.l2d kb)), (.double (4602678819172646912 : UInt64)), (.double (4607182418800017408 : UInt64)), (.ref b20), (.ref b20)])) (fun _ kk_ => XS.l2dS X20.here hx rfl (hb hby at_187) rfl rfl kk_) ?_
    obtain ⟨_, _, ⟨T21, L21, k21, n21⟩, -, X21, hs21, hsz21, ⟨Lc21, hQ21, l21, y21, z21⟩, st21⟩ := X20.specialBackS hx (y := (⟨"com/example/graded_search/gradedsearch/engine/Bm25", "<init>", "(DDD)V"⟩ : MethodName)) rfl hown15 (mvT hZ15 (w_10 hw)) (mvT hZ15 (w_11 hw)) (mvT hZ15 (w_12 hw)) (by decide) (backOfS (W := 1) (rmBI l Z a0 hw [] b20 (FP.l2d kb) h20 n0 O20 A20 F20_34 F20_36 F20_39 n_b20 (OwnG.of (OwnR.of (own_kbK hst hq3 hkb).1.lo (by have := (own_kbK hst hq3 hkb).2; omega)))) hZ15 (w_12 hw) (w_8 hw) (by decide) (by decide)) (g := (mkF m 188 #[.val (.int n1), .val (.int n2), .val (.int n3), .val (.int n4), .val (.int q), .val (.int k), .val (.double (FP.i2d k)), .second, .val (.ref b14), .val (.double (own_f (FP.i2d k) (1 : Int32))), .second, .val (.double (own_f (FP.i2d k) q)), .second, .val (.int (q + (1 : Int32))), .val (.double (own_f (FP.i2d k) (q + (1 : Int32)))), .second, .val (.int (1 : Int32)), .val (.int si), .val (.int ti), .val (.int q3), .val (.long kb), .second, .val (.long eb), .second, .unset, .unset, .unset, .unset] [(.double (FP.l2d kb)), (.double (4602678819172646912 : UInt64)), (.double (4607182418800017408 : UInt64)), (.ref b20), (.ref b20)])) rfl (by rw [hml]; rfl) (Steps.refl _) (a := b20) (argsL := [(.double (4607182418800017408 : UInt64)), (.double (4602678819172646912 : UInt64)), (.double (FP.l2d kb))]) (rest := [(.ref b20)]) (lenOf pd_3 rfl) rfl (by show 2 * 0 + _ ≤ _; exact Nat.le_of_eq rfl) (hb hby at_188) (fun _ _ => ⟨rfl, e20, (by decide : 6 + 4 ≤ _), (by decide : 30 + 24 ≤ _)⟩)
    dsimp only [Pt.U, Pt.locs, Pt.cells, Pt.slots] at hs21 hsz21
    have hS21 := foldS hS15 (show _ ≤ T20.heap.size by rw [e20]; exact (Nat.le_trans hk15 E20.1)) hs21 hsz21
    have hZ21 : Z.Warmed39 (s.setVm T21.vm).vm := State.Warmed39.trans (t := (s.setVm T15.vm)) hZ15 hs21.1
    have hown21 : (s.setVm T21.vm).vm.findClass "com/example/graded_search/gradedsearch/engine/Bm25QueryFactorPinLaw" = some m.cls := by rw [show (s.setVm T21.vm).vm = T21.vm from rfl, hs21.1.alike.findClass]; exact hown15
    dsimp only [Pt.U, Pt.locs, Pt.cells, Pt.slots] at X21 l21 y21 z21 st21 hQ21
    subst l21 y21 z21
    obtain ⟨rfl, Nq21, K21, Ei21, Fr21⟩ := hQ21
    have N21 := Fr.app N19 Nq21
    have O21 : Old Z n0 T21.heap := O20.keep K21 (allS n_b20 all0)
    have hk21 : T21.heap.size ≤ T21.heap.size := Nat.le_of_eq (by rfl)
    refine OWW.tr (B := T21.setTop (mkF m 191 #[.val (.int n1), .val (.int n2), .val (.int n3), .val (.int n4), .val (.int q), .val (.int k), .val (.double (FP.i2d k)), .second, .val (.ref b14), .val (.double (own_f (FP.i2d k) (1 : Int32))), .second, .val (.double (own_f (FP.i2d k) q)), .second, .val (.int (q + (1 : Int32))), .val (.double (own_f (FP.i2d k) (q + (1 : Int32)))), .second, .val (.int (1 : Int32)), .val (.int si), .val (.int ti), .val (.int q3), .val (.long kb), .second, .val (.long eb), .second, .unset, .unset, .unset, .unset] [(.ref b20)])) (st21) ?_
    refine OWW.st (B := T21.setTop (mkF m 193 #[.val (.int n1), .val (.int n2), .val (.int n3), .val (.int n4), .val (.int q), .val (.int k), .val (.double (FP.i2d k)), .second, .val (.ref b14), .val (.double (own_f (FP.i2d k) (1 : Int32))), .second, .val (.double (own_f (FP.i2d k) q)), .second, .val (.int (q + (1 : Int32))), .val (.double (own_f (FP.i2d k) (q + (1 : Int32)))), .second, .val (.int (1 : Int32)), .val (.int si), .val (.int ti), .val (.int q3), .val (.long kb), .second, .val (.long eb), .second, .val (.ref b20), .unset, .unset, .unset] [])) (fun _ kk_ => XS.astore X21.here hx rfl (hb hby at_191) rfl rfl (l' := #[.val (.int n1), .val (.int n2), .val (.int n3), .val (.int n4), .val (.int q), .val (.int k), .val (.double (FP.i2d k)), .second, .val (.ref b14), .val (.double (own_f (FP.i2d k) (1 : Int32))), .second, .val (.double (own_f (FP.i2d k) q)), .second, .val (.int (q + (1 : Int32))), .val (.double (own_f (FP.i2d k) (q + (1 : Int32)))), .second, .val (.int (1 : Int32)), .val (.int si), .val (.int ti), .val (.int q3), .val (.long kb), .second, .val (.long eb), .second, .val (.ref b20), .unset, .unset, .unset]) rfl kk_) ?_
    refine OWW.st (B := T21.setTop (mkF m 195 #[.val (.int n1), .val (.int n2), .val (.int n3), .val (.int n4), .val (.int q), .val (.int k), .val (.double (FP.i2d k)), .second, .val (.ref b14), .val (.double (own_f (FP.i2d k) (1 : Int32))), .second, .val (.double (own_f (FP.i2d k) q)), .second, .val (.int (q + (1 : Int32))), .val (.double (own_f (FP.i2d k) (q + (1 : Int32)))), .second, .val (.int (1 : Int32)), .val (.int si), .val (.int ti), .val (.int q3), .val (.long kb), .second, .val (.long eb), .second, .val (.ref b20), .unset, .unset, .unset] [(.ref b20)])) (fun _ kk_ => XS.aload X21.here hx rfl (hb hby at_193) rfl rfl kk_) ?_
    refine OWW.st (B := T21.setTop (mkF m 197 #[.val (.int n1), .val (.int n2), .val (.int n3), .val (.int n4), .val (.int q), .val (.int k), .val (.double (FP.i2d k)), .second, .val (.ref b14), .val (.double (own_f (FP.i2d k) (1 : Int32))), .second, .val (.double (own_f (FP.i2d k) q)), .second, .val (.int (q + (1 : Int32))), .val (.double (own_f (FP.i2d k) (q + (1 : Int32)))), .second, .val (.int (1 : Int32)), .val (.int si), .val (.int ti), .val (.int q3), .val (.long kb), .second, .val (.long eb), .second, .val (.ref b20), .unset, .unset, .unset] [(.int q3), (.ref b20)])) (fun _ kk_ => XS.iload X21.here hx rfl (hb hby at_195) rfl kk_) ?_
    obtain ⟨cq22, kq22, q22a, q22b, q22c⟩ := isOf hZ21 rfl Ei21
    obtain ⟨_, _, ⟨T22, L22, k22, n22⟩, -, X22, ⟨Lc22, hQ22, l22, y22, z22⟩, st22⟩ := X21.virtualBack hx (y := (⟨"com/example/graded_search/gradedsearch/engine/Bm25", "queryFactor", "(I)D"⟩ : MethodName)) (z := (⟨"com/example/graded_search/gradedsearch/engine/Bm25", "queryFactor", "(I)D"⟩ : MethodName)) hown21 (mvT hZ21 (w_40 hw)) (mvT hZ21 (w_41 hw)) (notFace_of_selects (args := #[]) (mvT hZ21 (w_43 hw))) (mvT hZ21 (w_43 hw)) (mvT hZ21 (w_42 hw)) (by decide) (backOf (W := 0) (rmQF l Z a0 hw [] b20 (FP.l2d kb) q3 T21.heap n0 O21 Fr21 ((own_kbK hst hq3 hkb).1.n (own_q3r hst hq3).1 (own_kbm hst hq3 hkb))) hZ21 (w_44 hw) (w_8 hw) (by decide) (by decide)) q22a q22c (g := (mkF m 197 #[.val (.int n1), .val (.int n2), .val (.int n3), .val (.int n4), .val (.int q), .val (.int k), .val (.double (FP.i2d k)), .second, .val (.ref b14), .val (.double (own_f (FP.i2d k) (1 : Int32))), .second, .val (.double (own_f (FP.i2d k) q)), .second, .val (.int (q + (1 : Int32))), .val (.double (own_f (FP.i2d k) (q + (1 : Int32)))), .second, .val (.int (1 : Int32)), .val (.int si), .val (.int ti), .val (.int q3), .val (.long kb), .second, .val (.long eb), .second, .val (.ref b20), .unset, .unset, .unset] [(.int q3), (.ref b20)])) rfl (by rw [hml]; rfl) (Steps.refl _) (argsL := [(.int q3)]) (rest := []) (lenOf pd_4 rfl) rfl (by show 2 * 0 + _ ≤ _; exact Nat.le_of_eq rfl) (hb hby at_197) (fun _ _ => ⟨rfl, rfl, (by decide : 10 + 0 ≤ _), (by decide : 54 + 0 ≤ _)⟩)
    dsimp only [Pt.U, Pt.locs, Pt.cells, Pt.slots] at X22 l22 y22 z22 st22 hQ22
    subst l22 y22 z22
    obtain ⟨rfl, Nq22, e22⟩ := hQ22
    have N22 := Fr.app N21 Nq22
    refine OWW.tr (B := T22.setTop (mkF m 200 #[.val (.int n1), .val (.int n2), .val (.int n3), .val (.int n4), .val (.int q), .val (.int k), .val (.double (FP.i2d k)), .second, .val (.ref b14), .val (.double (own_f (FP.i2d k) (1 : Int32))), .second, .val (.double (own_f (FP.i2d k) q)), .second, .val (.int (q + (1 : Int32))), .val (.double (own_f (FP.i2d k) (q + (1 : Int32)))), .second, .val (.int (1 : Int32)), .val (.int si), .val (.int ti), .val (.int q3), .val (.long kb), .second, .val (.long eb), .second, .val (.ref b20), .unset, .unset, .unset] [(.double (own_f (FP.l2d kb) q3))])) (st22) ?_
    refine OWW.st (B := T22.setTop (mkF m 202 #[.val (.int n1), .val (.int n2), .val (.int n3), .val (.int n4), .val (.int q), .val (.int k), .val (.double (FP.i2d k)), .second, .val (.ref b14), .val (.double (own_f (FP.i2d k) (1 : Int32))), .second, .val (.double (own_f (FP.i2d k) q)), .second, .val (.int (q + (1 : Int32))), .val (.double (own_f (FP.i2d k) (q + (1 : Int32)))), .second, .val (.int (1 : Int32)), .val (.int si), .val (.int ti), .val (.int q3), .val (.long kb), .second, .val (.long eb), .second, .val (.ref b20), .val (.double (own_f (FP.l2d kb) q3)), .second, .unset] [])) (fun _ kk_ => XS.dstore X22.here hx rfl (hb hby at_200) rfl (l' := #[.val (.int n1), .val (.int n2), .val (.int n3), .val (.int n4), .val (.int q), .val (.int k), .val (.double (FP.i2d k)), .second, .val (.ref b14), .val (.double (own_f (FP.i2d k) (1 : Int32))), .second, .val (.double (own_f (FP.i2d k) q)), .second, .val (.int (q + (1 : Int32))), .val (.double (own_f (FP.i2d k) (q + (1 : Int32)))), .second, .val (.int (1 : Int32)), .val (.int si), .val (.int ti), .val (.int q3), .val (.long kb), .second, .val (.long eb), .second, .val (.ref b20), .val (.double (own_f (FP.l2d kb) q3)), .second, .unset]) rfl kk_) ?_
    refine OWW.st (B := T22.setTop (mkF m 204 #[.val (.int n1), .val (.int n2), .val (.int n3), .val (.int n4), .val (.int q), .val (.int k), .val (.double (FP.i2d k)), .second, .val (.ref b14), .val (.double (own_f (FP.i2d k) (1 : Int32))), .second, .val (.double (own_f (FP.i2d k) q)), .second, .val (.int (q + (1 : Int32))), .val (.double (own_f (FP.i2d k) (q + (1 : Int32)))), .second, .val (.int (1 : Int32)), .val (.int si), .val (.int ti), .val (.int q3), .val (.long kb), .second, .val (.long eb), .second, .val (.ref b20), .val (.double (own_f (FP.l2d kb) q3)), .second, .unset] [(.double (own_f (FP.l2d kb) q3))])) (fun _ kk_ => XS.dload X22.here hx rfl (hb hby at_202) rfl kk_) ?_
    refine OWW.st (B := T22.setTop (mkF m 206 #[.val (.int n1), .val (.int n2), .val (.int n3), .val (.int n4), .val (.int q), .val (.int k), .val (.double (FP.i2d k)), .second, .val (.ref b14), .val (.double (own_f (FP.i2d k) (1 : Int32))), .second, .val (.double (own_f (FP.i2d k) q)), .second, .val (.int (q + (1 : Int32))), .val (.double (own_f (FP.i2d k) (q + (1 : Int32)))), .second, .val (.int (1 : Int32)), .val (.int si), .val (.int ti), .val (.int q3), .val (.long kb), .second, .val (.long eb), .second, .val (.ref b20), .val (.double (own_f (FP.l2d kb) q3)), .second, .unset] [(.long eb), (.double (own_f (FP.l2d kb) q3))])) (fun _ kk_ => XS.lload X22.here hx rfl (hb hby at_204) rfl kk_) ?_
    refine OWW.st (B := T22.setTop (mkF m 207 #[.val (.int n1), .val (.int n2), .val (.int n3), .val (.int n4), .val (.int q), .val (.int k), .val (.double (FP.i2d k)), .second, .val (.ref b14), .val (.double (own_f (FP.i2d k) (1 : Int32))), .second, .val (.double (own_f (FP.i2d k) q)), .second, .val (.int (q + (1 : Int32))), .val (.double (own_f (FP.i2d k) (q + (1 : Int32)))), .second, .val (.int (1 : Int32)), .val (.int si), .val (.int ti), .val (.int q3), .val (.long kb), .second, .val (.long eb), .second, .val (.ref b20), .val (.double (own_f (FP.l2d kb) q3)), .second, .unset] [(.double (FP.l2d eb)), (.double (own_f (FP.l2d kb) q3))])) (fun _ kk_ => XS.l2dS X22.here hx rfl (hb hby at_206) rfl rfl kk_) ?_
    refine OWW.st (B := T22.setTop (mkF m 208 #[.val (.int n1), .val (.int n2), .val (.int n3), .val (.int n4), .val (.int q), .val (.int k), .val (.double (FP.i2d k)), .second, .val (.ref b14), .val (.double (own_f (FP.i2d k) (1 : Int32))), .second, .val (.double (own_f (FP.i2d k) q)), .second, .val (.int (q + (1 : Int32))), .val (.double (own_f (FP.i2d k) (q + (1 : Int32)))), .second, .val (.int (1 : Int32)), .val (.int si), .val (.int ti), .val (.int q3), .val (.long kb), .second, .val (.long eb), .second, .val (.ref b20), .val (.double (own_f (FP.l2d kb) q3)), .second, .unset] [(.int (cmpValue (FP.dcmp (own_f (FP.l2d kb) q3) (FP.l2d eb)) .l))])) (fun _ kk_ => XS.dcmpS X22.here hx rfl (hb hby at_207) rfl rfl kk_) ?_
    refine OWW.st (B := T22.setTop (mkF m 211 #[.val (.int n1), .val (.int n2), .val (.int n3), .val (.int n4), .val (.int q), .val (.int k), .val (.double (FP.i2d k)), .second, .val (.ref b14), .val (.double (own_f (FP.i2d k) (1 : Int32))), .second, .val (.double (own_f (FP.i2d k) q)), .second, .val (.int (q + (1 : Int32))), .val (.double (own_f (FP.i2d k) (q + (1 : Int32)))), .second, .val (.int (1 : Int32)), .val (.int si), .val (.int ti), .val (.int q3), .val (.long kb), .second, .val (.long eb), .second, .val (.ref b20), .val (.double (own_f (FP.l2d kb) q3)), .second, .unset] [])) (fun _ kk_ => XS.ifNo X22.here hx rfl (hb hby at_208) rfl ((if0 _ _).trans (teq (own_c6 hst hq3 hkb heb)).2) kk_) ?_
    refine OWW.st (B := T22.setTop (mkF m 212 #[.val (.int n1), .val (.int n2), .val (.int n3), .val (.int n4), .val (.int q), .val (.int k), .val (.double (FP.i2d k)), .second, .val (.ref b14), .val (.double (own_f (FP.i2d k) (1 : Int32))), .second, .val (.double (own_f (FP.i2d k) q)), .second, .val (.int (q + (1 : Int32))), .val (.double (own_f (FP.i2d k) (q + (1 : Int32)))), .second, .val (.int (1 : Int32)), .val (.int si), .val (.int ti), .val (.int q3), .val (.long kb), .second, .val (.long eb), .second, .val (.ref b20), .val (.double (own_f (FP.l2d kb) q3)), .second, .unset] [(.int (1 : Int32))])) (fun _ kk_ => XS.iconst X22.here hx rfl (hb hby at_211) kk_) ?_
    refine OWW.st (B := T22.setTop (mkF m 216 #[.val (.int n1), .val (.int n2), .val (.int n3), .val (.int n4), .val (.int q), .val (.int k), .val (.double (FP.i2d k)), .second, .val (.ref b14), .val (.double (own_f (FP.i2d k) (1 : Int32))), .second, .val (.double (own_f (FP.i2d k) q)), .second, .val (.int (q + (1 : Int32))), .val (.double (own_f (FP.i2d k) (q + (1 : Int32)))), .second, .val (.int (1 : Int32)), .val (.int si), .val (.int ti), .val (.int q3), .val (.long kb), .second, .val (.long eb), .second, .val (.ref b20), .val (.double (own_f (FP.l2d kb) q3)), .second, .unset] [(.int (1 : Int32))])) (fun _ kk_ => XS.goto X22.here hx rfl (pc0 := 212) (pc' := 216) rfl (hb hby at_212) (by decide) (by decide) kk_) ?_
    refine OWW.st (B := T22.setTop (mkF m 218 #[.val (.int n1), .val (.int n2), .val (.int n3), .val (.int n4), .val (.int q), .val (.int k), .val (.double (FP.i2d k)), .second, .val (.ref b14), .val (.double (own_f (FP.i2d k) (1 : Int32))), .second, .val (.double (own_f (FP.i2d k) q)), .second, .val (.int (q + (1 : Int32))), .val (.double (own_f (FP.i2d k) (q + (1 : Int32)))), .second, .val (.int (1 : Int32)), .val (.int si), .val (.int ti), .val (.int q3), .val (.long kb), .second, .val (.long eb), .second, .val (.ref b20), .val (.double (own_f (FP.l2d kb) q3)), .second, .val (.int (1 : Int32))] [])) (fun _ kk_ => XS.istore X22.here hx rfl (hb hby at_216) rfl (l' := #[.val (.int n1), .val (.int n2), .val (.int n3), .val (.int n4), .val (.int q), .val (.int k), .val (.double (FP.i2d k)), .second, .val (.ref b14), .val (.double (own_f (FP.i2d k) (1 : Int32))), .second, .val (.double (own_f (FP.i2d k) q)), .second, .val (.int (q + (1 : Int32))), .val (.double (own_f (FP.i2d k) (q + (1 : Int32)))), .second, .val (.int (1 : Int32)), .val (.int si), .val (.int ti), .val (.int q3), .val (.long kb), .second, .val (.long eb), .second, .val (.ref b20), .val (.double (own_f (FP.l2d kb) q3)), .second, .val (.int (1 : Int32))]) rfl kk_) ?_
    refine OWW.st (B := T22.setTop (mkF m 220 #[.val (.int n1), .val (.int n2), .val (.int n3), .val (.int n4), .val (.int q), .val (.int k), .val (.double (FP.i2d k)), .second, .val (.ref b14), .val (.double (own_f (FP.i2d k) (1 : Int32))), .second, .val (.double (own_f (FP.i2d k) q)), .second, .val (.int (q + (1 : Int32))), .val (.double (own_f (FP.i2d k) (q + (1 : Int32)))), .second, .val (.int (1 : Int32)), .val (.int si), .val (.int ti), .val (.int q3), .val (.long kb), .second, .val (.long eb), .second, .val (.ref b20), .val (.double (own_f (FP.l2d kb) q3)), .second, .val (.int (1 : Int32))] [(.int (1 : Int32))])) (fun _ kk_ => XS.iload X22.here hx rfl (hb hby at_218) rfl kk_) ?_
    refine OWW.st (B := T22.setTop (mkF m 223 #[.val (.int n1), .val (.int n2), .val (.int n3), .val (.int n4), .val (.int q), .val (.int k), .val (.double (FP.i2d k)), .second, .val (.ref b14), .val (.double (own_f (FP.i2d k) (1 : Int32))), .second, .val (.double (own_f (FP.i2d k) q)), .second, .val (.int (q + (1 : Int32))), .val (.double (own_f (FP.i2d k) (q + (1 : Int32)))), .second, .val (.int (1 : Int32)), .val (.int si), .val (.int ti), .val (.int q3), .val (.long kb), .second, .val (.long eb), .second, .val (.ref b20), .val (.double (own_f (FP.l2d kb) q3)), .second, .val (.int (1 : Int32))] [])) (fun _ kk_ => XS.ifNo X22.here hx rfl (hb hby at_220) rfl ((if0 _ _).trans (feq (by decide)).1) kk_) ?_
    refine OWW.st (B := T22.setTop (mkF m 225 #[.val (.int n1), .val (.int n2), .val (.int n3), .val (.int n4), .val (.int q), .val (.int k), .val (.double (FP.i2d k)), .second, .val (.ref b14), .val (.double (own_f (FP.i2d k) (1 : Int32))), .second, .val (.double (own_f (FP.i2d k) q)), .second, .val (.int (q + (1 : Int32))), .val (.double (own_f (FP.i2d k) (q + (1 : Int32)))), .second, .val (.int (1 : Int32)), .val (.int si), .val (.int ti), .val (.int q3), .val (.long kb), .second, .val (.long eb), .second, .val (.ref b20), .val (.double (own_f (FP.l2d kb) q3)), .second, .val (.int (1 : Int32))] [(.int (1 : Int32))])) (fun _ kk_ => XS.iload X22.here hx rfl (hb hby at_223) rfl kk_) ?_
    refine OWW.st (B := T22.setTop (mkF m 228 #[.val (.int n1), .val (.int n2), .val (.int n3), .val (.int n4), .val (.int q), .val (.int k), .val (.double (FP.i2d k)), .second, .val (.ref b14), .val (.double (own_f (FP.i2d k) (1 : Int32))), .second, .val (.double (own_f (FP.i2d k) q)), .second, .val (.int (q + (1 : Int32))), .val (.double (own_f (FP.i2d k) (q + (1 : Int32)))), .second, .val (.int (1 : Int32)), .val (.int si), .val (.int ti), .val (.int q3), .val (.long kb), .second, .val (.long eb), .second, .val (.ref b20), .val (.double (own_f (FP.l2d kb) q3)), .second, .val (.int (1 : Int32))] [])) (fun _ kk_ => XS.ifNo X22.here hx rfl (hb hby at_225) rfl ((if0 _ _).trans (feq (by decide)).1) kk_) ?_
    refine OWW.st (B := T22.setTop (mkF m 229 #[.val (.int n1), .val (.int n2), .val (.int n3), .val (.int n4), .val (.int q), .val (.int k), .val (.double (FP.i2d k)), .second, .val (.ref b14), .val (.double (own_f (FP.i2d k) (1 : Int32))), .second, .val (.double (own_f (FP.i2d k) q)), .second, .val (.int (q + (1 : Int32))), .val (.double (own_f (FP.i2d k) (q + (1 : Int32)))), .second, .val (.int (1 : Int32)), .val (.int si), .val (.int ti), .val (.int q3), .val (.long kb), .second, .val (.long eb), .second, .val (.ref b20), .val (.double (own_f (FP.l2d kb) q3)), .second, .val (.int (1 : Int32))] [(.int (1 : Int32))])) (fun _ kk_ => XS.iconst X22.here hx rfl (hb hby at_228) kk_) ?_
    refine OWW.st (B := T22.setTop (mkF m 233 #[.val (.int n1), .val (.int n2), .val (.int n3), .val (.int n4), .val (.int q), .val (.int k), .val (.double (FP.i2d k)), .second, .val (.ref b14), .val (.double (own_f (FP.i2d k) (1 : Int32))), .second, .val (.double (own_f (FP.i2d k) q)), .second, .val (.int (q + (1 : Int32))), .val (.double (own_f (FP.i2d k) (q + (1 : Int32)))), .second, .val (.int (1 : Int32)), .val (.int si), .val (.int ti), .val (.int q3), .val (.long kb), .second, .val (.long eb), .second, .val (.ref b20), .val (.double (own_f (FP.l2d kb) q3)), .second, .val (.int (1 : Int32))] [(.int (1 : Int32))])) (fun _ kk_ => XS.goto X22.here hx rfl (pc0 := 229) (pc' := 233) rfl (hb hby at_229) (by decide) (by decide) kk_) ?_
    exact OWW.ret X22 (s := s) (vm0 := T21.vm) hS21 hk21 hx hlk (i := .ireturn) Bd.returns rfl (Or.inl ⟨rfl, Or.inr (Or.inl rfl), _, rfl⟩) (hb hby at_233) e22 (by decide) (by decide) ⟨rfl, N22⟩
  · refine OWW.st (B := T17.setTop (mkF m 67 #[.val (.int n1), .val (.int n2), .val (.int n3), .val (.int n4), .val (.int q), .val (.int k), .val (.double (FP.i2d k)), .second, .val (.ref b14), .val (.double (own_f (FP.i2d k) (1 : Int32))), .second, .val (.double (own_f (FP.i2d k) q)), .second, .unset, .unset, .unset, .unset, .unset, .unset, .unset, .unset, .unset, .unset, .unset, .unset, .unset, .unset, .unset] [])) (fun _ kk_ => XS.icmpYes X17.here hx rfl (pc0 := 57) (pc' := 67) rfl (hb hby at_57) rfl (flt hc18).2.1 (by decide) (by decide) kk_) ?_
    refine OWW.st (B := T17.setTop (mkF m 69 #[.val (.int n1), .val (.int n2), .val (.int n3), .val (.int n4), .val (.int q), .val (.int k), .val (.double (FP.i2d k)), .second, .val (.ref b14), .val (.double (own_f (FP.i2d k) (1 : Int32))), .second, .val (.double (own_f (FP.i2d k) q)), .second, .unset, .unset, .unset, .unset, .unset, .unset, .unset, .unset, .unset, .unset, .unset, .unset, .unset, .unset, .unset] [(.int q)])) (fun _ kk_ => XS.iload X17.here hx rfl (hb hby at_67) rfl kk_) ?_
    refine OWW.st (B := T17.setTop (mkF m 71 #[.val (.int n1), .val (.int n2), .val (.int n3), .val (.int n4), .val (.int q), .val (.int k), .val (.double (FP.i2d k)), .second, .val (.ref b14), .val (.double (own_f (FP.i2d k) (1 : Int32))), .second, .val (.double (own_f (FP.i2d k) q)), .second, .val (.int q), .unset, .unset, .unset, .unset, .unset, .unset, .unset, .unset, .unset, .unset, .unset, .unset, .unset, .unset] [])) (fun _ kk_ => XS.istore X17.here hx rfl (hb hby at_69) rfl (l' := #[.val (.int n1), .val (.int n2), .val (.int n3), .val (.int n4), .val (.int q), .val (.int k), .val (.double (FP.i2d k)), .second, .val (.ref b14), .val (.double (own_f (FP.i2d k) (1 : Int32))), .second, .val (.double (own_f (FP.i2d k) q)), .second, .val (.int q), .unset, .unset, .unset, .unset, .unset, .unset, .unset, .unset, .unset, .unset, .unset, .unset, .unset, .unset]) rfl kk_) ?_
    refine OWW.st (B := T17.setTop (mkF m 73 #[.val (.int n1), .val (.int n2), .val (.int n3), .val (.int n4), .val (.int q), .val (.int k), .val (.double (FP.i2d k)), .second, .val (.ref b14), .val (.double (own_f (FP.i2d k) (1 : Int32))), .second, .val (.double (own_f (FP.i2d k) q)), .second, .val (.int q), .unset, .unset, .unset, .unset, .unset, .unset, .unset, .unset, .unset, .unset, .unset, .unset, .unset, .unset] [(.ref b14)])) (fun _ kk_ => XS.aload X17.here hx rfl (hb hby at_71) rfl rfl kk_) ?_
    refine OWW.st (B := T17.setTop (mkF m 75 #[.val (.int n1), .val (.int n2), .val (.int n3), .val (.int n4), .val (.int q), .val (.int k), .val (.double (FP.i2d k)), .second, .val (.ref b14), .val (.double (own_f (FP.i2d k) (1 : Int32))), .second, .val (.double (own_f (FP.i2d k) q)), .second, .val (.int q), .unset, .unset, .unset, .unset, .unset, .unset, .unset, .unset, .unset, .unset, .unset, .unset, .unset, .unset] [(.int q), (.ref b14)])) (fun _ kk_ => XS.iload X17.here hx rfl (hb hby at_73) rfl kk_) ?_
    obtain ⟨cq23, kq23, q23a, q23b, q23c⟩ := isOf hZ15 e17 Ei15
    obtain ⟨_, _, ⟨T23, L23, k23, n23⟩, -, X23, ⟨Lc23, hQ23, l23, y23, z23⟩, st23⟩ := X17.virtualBack hx (y := (⟨"com/example/graded_search/gradedsearch/engine/Bm25", "queryFactor", "(I)D"⟩ : MethodName)) (z := (⟨"com/example/graded_search/gradedsearch/engine/Bm25", "queryFactor", "(I)D"⟩ : MethodName)) hown15 (mvT hZ15 (w_40 hw)) (mvT hZ15 (w_41 hw)) (notFace_of_selects (args := #[]) (mvT hZ15 (w_43 hw))) (mvT hZ15 (w_43 hw)) (mvT hZ15 (w_42 hw)) (by decide) (backOf (W := 0) (rmQF l Z a0 hw [] b14 (FP.i2d k) q T15.heap n0 O15 Fr15 (own_nI hk (Int.le_trans hq (Int.le_refl _)))) hZ15 (w_44 hw) (w_8 hw) (by decide) (by decide)) q23a q23c (g := (mkF m 75 #[.val (.int n1), .val (.int n2), .val (.int n3), .val (.int n4), .val (.int q), .val (.int k), .val (.double (FP.i2d k)), .second, .val (.ref b14), .val (.double (own_f (FP.i2d k) (1 : Int32))), .second, .val (.double (own_f (FP.i2d k) q)), .second, .val (.int q), .unset, .unset, .unset, .unset, .unset, .unset, .unset, .unset, .unset, .unset, .unset, .unset, .unset, .unset] [(.int q), (.ref b14)])) rfl (by rw [hml]; rfl) (Steps.refl _) (argsL := [(.int q)]) (rest := []) (lenOf pd_4 rfl) rfl (by show 2 * 0 + _ ≤ _; exact Nat.le_of_eq rfl) (hb hby at_75) (fun _ _ => ⟨rfl, e17, (by decide : 5 + 0 ≤ _), (by decide : 27 + 0 ≤ _)⟩)
    dsimp only [Pt.U, Pt.locs, Pt.cells, Pt.slots] at X23 l23 y23 z23 st23 hQ23
    subst l23 y23 z23
    obtain ⟨rfl, Nq23, e23⟩ := hQ23
    have N23 := Fr.app N17 Nq23
    refine OWW.tr (B := T23.setTop (mkF m 78 #[.val (.int n1), .val (.int n2), .val (.int n3), .val (.int n4), .val (.int q), .val (.int k), .val (.double (FP.i2d k)), .second, .val (.ref b14), .val (.double (own_f (FP.i2d k) (1 : Int32))), .second, .val (.double (own_f (FP.i2d k) q)), .second, .val (.int q), .unset, .unset, .unset, .unset, .unset, .unset, .unset, .unset, .unset, .unset, .unset, .unset, .unset, .unset] [(.double (own_f (FP.i2d k) q))])) (st23) ?_
    refine OWW.st (B := T23.setTop (mkF m 80 #[.val (.int n1), .val (.int n2), .val (.int n3), .val (.int n4), .val (.int q), .val (.int k), .val (.double (FP.i2d k)), .second, .val (.ref b14), .val (.double (own_f (FP.i2d k) (1 : Int32))), .second, .val (.double (own_f (FP.i2d k) q)), .second, .val (.int q), .val (.double (own_f (FP.i2d k) q)), .second, .unset, .unset, .unset, .unset, .unset, .unset, .unset, .unset, .unset, .unset, .unset, .unset] [])) (fun _ kk_ => XS.dstore X23.here hx rfl (hb hby at_78) rfl (l' := #[.val (.int n1), .val (.int n2), .val (.int n3), .val (.int n4), .val (.int q), .val (.int k), .val (.double (FP.i2d k)), .second, .val (.ref b14), .val (.double (own_f (FP.i2d k) (1 : Int32))), .second, .val (.double (own_f (FP.i2d k) q)), .second, .val (.int q), .val (.double (own_f (FP.i2d k) q)), .second, .unset, .unset, .unset, .unset, .unset, .unset, .unset, .unset, .unset, .unset, .unset, .unset]) rfl kk_) ?_
    refine OWW.st (B := T23.setTop (mkF m 82 #[.val (.int n1), .val (.int n2), .val (.int n3), .val (.int n4), .val (.int q), .val (.int k), .val (.double (FP.i2d k)), .second, .val (.ref b14), .val (.double (own_f (FP.i2d k) (1 : Int32))), .second, .val (.double (own_f (FP.i2d k) q)), .second, .val (.int q), .val (.double (own_f (FP.i2d k) q)), .second, .unset, .unset, .unset, .unset, .unset, .unset, .unset, .unset, .unset, .unset, .unset, .unset] [(.double (own_f (FP.i2d k) (1 : Int32)))])) (fun _ kk_ => XS.dload X23.here hx rfl (hb hby at_80) rfl kk_) ?_
    refine OWW.st (B := T23.setTop (mkF m 83 #[.val (.int n1), .val (.int n2), .val (.int n3), .val (.int n4), .val (.int q), .val (.int k), .val (.double (FP.i2d k)), .second, .val (.ref b14), .val (.double (own_f (FP.i2d k) (1 : Int32))), .second, .val (.double (own_f (FP.i2d k) q)), .second, .val (.int q), .val (.double (own_f (FP.i2d k) q)), .second, .unset, .unset, .unset, .unset, .unset, .unset, .unset, .unset, .unset, .unset, .unset, .unset] [(.double (4607182418800017408 : UInt64)), (.double (own_f (FP.i2d k) (1 : Int32)))])) (fun _ kk_ => XS.dconst1 X23.here hx rfl (hb hby at_82) rfl kk_) ?_
    refine OWW.st (B := T23.setTop (mkF m 84 #[.val (.int n1), .val (.int n2), .val (.int n3), .val (.int n4), .val (.int q), .val (.int k), .val (.double (FP.i2d k)), .second, .val (.ref b14), .val (.double (own_f (FP.i2d k) (1 : Int32))), .second, .val (.double (own_f (FP.i2d k) q)), .second, .val (.int q), .val (.double (own_f (FP.i2d k) q)), .second, .unset, .unset, .unset, .unset, .unset, .unset, .unset, .unset, .unset, .unset, .unset, .unset] [(.int (cmpValue (FP.dcmp (own_f (FP.i2d k) (1 : Int32)) (4607182418800017408 : UInt64)) .l))])) (fun _ kk_ => XS.dcmpS X23.here hx rfl (hb hby at_83) rfl rfl kk_) ?_
    refine OWW.st (B := T23.setTop (mkF m 87 #[.val (.int n1), .val (.int n2), .val (.int n3), .val (.int n4), .val (.int q), .val (.int k), .val (.double (FP.i2d k)), .second, .val (.ref b14), .val (.double (own_f (FP.i2d k) (1 : Int32))), .second, .val (.double (own_f (FP.i2d k) q)), .second, .val (.int q), .val (.double (own_f (FP.i2d k) q)), .second, .unset, .unset, .unset, .unset, .unset, .unset, .unset, .unset, .unset, .unset, .unset, .unset] [])) (fun _ kk_ => XS.ifNo X23.here hx rfl (hb hby at_84) rfl ((if0 _ _).trans (teq (own_c1 hk)).2) kk_) ?_
    refine OWW.st (B := T23.setTop (mkF m 88 #[.val (.int n1), .val (.int n2), .val (.int n3), .val (.int n4), .val (.int q), .val (.int k), .val (.double (FP.i2d k)), .second, .val (.ref b14), .val (.double (own_f (FP.i2d k) (1 : Int32))), .second, .val (.double (own_f (FP.i2d k) q)), .second, .val (.int q), .val (.double (own_f (FP.i2d k) q)), .second, .unset, .unset, .unset, .unset, .unset, .unset, .unset, .unset, .unset, .unset, .unset, .unset] [(.double (4607182418800017408 : UInt64))])) (fun _ kk_ => XS.dconst1 X23.here hx rfl (hb hby at_87) rfl kk_) ?_
    refine OWW.st (B := T23.setTop (mkF m 90 #[.val (.int n1), .val (.int n2), .val (.int n3), .val (.int n4), .val (.int q), .val (.int k), .val (.double (FP.i2d k)), .second, .val (.ref b14), .val (.double (own_f (FP.i2d k) (1 : Int32))), .second, .val (.double (own_f (FP.i2d k) q)), .second, .val (.int q), .val (.double (own_f (FP.i2d k) q)), .second, .unset, .unset, .unset, .unset, .unset, .unset, .unset, .unset, .unset, .unset, .unset, .unset] [(.double (own_f (FP.i2d k) q)), (.double (4607182418800017408 : UInt64))])) (fun _ kk_ => XS.dload X23.here hx rfl (hb hby at_88) rfl kk_) ?_
    refine OWW.st (B := T23.setTop (mkF m 91 #[.val (.int n1), .val (.int n2), .val (.int n3), .val (.int n4), .val (.int q), .val (.int k), .val (.double (FP.i2d k)), .second, .val (.ref b14), .val (.double (own_f (FP.i2d k) (1 : Int32))), .second, .val (.double (own_f (FP.i2d k) q)), .second, .val (.int q), .val (.double (own_f (FP.i2d k) q)), .second, .unset, .unset, .unset, .unset, .unset, .unset, .unset, .unset, .unset, .unset, .unset, .unset] [(.int (cmpValue (FP.dcmp (4607182418800017408 : UInt64) (own_f (FP.i2d k) q)) .g))])) (fun _ kk_ => XS.dcmpS X23.here hx rfl (hb hby at_90) rfl rfl kk_) ?_
    refine OWW.st (B := T23.setTop (mkF m 94 #[.val (.int n1), .val (.int n2), .val (.int n3), .val (.int n4), .val (.int q), .val (.int k), .val (.double (FP.i2d k)), .second, .val (.ref b14), .val (.double (own_f (FP.i2d k) (1 : Int32))), .second, .val (.double (own_f (FP.i2d k) q)), .second, .val (.int q), .val (.double (own_f (FP.i2d k) q)), .second, .unset, .unset, .unset, .unset, .unset, .unset, .unset, .unset, .unset, .unset, .unset, .unset] [])) (fun _ kk_ => XS.ifNo X23.here hx rfl (hb hby at_91) rfl ((if0 _ _).trans (flt (own_c2 hk hq)).2.2.1) kk_) ?_
    refine OWW.st (B := T23.setTop (mkF m 96 #[.val (.int n1), .val (.int n2), .val (.int n3), .val (.int n4), .val (.int q), .val (.int k), .val (.double (FP.i2d k)), .second, .val (.ref b14), .val (.double (own_f (FP.i2d k) (1 : Int32))), .second, .val (.double (own_f (FP.i2d k) q)), .second, .val (.int q), .val (.double (own_f (FP.i2d k) q)), .second, .unset, .unset, .unset, .unset, .unset, .unset, .unset, .unset, .unset, .unset, .unset, .unset] [(.double (own_f (FP.i2d k) q))])) (fun _ kk_ => XS.dload X23.here hx rfl (hb hby at_94) rfl kk_) ?_
    refine OWW.st (B := T23.setTop (mkF m 98 #[.val (.int n1), .val (.int n2), .val (.int n3), .val (.int n4), .val (.int q), .val (.int k), .val (.double (FP.i2d k)), .second, .val (.ref b14), .val (.double (own_f (FP.i2d k) (1 : Int32))), .second, .val (.double (own_f (FP.i2d k) q)), .second, .val (.int q), .val (.double (own_f (FP.i2d k) q)), .second, .unset, .unset, .unset, .unset, .unset, .unset, .unset, .unset, .unset, .unset, .unset, .unset] [(.int q), (.double (own_f (FP.i2d k) q))])) (fun _ kk_ => XS.iload X23.here hx rfl (hb hby at_96) rfl kk_) ?_
    refine OWW.st (B := T23.setTop (mkF m 99 #[.val (.int n1), .val (.int n2), .val (.int n3), .val (.int n4), .val (.int q), .val (.int k), .val (.double (FP.i2d k)), .second, .val (.ref b14), .val (.double (own_f (FP.i2d k) (1 : Int32))), .second, .val (.double (own_f (FP.i2d k) q)), .second, .val (.int q), .val (.double (own_f (FP.i2d k) q)), .second, .unset, .unset, .unset, .unset, .unset, .unset, .unset, .unset, .unset, .unset, .unset, .unset] [(.double (FP.i2d q)), (.double (own_f (FP.i2d k) q))])) (fun _ kk_ => XS.i2dS X23.here hx rfl (hb hby at_98) rfl rfl kk_) ?_
    refine OWW.st (B := T23.setTop (mkF m 100 #[.val (.int n1), .val (.int n2), .val (.int n3), .val (.int n4), .val (.int q), .val (.int k), .val (.double (FP.i2d k)), .second, .val (.ref b14), .val (.double (own_f (FP.i2d k) (1 : Int32))), .second, .val (.double (own_f (FP.i2d k) q)), .second, .val (.int q), .val (.double (own_f (FP.i2d k) q)), .second, .unset, .unset, .unset, .unset, .unset, .unset, .unset, .unset, .unset, .unset, .unset, .unset] [(.int (cmpValue (FP.dcmp (own_f (FP.i2d k) q) (FP.i2d q)) .g))])) (fun _ kk_ => XS.dcmpS X23.here hx rfl (hb hby at_99) rfl rfl kk_) ?_
    refine OWW.st (B := T23.setTop (mkF m 103 #[.val (.int n1), .val (.int n2), .val (.int n3), .val (.int n4), .val (.int q), .val (.int k), .val (.double (FP.i2d k)), .second, .val (.ref b14), .val (.double (own_f (FP.i2d k) (1 : Int32))), .second, .val (.double (own_f (FP.i2d k) q)), .second, .val (.int q), .val (.double (own_f (FP.i2d k) q)), .second, .unset, .unset, .unset, .unset, .unset, .unset, .unset, .unset, .unset, .unset, .unset, .unset] [])) (fun _ kk_ => XS.ifNo X23.here hx rfl (hb hby at_100) rfl ((if0 _ _).trans (flt (own_c3 hk hq)).2.2.1) kk_) ?_
    refine OWW.st (B := T23.setTop (mkF m 105 #[.val (.int n1), .val (.int n2), .val (.int n3), .val (.int n4), .val (.int q), .val (.int k), .val (.double (FP.i2d k)), .second, .val (.ref b14), .val (.double (own_f (FP.i2d k) (1 : Int32))), .second, .val (.double (own_f (FP.i2d k) q)), .second, .val (.int q), .val (.double (own_f (FP.i2d k) q)), .second, .unset, .unset, .unset, .unset, .unset, .unset, .unset, .unset, .unset, .unset, .unset, .unset] [(.double (own_f (FP.i2d k) q))])) (fun _ kk_ => XS.dload X23.here hx rfl (hb hby at_103) rfl kk_) ?_
    refine OWW.st (B := T23.setTop (mkF m 107 #[.val (.int n1), .val (.int n2), .val (.int n3), .val (.int n4), .val (.int q), .val (.int k), .val (.double (FP.i2d k)), .second, .val (.ref b14), .val (.double (own_f (FP.i2d k) (1 : Int32))), .second, .val (.double (own_f (FP.i2d k) q)), .second, .val (.int q), .val (.double (own_f (FP.i2d k) q)), .second, .unset, .unset, .unset, .unset, .unset, .unset, .unset, .unset, .unset, .unset, .unset, .unset] [(.double (FP.i2d k)), (.double (own_f (FP.i2d k) q))])) (fun _ kk_ => XS.dload X23.here hx rfl (hb hby at_105) rfl kk_) ?_
    refine OWW.st (B := T23.setTop (mkF m 108 #[.val (.int n1), .val (.int n2), .val (.int n3), .val (.int n4), .val (.int q), .val (.int k), .val (.double (FP.i2d k)), .second, .val (.ref b14), .val (.double (own_f (FP.i2d k) (1 : Int32))), .second, .val (.double (own_f (FP.i2d k) q)), .second, .val (.int q), .val (.double (own_f (FP.i2d k) q)), .second, .unset, .unset, .unset, .unset, .unset, .unset, .unset, .unset, .unset, .unset, .unset, .unset] [(.double (4607182418800017408 : UInt64)), (.double (FP.i2d k)), (.double (own_f (FP.i2d k) q))])) (fun _ kk_ => XS.dconst1 X23.here hx rfl (hb hby at_107) rfl kk_) ?_
    refine OWW.st (B := T23.setTop (mkF m 109 #[.val (.int n1), .val (.int n2), .val (.int n3), .val (.int n4), .val (.int q), .val (.int k), .val (.double (FP.i2d k)), .second, .val (.ref b14), .val (.double (own_f (FP.i2d k) (1 : Int32))), .second, .val (.double (own_f (FP.i2d k) q)), .second, .val (.int q), .val (.double (own_f (FP.i2d k) q)), .second, .unset, .unset, .unset, .unset, .unset, .unset, .unset, .unset, .unset, .unset, .unset, .unset] [(.double (FP.dadd (FP.i2d k) (4607182418800017408 : UInt64))), (.double (own_f (FP.i2d k) q))])) (fun _ kk_ => XS.daddS X23.here hx rfl (hb hby at_108) rfl (own_a1 hk).nn rfl kk_) ?_
    refine OWW.st (B := T23.setTop (mkF m 110 #[.val (.int n1), .val (.int n2), .val (.int n3), .val (.int n4), .val (.int q), .val (.int k), .val (.double (FP.i2d k)), .second, .val (.ref b14), .val (.double (own_f (FP.i2d k) (1 : Int32))), .second, .val (.double (own_f (FP.i2d k) q)), .second, .val (.int q), .val (.double (own_f (FP.i2d k) q)), .second, .unset, .unset, .unset, .unset, .unset, .unset, .unset, .unset, .unset, .unset, .unset, .unset] [(.int (cmpValue (FP.dcmp (own_f (FP.i2d k) q) (FP.dadd (FP.i2d k) (4607182418800017408 : UInt64))) .g))])) (fun _ kk_ => XS.dcmpS X23.here hx rfl (hb hby at_109) rfl rfl kk_) ?_
    refine OWW.st (B := T23.setTop (mkF m 113 #[.val (.int n1), .val (.int n2), .val (.int n3), .val (.int n4), .val (.int q), .val (.int k), .val (.double (FP.i2d k)), .second, .val (.ref b14), .val (.double (own_f (FP.i2d k) (1 : Int32))), .second, .val (.double (own_f (FP.i2d k) q)), .second, .val (.int q), .val (.double (own_f (FP.i2d k) q)), .second, .unset, .unset, .unset, .unset, .unset, .unset, .unset, .unset, .unset, .unset, .unset, .unset] [])) (fun _ kk_ => XS.ifNo X23.here hx rfl (hb hby at_110) rfl ((if0 _ _).trans (flt (own_c4 hk hq)).2.2.1) kk_) ?_
    refine OWW.st (B := T23.setTop (mkF m 115 #[.val (.int n1), .val (.int n2), .val (.int n3), .val (.int n4), .val (.int q), .val (.int k), .val (.double (FP.i2d k)), .second, .val (.ref b14), .val (.double (own_f (FP.i2d k) (1 : Int32))), .second, .val (.double (own_f (FP.i2d k) q)), .second, .val (.int q), .val (.double (own_f (FP.i2d k) q)), .second, .unset, .unset, .unset, .unset, .unset, .unset, .unset, .unset, .unset, .unset, .unset, .unset] [(.double (own_f (FP.i2d k) q))])) (fun _ kk_ => XS.dload X23.here hx rfl (hb hby at_113) rfl kk_) ?_
    refine OWW.st (B := T23.setTop (mkF m 117 #[.val (.int n1), .val (.int n2), .val (.int n3), .val (.int n4), .val (.int q), .val (.int k), .val (.double (FP.i2d k)), .second, .val (.ref b14), .val (.double (own_f (FP.i2d k) (1 : Int32))), .second, .val (.double (own_f (FP.i2d k) q)), .second, .val (.int q), .val (.double (own_f (FP.i2d k) q)), .second, .unset, .unset, .unset, .unset, .unset, .unset, .unset, .unset, .unset, .unset, .unset, .unset] [(.double (own_f (FP.i2d k) q)), (.double (own_f (FP.i2d k) q))])) (fun _ kk_ => XS.dload X23.here hx rfl (hb hby at_115) rfl kk_) ?_
    refine OWW.st (B := T23.setTop (mkF m 118 #[.val (.int n1), .val (.int n2), .val (.int n3), .val (.int n4), .val (.int q), .val (.int k), .val (.double (FP.i2d k)), .second, .val (.ref b14), .val (.double (own_f (FP.i2d k) (1 : Int32))), .second, .val (.double (own_f (FP.i2d k) q)), .second, .val (.int q), .val (.double (own_f (FP.i2d k) q)), .second, .unset, .unset, .unset, .unset, .unset, .unset, .unset, .unset, .unset, .unset, .unset, .unset] [(.int (cmpValue (FP.dcmp (own_f (FP.i2d k) q) (own_f (FP.i2d k) q)) .g))])) (fun _ kk_ => XS.dcmpS X23.here hx rfl (hb hby at_117) rfl rfl kk_) ?_
    refine OWW.st (B := T23.setTop (mkF m 121 #[.val (.int n1), .val (.int n2), .val (.int n3), .val (.int n4), .val (.int q), .val (.int k), .val (.double (FP.i2d k)), .second, .val (.ref b14), .val (.double (own_f (FP.i2d k) (1 : Int32))), .second, .val (.double (own_f (FP.i2d k) q)), .second, .val (.int q), .val (.double (own_f (FP.i2d k) q)), .second, .unset, .unset, .unset, .unset, .unset, .unset, .unset, .unset, .unset, .unset, .unset, .unset] [])) (fun _ kk_ => XS.ifNo X23.here hx rfl (hb hby at_118) rfl ((if0 _ _).trans (flt (own_c5 hk hq (Int.le_refl _))).2.2.1) kk_) ?_
    refine OWW.st (B := T23.setTop (mkF m 122 #[.val (.int n1), .val (.int n2), .val (.int n3), .val (.int n4), .val (.int q), .val (.int k), .val (.double (FP.i2d k)), .second, .val (.ref b14), .val (.double (own_f (FP.i2d k) (1 : Int32))), .second, .val (.double (own_f (FP.i2d k) q)), .second, .val (.int q), .val (.double (own_f (FP.i2d k) q)), .second, .unset, .unset, .unset, .unset, .unset, .unset, .unset, .unset, .unset, .unset, .unset, .unset] [(.int (1 : Int32))])) (fun _ kk_ => XS.iconst X23.here hx rfl (hb hby at_121) kk_) ?_
    refine OWW.st (B := T23.setTop (mkF m 126 #[.val (.int n1), .val (.int n2), .val (.int n3), .val (.int n4), .val (.int q), .val (.int k), .val (.double (FP.i2d k)), .second, .val (.ref b14), .val (.double (own_f (FP.i2d k) (1 : Int32))), .second, .val (.double (own_f (FP.i2d k) q)), .second, .val (.int q), .val (.double (own_f (FP.i2d k) q)), .second, .unset, .unset, .unset, .unset, .unset, .unset, .unset, .unset, .unset, .unset, .unset, .unset] [(.int (1 : Int32))])) (fun _ kk_ => XS.goto X23.here hx rfl (pc0 := 122) (pc' := 126) rfl (hb hby at_122) (by decide) (by decide) kk_) ?_
    refine OWW.st (B := T23.setTop (mkF m 128 #[.val (.int n1), .val (.int n2), .val (.int n3), .val (.int n4), .val (.int q), .val (.int k), .val (.double (FP.i2d k)), .second, .val (.ref b14), .val (.double (own_f (FP.i2d k) (1 : Int32))), .second, .val (.double (own_f (FP.i2d k) q)), .second, .val (.int q), .val (.double (own_f (FP.i2d k) q)), .second, .val (.int (1 : Int32)), .unset, .unset, .unset, .unset, .unset, .unset, .unset, .unset, .unset, .unset, .unset] [])) (fun _ kk_ => XS.istore X23.here hx rfl (hb hby at_126) rfl (l' := #[.val (.int n1), .val (.int n2), .val (.int n3), .val (.int n4), .val (.int q), .val (.int k), .val (.double (FP.i2d k)), .second, .val (.ref b14), .val (.double (own_f (FP.i2d k) (1 : Int32))), .second, .val (.double (own_f (FP.i2d k) q)), .second, .val (.int q), .val (.double (own_f (FP.i2d k) q)), .second, .val (.int (1 : Int32)), .unset, .unset, .unset, .unset, .unset, .unset, .unset, .unset, .unset, .unset, .unset]) rfl kk_) ?_
    refine OWW.st (B := T23.setTop (mkF m 129 #[.val (.int n1), .val (.int n2), .val (.int n3), .val (.int n4), .val (.int q), .val (.int k), .val (.double (FP.i2d k)), .second, .val (.ref b14), .val (.double (own_f (FP.i2d k) (1 : Int32))), .second, .val (.double (own_f (FP.i2d k) q)), .second, .val (.int q), .val (.double (own_f (FP.i2d k) q)), .second, .val (.int (1 : Int32)), .unset, .unset, .unset, .unset, .unset, .unset, .unset, .unset, .unset, .unset, .unset] [(.int (1 : Int32))])) (fun _ kk_ => XS.iconst X23.here hx rfl (hb hby at_128) kk_) ?_
    refine OWW.st (B := T23.setTop (mkF m 130 #[.val (.int n1), .val (.int n2), .val (.int n3), .val (.int n4), .val (.int q), .val (.int k), .val (.double (FP.i2d k)), .second, .val (.ref b14), .val (.double (own_f (FP.i2d k) (1 : Int32))), .second, .val (.double (own_f (FP.i2d k) q)), .second, .val (.int q), .val (.double (own_f (FP.i2d k) q)), .second, .val (.int (1 : Int32)), .unset, .unset, .unset, .unset, .unset, .unset, .unset, .unset, .unset, .unset, .unset] [(.int n3), (.int (1 : Int32))])) (fun _ kk_ => XS.iloadN X23.here hx rfl (hb hby at_129) rfl kk_) ?_
    refine OWW.st (B := T23.setTop (mkF m 133 #[.val (.int n1), .val (.int n2), .val (.int n3), .val (.int n4), .val (.int q), .val (.int k), .val (.double (FP.i2d k)), .second, .val (.ref b14), .val (.double (own_f (FP.i2d k) (1 : Int32))), .second, .val (.double (own_f (FP.i2d k) q)), .second, .val (.int q), .val (.double (own_f (FP.i2d k) q)), .second, .val (.int (1 : Int32)), .unset, .unset, .unset, .unset, .unset, .unset, .unset, .unset, .unset, .unset, .unset] [(.int (1023 : Int32)), (.int n3), (.int (1 : Int32))])) (fun _ kk_ => XS.sipush X23.here hx rfl (hb hby at_130) kk_) ?_
    refine OWW.st (B := T23.setTop (mkF m 134 #[.val (.int n1), .val (.int n2), .val (.int n3), .val (.int n4), .val (.int q), .val (.int k), .val (.double (FP.i2d k)), .second, .val (.ref b14), .val (.double (own_f (FP.i2d k) (1 : Int32))), .second, .val (.double (own_f (FP.i2d k) q)), .second, .val (.int q), .val (.double (own_f (FP.i2d k) q)), .second, .val (.int (1 : Int32)), .unset, .unset, .unset, .unset, .unset, .unset, .unset, .unset, .unset, .unset, .unset] [(.int (n3 &&& (1023 : Int32))), (.int (1 : Int32))])) (fun _ kk_ => XS.iand X23.here hx rfl (hb hby at_133) rfl kk_) ?_
    refine OWW.st (B := T23.setTop (mkF m 135 #[.val (.int n1), .val (.int n2), .val (.int n3), .val (.int n4), .val (.int q), .val (.int k), .val (.double (FP.i2d k)), .second, .val (.ref b14), .val (.double (own_f (FP.i2d k) (1 : Int32))), .second, .val (.double (own_f (FP.i2d k) q)), .second, .val (.int q), .val (.double (own_f (FP.i2d k) q)), .second, .val (.int (1 : Int32)), .unset, .unset, .unset, .unset, .unset, .unset, .unset, .unset, .unset, .unset, .unset] [(.int ((1 : Int32) + (n3 &&& (1023 : Int32))))])) (fun _ kk_ => XS.iadd X23.here hx rfl (hb hby at_134) rfl kk_) ?_
    suffices J : ∀ si : Int32, (1 ≤ si.toInt ∧ si.toInt ≤ 1024) → OWW p e below s (Q0 Z n1 n2 n3 n4 h0 n0) 10 54 (T23.setTop (mkF m 135 #[.val (.int n1), .val (.int n2), .val (.int n3), .val (.int n4), .val (.int q), .val (.int k), .val (.double (FP.i2d k)), .second, .val (.ref b14), .val (.double (own_f (FP.i2d k) (1 : Int32))), .second, .val (.double (own_f (FP.i2d k) q)), .second, .val (.int q), .val (.double (own_f (FP.i2d k) q)), .second, .val (.int (1 : Int32)), .unset, .unset, .unset, .unset, .unset, .unset, .unset, .unset, .unset, .unset, .unset] [(.int si)])) from J _ (own_s n3)
    intro si hs
    refine OWW.st (B := T23.setTop (mkF m 137 #[.val (.int n1), .val (.int n2), .val (.int n3), .val (.int n4), .val (.int q), .val (.int k), .val (.double (FP.i2d k)), .second, .val (.ref b14), .val (.double (own_f (FP.i2d k) (1 : Int32))), .second, .val (.double (own_f (FP.i2d k) q)), .second, .val (.int q), .val (.double (own_f (FP.i2d k) q)), .second, .val (.int (1 : Int32)), .val (.int si), .unset, .unset, .unset, .unset, .unset, .unset, .unset, .unset, .unset, .unset] [])) (fun _ kk_ => XS.istore X23.here hx rfl (hb hby at_135) rfl (l' := #[.val (.int n1), .val (.int n2), .val (.int n3), .val (.int n4), .val (.int q), .val (.int k), .val (.double (FP.i2d k)), .second, .val (.ref b14), .val (.double (own_f (FP.i2d k) (1 : Int32))), .second, .val (.double (own_f (FP.i2d k) q)), .second, .val (.int q), .val (.double (own_f (FP.i2d k) q)), .second, .val (.int (1 : Int32)), .val (.int si), .unset, .unset, .unset, .unset, .unset, .unset, .unset, .unset, .unset, .unset]) rfl kk_) ?_
    refine OWW.st (B := T23.setTop (mkF m 138 #[.val (.int n1), .val (.int n2), .val (.int n3), .val (.int n4), .val (.int q), .val (.int k), .val (.double (FP.i2d k)), .second, .val (.ref b14), .val (.double (own_f (FP.i2d k) (1 : Int32))), .second, .val (.double (own_f (FP.i2d k) q)), .second, .val (.int q), .val (.double (own_f (FP.i2d k) q)), .second, .val (.int (1 : Int32)), .val (.int si), .unset, .unset, .unset, .unset, .unset, .unset, .unset, .unset, .unset, .unset] [(.int n4)])) (fun _ kk_ => XS.iloadN X23.here hx rfl (hb hby at_137) rfl kk_) ?_
    refine OWW.st (B := T23.setTop (mkF m 141 #[.val (.int n1), .val (.int n2), .val (.int n3), .val (.int n4), .val (.int q), .val (.int k), .val (.double (FP.i2d k)), .second, .val (.ref b14), .val (.double (own_f (FP.i2d k) (1 : Int32))), .second, .val (.double (own_f (FP.i2d k) q)), .second, .val (.int q), .val (.double (own_f (FP.i2d k) q)), .second, .val (.int (1 : Int32)), .val (.int si), .unset, .unset, .unset, .unset, .unset, .unset, .unset, .unset, .unset, .unset] [(.int (1023 : Int32)), (.int n4)])) (fun _ kk_ => XS.sipush X23.here hx rfl (hb hby at_138) kk_) ?_
    refine OWW.st (B := T23.setTop (mkF m 142 #[.val (.int n1), .val (.int n2), .val (.int n3), .val (.int n4), .val (.int q), .val (.int k), .val (.double (FP.i2d k)), .second, .val (.ref b14), .val (.double (own_f (FP.i2d k) (1 : Int32))), .second, .val (.double (own_f (FP.i2d k) q)), .second, .val (.int q), .val (.double (own_f (FP.i2d k) q)), .second, .val (.int (1 : Int32)), .val (.int si), .unset, .unset, .unset, .unset, .unset, .unset, .unset, .unset, .unset, .unset] [(.int (n4 &&& (1023 : Int32)))])) (fun _ kk_ => XS.iand X23.here hx rfl (hb hby at_141) rfl kk_) ?_
    suffices J : ∀ ti : Int32, (0 ≤ ti.toInt ∧ ti.toInt ≤ 1023) → OWW p e below s (Q0 Z n1 n2 n3 n4 h0 n0) 10 54 (T23.setTop (mkF m 142 #[.val (.int n1), .val (.int n2), .val (.int n3), .val (.int n4), .val (.int q), .val (.int k), .val (.double (FP.i2d k)), .second, .val (.ref b14), .val (.double (own_f (FP.i2d k) (1 : Int32))), .second, .val (.double (own_f (FP.i2d k) q)), .second, .val (.int q), .val (.double (own_f (FP.i2d k) q)), .second, .val (.int (1 : Int32)), .val (.int si), .unset, .unset, .unset, .unset, .unset, .unset, .unset, .unset, .unset, .unset] [(.int ti)])) from J _ (own_and n4 (by decide))
    intro ti ht
    refine OWW.st (B := T23.setTop (mkF m 144 #[.val (.int n1), .val (.int n2), .val (.int n3), .val (.int n4), .val (.int q), .val (.int k), .val (.double (FP.i2d k)), .second, .val (.ref b14), .val (.double (own_f (FP.i2d k) (1 : Int32))), .second, .val (.double (own_f (FP.i2d k) q)), .second, .val (.int q), .val (.double (own_f (FP.i2d k) q)), .second, .val (.int (1 : Int32)), .val (.int si), .val (.int ti), .unset, .unset, .unset, .unset, .unset, .unset, .unset, .unset, .unset] [])) (fun _ kk_ => XS.istore X23.here hx rfl (hb hby at_142) rfl (l' := #[.val (.int n1), .val (.int n2), .val (.int n3), .val (.int n4), .val (.int q), .val (.int k), .val (.double (FP.i2d k)), .second, .val (.ref b14), .val (.double (own_f (FP.i2d k) (1 : Int32))), .second, .val (.double (own_f (FP.i2d k) q)), .second, .val (.int q), .val (.double (own_f (FP.i2d k) q)), .second, .val (.int (1 : Int32)), .val (.int si), .val (.int ti), .unset, .unset, .unset, .unset, .unset, .unset, .unset, .unset, .unset]) rfl kk_) ?_
    have hst : OwnST si ti := ⟨hs, ht⟩
    refine OWW.st (B := T23.setTop (mkF m 146 #[.val (.int n1), .val (.int n2), .val (.int n3), .val (.int n4), .val (.int q), .val (.int k), .val (.double (FP.i2d k)), .second, .val (.ref b14), .val (.double (own_f (FP.i2d k) (1 : Int32))), .second, .val (.double (own_f (FP.i2d k) q)), .second, .val (.int q), .val (.double (own_f (FP.i2d k) q)), .second, .val (.int (1 : Int32)), .val (.int si), .val (.int ti), .unset, .unset, .unset, .unset, .unset, .unset, .unset, .unset, .unset] [(.int si)])) (fun _ kk_ => XS.iload X23.here hx rfl (hb hby at_144) rfl kk_) ?_
    refine OWW.st (B := T23.setTop (mkF m 148 #[.val (.int n1), .val (.int n2), .val (.int n3), .val (.int n4), .val (.int q), .val (.int k), .val (.double (FP.i2d k)), .second, .val (.ref b14), .val (.double (own_f (FP.i2d k) (1 : Int32))), .second, .val (.double (own_f (FP.i2d k) q)), .second, .val (.int q), .val (.double (own_f (FP.i2d k) q)), .second, .val (.int (1 : Int32)), .val (.int si), .val (.int ti), .unset, .unset, .unset, .unset, .unset, .unset, .unset, .unset, .unset] [(.int ti), (.int si)])) (fun _ kk_ => XS.iload X23.here hx rfl (hb hby at_146) rfl kk_) ?_
    refine OWW.st (B := T23.setTop (mkF m 149 #[.val (.int n1), .val (.int n2), .val (.int n3), .val (.int n4), .val (.int q), .val (.int k), .val (.double (FP.i2d k)), .second, .val (.ref b14), .val (.double (own_f (FP.i2d k) (1 : Int32))), .second, .val (.double (own_f (FP.i2d k) q)), .second, .val (.int q), .val (.double (own_f (FP.i2d k) q)), .second, .val (.int (1 : Int32)), .val (.int si), .val (.int ti), .unset, .unset, .unset, .unset, .unset, .unset, .unset, .unset, .unset] [(.int (si * ti))])) (fun _ kk_ => XS.imul X23.here hx rfl (hb hby at_148) rfl kk_) ?_
    refine OWW.st (B := T23.setTop (mkF m 150 #[.val (.int n1), .val (.int n2), .val (.int n3), .val (.int n4), .val (.int q), .val (.int k), .val (.double (FP.i2d k)), .second, .val (.ref b14), .val (.double (own_f (FP.i2d k) (1 : Int32))), .second, .val (.double (own_f (FP.i2d k) q)), .second, .val (.int q), .val (.double (own_f (FP.i2d k) q)), .second, .val (.int (1 : Int32)), .val (.int si), .val (.int ti), .unset, .unset, .unset, .unset, .unset, .unset, .unset, .unset, .unset] [(.int (1 : Int32)), (.int (si * ti))])) (fun _ kk_ => XS.iconst X23.here hx rfl (hb hby at_149) kk_) ?_
    refine OWW.st (B := T23.setTop (mkF m 151 #[.val (.int n1), .val (.int n2), .val (.int n3), .val (.int n4), .val (.int q), .val (.int k), .val (.double (FP.i2d k)), .second, .val (.ref b14), .val (.double (own_f (FP.i2d k) (1 : Int32))), .second, .val (.double (own_f (FP.i2d k) q)), .second, .val (.int q), .val (.double (own_f (FP.i2d k) q)), .second, .val (.int (1 : Int32)), .val (.int si), .val (.int ti), .unset, .unset, .unset, .unset, .unset, .unset, .unset, .unset, .unset] [(.int ((si * ti) + (1 : Int32)))])) (fun _ kk_ => XS.iadd X23.here hx rfl (hb hby at_150) rfl kk_) ?_
    suffices J : ∀ q3 : Int32, (q3.toInt = si.toInt * ti.toInt + 1) → OWW p e below s (Q0 Z n1 n2 n3 n4 h0 n0) 10 54 (T23.setTop (mkF m 151 #[.val (.int n1), .val (.int n2), .val (.int n3), .val (.int n4), .val (.int q), .val (.int k), .val (.double (FP.i2d k)), .second, .val (.ref b14), .val (.double (own_f (FP.i2d k) (1 : Int32))), .second, .val (.double (own_f (FP.i2d k) q)), .second, .val (.int q), .val (.double (own_f (FP.i2d k) q)), .second, .val (.int (1 : Int32)), .val (.int si), .val (.int ti), .unset, .unset, .unset, .unset, .unset, .unset, .unset, .unset, .unset] [(.int q3)])) from J _ (own_q3 hst)
    intro q3 hq3
    refine OWW.st (B := T23.setTop (mkF m 153 #[.val (.int n1), .val (.int n2), .val (.int n3), .val (.int n4), .val (.int q), .val (.int k), .val (.double (FP.i2d k)), .second, .val (.ref b14), .val (.double (own_f (FP.i2d k) (1 : Int32))), .second, .val (.double (own_f (FP.i2d k) q)), .second, .val (.int q), .val (.double (own_f (FP.i2d k) q)), .second, .val (.int (1 : Int32)), .val (.int si), .val (.int ti), .val (.int q3), .unset, .unset, .unset, .unset, .unset, .unset, .unset, .unset] [])) (fun _ kk_ => XS.istore X23.here hx rfl (hb hby at_151) rfl (l' := #[.val (.int n1), .val (.int n2), .val (.int n3), .val (.int n4), .val (.int q), .val (.int k), .val (.double (FP.i2d k)), .second, .val (.ref b14), .val (.double (own_f (FP.i2d k) (1 : Int32))), .second, .val (.double (own_f (FP.i2d k) q)), .second, .val (.int q), .val (.double (own_f (FP.i2d k) q)), .second, .val (.int (1 : Int32)), .val (.int si), .val (.int ti), .val (.int q3), .unset, .unset, .unset, .unset, .unset, .unset, .unset, .unset]) rfl kk_) ?_
    refine OWW.st (B := T23.setTop (mkF m 155 #[.val (.int n1), .val (.int n2), .val (.int n3), .val (.int n4), .val (.int q), .val (.int k), .val (.double (FP.i2d k)), .second, .val (.ref b14), .val (.double (own_f (FP.i2d k) (1 : Int32))), .second, .val (.double (own_f (FP.i2d k) q)), .second, .val (.int q), .val (.double (own_f (FP.i2d k) q)), .second, .val (.int (1 : Int32)), .val (.int si), .val (.int ti), .val (.int q3), .unset, .unset, .unset, .unset, .unset, .unset, .unset, .unset] [(.int q3)])) (fun _ kk_ => XS.iload X23.here hx rfl (hb hby at_153) rfl kk_) ?_
    refine OWW.st (B := T23.setTop (mkF m 156 #[.val (.int n1), .val (.int n2), .val (.int n3), .val (.int n4), .val (.int q), .val (.int k), .val (.double (FP.i2d k)), .second, .val (.ref b14), .val (.double (own_f (FP.i2d k) (1 : Int32))), .second, .val (.double (own_f (FP.i2d k) q)), .second, .val (.int q), .val (.double (own_f (FP.i2d k) q)), .second, .val (.int (1 : Int32)), .val (.int si), .val (.int ti), .val (.int q3), .unset, .unset, .unset, .unset, .unset, .unset, .unset, .unset] [(.long (q3.toInt64))])) (fun _ kk_ => XS.i2l X23.here hx rfl (hb hby at_155) rfl kk_) ?_
    refine OWW.st (B := T23.setTop (mkF m 158 #[.val (.int n1), .val (.int n2), .val (.int n3), .val (.int n4), .val (.int q), .val (.int k), .val (.double (FP.i2d k)), .second, .val (.ref b14), .val (.double (own_f (FP.i2d k) (1 : Int32))), .second, .val (.double (own_f (FP.i2d k) q)), .second, .val (.int q), .val (.double (own_f (FP.i2d k) q)), .second, .val (.int (1 : Int32)), .val (.int si), .val (.int ti), .val (.int q3), .unset, .unset, .unset, .unset, .unset, .unset, .unset, .unset] [(.int si), (.long (q3.toInt64))])) (fun _ kk_ => XS.iload X23.here hx rfl (hb hby at_156) rfl kk_) ?_
    refine OWW.st (B := T23.setTop (mkF m 159 #[.val (.int n1), .val (.int n2), .val (.int n3), .val (.int n4), .val (.int q), .val (.int k), .val (.double (FP.i2d k)), .second, .val (.ref b14), .val (.double (own_f (FP.i2d k) (1 : Int32))), .second, .val (.double (own_f (FP.i2d k) q)), .second, .val (.int q), .val (.double (own_f (FP.i2d k) q)), .second, .val (.int (1 : Int32)), .val (.int si), .val (.int ti), .val (.int q3), .unset, .unset, .unset, .unset, .unset, .unset, .unset, .unset] [(.int (1 : Int32)), (.int si), (.long (q3.toInt64))])) (fun _ kk_ => XS.iconst X23.here hx rfl (hb hby at_158) kk_) ?_
    refine OWW.st (B := T23.setTop (mkF m 160 #[.val (.int n1), .val (.int n2), .val (.int n3), .val (.int n4), .val (.int q), .val (.int k), .val (.double (FP.i2d k)), .second, .val (.ref b14), .val (.double (own_f (FP.i2d k) (1 : Int32))), .second, .val (.double (own_f (FP.i2d k) q)), .second, .val (.int q), .val (.double (own_f (FP.i2d k) q)), .second, .val (.int (1 : Int32)), .val (.int si), .val (.int ti), .val (.int q3), .unset, .unset, .unset, .unset, .unset, .unset, .unset, .unset] [(.int (si - (1 : Int32))), (.long (q3.toInt64))])) (fun _ kk_ => XS.isub X23.here hx rfl (hb hby at_159) rfl kk_) ?_
    refine OWW.st (B := T23.setTop (mkF m 161 #[.val (.int n1), .val (.int n2), .val (.int n3), .val (.int n4), .val (.int q), .val (.int k), .val (.double (FP.i2d k)), .second, .val (.ref b14), .val (.double (own_f (FP.i2d k) (1 : Int32))), .second, .val (.double (own_f (FP.i2d k) q)), .second, .val (.int q), .val (.double (own_f (FP.i2d k) q)), .second, .val (.int (1 : Int32)), .val (.int si), .val (.int ti), .val (.int q3), .unset, .unset, .unset, .unset, .unset, .unset, .unset, .unset] [(.long ((si - (1 : Int32)).toInt64)), (.long (q3.toInt64))])) (fun _ kk_ => XS.i2l X23.here hx rfl (hb hby at_160) rfl kk_) ?_
    refine OWW.st (B := T23.setTop (mkF m 162 #[.val (.int n1), .val (.int n2), .val (.int n3), .val (.int n4), .val (.int q), .val (.int k), .val (.double (FP.i2d k)), .second, .val (.ref b14), .val (.double (own_f (FP.i2d k) (1 : Int32))), .second, .val (.double (own_f (FP.i2d k) q)), .second, .val (.int q), .val (.double (own_f (FP.i2d k) q)), .second, .val (.int (1 : Int32)), .val (.int si), .val (.int ti), .val (.int q3), .unset, .unset, .unset, .unset, .unset, .unset, .unset, .unset] [(.long ((q3.toInt64) * ((si - (1 : Int32)).toInt64)))])) (fun _ kk_ => XS.lmul X23.here hx rfl (hb hby at_161) rfl kk_) ?_
    suffices J : ∀ kb : Int64, (kb.toInt = q3.toInt * (si.toInt - 1)) → OWW p e below s (Q0 Z n1 n2 n3 n4 h0 n0) 10 54 (T23.setTop (mkF m 162 #[.val (.int n1), .val (.int n2), .val (.int n3), .val (.int n4), .val (.int q), .val (.int k), .val (.double (FP.i2d k)), .second, .val (.ref b14), .val (.double (own_f (FP.i2d k) (1 : Int32))), .second, .val (.double (own_f (FP.i2d k) q)), .second, .val (.int q), .val (.double (own_f (FP.i2d k) q)), .second, .val (.int (1 : Int32)), .val (.int si), .val (.int ti), .val (.int q3), .unset, .unset, .unset, .unset, .unset, .unset, .unset, .unset] [(.long kb)])) from J _ (own_kb hst hq3)
    intro kb hkb
    refine OWW.st (B := T23.setTop (mkF m 164 #[.val (.int n1), .val (.int n2), .val (.int n3), .val (.int n4), .val (.int q), .val (.int k), .val (.double (FP.i2d k)), .second, .val (.ref b14), .val (.double (own_f (FP.i2d k) (1 : Int32))), .second, .val (.double (own_f (FP.i2d k) q)), .second, .val (.int q), .val (.double (own_f (FP.i2d k) q)), .second, .val (.int (1 : Int32)), .val (.int si), .val (.int ti), .val (.int q3), .val (.long kb), .second, .unset, .unset, .unset, .unset, .unset, .unset] [])) (fun _ kk_ => XS.lstore X23.here hx rfl (hb hby at_162) rfl (l' := #[.val (.int n1), .val (.int n2), .val (.int n3), .val (.int n4), .val (.int q), .val (.int k), .val (.double (FP.i2d k)), .second, .val (.ref b14), .val (.double (own_f (FP.i2d k) (1 : Int32))), .second, .val (.double (own_f (FP.i2d k) q)), .second, .val (.int q), .val (.double (own_f (FP.i2d k) q)), .second, .val (.int (1 : Int32)), .val (.int si), .val (.int ti), .val (.int q3), .val (.long kb), .second, .unset, .unset, .unset, .unset, .unset, .unset]) rfl kk_) ?_
    refine OWW.st (B := T23.setTop (mkF m 166 #[.val (.int n1), .val (.int n2), .val (.int n3), .val (.int n4), .val (.int q), .val (.int k), .val (.double (FP.i2d k)), .second, .val (.ref b14), .val (.double (own_f (FP.i2d k) (1 : Int32))), .second, .val (.double (own_f (FP.i2d k) q)), .second, .val (.int q), .val (.double (own_f (FP.i2d k) q)), .second, .val (.int (1 : Int32)), .val (.int si), .val (.int ti), .val (.int q3), .val (.long kb), .second, .unset, .unset, .unset, .unset, .unset, .unset] [(.int ti)])) (fun _ kk_ => XS.iload X23.here hx rfl (hb hby at_164) rfl kk_) ?_
    refine OWW.st (B := T23.setTop (mkF m 167 #[.val (.int n1), .val (.int n2), .val (.int n3), .val (.int n4), .val (.int q), .val (.int k), .val (.double (FP.i2d k)), .second, .val (.ref b14), .val (.double (own_f (FP.i2d k) (1 : Int32))), .second, .val (.double (own_f (FP.i2d k) q)), .second, .val (.int q), .val (.double (own_f (FP.i2d k) q)), .second, .val (.int (1 : Int32)), .val (.int si), .val (.int ti), .val (.int q3), .val (.long kb), .second, .unset, .unset, .unset, .unset, .unset, .unset] [(.long (ti.toInt64))])) (fun _ kk_ => XS.i2l X23.here hx rfl (hb hby at_166) rfl kk_) ?_
    refine OWW.st (B := T23.setTop (mkF m 169 #[.val (.int n1), .val (.int n2), .val (.int n3), .val (.int n4), .val (.int q), .val (.int k), .val (.double (FP.i2d k)), .second, .val (.ref b14), .val (.double (own_f (FP.i2d k) (1 : Int32))), .second, .val (.double (own_f (FP.i2d k) q)), .second, .val (.int q), .val (.double (own_f (FP.i2d k) q)), .second, .val (.int (1 : Int32)), .val (.int si), .val (.int ti), .val (.int q3), .val (.long kb), .second, .unset, .unset, .unset, .unset, .unset, .unset] [(.int si), (.long (ti.toInt64))])) (fun _ kk_ => XS.iload X23.here hx rfl (hb hby at_167) rfl kk_) ?_
    refine OWW.st (B := T23.setTop (mkF m 170 #[.val (.int n1), .val (.int n2), .val (.int n3), .val (.int n4), .val (.int q), .val (.int k), .val (.double (FP.i2d k)), .second, .val (.ref b14), .val (.double (own_f (FP.i2d k) (1 : Int32))), .second, .val (.double (own_f (FP.i2d k) q)), .second, .val (.int q), .val (.double (own_f (FP.i2d k) q)), .second, .val (.int (1 : Int32)), .val (.int si), .val (.int ti), .val (.int q3), .val (.long kb), .second, .unset, .unset, .unset, .unset, .unset, .unset] [(.int (1 : Int32)), (.int si), (.long (ti.toInt64))])) (fun _ kk_ => XS.iconst X23.here hx rfl (hb hby at_169) kk_) ?_
    refine OWW.st (B := T23.setTop (mkF m 171 #[.val (.int n1), .val (.int n2), .val (.int n3), .val (.int n4), .val (.int q), .val (.int k), .val (.double (FP.i2d k)), .second, .val (.ref b14), .val (.double (own_f (FP.i2d k) (1 : Int32))), .second, .val (.double (own_f (FP.i2d k) q)), .second, .val (.int q), .val (.double (own_f (FP.i2d k) q)), .second, .val (.int (1 : Int32)), .val (.int si), .val (.int ti), .val (.int q3), .val (.long kb), .second, .unset, .unset, .unset, .unset, .unset, .unset] [(.int (si - (1 : Int32))), (.long (ti.toInt64))])) (fun _ kk_ => XS.isub X23.here hx rfl (hb hby at_170) rfl kk_) ?_
    refine OWW.st (B := T23.setTop (mkF m 172 #[.val (.int n1), .val (.int n2), .val (.int n3), .val (.int n4), .val (.int q), .val (.int k), .val (.double (FP.i2d k)), .second, .val (.ref b14), .val (.double (own_f (FP.i2d k) (1 : Int32))), .second, .val (.double (own_f (FP.i2d k) q)), .second, .val (.int q), .val (.double (own_f (FP.i2d k) q)), .second, .val (.int (1 : Int32)), .val (.int si), .val (.int ti), .val (.int q3), .val (.long kb), .second, .unset, .unset, .unset, .unset, .unset, .unset] [(.long ((si - (1 : Int32)).toInt64)), (.long (ti.toInt64))])) (fun _ kk_ => XS.i2l X23.here hx rfl (hb hby at_171) rfl kk_) ?_
    refine OWW.st (B := T23.setTop (mkF m 173 #[.val (.int n1), .val (.int n2), .val (.int n3), .val (.int n4), .val (.int q), .val (.int k), .val (.double (FP.i2d k)), .second, .val (.ref b14), .val (.double (own_f (FP.i2d k) (1 : Int32))), .second, .val (.double (own_f (FP.i2d k) q)), .second, .val (.int q), .val (.double (own_f (FP.i2d k) q)), .second, .val (.int (1 : Int32)), .val (.int si), .val (.int ti), .val (.int q3), .val (.long kb), .second, .unset, .unset, .unset, .unset, .unset, .unset] [(.long ((ti.toInt64) * ((si - (1 : Int32)).toInt64)))])) (fun _ kk_ => XS.lmul X23.here hx rfl (hb hby at_172) rfl kk_) ?_
    refine OWW.st (B := T23.setTop (mkF m 174 #[.val (.int n1), .val (.int n2), .val (.int n3), .val (.int n4), .val (.int q), .val (.int k), .val (.double (FP.i2d k)), .second, .val (.ref b14), .val (.double (own_f (FP.i2d k) (1 : Int32))), .second, .val (.double (own_f (FP.i2d k) q)), .second, .val (.int q), .val (.double (own_f (FP.i2d k) q)), .second, .val (.int (1 : Int32)), .val (.int si), .val (.int ti), .val (.int q3), .val (.long kb), .second, .unset, .unset, .unset, .unset, .unset, .unset] [(.long (1 : Int64)), (.long ((ti.toInt64) * ((si - (1 : Int32)).toInt64)))])) (fun _ kk_ => XS.lconst X23.here hx rfl (hb hby at_173) kk_) ?_
    refine OWW.st (B := T23.setTop (mkF m 175 #[.val (.int n1), .val (.int n2), .val (.int n3), .val (.int n4), .val (.int q), .val (.int k), .val (.double (FP.i2d k)), .second, .val (.ref b14), .val (.double (own_f (FP.i2d k) (1 : Int32))), .second, .val (.double (own_f (FP.i2d k) q)), .second, .val (.int q), .val (.double (own_f (FP.i2d k) q)), .second, .val (.int (1 : Int32)), .val (.int si), .val (.int ti), .val (.int q3), .val (.long kb), .second, .unset, .unset, .unset, .unset, .unset, .unset] [(.long (((ti.toInt64) * ((si - (1 : Int32)).toInt64)) + (1 : Int64)))])) (fun _ kk_ => XS.ladd X23.here hx rfl (hb hby at_174) rfl kk_) ?_
    suffices J : ∀ eb : Int64, (eb.toInt = ti.toInt * (si.toInt - 1) + 1) → OWW p e below s (Q0 Z n1 n2 n3 n4 h0 n0) 10 54 (T23.setTop (mkF m 175 #[.val (.int n1), .val (.int n2), .val (.int n3), .val (.int n4), .val (.int q), .val (.int k), .val (.double (FP.i2d k)), .second, .val (.ref b14), .val (.double (own_f (FP.i2d k) (1 : Int32))), .second, .val (.double (own_f (FP.i2d k) q)), .second, .val (.int q), .val (.double (own_f (FP.i2d k) q)), .second, .val (.int (1 : Int32)), .val (.int si), .val (.int ti), .val (.int q3), .val (.long kb), .second, .unset, .unset, .unset, .unset, .unset, .unset] [(.long eb)])) from J _ (own_eb hst)
    intro eb heb
    refine OWW.st (B := T23.setTop (mkF m 177 #[.val (.int n1), .val (.int n2), .val (.int n3), .val (.int n4), .val (.int q), .val (.int k), .val (.double (FP.i2d k)), .second, .val (.ref b14), .val (.double (own_f (FP.i2d k) (1 : Int32))), .second, .val (.double (own_f (FP.i2d k) q)), .second, .val (.int q), .val (.double (own_f (FP.i2d k) q)), .second, .val (.int (1 : Int32)), .val (.int si), .val (.int ti), .val (.int q3), .val (.long kb), .second, .val (.long eb), .second, .unset, .unset, .unset, .unset] [])) (fun _ kk_ => XS.lstore X23.here hx rfl (hb hby at_175) rfl (l' := #[.val (.int n1), .val (.int n2), .val (.int n3), .val (.int n4), .val (.int q), .val (.int k), .val (.double (FP.i2d k)), .second, .val (.ref b14), .val (.double (own_f (FP.i2d k) (1 : Int32))), .second, .val (.double (own_f (FP.i2d k) q)), .second, .val (.int q), .val (.double (own_f (FP.i2d k) q)), .second, .val (.int (1 : Int32)), .val (.int si), .val (.int ti), .val (.int q3), .val (.long kb), .second, .val (.long eb), .second, .unset, .unset, .unset, .unset]) rfl kk_) ?_
    obtain ⟨T24, h24, X24, e24, E24, A24, D24, -, st24⟩ := newO X23 hx hZ15 hown15 (w_6 hw) (w_7 hw) (w_8 hw) e23 (g := (mkF m 177 #[.val (.int n1), .val (.int n2), .val (.int n3), .val (.int n4), .val (.int q), .val (.int k), .val (.double (FP.i2d k)), .second, .val (.ref b14), .val (.double (own_f (FP.i2d k) (1 : Int32))), .second, .val (.double (own_f (FP.i2d k) q)), .second, .val (.int q), .val (.double (own_f (FP.i2d k) q)), .second, .val (.int (1 : Int32)), .val (.int si), .val (.int ti), .val (.int q3), .val (.long kb), .second, .val (.long eb), .second, .unset, .unset, .unset, .unset] [])) rfl (hb hby at_177) (by decide) (by decide)
    obtain ⟨b24, g24⟩ : ∃ z, z = T15.heap.size := ⟨_, rfl⟩
    rw [← g24] at A24 D24 st24
    have n_b24 : n0 ≤ b24 := Nat.le_trans (own_oldle O15) (Nat.le_of_eq g24.symm)
    have O24 : Old Z n0 h24 := O15.ext E24
    have F24_34 : Fld Z h24 b24 "com/example/graded_search/gradedsearch/engine/Bm25" "k1" "D" (.double 0) := D24 (Or.inr (w_34 hw)) (ty := .double) (by decide)
    have F24_36 : Fld Z h24 b24 "com/example/graded_search/gradedsearch/engine/Bm25" "b" "D" (.double 0) := D24 (Or.inr (w_36 hw)) (ty := .double) (by decide)
    have F24_39 : Fld Z h24 b24 "com/example/graded_search/gradedsearch/engine/Bm25" "k3" "D" (.double 0) := D24 (Or.inr (w_39 hw)) (ty := .double) (by decide)
    refine OWW.st (B := T24.setTop (mkF m 180 #[.val (.int n1), .val (.int n2), .val (.int n3), .val (.int n4), .val (.int q), .val (.int k), .val (.double (FP.i2d k)), .second, .val (.ref b14), .val (.double (own_f (FP.i2d k) (1 : Int32))), .second, .val (.double (own_f (FP.i2d k) q)), .second, .val (.int q), .val (.double (own_f (FP.i2d k) q)), .second, .val (.int (1 : Int32)), .val (.int si), .val (.int ti), .val (.int q3), .val (.long kb), .second, .val (.long eb), .second, .unset, .unset, .unset, .unset] [(.ref b24)])) (st24) ?_
    refine OWW.st (B := T24.setTop (mkF m 181 #[.val (.int n1), .val (.int n2), .val (.int n3), .val (.int n4), .val (.int q), .val (.int k), .val (.double (FP.i2d k)), .second, .val (.ref b14), .val (.double (own_f (FP.i2d k) (1 : Int32))), .second, .val (.double (own_f (FP.i2d k) q)), .second, .val (.int q), .val (.double (own_f (FP.i2d k) q)), .second, .val (.int (1 : Int32)), .val (.int si), .val (.int ti), .val (.int q3), .val (.long kb), .second, .val (.long eb), .second, .unset, .unset, .unset, .unset] [(.ref b24), (.ref b24)])) (fun _ kk_ => XS.dup X24.here hx rfl (hb hby at_180) rfl rfl kk_) ?_
    refine OWW.st (B := T24.setTop (mkF m 182 #[.val (.int n1), .val (.int n2), .val (.int n3), .val (.int n4), .val (.int q), .val (.int k), .val (.double (FP.i2d k)), .second, .val (.ref b14), .val (.double (own_f (FP.i2d k) (1 : Int32))), .second, .val (.double (own_f (FP.i2d k) q)), .second, .val (.int q), .val (.double (own_f (FP.i2d k) q)), .second, .val (.int (1 : Int32)), .val (.int si), .val (.int ti), .val (.int q3), .val (.long kb), .second, .val (.long eb), .second, .unset, .unset, .unset, .unset] [(.double (4607182418800017408 : UInt64)), (.ref b24), (.ref b24)])) (fun _ kk_ => XS.dconst1 X24.here hx rfl (hb hby at_181) rfl kk_) ?_
    refine OWW.st (B := T24.setTop (mkF m 185 #[.val (.int n1), .val (.int n2), .val (.int n3), .val (.int n4), .val (.int q), .val (.int k), .val (.double (FP.i2d k)), .second, .val (.ref b14), .val (.double (own_f (FP.i2d k) (1 : Int32))), .second, .val (.double (own_f (FP.i2d k) q)), .second, .val (.int q), .val (.double (own_f (FP.i2d k) q)), .second, .val (.int (1 : Int32)), .val (.int si), .val (.int ti), .val (.int q3), .val (.long kb), .second, .val (.long eb), .second, .unset, .unset, .unset, .unset] [(.double (4602678819172646912 : UInt64)), (.double (4607182418800017408 : UInt64)), (.ref b24), (.ref b24)])) (X24.ldc2DoubleC hx hown15 (mvT hZ15 (w_9 hw)) (g := (mkF m 182 #[.val (.int n1), .val (.int n2), .val (.int n3), .val (.int n4), .val (.int q), .val (.int k), .val (.double (FP.i2d k)), .second, .val (.ref b14), .val (.double (own_f (FP.i2d k) (1 : Int32))), .second, .val (.double (own_f (FP.i2d k) q)), .second, .val (.int q), .val (.double (own_f (FP.i2d k) q)), .second, .val (.int (1 : Int32)), .val (.int si), .val (.int ti), .val (.int q3), .val (.long kb), .second, .val (.long eb), .second, .unset, .unset, .unset, .unset] [(.double (4607182418800017408 : UInt64)), (.ref b24), (.ref b24)])) rfl (hb hby at_182)) ?_
    refine OWW.st (B := T24.setTop (mkF m 187 #[.val (.int n1), .val (.int n2), .val (.int n3), .val (.int n4), .val (.int q), .val (.int k), .val (.double (FP.i2d k)), .second, .val (.ref b14), .val (.double (own_f (FP.i2d k) (1 : Int32))), .second, .val (.double (own_f (FP.i2d k) q)), .second, .val (.int q), .val (.double (own_f (FP.i2d k) q)), .second, .val (.int (1 : Int32)), .val (.int si), .val (.int ti), .val (.int q3), .val (.long kb), .second, .val (.long eb), .second, .unset, .unset, .unset, .unset] [(.long kb), (.double (4602678819172646912 : UInt64)), (.double (4607182418800017408 : UInt64)), (.ref b24), (.ref b24)])) (fun _ kk_ => XS.lload X24.here hx rfl (hb hby at_185) rfl kk_) ?_
    refine OWW.st (B := T24.setTop (mkF m 188 #[.val (.int n1), .val (.int n2), .val (.int n3), .val (.int n4), .val (.int q), .val (.int k), .val (.double (FP.i2d k)), .second, .val (.ref b14), .val (.double (own_f (FP.i2d k) (1 : Int32))), .second, .val (.double (own_f (FP.i2d k) q)), .second, .val (.int q), .val (.double (own_f (FP.i2d k) q)), .second, .val (.int (1 : Int32)), .val (.int si), .val (.int ti), .val (.int q3), .val (.long kb), .second, .val (.long eb), .second, .unset, .unset, .unset, .unset] [(.double (FP.l2d kb)), (.double (4602678819172646912 : UInt64)), (.double (4607182418800017408 : UInt64)), (.ref b24), (.ref b24)])) (fun _ kk_ => XS.l2dS X24.here hx rfl (hb hby at_187) rfl rfl kk_) ?_
    obtain ⟨_, _, ⟨T25, L25, k25, n25⟩, -, X25, hs25, hsz25, ⟨Lc25, hQ25, l25, y25, z25⟩, st25⟩ := X24.specialBackS hx (y := (⟨"com/example/graded_search/gradedsearch/engine/Bm25", "<init>", "(DDD)V"⟩ : MethodName)) rfl hown15 (mvT hZ15 (w_10 hw)) (mvT hZ15 (w_11 hw)) (mvT hZ15 (w_12 hw)) (by decide) (backOfS (W := 1) (rmBI l Z a0 hw [] b24 (FP.l2d kb) h24 n0 O24 A24 F24_34 F24_36 F24_39 n_b24 (OwnG.of (OwnR.of (own_kbK hst hq3 hkb).1.lo (by have := (own_kbK hst hq3 hkb).2; omega)))) hZ15 (w_12 hw) (w_8 hw) (by decide) (by decide)) (g := (mkF m 188 #[.val (.int n1), .val (.int n2), .val (.int n3), .val (.int n4), .val (.int q), .val (.int k), .val (.double (FP.i2d k)), .second, .val (.ref b14), .val (.double (own_f (FP.i2d k) (1 : Int32))), .second, .val (.double (own_f (FP.i2d k) q)), .second, .val (.int q), .val (.double (own_f (FP.i2d k) q)), .second, .val (.int (1 : Int32)), .val (.int si), .val (.int ti), .val (.int q3), .val (.long kb), .second, .val (.long eb), .second, .unset, .unset, .unset, .unset] [(.double (FP.l2d kb)), (.double (4602678819172646912 : UInt64)), (.double (4607182418800017408 : UInt64)), (.ref b24), (.ref b24)])) rfl (by rw [hml]; rfl) (Steps.refl _) (a := b24) (argsL := [(.double (4607182418800017408 : UInt64)), (.double (4602678819172646912 : UInt64)), (.double (FP.l2d kb))]) (rest := [(.ref b24)]) (lenOf pd_3 rfl) rfl (by show 2 * 0 + _ ≤ _; exact Nat.le_of_eq rfl) (hb hby at_188) (fun _ _ => ⟨rfl, e24, (by decide : 6 + 4 ≤ _), (by decide : 30 + 24 ≤ _)⟩)
    dsimp only [Pt.U, Pt.locs, Pt.cells, Pt.slots] at hs25 hsz25
    have hS25 := foldS hS15 (show _ ≤ T24.heap.size by rw [e24]; exact (Nat.le_trans hk15 E24.1)) hs25 hsz25
    have hZ25 : Z.Warmed39 (s.setVm T25.vm).vm := State.Warmed39.trans (t := (s.setVm T15.vm)) hZ15 hs25.1
    have hown25 : (s.setVm T25.vm).vm.findClass "com/example/graded_search/gradedsearch/engine/Bm25QueryFactorPinLaw" = some m.cls := by rw [show (s.setVm T25.vm).vm = T25.vm from rfl, hs25.1.alike.findClass]; exact hown15
    dsimp only [Pt.U, Pt.locs, Pt.cells, Pt.slots] at X25 l25 y25 z25 st25 hQ25
    subst l25 y25 z25
    obtain ⟨rfl, Nq25, K25, Ei25, Fr25⟩ := hQ25
    have N25 := Fr.app N23 Nq25
    have O25 : Old Z n0 T25.heap := O24.keep K25 (allS n_b24 all0)
    have hk25 : T25.heap.size ≤ T25.heap.size := Nat.le_of_eq (by rfl)
    refine OWW.tr (B := T25.setTop (mkF m 191 #[.val (.int n1), .val (.int n2), .val (.int n3), .val (.int n4), .val (.int q), .val (.int k), .val (.double (FP.i2d k)), .second, .val (.ref b14), .val (.double (own_f (FP.i2d k) (1 : Int32))), .second, .val (.double (own_f (FP.i2d k) q)), .second, .val (.int q), .val (.double (own_f (FP.i2d k) q)), .second, .val (.int (1 : Int32)), .val (.int si), .val (.int ti), .val (.int q3), .val (.long kb), .second, .val (.long eb), .second, .unset, .unset, .unset, .unset] [(.ref b24)])) (st25) ?_
    refine OWW.st (B := T25.setTop (mkF m 193 #[.val (.int n1), .val (.int n2), .val (.int n3), .val (.int n4), .val (.int q), .val (.int k), .val (.double (FP.i2d k)), .second, .val (.ref b14), .val (.double (own_f (FP.i2d k) (1 : Int32))), .second, .val (.double (own_f (FP.i2d k) q)), .second, .val (.int q), .val (.double (own_f (FP.i2d k) q)), .second, .val (.int (1 : Int32)), .val (.int si), .val (.int ti), .val (.int q3), .val (.long kb), .second, .val (.long eb), .second, .val (.ref b24), .unset, .unset, .unset] [])) (fun _ kk_ => XS.astore X25.here hx rfl (hb hby at_191) rfl rfl (l' := #[.val (.int n1), .val (.int n2), .val (.int n3), .val (.int n4), .val (.int q), .val (.int k), .val (.double (FP.i2d k)), .second, .val (.ref b14), .val (.double (own_f (FP.i2d k) (1 : Int32))), .second, .val (.double (own_f (FP.i2d k) q)), .second, .val (.int q), .val (.double (own_f (FP.i2d k) q)), .second, .val (.int (1 : Int32)), .val (.int si), .val (.int ti), .val (.int q3), .val (.long kb), .second, .val (.long eb), .second, .val (.ref b24), .unset, .unset, .unset]) rfl kk_) ?_
    refine OWW.st (B := T25.setTop (mkF m 195 #[.val (.int n1), .val (.int n2), .val (.int n3), .val (.int n4), .val (.int q), .val (.int k), .val (.double (FP.i2d k)), .second, .val (.ref b14), .val (.double (own_f (FP.i2d k) (1 : Int32))), .second, .val (.double (own_f (FP.i2d k) q)), .second, .val (.int q), .val (.double (own_f (FP.i2d k) q)), .second, .val (.int (1 : Int32)), .val (.int si), .val (.int ti), .val (.int q3), .val (.long kb), .second, .val (.long eb), .second, .val (.ref b24), .unset, .unset, .unset] [(.ref b24)])) (fun _ kk_ => XS.aload X25.here hx rfl (hb hby at_193) rfl rfl kk_) ?_
    refine OWW.st (B := T25.setTop (mkF m 197 #[.val (.int n1), .val (.int n2), .val (.int n3), .val (.int n4), .val (.int q), .val (.int k), .val (.double (FP.i2d k)), .second, .val (.ref b14), .val (.double (own_f (FP.i2d k) (1 : Int32))), .second, .val (.double (own_f (FP.i2d k) q)), .second, .val (.int q), .val (.double (own_f (FP.i2d k) q)), .second, .val (.int (1 : Int32)), .val (.int si), .val (.int ti), .val (.int q3), .val (.long kb), .second, .val (.long eb), .second, .val (.ref b24), .unset, .unset, .unset] [(.int q3), (.ref b24)])) (fun _ kk_ => XS.iload X25.here hx rfl (hb hby at_195) rfl kk_) ?_
    obtain ⟨cq26, kq26, q26a, q26b, q26c⟩ := isOf hZ25 rfl Ei25
    obtain ⟨_, _, ⟨T26, L26, k26, n26⟩, -, X26, ⟨Lc26, hQ26, l26, y26, z26⟩, st26⟩ := X25.virtualBack hx (y := (⟨"com/example/graded_search/gradedsearch/engine/Bm25", "queryFactor", "(I)D"⟩ : MethodName)) (z := (⟨"com/example/graded_search/gradedsearch/engine/Bm25", "queryFactor", "(I)D"⟩ : MethodName)) hown25 (mvT hZ25 (w_40 hw)) (mvT hZ25 (w_41 hw)) (notFace_of_selects (args := #[]) (mvT hZ25 (w_43 hw))) (mvT hZ25 (w_43 hw)) (mvT hZ25 (w_42 hw)) (by decide) (backOf (W := 0) (rmQF l Z a0 hw [] b24 (FP.l2d kb) q3 T25.heap n0 O25 Fr25 ((own_kbK hst hq3 hkb).1.n (own_q3r hst hq3).1 (own_kbm hst hq3 hkb))) hZ25 (w_44 hw) (w_8 hw) (by decide) (by decide)) q26a q26c (g := (mkF m 197 #[.val (.int n1), .val (.int n2), .val (.int n3), .val (.int n4), .val (.int q), .val (.int k), .val (.double (FP.i2d k)), .second, .val (.ref b14), .val (.double (own_f (FP.i2d k) (1 : Int32))), .second, .val (.double (own_f (FP.i2d k) q)), .second, .val (.int q), .val (.double (own_f (FP.i2d k) q)), .second, .val (.int (1 : Int32)), .val (.int si), .val (.int ti), .val (.int q3), .val (.long kb), .second, .val (.long eb), .second, .val (.ref b24), .unset, .unset, .unset] [(.int q3), (.ref b24)])) rfl (by rw [hml]; rfl) (Steps.refl _) (argsL := [(.int q3)]) (rest := []) (lenOf pd_4 rfl) rfl (by show 2 * 0 + _ ≤ _; exact Nat.le_of_eq rfl) (hb hby at_197) (fun _ _ => ⟨rfl, rfl, (by decide : 10 + 0 ≤ _), (by decide : 54 + 0 ≤ _)⟩)
    dsimp only [Pt.U, Pt.locs, Pt.cells, Pt.slots] at X26 l26 y26 z26 st26 hQ26
    subst l26 y26 z26
    obtain ⟨rfl, Nq26, e26⟩ := hQ26
    have N26 := Fr.app N25 Nq26
    refine OWW.tr (B := T26.setTop (mkF m 200 #[.val (.int n1), .val (.int n2), .val (.int n3), .val (.int n4), .val (.int q), .val (.int k), .val (.double (FP.i2d k)), .second, .val (.ref b14), .val (.double (own_f (FP.i2d k) (1 : Int32))), .second, .val (.double (own_f (FP.i2d k) q)), .second, .val (.int q), .val (.double (own_f (FP.i2d k) q)), .second, .val (.int (1 : Int32)), .val (.int si), .val (.int ti), .val (.int q3), .val (.long kb), .second, .val (.long eb), .second, .val (.ref b24), .unset, .unset, .unset] [(.double (own_f (FP.l2d kb) q3))])) (st26) ?_
    refine OWW.st (B := T26.setTop (mkF m 202 #[.val (.int n1), .val (.int n2), .val (.int n3), .val (.int n4), .val (.int q), .val (.int k), .val (.double (FP.i2d k)), .second, .val (.ref b14), .val (.double (own_f (FP.i2d k) (1 : Int32))), .second, .val (.double (own_f (FP.i2d k) q)), .second, .val (.int q), .val (.double (own_f (FP.i2d k) q)), .second, .val (.int (1 : Int32)), .val (.int si), .val (.int ti), .val (.int q3), .val (.long kb), .second, .val (.long eb), .second, .val (.ref b24), .val (.double (own_f (FP.l2d kb) q3)), .second, .unset] [])) (fun _ kk_ => XS.dstore X26.here hx rfl (hb hby at_200) rfl (l' := #[.val (.int n1), .val (.int n2), .val (.int n3), .val (.int n4), .val (.int q), .val (.int k), .val (.double (FP.i2d k)), .second, .val (.ref b14), .val (.double (own_f (FP.i2d k) (1 : Int32))), .second, .val (.double (own_f (FP.i2d k) q)), .second, .val (.int q), .val (.double (own_f (FP.i2d k) q)), .second, .val (.int (1 : Int32)), .val (.int si), .val (.int ti), .val (.int q3), .val (.long kb), .second, .val (.long eb), .second, .val (.ref b24), .val (.double (own_f (FP.l2d kb) q3)), .second, .unset]) rfl kk_) ?_
    refine OWW.st (B := T26.setTop (mkF m 204 #[.val (.int n1), .val (.int n2), .val (.int n3), .val (.int n4), .val (.int q), .val (.int k), .val (.double (FP.i2d k)), .second, .val (.ref b14), .val (.double (own_f (FP.i2d k) (1 : Int32))), .second, .val (.double (own_f (FP.i2d k) q)), .second, .val (.int q), .val (.double (own_f (FP.i2d k) q)), .second, .val (.int (1 : Int32)), .val (.int si), .val (.int ti), .val (.int q3), .val (.long kb), .second, .val (.long eb), .second, .val (.ref b24), .val (.double (own_f (FP.l2d kb) q3)), .second, .unset] [(.double (own_f (FP.l2d kb) q3))])) (fun _ kk_ => XS.dload X26.here hx rfl (hb hby at_202) rfl kk_) ?_
    refine OWW.st (B := T26.setTop (mkF m 206 #[.val (.int n1), .val (.int n2), .val (.int n3), .val (.int n4), .val (.int q), .val (.int k), .val (.double (FP.i2d k)), .second, .val (.ref b14), .val (.double (own_f (FP.i2d k) (1 : Int32))), .second, .val (.double (own_f (FP.i2d k) q)), .second, .val (.int q), .val (.double (own_f (FP.i2d k) q)), .second, .val (.int (1 : Int32)), .val (.int si), .val (.int ti), .val (.int q3), .val (.long kb), .second, .val (.long eb), .second, .val (.ref b24), .val (.double (own_f (FP.l2d kb) q3)), .second, .unset] [(.long eb), (.double (own_f (FP.l2d kb) q3))])) (fun _ kk_ => XS.lload X26.here hx rfl (hb hby at_204) rfl kk_) ?_
    refine OWW.st (B := T26.setTop (mkF m 207 #[.val (.int n1), .val (.int n2), .val (.int n3), .val (.int n4), .val (.int q), .val (.int k), .val (.double (FP.i2d k)), .second, .val (.ref b14), .val (.double (own_f (FP.i2d k) (1 : Int32))), .second, .val (.double (own_f (FP.i2d k) q)), .second, .val (.int q), .val (.double (own_f (FP.i2d k) q)), .second, .val (.int (1 : Int32)), .val (.int si), .val (.int ti), .val (.int q3), .val (.long kb), .second, .val (.long eb), .second, .val (.ref b24), .val (.double (own_f (FP.l2d kb) q3)), .second, .unset] [(.double (FP.l2d eb)), (.double (own_f (FP.l2d kb) q3))])) (fun _ kk_ => XS.l2dS X26.here hx rfl (hb hby at_206) rfl rfl kk_) ?_
    refine OWW.st (B := T26.setTop (mkF m 208 #[.val (.int n1), .val (.int n2), .val (.int n3), .val (.int n4), .val (.int q), .val (.int k), .val (.double (FP.i2d k)), .second, .val (.ref b14), .val (.double (own_f (FP.i2d k) (1 : Int32))), .second, .val (.double (own_f (FP.i2d k) q)), .second, .val (.int q), .val (.double (own_f (FP.i2d k) q)), .second, .val (.int (1 : Int32)), .val (.int si), .val (.int ti), .val (.int q3), .val (.long kb), .second, .val (.long eb), .second, .val (.ref b24), .val (.double (own_f (FP.l2d kb) q3)), .second, .unset] [(.int (cmpValue (FP.dcmp (own_f (FP.l2d kb) q3) (FP.l2d eb)) .l))])) (fun _ kk_ => XS.dcmpS X26.here hx rfl (hb hby at_207) rfl rfl kk_) ?_
    refine OWW.st (B := T26.setTop (mkF m 211 #[.val (.int n1), .val (.int n2), .val (.int n3), .val (.int n4), .val (.int q), .val (.int k), .val (.double (FP.i2d k)), .second, .val (.ref b14), .val (.double (own_f (FP.i2d k) (1 : Int32))), .second, .val (.double (own_f (FP.i2d k) q)), .second, .val (.int q), .val (.double (own_f (FP.i2d k) q)), .second, .val (.int (1 : Int32)), .val (.int si), .val (.int ti), .val (.int q3), .val (.long kb), .second, .val (.long eb), .second, .val (.ref b24), .val (.double (own_f (FP.l2d kb) q3)), .second, .unset] [])) (fun _ kk_ => XS.ifNo X26.here hx rfl (hb hby at_208) rfl ((if0 _ _).trans (teq (own_c6 hst hq3 hkb heb)).2) kk_) ?_
    refine OWW.st (B := T26.setTop (mkF m 212 #[.val (.int n1), .val (.int n2), .val (.int n3), .val (.int n4), .val (.int q), .val (.int k), .val (.double (FP.i2d k)), .second, .val (.ref b14), .val (.double (own_f (FP.i2d k) (1 : Int32))), .second, .val (.double (own_f (FP.i2d k) q)), .second, .val (.int q), .val (.double (own_f (FP.i2d k) q)), .second, .val (.int (1 : Int32)), .val (.int si), .val (.int ti), .val (.int q3), .val (.long kb), .second, .val (.long eb), .second, .val (.ref b24), .val (.double (own_f (FP.l2d kb) q3)), .second, .unset] [(.int (1 : Int32))])) (fun _ kk_ => XS.iconst X26.here hx rfl (hb hby at_211) kk_) ?_
    refine OWW.st (B := T26.setTop (mkF m 216 #[.val (.int n1), .val (.int n2), .val (.int n3), .val (.int n4), .val (.int q), .val (.int k), .val (.double (FP.i2d k)), .second, .val (.ref b14), .val (.double (own_f (FP.i2d k) (1 : Int32))), .second, .val (.double (own_f (FP.i2d k) q)), .second, .val (.int q), .val (.double (own_f (FP.i2d k) q)), .second, .val (.int (1 : Int32)), .val (.int si), .val (.int ti), .val (.int q3), .val (.long kb), .second, .val (.long eb), .second, .val (.ref b24), .val (.double (own_f (FP.l2d kb) q3)), .second, .unset] [(.int (1 : Int32))])) (fun _ kk_ => XS.goto X26.here hx rfl (pc0 := 212) (pc' := 216) rfl (hb hby at_212) (by decide) (by decide) kk_) ?_
    refine OWW.st (B := T26.setTop (mkF m 218 #[.val (.int n1), .val (.int n2), .val (.int n3), .val (.int n4), .val (.int q), .val (.int k), .val (.double (FP.i2d k)), .second, .val (.ref b14), .val (.double (own_f (FP.i2d k) (1 : Int32))), .second, .val (.double (own_f (FP.i2d k) q)), .second, .val (.int q), .val (.double (own_f (FP.i2d k) q)), .second, .val (.int (1 : Int32)), .val (.int si), .val (.int ti), .val (.int q3), .val (.long kb), .second, .val (.long eb), .second, .val (.ref b24), .val (.double (own_f (FP.l2d kb) q3)), .second, .val (.int (1 : Int32))] [])) (fun _ kk_ => XS.istore X26.here hx rfl (hb hby at_216) rfl (l' := #[.val (.int n1), .val (.int n2), .val (.int n3), .val (.int n4), .val (.int q), .val (.int k), .val (.double (FP.i2d k)), .second, .val (.ref b14), .val (.double (own_f (FP.i2d k) (1 : Int32))), .second, .val (.double (own_f (FP.i2d k) q)), .second, .val (.int q), .val (.double (own_f (FP.i2d k) q)), .second, .val (.int (1 : Int32)), .val (.int si), .val (.int ti), .val (.int q3), .val (.long kb), .second, .val (.long eb), .second, .val (.ref b24), .val (.double (own_f (FP.l2d kb) q3)), .second, .val (.int (1 : Int32))]) rfl kk_) ?_
    refine OWW.st (B := T26.setTop (mkF m 220 #[.val (.int n1), .val (.int n2), .val (.int n3), .val (.int n4), .val (.int q), .val (.int k), .val (.double (FP.i2d k)), .second, .val (.ref b14), .val (.double (own_f (FP.i2d k) (1 : Int32))), .second, .val (.double (own_f (FP.i2d k) q)), .second, .val (.int q), .val (.double (own_f (FP.i2d k) q)), .second, .val (.int (1 : Int32)), .val (.int si), .val (.int ti), .val (.int q3), .val (.long kb), .second, .val (.long eb), .second, .val (.ref b24), .val (.double (own_f (FP.l2d kb) q3)), .second, .val (.int (1 : Int32))] [(.int (1 : Int32))])) (fun _ kk_ => XS.iload X26.here hx rfl (hb hby at_218) rfl kk_) ?_
    refine OWW.st (B := T26.setTop (mkF m 223 #[.val (.int n1), .val (.int n2), .val (.int n3), .val (.int n4), .val (.int q), .val (.int k), .val (.double (FP.i2d k)), .second, .val (.ref b14), .val (.double (own_f (FP.i2d k) (1 : Int32))), .second, .val (.double (own_f (FP.i2d k) q)), .second, .val (.int q), .val (.double (own_f (FP.i2d k) q)), .second, .val (.int (1 : Int32)), .val (.int si), .val (.int ti), .val (.int q3), .val (.long kb), .second, .val (.long eb), .second, .val (.ref b24), .val (.double (own_f (FP.l2d kb) q3)), .second, .val (.int (1 : Int32))] [])) (fun _ kk_ => XS.ifNo X26.here hx rfl (hb hby at_220) rfl ((if0 _ _).trans (feq (by decide)).1) kk_) ?_
    refine OWW.st (B := T26.setTop (mkF m 225 #[.val (.int n1), .val (.int n2), .val (.int n3), .val (.int n4), .val (.int q), .val (.int k), .val (.double (FP.i2d k)), .second, .val (.ref b14), .val (.double (own_f (FP.i2d k) (1 : Int32))), .second, .val (.double (own_f (FP.i2d k) q)), .second, .val (.int q), .val (.double (own_f (FP.i2d k) q)), .second, .val (.int (1 : Int32)), .val (.int si), .val (.int ti), .val (.int q3), .val (.long kb), .second, .val (.long eb), .second, .val (.ref b24), .val (.double (own_f (FP.l2d kb) q3)), .second, .val (.int (1 : Int32))] [(.int (1 : Int32))])) (fun _ kk_ => XS.iload X26.here hx rfl (hb hby at_223) rfl kk_) ?_
    refine OWW.st (B := T26.setTop (mkF m 228 #[.val (.int n1), .val (.int n2), .val (.int n3), .val (.int n4), .val (.int q), .val (.int k), .val (.double (FP.i2d k)), .second, .val (.ref b14), .val (.double (own_f (FP.i2d k) (1 : Int32))), .second, .val (.double (own_f (FP.i2d k) q)), .second, .val (.int q), .val (.double (own_f (FP.i2d k) q)), .second, .val (.int (1 : Int32)), .val (.int si), .val (.int ti), .val (.int q3), .val (.long kb), .second, .val (.long eb), .second, .val (.ref b24), .val (.double (own_f (FP.l2d kb) q3)), .second, .val (.int (1 : Int32))] [])) (fun _ kk_ => XS.ifNo X26.here hx rfl (hb hby at_225) rfl ((if0 _ _).trans (feq (by decide)).1) kk_) ?_
    refine OWW.st (B := T26.setTop (mkF m 229 #[.val (.int n1), .val (.int n2), .val (.int n3), .val (.int n4), .val (.int q), .val (.int k), .val (.double (FP.i2d k)), .second, .val (.ref b14), .val (.double (own_f (FP.i2d k) (1 : Int32))), .second, .val (.double (own_f (FP.i2d k) q)), .second, .val (.int q), .val (.double (own_f (FP.i2d k) q)), .second, .val (.int (1 : Int32)), .val (.int si), .val (.int ti), .val (.int q3), .val (.long kb), .second, .val (.long eb), .second, .val (.ref b24), .val (.double (own_f (FP.l2d kb) q3)), .second, .val (.int (1 : Int32))] [(.int (1 : Int32))])) (fun _ kk_ => XS.iconst X26.here hx rfl (hb hby at_228) kk_) ?_
    refine OWW.st (B := T26.setTop (mkF m 233 #[.val (.int n1), .val (.int n2), .val (.int n3), .val (.int n4), .val (.int q), .val (.int k), .val (.double (FP.i2d k)), .second, .val (.ref b14), .val (.double (own_f (FP.i2d k) (1 : Int32))), .second, .val (.double (own_f (FP.i2d k) q)), .second, .val (.int q), .val (.double (own_f (FP.i2d k) q)), .second, .val (.int (1 : Int32)), .val (.int si), .val (.int ti), .val (.int q3), .val (.long kb), .second, .val (.long eb), .second, .val (.ref b24), .val (.double (own_f (FP.l2d kb) q3)), .second, .val (.int (1 : Int32))] [(.int (1 : Int32))])) (fun _ kk_ => XS.goto X26.here hx rfl (pc0 := 229) (pc' := 233) rfl (hb hby at_229) (by decide) (by decide) kk_) ?_
    exact OWW.ret X26 (s := s) (vm0 := T25.vm) hS25 hk25 hx hlk (i := .ireturn) Bd.returns rfl (Or.inl ⟨rfl, Or.inr (Or.inl rfl), _, rfl⟩) (hb hby at_233) e26 (by decide) (by decide) ⟨rfl, N26⟩
set_option maxRecDepth 65536 in
set_option maxHeartbeats 40000000 in
theorem comes_1 {Post : Tables → Env → Array Value → State → Outcome → State → Prop} (hpost : ∀ tb e args s v u, (limb_1_1.after args s (.returned v) u = true ∧ limb_1_2.after args s (.returned v) u = true ∧ True) → ReturnedEndW s (.returned v) u (Jvm.fieldLocs frame_1_writes args s ++ Jvm.arrayLocs frame_1_arrays args s ++ Jvm.staticLocs frame_1_statics s) 16 2176 → Post tb e args s (.returned v) u) :
    ArmFor flags0 classFile x code maxLocals ret World_1 tables_1 room_1 Calls_1 rest_1 Pre_1 Post := by
  intro l hfl _ _ p e ha hc hk s m args below hf hA hF happ hP
  obtain ⟨hcalls, hrest, hpre⟩ := hP
  obtain ⟨-, -, -, hnamed, -, -, -, hat⟩ := (Spec.applies_iff hf).mp happ
  obtain ⟨hg, hn⟩ := and_e (Cond.before_iff.mp (show (Jvm.Cond.and given_1 narrow_1).before args s = true from hpre))
  obtain ⟨k27, k28⟩ := and_e hg
  obtain ⟨k29, k30⟩ := and_e k28
  obtain ⟨k31, k32⟩ := and_e k30
  obtain ⟨k33, k34⟩ := and_e k32
  obtain ⟨w0, w1, w2, w3, rfl⟩ : ∃ w0 w1 w2 w3 : Value, args = #[w0, w1, w2, w3] := by
    have hs : args.size = 4 := by simpa [Cond.value, given_1] using k27
    obtain ⟨L⟩ := args
    match L, hs with
    | [w0, w1, w2, w3], _ => exact ⟨w0, w1, w2, w3, rfl⟩
  have hw := fun d (hd : d ∈ tables_1) => atoms_spec (ws := Jvm.Cond.code x code maxLocals ret :: tables_1) hat d (List.mem_cons_of_mem _ hd)
  have hfit : Fit s := fun {y c} hc i hi => by
    obtain ⟨ha, rfl⟩ := Array.getElem?_eq_some_iff.mp hc
    have q := List.all_eq_true.mp ((Array.all_eq_true_iff_forall_mem.mp hF) _ (Array.getElem_mem ha)) i (List.mem_range.mpr hi)
    simpa [Array.getElem?_eq_getElem hi] using q
  obtain ⟨i0, ei0⟩ := is_v k29
  obtain rfl : w0 = (.int i0) := Option.some.inj ei0
  obtain ⟨i1, ei1⟩ := is_v k31
  obtain rfl : w1 = (.int i1) := Option.some.inj ei1
  obtain ⟨i2, ei2⟩ := is_v k33
  obtain rfl : w2 = (.int i2) := Option.some.inj ei2
  obtain ⟨i3, ei3⟩ := is_v k34
  obtain rfl : w3 = (.int i3) := Option.some.inj ei3
  obtain ⟨n, o, h1, h2, h3, _, L, rfl, ⟨rfl, N⟩, hq⟩ := rm0 l s _ hw tables_1 i0 i1 i2 i3  s.heap s.heap.size (Old.start s)  p e ha hc hk s m _ below hf ((Spec.applies_iff_loose hf).mp happ).1 ⟨rfl, State.Warmed39.refl s, rfl⟩ trivial
  refine ⟨n, _, h1, h2, h3, hpost _ _ _ _ _ _ ⟨Cond.after_iff.mpr rfl, Cond.after_iff.mpr (eq_i res_at (Term.int_eval (1)) rfl), trivial⟩ ⟨hq.1, hq.2.1, hq.2.2.1, (hq.2.2.2.sift fun y hy => Or.inr (N y hy)).mono (by decide) (by decide)⟩⟩
theorem main_1_1 : Claimed_1_1 := comes_1 fun _ _ _ _ _ _ h hF => ⟨h.1, hF⟩
theorem main_1_2 : Claimed_1_2 := comes_1 fun _ _ _ _ _ _ h hF => ⟨h.2.1, hF⟩
end Jvm.Pilot.@@N@@
namespace Jvm.Pilot.@@N@@
open Jvm Jvm.ClassFile Sem Op Lib Jvm.Free Jvm.Stand Jvm.Pilot.@@N@@.Jvm.D
/-! MADE BY PROGRAM (witnessworld.py) out of the Statement's table words and the real class files: 16 classes; the members and pool entries that the words name. The judged class is class 1, her method 1. -/
namespace start1
open Jvm.ClassFile
def u (s : String) : CpInfo := .utf8 (stringToUtf16 s)
/-- a pool by its gaps: so many unusable entries, then the entry; so many at the end -/
def gap : Nat → List CpInfo → List CpInfo
  | 0, r => r
  | n + 1, r => .unusable :: gap n r
def poolList (es : List (Nat × CpInfo)) (last : Nat) : List CpInfo := es.foldr (fun e r => gap e.1 (e.2 :: r)) (gap last [])
def pool (es : List (Nat × CpInfo)) (last : Nat) : Array CpInfo := ⟨poolList es last⟩
def fileOf (pool : Array CpInfo) (this : Nat) (attrs : Array Attribute := #[]) (ms : Array MethodInfo := #[]) (fl : Nat := 33) (sup : Nat := 0) (ifs : Array Nat := #[]) (fds : Array FieldInfo := #[]) : ClassFile where
  minorVersion := 0
  majorVersion := 65
  constantPool := pool
  accessFlags := fl
  thisClass := this
  superClass := sup
  interfaces := ifs
  fields := fds
  methods := ms
  attributes := attrs
def plain (name : String) (sup : Option ClassId) : Class where
  name := name
  kind := .ordinary
  loader := none
  accessFlags := 33
  super := sup
  interfaces := #[]
  cf := none
  fields := #[]
  methods := #[]
  instanceTypes := #[]
  staticTypes := #[]
  resolved := #[]
  callSites := []
  init := .initialized
  statics := none
  mirror := none

def pool0 : Array CpInfo := pool [(5, u "<init>"), (0, u "()V"), (1, .class_ 10), (1, u "java/lang/Object")] 113

def k0c0 : Code := { maxStack := 0, maxLocals := 1, code := object_method_1_code, exceptionTable := #[], attributes := #[] }
def k0m0 : Method := { name := "<init>", desc := "()V", sig := { parameters := [], returnType := none }, accessFlags := 1, code := some k0c0 }
/-- java/lang/Object -/
def k0 : Class := { plain "java/lang/Object" none with
  accessFlags := 33
  interfaces := #[]
  cf := some (fileOf pool0 8 #[] #[{ accessFlags := 1, nameIndex := 5, descriptorIndex := 6, attributes := #[] }] 33 0 #[] #[])
  fields := #[]
  methods := #[k0m0]
  instanceTypes := #[]
  staticTypes := #[]
  resolved := Array.replicate 124 none
  statics := none }

def pool1 : Array CpInfo := pool [(2, .class_ 4), (1, u "java/lang/Object"), (0, u "<init>"), (0, u "()V"), (0, .integer 2147483647), (0, .methodref 9 10), (0, .class_ 11), (0, .nameAndType 12 13), (0, u "java/lang/Math"), (0, u "max"), (0, u "(II)I"), (0, .integer 1048575), (0, .class_ 16), (0, u "com/example/graded_search/gradedsearch/engine/Bm25"), (0, .double 4602678819172646912), (1, .methodref 15 20), (0, .nameAndType 5 21), (0, u "(DDD)V"), (0, .methodref 15 23), (0, .nameAndType 24 25), (0, u "queryFactor"), (0, u "(I)D"), (2, .class_ 29), (0, u "com/example/graded_search/gradedsearch/engine/Bm25QueryFactorPinLaw"), (2, u "law"), (0, u "(IIII)Z")] 3

def k1m0 : Method := { name := "<init>", desc := "()V", sig := { parameters := [], returnType := none }, accessFlags := 1, code := none }
def k1c1 : Code := { maxStack := 8, maxLocals := 28, code := code, exceptionTable := #[], attributes := #[] }
def k1m1 : Method := { name := "law", desc := "(IIII)Z", sig := { parameters := [.int, .int, .int, .int], returnType := some .boolean }, accessFlags := 9, code := some k1c1 }
/-- com/example/graded_search/gradedsearch/engine/Bm25QueryFactorPinLaw -/
def k1 : Class := { plain "com/example/graded_search/gradedsearch/engine/Bm25QueryFactorPinLaw" (some 0) with
  accessFlags := 49
  interfaces := #[]
  cf := some (fileOf pool1 28 #[] #[{ accessFlags := 1, nameIndex := 5, descriptorIndex := 6, attributes := #[] }, { accessFlags := 9, nameIndex := 32, descriptorIndex := 33, attributes := #[] }] 49 2 #[] #[])
  fields := #[]
  methods := #[k1m0, k1m1]
  instanceTypes := #[]
  staticTypes := #[]
  resolved := Array.replicate 37 none
  statics := none }

def pool2 : Array CpInfo := pool [(1, .class_ 2), (0, u "java/lang/Math"), (1, .class_ 6), (1, u "java/lang/Object"), (0, u "<init>"), (0, u "()V"), (89, .class_ 100), (1, u "java/lang/Math$RandomNumberGeneratorHolder"), (71, u "negativeZeroFloatBits"), (0, u "J"), (2, u "negativeZeroDoubleBits"), (21, u "max"), (46, u "$assertionsDisabled"), (0, u "Z"), (88, u "(II)I"), (2, u "twoToTheDoubleScaleDown"), (0, u "D"), (4, u "twoToTheDoubleScaleUp"), (9, u "E"), (3, u "PI"), (2, u "TAU"), (2, u "DEGREES_TO_RADIANS"), (0, u "RADIANS_TO_DEGREES")] 94

def k2m0 : Method := { name := "<init>", desc := "()V", sig := { parameters := [], returnType := none }, accessFlags := 2, code := none }
def k2c1 : Code := { maxStack := 2, maxLocals := 2, code := jdk_29_method_65_code, exceptionTable := #[], attributes := #[] }
def k2m1 : Method := { name := "max", desc := "(II)I", sig := { parameters := [.int, .int], returnType := some .int }, accessFlags := 9, code := some k2c1 }
/-- java/lang/Math -/
def k2 : Class := { plain "java/lang/Math" (some 0) with
  accessFlags := 49
  interfaces := #[]
  cf := some (fileOf pool2 1 #[.nestMembers #[98]] #[{ accessFlags := 2, nameIndex := 7, descriptorIndex := 8, attributes := #[] }, { accessFlags := 9, nameIndex := 198, descriptorIndex := 335, attributes := #[] }] 49 4 #[] #[{ accessFlags := 25, nameIndex := 354, descriptorIndex := 339, attributes := #[] }, { accessFlags := 25, nameIndex := 358, descriptorIndex := 339, attributes := #[] }, { accessFlags := 25, nameIndex := 361, descriptorIndex := 339, attributes := #[] }, { accessFlags := 26, nameIndex := 364, descriptorIndex := 339, attributes := #[] }, { accessFlags := 26, nameIndex := 365, descriptorIndex := 339, attributes := #[] }, { accessFlags := 26, nameIndex := 172, descriptorIndex := 173, attributes := #[] }, { accessFlags := 26, nameIndex := 176, descriptorIndex := 173, attributes := #[] }, { accessFlags := 8, nameIndex := 344, descriptorIndex := 339, attributes := #[] }, { accessFlags := 8, nameIndex := 338, descriptorIndex := 339, attributes := #[] }, { accessFlags := 4120, nameIndex := 245, descriptorIndex := 246, attributes := #[] }])
  fields := #[{ name := "E", type := .double, accessFlags := 25, slot := 0, constantValue := 0 }, { name := "PI", type := .double, accessFlags := 25, slot := 1, constantValue := 0 }, { name := "TAU", type := .double, accessFlags := 25, slot := 2, constantValue := 0 }, { name := "DEGREES_TO_RADIANS", type := .double, accessFlags := 26, slot := 3, constantValue := 0 }, { name := "RADIANS_TO_DEGREES", type := .double, accessFlags := 26, slot := 4, constantValue := 0 }, { name := "negativeZeroFloatBits", type := .long, accessFlags := 26, slot := 5, constantValue := 0 }, { name := "negativeZeroDoubleBits", type := .long, accessFlags := 26, slot := 6, constantValue := 0 }, { name := "twoToTheDoubleScaleUp", type := .double, accessFlags := 8, slot := 7, constantValue := 0 }, { name := "twoToTheDoubleScaleDown", type := .double, accessFlags := 8, slot := 8, constantValue := 0 }, { name := "$assertionsDisabled", type := .boolean, accessFlags := 4120, slot := 9, constantValue := 0 }]
  methods := #[k2m0, k2m1]
  instanceTypes := #[]
  staticTypes := #[.double, .double, .double, .double, .double, .long, .long, .double, .double, .boolean]
  resolved := Array.replicate 460 none
  statics := none }

def pool3 : Array CpInfo := pool [(1, .methodref 2 3), (0, .class_ 4), (0, .nameAndType 5 6), (0, u "java/lang/Object"), (0, u "<init>"), (0, u "()V"), (1, .class_ 10), (1, u "com/example/graded_search/gradedsearch/engine/RankingModel"), (57, .class_ 69), (0, u "com/example/graded_search/gradedsearch/engine/RankingModel$Grade")] 23

def k3c0 : Code := { maxStack := 1, maxLocals := 1, code := prog_49_method_1_code, exceptionTable := #[], attributes := #[] }
def k3m0 : Method := { name := "<init>", desc := "()V", sig := { parameters := [], returnType := none }, accessFlags := 0, code := some k3c0 }
/-- com/example/graded_search/gradedsearch/engine/RankingModel -/
def k3 : Class := { plain "com/example/graded_search/gradedsearch/engine/RankingModel" (some 0) with
  accessFlags := 1057
  interfaces := #[]
  cf := some (fileOf pool3 8 #[.nestMembers #[68]] #[{ accessFlags := 0, nameIndex := 5, descriptorIndex := 6, attributes := #[] }] 1057 2 #[] #[])
  fields := #[]
  methods := #[k3m0]
  instanceTypes := #[]
  staticTypes := #[]
  resolved := Array.replicate 93 none
  statics := none }

def pool4 : Array CpInfo := pool [(6, .class_ 8), (1, u "com/example/graded_search/gradedsearch/engine/Bm25"), (0, u "<init>"), (3, u "(DDD)V"), (0, .methodref 15 16), (0, .class_ 17), (0, .nameAndType 9 18), (0, u "com/example/graded_search/gradedsearch/engine/RankingModel"), (0, u "()V"), (0, .string 20), (0, u "k1"), (0, .methodref 6 22), (0, .nameAndType 23 24), (0, u "finiteAtLeast0"), (0, u "(Ljava/lang/String;D)D"), (0, .fieldref 6 26), (0, .nameAndType 20 27), (0, u "D"), (9, .fieldref 6 38), (0, .nameAndType 39 27), (0, u "b"), (0, .string 41), (0, u "k3"), (0, .fieldref 6 43), (0, .nameAndType 41 27), (2, .double 9218868437227405312), (43, u "NAME"), (0, u "Ljava/lang/String;"), (9, u "queryFactor"), (0, u "(I)D")] 42

def k4m0 : Method := { name := "<init>", desc := "()V", sig := { parameters := [], returnType := none }, accessFlags := 1, code := none }
def k4c1 : Code := { maxStack := 4, maxLocals := 7, code := prog_17_method_3_code, exceptionTable := #[], attributes := #[] }
def k4m1 : Method := { name := "<init>", desc := "(DDD)V", sig := { parameters := [.double, .double, .double], returnType := none }, accessFlags := 1, code := some k4c1 }
def k4c2 : Code := { maxStack := 5, maxLocals := 3, code := prog_17_method_4_code, exceptionTable := #[], attributes := #[] }
def k4m2 : Method := { name := "finiteAtLeast0", desc := "(Ljava/lang/String;D)D", sig := { parameters := [(.object "java/lang/String"), .double], returnType := some .double }, accessFlags := 10, code := some k4c2 }
def k4c3 : Code := { maxStack := 6, maxLocals := 2, code := prog_17_method_10_code, exceptionTable := #[], attributes := #[] }
def k4m3 : Method := { name := "queryFactor", desc := "(I)D", sig := { parameters := [.int], returnType := some .double }, accessFlags := 0, code := some k4c3 }
/-- com/example/graded_search/gradedsearch/engine/Bm25 -/
def k4 : Class := { plain "com/example/graded_search/gradedsearch/engine/Bm25" (some 3) with
  accessFlags := 49
  interfaces := #[]
  cf := some (fileOf pool4 6 #[] #[{ accessFlags := 1, nameIndex := 9, descriptorIndex := 18, attributes := #[] }, { accessFlags := 1, nameIndex := 9, descriptorIndex := 13, attributes := #[] }, { accessFlags := 10, nameIndex := 23, descriptorIndex := 24, attributes := #[] }, { accessFlags := 0, nameIndex := 101, descriptorIndex := 102, attributes := #[] }] 49 15 #[] #[{ accessFlags := 25, nameIndex := 90, descriptorIndex := 91, attributes := #[] }, { accessFlags := 18, nameIndex := 20, descriptorIndex := 27, attributes := #[] }, { accessFlags := 18, nameIndex := 39, descriptorIndex := 27, attributes := #[] }, { accessFlags := 18, nameIndex := 41, descriptorIndex := 27, attributes := #[] }])
  fields := #[{ name := "NAME", type := (.object "java/lang/String"), accessFlags := 25, slot := 0, constantValue := 0 }, { name := "k1", type := .double, accessFlags := 18, slot := 0, constantValue := 0 }, { name := "b", type := .double, accessFlags := 18, slot := 1, constantValue := 0 }, { name := "k3", type := .double, accessFlags := 18, slot := 2, constantValue := 0 }]
  methods := #[k4m0, k4m1, k4m2, k4m3]
  instanceTypes := #[.double, .double, .double]
  staticTypes := #[(.object "java/lang/String")]
  resolved := Array.replicate 145 none
  statics := none }

def pool5 : Array CpInfo := pool [(1, .class_ 2), (0, u "java/io/Serializable"), (0, .class_ 4), (0, u "java/lang/Object")] 2

/-- java/io/Serializable -/
def k5 : Class := { plain "java/io/Serializable" (some 0) with
  accessFlags := 1537
  interfaces := #[]
  cf := some (fileOf pool5 1 #[] #[] 1537 3 #[] #[])
  fields := #[]
  methods := #[]
  instanceTypes := #[]
  staticTypes := #[]
  resolved := Array.replicate 7 none
  statics := none }

def pool6 : Array CpInfo := pool [(1, .class_ 2), (0, u "java/lang/Comparable"), (0, .class_ 4), (0, u "java/lang/Object")] 7

/-- java/lang/Comparable -/
def k6 : Class := { plain "java/lang/Comparable" (some 0) with
  accessFlags := 1537
  interfaces := #[]
  cf := some (fileOf pool6 1 #[] #[] 1537 3 #[] #[])
  fields := #[]
  methods := #[]
  instanceTypes := #[]
  staticTypes := #[]
  resolved := Array.replicate 12 none
  statics := none }

def pool7 : Array CpInfo := pool [(2, .class_ 4), (1, u "java/lang/CharSequence"), (42, .class_ 48), (0, u "java/lang/CharSequence$1CodePointIterator"), (10, .class_ 60), (0, u "java/lang/CharSequence$1CharIterator"), (5, .class_ 67), (0, u "java/lang/Object")] 63

/-- java/lang/CharSequence -/
def k7 : Class := { plain "java/lang/CharSequence" (some 0) with
  accessFlags := 1537
  interfaces := #[]
  cf := some (fileOf pool7 2 #[.nestMembers #[47, 59]] #[] 1537 66 #[] #[])
  fields := #[]
  methods := #[]
  instanceTypes := #[]
  staticTypes := #[]
  resolved := Array.replicate 131 none
  statics := none }

def pool8 : Array CpInfo := pool [(1, .class_ 2), (0, u "java/lang/constant/Constable"), (0, .class_ 4), (0, u "java/lang/Object")] 6

/-- java/lang/constant/Constable -/
def k8 : Class := { plain "java/lang/constant/Constable" (some 0) with
  accessFlags := 1537
  interfaces := #[]
  cf := some (fileOf pool8 1 #[] #[] 1537 3 #[] #[])
  fields := #[]
  methods := #[]
  instanceTypes := #[]
  staticTypes := #[]
  resolved := Array.replicate 11 none
  statics := none }

def pool9 : Array CpInfo := pool [(1, .class_ 2), (0, u "java/lang/constant/ConstantDesc"), (0, .class_ 4), (0, u "java/lang/Object")] 32

/-- java/lang/constant/ConstantDesc -/
def k9 : Class := { plain "java/lang/constant/ConstantDesc" (some 0) with
  accessFlags := 1537
  interfaces := #[]
  cf := some (fileOf pool9 1 #[] #[] 1537 3 #[] #[])
  fields := #[]
  methods := #[]
  instanceTypes := #[]
  staticTypes := #[]
  resolved := Array.replicate 37 none
  statics := none }

def pool10 : Array CpInfo := pool [(2, .class_ 4), (1, u "java/lang/Object"), (0, u "<init>"), (0, u "()V"), (3, .class_ 12), (1, u "java/lang/String"), (0, u "value"), (0, u "[B"), (2, u "coder"), (0, u "B"), (2, u "hash"), (0, u "I"), (2, u "hashIsZero"), (0, u "Z"), (13, u "COMPACT_STRINGS"), (534, .class_ 576), (0, u "java/lang/CharSequence"), (22, u "CASE_INSENSITIVE_ORDER"), (0, u "Ljava/util/Comparator;"), (500, u "serialPersistentFields"), (0, u "[Ljava/io/ObjectStreamField;"), (0, .class_ 1104), (0, u "java/lang/String$CaseInsensitiveComparator"), (1, .class_ 1107), (0, u "java/io/Serializable"), (0, .class_ 1109), (0, u "java/lang/Comparable"), (0, .class_ 1111), (0, u "java/lang/constant/Constable"), (0, .class_ 1113), (0, u "java/lang/constant/ConstantDesc"), (2, u "serialVersionUID"), (0, u "J"), (3, u "REPL"), (0, u "C"), (2, u "LATIN1"), (1, u "UTF16")] 323

def k10m0 : Method := { name := "<init>", desc := "()V", sig := { parameters := [], returnType := none }, accessFlags := 1, code := none }
/-- java/lang/String -/
def k10 : Class := { plain "java/lang/String" (some 0) with
  accessFlags := 49
  interfaces := #[5, 6, 7, 8, 9]
  cf := some (fileOf pool10 10 #[.nestMembers #[1103]] #[{ accessFlags := 1, nameIndex := 5, descriptorIndex := 6, attributes := #[] }] 49 2 #[1106, 1108, 575, 1110, 1112] #[{ accessFlags := 18, nameIndex := 13, descriptorIndex := 14, attributes := #[] }, { accessFlags := 18, nameIndex := 17, descriptorIndex := 18, attributes := #[] }, { accessFlags := 2, nameIndex := 21, descriptorIndex := 22, attributes := #[] }, { accessFlags := 2, nameIndex := 25, descriptorIndex := 26, attributes := #[] }, { accessFlags := 26, nameIndex := 1116, descriptorIndex := 1117, attributes := #[] }, { accessFlags := 24, nameIndex := 40, descriptorIndex := 26, attributes := #[] }, { accessFlags := 26, nameIndex := 1101, descriptorIndex := 1102, attributes := #[] }, { accessFlags := 26, nameIndex := 1121, descriptorIndex := 1122, attributes := #[] }, { accessFlags := 25, nameIndex := 599, descriptorIndex := 600, attributes := #[] }, { accessFlags := 24, nameIndex := 1125, descriptorIndex := 18, attributes := #[] }, { accessFlags := 24, nameIndex := 1127, descriptorIndex := 18, attributes := #[] }])
  fields := #[{ name := "value", type := (.array .byte), accessFlags := 18, slot := 0, constantValue := 0 }, { name := "coder", type := .byte, accessFlags := 18, slot := 1, constantValue := 0 }, { name := "hash", type := .int, accessFlags := 2, slot := 2, constantValue := 0 }, { name := "hashIsZero", type := .boolean, accessFlags := 2, slot := 3, constantValue := 0 }, { name := "serialVersionUID", type := .long, accessFlags := 26, slot := 0, constantValue := 0 }, { name := "COMPACT_STRINGS", type := .boolean, accessFlags := 24, slot := 1, constantValue := 0 }, { name := "serialPersistentFields", type := (.array (.object "java/io/ObjectStreamField")), accessFlags := 26, slot := 2, constantValue := 0 }, { name := "REPL", type := .char, accessFlags := 26, slot := 3, constantValue := 0 }, { name := "CASE_INSENSITIVE_ORDER", type := (.object "java/util/Comparator"), accessFlags := 25, slot := 4, constantValue := 0 }, { name := "LATIN1", type := .byte, accessFlags := 24, slot := 5, constantValue := 0 }, { name := "UTF16", type := .byte, accessFlags := 24, slot := 6, constantValue := 0 }]
  methods := #[k10m0]
  instanceTypes := #[(.array .byte), .byte, .int, .boolean]
  staticTypes := #[.long, .boolean, (.array (.object "java/io/ObjectStreamField")), .char, (.object "java/util/Comparator"), .byte, .byte]
  resolved := Array.replicate 1451 none
  statics := none }

def pool11 : Array CpInfo := pool [(1, u "java/lang/Cloneable"), (0, .class_ 1), (0, u "java/lang/Object"), (0, .class_ 3)] 3

/-- java/lang/Cloneable -/
def k11 : Class := { plain "java/lang/Cloneable" (some 0) with
  accessFlags := 1537
  interfaces := #[]
  cf := some (fileOf pool11 2 #[] #[] 1537 4 #[] #[])
  fields := #[]
  methods := #[]
  instanceTypes := #[]
  staticTypes := #[]
  resolved := Array.replicate 8 none
  statics := none }

/-- the primitive byte -/
def k12 : Class := { plain "byte" none with kind := .primitive 'B', accessFlags := 0x411 }
/-- [B -/
def k13 : Class := { plain "[B" (some 0) with kind := .array 12 .byte, interfaces := #[11, 5], accessFlags := 1041 }

/-- the primitive int -/
def k14 : Class := { plain "int" none with kind := .primitive 'I', accessFlags := 0x411 }
/-- [I -/
def k15 : Class := { plain "[I" (some 0) with kind := .array 14 .int, interfaces := #[11, 5], accessFlags := 1041 }

def heap : Heap := #[]
def classes : Array Class := #[k0, k1, k2, k3, k4, k5, k6, k7, k8, k9, k10, k11, k12, k13, k14, k15]
def interned : List (Array UInt16 × Addr) := []
def slotsUsed : Nat := 0
def theMethod : MethodId := ⟨1, 1⟩
def args0 : Array Value := #[.int 5, .int 7, .int 1, .int 2]
def aboutOver (below : List Frame) : State where
  vm := { classes := classes, interned := interned.toArray }
  heap := heap
  slotsUsed := slotsUsed
  threads := #[{ frames := .invoking theMethod args0 :: below }]
def below0 : List Frame := [.native { method := ⟨0, 0⟩, args := #[] }]
def about1 : State := aboutOver below0
def p0 : Program := .bare "" "" ""
def e0 : Env := launch0.env 0 0 0
theorem w_frames : about1.frames = Frame.invoking theMethod args0 :: below0 := rfl
set_option maxRecDepth 65536 in
theorem w_args : argsFit about1.vm theMethod args0 = true := by decide +kernel
set_option maxRecDepth 65536 in
theorem w_heap : heapFits about1 = true := by decide +kernel
set_option maxRecDepth 65536 in
theorem w_runnable : about1.curStatus? = some .runnable := by decide +kernel
set_option maxRecDepth 65536 in
theorem w_alone : about1.alone = true := by decide +kernel
set_option maxRecDepth 65536 in
theorem w_named : about1.methodNamed? x = some theMethod := by decide +kernel
set_option maxRecDepth 65536 in
theorem w_hears : about1.hears theMethod below0 = true := by decide +kernel
set_option maxRecDepth 65536 in
theorem w_ripe : about1.ripe theMethod args0 below0 = true := by decide +kernel
theorem w_running : about1.status = .running := rfl
set_option maxRecDepth 65536 in
theorem w_room : about1.hasRoom e0.platform room_1 = true :=
  launch0.hasRoom_least _ room_1 (by decide +kernel) (by decide +kernel) (by decide +kernel) (by decide +kernel) (by decide +kernel) (by decide +kernel)
theorem allAtoms_all (ts : List Jvm.Cond) (a : Array Jvm.Value) (st : Jvm.State) : (allAtoms ts).before a st = ts.all (fun c => c.before a st) := by
  induction ts with
  | nil => rfl
  | cons c t ih =>
    show (Jvm.Cond.and c (allAtoms t)).before a st = _
    rw [Jvm.Cond.before_and, ih, List.all_cons]
def words1 : List Jvm.Cond := Jvm.Cond.code x code maxLocals ret :: tables_1
/-- a 'code' word, met by the world's own term for the bytes: nothing is compared byte by byte -/
theorem code_word {y : MethodName} {bytes : ByteArray} {mx : Nat} {rt : Option FieldType} {a : Array Value} {s : State} {m : MethodId} {meth : Method} {c : Code} (h1 : s.methodNamed? y = some m) (h2 : s.vm.method? m = some meth) (h3 : meth.code = some c) (h4 : c.code = bytes)
    (h5 : (c.maxLocals == mx && c.exceptionTable.isEmpty && decide (c.maxStack ≤ mostOperands) && decide (meth.sig.returnType = rt) && !meth.locks && decide (parseMethodDescriptor y.desc = some meth.sig)) = true) : (Jvm.Cond.code y bytes mx rt).before a s = true := by
  simp only [Bool.and_eq_true, beq_iff_eq, Bool.not_eq_true', decide_eq_true_eq] at h5
  obtain ⟨⟨⟨⟨⟨g1, g2⟩, g3⟩, g4⟩, g5⟩, g6⟩ := h5
  simp [Cond.before, Cond.holds, Cond.value, h1, h2, h3, h4, g1, g2, g3, g4, g5, g6]
def isCode : Jvm.Cond → Bool
  | .code _ _ _ _ => true
  | _ => false
theorem all_split {L : List Jvm.Cond} {P : Jvm.Cond → Bool} (h1 : L.all (fun c => isCode c || P c) = true) (h2 : ∀ c ∈ L.filter isCode, P c = true) : L.all P = true := by
  refine List.all_eq_true.mpr fun c hc => ?_
  have h := List.all_eq_true.mp h1 c hc
  rcases Bool.eq_false_or_eq_true (isCode c) with hi | hi
  · exact h2 c (List.mem_filter.mpr ⟨hc, hi⟩)
  · simpa [hi] using h
set_option maxRecDepth 65536 in
theorem w_c0 : (Jvm.Cond.code x code maxLocals ret).before args0 about1 = true := code_word (m := ⟨1, 1⟩) (meth := k1m1) (c := k1c1) (by decide +kernel) rfl rfl rfl (by decide +kernel)
set_option maxRecDepth 65536 in
theorem w_c1 : (Jvm.Cond.code ({ cls := "java/lang/Math", name := "max", desc := "(II)I" } : Jvm.MethodName) jdk_29_method_65_code (2 : Nat) (Option.some Jvm.ClassFile.FieldType.int)).before args0 about1 = true := code_word (m := ⟨2, 1⟩) (meth := k2m1) (c := k2c1) (by decide +kernel) rfl rfl rfl (by decide +kernel)
set_option maxRecDepth 65536 in
theorem w_c2 : (Jvm.Cond.code ({ cls := "com/example/graded_search/gradedsearch/engine/Bm25", name := "<init>", desc := "(DDD)V" } : Jvm.MethodName) prog_17_method_3_code (7 : Nat) (Option.none : Option Jvm.ClassFile.FieldType)).before args0 about1 = true := code_word (m := ⟨4, 1⟩) (meth := k4m1) (c := k4c1) (by decide +kernel) rfl rfl rfl (by decide +kernel)
set_option maxRecDepth 65536 in
theorem w_c3 : (Jvm.Cond.code ({ cls := "com/example/graded_search/gradedsearch/engine/RankingModel", name := "<init>", desc := "()V" } : Jvm.MethodName) prog_49_method_1_code (1 : Nat) (Option.none : Option Jvm.ClassFile.FieldType)).before args0 about1 = true := code_word (m := ⟨3, 0⟩) (meth := k3m0) (c := k3c0) (by decide +kernel) rfl rfl rfl (by decide +kernel)
set_option maxRecDepth 65536 in
theorem w_c4 : (Jvm.Cond.code ({ cls := "java/lang/Object", name := "<init>", desc := "()V" } : Jvm.MethodName) object_method_1_code (1 : Nat) (Option.none : Option Jvm.ClassFile.FieldType)).before args0 about1 = true := code_word (m := ⟨0, 0⟩) (meth := k0m0) (c := k0c0) (by decide +kernel) rfl rfl rfl (by decide +kernel)
set_option maxRecDepth 65536 in
theorem w_c5 : (Jvm.Cond.code ({ cls := "com/example/graded_search/gradedsearch/engine/Bm25", name := "finiteAtLeast0", desc := "(Ljava/lang/String;D)D" } : Jvm.MethodName) prog_17_method_4_code (3 : Nat) (Option.some Jvm.ClassFile.FieldType.double)).before args0 about1 = true := code_word (m := ⟨4, 2⟩) (meth := k4m2) (c := k4c2) (by decide +kernel) rfl rfl rfl (by decide +kernel)
set_option maxRecDepth 65536 in
theorem w_c6 : (Jvm.Cond.code ({ cls := "com/example/graded_search/gradedsearch/engine/Bm25", name := "queryFactor", desc := "(I)D" } : Jvm.MethodName) prog_17_method_10_code (2 : Nat) (Option.some Jvm.ClassFile.FieldType.double)).before args0 about1 = true := code_word (m := ⟨4, 3⟩) (meth := k4m3) (c := k4c3) (by decide +kernel) rfl rfl rfl (by decide +kernel)
def codes1 : List Jvm.Cond := [Jvm.Cond.code x code maxLocals ret, Jvm.Cond.code ({ cls := "java/lang/Math", name := "max", desc := "(II)I" } : Jvm.MethodName) jdk_29_method_65_code (2 : Nat) (Option.some Jvm.ClassFile.FieldType.int), Jvm.Cond.code ({ cls := "com/example/graded_search/gradedsearch/engine/Bm25", name := "<init>", desc := "(DDD)V" } : Jvm.MethodName) prog_17_method_3_code (7 : Nat) (Option.none : Option Jvm.ClassFile.FieldType), Jvm.Cond.code ({ cls := "com/example/graded_search/gradedsearch/engine/RankingModel", name := "<init>", desc := "()V" } : Jvm.MethodName) prog_49_method_1_code (1 : Nat) (Option.none : Option Jvm.ClassFile.FieldType), Jvm.Cond.code ({ cls := "java/lang/Object", name := "<init>", desc := "()V" } : Jvm.MethodName) object_method_1_code (1 : Nat) (Option.none : Option Jvm.ClassFile.FieldType), Jvm.Cond.code ({ cls := "com/example/graded_search/gradedsearch/engine/Bm25", name := "finiteAtLeast0", desc := "(Ljava/lang/String;D)D" } : Jvm.MethodName) prog_17_method_4_code (3 : Nat) (Option.some Jvm.ClassFile.FieldType.double), Jvm.Cond.code ({ cls := "com/example/graded_search/gradedsearch/engine/Bm25", name := "queryFactor", desc := "(I)D" } : Jvm.MethodName) prog_17_method_10_code (2 : Nat) (Option.some Jvm.ClassFile.FieldType.double)]
set_option maxRecDepth 65536 in
theorem codes_eq : words1.filter isCode = codes1 := rfl
theorem w_codes : ∀ c ∈ words1.filter isCode, c.before args0 about1 = true := by
  rw [codes_eq]
  intro c hc
  simp only [codes1, List.mem_cons, List.not_mem_nil, or_false] at hc
  rcases hc with rfl | rfl | rfl | rfl | rfl | rfl | rfl
  · exact w_c0
  · exact w_c1
  · exact w_c2
  · exact w_c3
  · exact w_c4
  · exact w_c5
  · exact w_c6
set_option maxRecDepth 65536 in
theorem w_t1 : (words1.take 24).all (fun c => isCode c || c.before args0 about1) = true := by decide +kernel
set_option maxRecDepth 65536 in
theorem w_t2 : (words1.drop 24).all (fun c => isCode c || c.before args0 about1) = true := by decide +kernel
theorem w_tables : (allAtoms (Jvm.Cond.code x code maxLocals ret :: tables_1)).before args0 about1 = true := by
  rw [allAtoms_all]
  show words1.all (fun c => c.before args0 about1) = true
  refine all_split ?_ w_codes
  rw [← List.take_append_drop 24 words1, List.all_append, w_t1, w_t2]
  rfl
set_option maxRecDepth 65536 in
theorem w_case : (Jvm.Cond.and given_1 narrow_1).before args0 about1 = true := by decide +kernel
theorem w_applies : (headSpec (Jvm.Cond.code x code maxLocals ret :: tables_1) room_1).applies x e0.platform about1 = true :=
  (Spec.applies_iff w_frames).mpr ⟨w_running, w_runnable, w_alone, w_named, w_hears, w_ripe, w_room, w_tables⟩
theorem atStart : AtStart classFile x code maxLocals ret World_1 tables_1 room_1 Calls_1 rest_1 Pre_1 launch0 p0 e0 about1 theMethod args0 below0 :=
  ⟨lists_1, trivial, launch0.admits_env _ _ _, launch0.least_env, fairChoices_fair.cas, fairChoices_fair.clock, w_frames, w_args, w_heap, w_applies, trivial, trivial, w_case⟩
end start1
theorem witness_1 : WitnessClaimed_1 := ⟨start1.p0, start1.e0, start1.about1, start1.theMethod, start1.args0, start1.below0, start1.atStart⟩
end Jvm.Pilot.@@N@@
