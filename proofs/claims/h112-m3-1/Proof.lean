import JvmDerived
import JvmDerived.Pilot.@@N@@Statement
import JvmDerived.Pilot.@@N@@Code
set_option linter.unusedVariables false
set_option linter.unusedSimpArgs false
namespace Jvm.Pilot.@@N@@
open Jvm Jvm.ClassFile Sem Op Lib Jvm.Free Jvm.Stand Jvm.LawKit Jvm.RoadKit Bundle Jvm.Pilot.@@N@@.Jvm.D
section OwnKit
variable {p : Program} {l : Launch} {e : Env} {R : Room} {s : State} {m : MethodId} {args : Array Value} {below : List Frame} {meth : Method} {c : Code} {T : State} {locs : List Loc} {cells slots kc ks : Nat} {Q : Option Value → Heap → List Loc → Prop} {A B : State}
/-- the rest of a walk: from the state A the run comes to a return that Q describes -/
def OW (p : Program) (e : Env) (below : List Frame) (s : State) (Q : Option Value → Heap → List Loc → Prop) (kc ks : Nat) (A : State) : Prop :=
  ∃ s₂ o, Steps p.tables e below A s₂ ∧ s₂.status = .running ∧ Ended s₂ below o ∧ ∃ v L, o = .returned v ∧ Q v s₂.heap L ∧ FrameEnd s o s₂ L kc ks
theorem OW.st (h : ∀ t, Steps p.tables e below B t → Steps p.tables e below A t) (k : OW p e below s Q kc ks B) : OW p e below s Q kc ks A := by
  obtain ⟨a, o, h1, h2⟩ := k; exact ⟨a, o, h _ h1, h2⟩
theorem OW.tr (h : Steps p.tables e below A B) (k : OW p e below s Q kc ks B) : OW p e below s Q kc ks A := by
  obtain ⟨a, o, h1, h2⟩ := k; exact ⟨a, o, h.trans h1, h2⟩
theorem OW.ret (X : Stand p l e R s m args below meth c T locs cells slots) (hx : p.tables.exec = Jvm.exec) (hlk : meth.locks = false) {pc : Nat} {Ls : Array Slot} {w : Value} {t : FieldType} {i : Instr} {rest : List Value} (hret : meth.sig.returnType = some t) (hn : narrow t w = w)
    (hi : (i = .ireturn ∧ (t = .int ∨ t = .boolean ∨ t = .byte ∨ t = .char ∨ t = .short) ∧ ∃ z, w = .int z) ∨ (i = .lreturn ∧ t = .long ∧ ∃ z, w = .long z) ∨ (i = .dreturn ∧ t = .double ∧ ∃ z, w = .double z) ∨ (i = .freturn ∧ t = .float ∧ ∃ z, w = .float z) ∨ (i = .areturn ∧ t.isReference = true ∧ w.isRef = true))
    (hd : decode c.code pc = .ok (i, 1)) {h : Heap} (eT : T.heap = h) (hc : cells ≤ kc) (hs : slots ≤ ks) (q : Q (some w) h locs) : OW p e below s Q kc ks (T.setTop (mkF m pc Ls (w :: rest))) := by
  obtain ⟨fs, hr, hrun, hended, hW, hsame⟩ := X.leave (v := some w) (fun h => by rw [hret] at h; cases h) hlk
  subst eT
  exact ⟨_, _, retOut X hx hret hn hi hd hr, hrun, hended, _, _, rfl, q, ⟨_, rfl⟩, hW, hsame.mono hc hs⟩
theorem OW.retV (X : Stand p l e R s m args below meth c T locs cells slots) (hx : p.tables.exec = Jvm.exec) (hlk : meth.locks = false) {pc : Nat} {Ls : Array Slot} (hret : meth.sig.returnType = none)
    (hd : decode c.code pc = .ok (.return_, 1)) {h : Heap} (eT : T.heap = h) (hc : cells ≤ kc) (hs : slots ≤ ks) (q : Q none h locs) : OW p e below s Q kc ks (T.setTop (mkF m pc Ls [])) := by
  obtain ⟨fs, hr, hrun, hended, hW, hsame⟩ := X.leave (v := none) (fun _ => rfl) hlk
  subst eT
  exact ⟨_, _, X.returnOut hx hret hd hr, hrun, hended, _, _, rfl, q, ⟨_, rfl⟩, hW, hsame.mono hc hs⟩
/-- the same for a walk that may intern: its Stand is over 's.setVm vm0' -/
def OWW (p : Program) (e : Env) (below : List Frame) (s : State) (Q : Option Value → Heap → List Loc → Prop) (kc ks : Nat) (A : State) : Prop :=
  ∃ s₂ o, Steps p.tables e below A s₂ ∧ s₂.status = .running ∧ Ended s₂ below o ∧ ∃ v L, o = .returned v ∧ Q v s₂.heap L ∧ ReturnedEndW s o s₂ L kc ks
theorem OWW.st (h : ∀ t, Steps p.tables e below B t → Steps p.tables e below A t) (k : OWW p e below s Q kc ks B) : OWW p e below s Q kc ks A := by
  obtain ⟨a, o, h1, h2⟩ := k; exact ⟨a, o, h _ h1, h2⟩
theorem OWW.tr (h : Steps p.tables e below A B) (k : OWW p e below s Q kc ks B) : OWW p e below s Q kc ks A := by
  obtain ⟨a, o, h1, h2⟩ := k; exact ⟨a, o, h.trans h1, h2⟩
theorem OWW.ret {vm0 : Vm} {k0 : Nat} (X : Stand p l e R (s.setVm vm0) m args below meth c T locs cells slots) {h : Heap} (hS : s.Since vm0 k0) (hk : k0 ≤ h.size) (hx : p.tables.exec = Jvm.exec) (hlk : meth.locks = false) {pc : Nat} {Ls : Array Slot} {w : Value} {t : FieldType} {i : Instr} {rest : List Value} (hret : meth.sig.returnType = some t) (hn : narrow t w = w)
    (hi : (i = .ireturn ∧ (t = .int ∨ t = .boolean ∨ t = .byte ∨ t = .char ∨ t = .short) ∧ ∃ z, w = .int z) ∨ (i = .lreturn ∧ t = .long ∧ ∃ z, w = .long z) ∨ (i = .dreturn ∧ t = .double ∧ ∃ z, w = .double z) ∨ (i = .freturn ∧ t = .float ∧ ∃ z, w = .float z) ∨ (i = .areturn ∧ t.isReference = true ∧ w.isRef = true))
    (hd : decode c.code pc = .ok (i, 1)) (eT : T.heap = h) (hc : cells ≤ kc) (hs : slots ≤ ks) (q : Q (some w) h locs) : OWW p e below s Q kc ks (T.setTop (mkF m pc Ls (w :: rest))) := by
  obtain ⟨fs, hr, hrun, hended, hW, hsame⟩ := X.leave (v := some w) (fun h => by rw [hret] at h; cases h) hlk
  subst eT
  obtain ⟨g1, g2, g3⟩ := hS.ended (U := T.setFrames fs) hW hk hsame
  exact ⟨_, _, retOut X hx hret hn hi hd hr, hrun, hended, _, _, rfl, q, ⟨_, rfl⟩, g1, g2, g3.mono hc hs⟩
theorem OWW.retV {vm0 : Vm} {k0 : Nat} (X : Stand p l e R (s.setVm vm0) m args below meth c T locs cells slots) {h : Heap} (hS : s.Since vm0 k0) (hk : k0 ≤ h.size) (hx : p.tables.exec = Jvm.exec) (hlk : meth.locks = false) {pc : Nat} {Ls : Array Slot} (hret : meth.sig.returnType = none)
    (hd : decode c.code pc = .ok (.return_, 1)) (eT : T.heap = h) (hc : cells ≤ kc) (hs : slots ≤ ks) (q : Q none h locs) : OWW p e below s Q kc ks (T.setTop (mkF m pc Ls [])) := by
  obtain ⟨fs, hr, hrun, hended, hW, hsame⟩ := X.leave (v := none) (fun _ => rfl) hlk
  subst eT
  obtain ⟨g1, g2, g3⟩ := hS.ended (U := T.setFrames fs) hW hk hsame
  exact ⟨_, _, X.returnOut hx hret hd hr, hrun, hended, _, _, rfl, q, ⟨_, rfl⟩, g1, g2, g3.mono hc hs⟩
end OwnKit
section OwnWords
variable {args : Array Value} {first s : State} {o : Option Outcome} {idx : List Nat} {t : Term}
theorem own_eq_int {k : Int32} (h : (Jvm.Cond.eq t (.int k)).value args first o s idx = some true) : t.eval args first o idx s = some (.int k) := by
  obtain ⟨x, y, h1, h2, k1, k2⟩ := cmp_v (Or.inl h)
  rw [Term.int_eval] at h2
  cases h2
  obtain ⟨z, rfl⟩ := k2
  rw [h1, gotT (Cond.eq_ints h1 (Term.int_eval k)) h]
theorem own_eq_ref {u : Term} {a : Addr} (h : (Jvm.Cond.eq t u).value args first o s idx = some true) (hu : u.eval args first o idx s = some (.ref a)) : t.eval args first o idx s = some (.ref a) := by
  obtain ⟨x, y, h1, h2, k1, k2⟩ := cmp_v (Or.inl h)
  cases hu.symm.trans h2
  have q := gotT (eq_R h1 hu k2.2 rfl) h
  rw [h1, q]
theorem own_arr {ty : FieldType} {a : Addr} {z : Int32} (ev : t.eval args s none [] s = some (.ref a)) (ha : (Jvm.Cond.arrayOf t ty).value args s none s [] = some true) (hl : (Term.length t).eval args s none [] s = some (.int z)) :
    ∃ cl : Cell, Arr s s.heap a cl ty ∧ cl.slots.size < 2 ^ 31 ∧ cl.slots.size.toInt32 = z ∧ ∀ j : Int32, ¬ j < 0 → ∀ v, (Term.elem t (.int j)).eval args s none [] s = some v → cl.slots[j.toNatClampNeg]? = some v := by
  obtain ⟨cl, A⟩ := Arr.start ev ha
  have hat := A.fin (Vm.Alike.refl _)
  have hlt : cl.slots.size < 2 ^ 31 := by
    refine Decidable.byContradiction fun q => ?_
    simp [Term.eval, ev, hat, q] at hl
  refine ⟨cl, A, hlt, ?_, fun j hj v hv => ?_⟩
  · rw [len_f ev hat hlt] at hl; exact Value.int.inj (Option.some.inj hl)
  · rw [elem_f ev (Term.int_eval j) hat hj] at hv; exact hv
end OwnWords
theorem own_oldle {Z : State} {n0 : Nat} {h : Heap} (X : Old Z n0 h) : n0 ≤ h.size := X.1 ▸ X.2.1
theorem own_cat {v : Value} (h : v.isRef = true) : v.category = 1 := by cases v <;> first | rfl | simp [Value.isRef] at h
theorem own_nar {v : Value} {t : FieldType} (h : v.isRef = true) (ht : t.isReference = true) : narrow t v = v := by cases t <;> first | (cases ht; done) | (cases v <;> first | rfl | simp [Value.isRef] at h)
theorem own_fit {v : Value} {t : FieldType} (h : v.isRef = true) (ht : t.isReference = true) : fits t v = true := by cases t <;> first | (cases ht; done) | (cases v <;> first | rfl | simp [Value.isRef] at h)

theorem own_nz {r : Int32} (h : r = 0 ∨ r = 1) : narrow .boolean (.int r) = .int r := by rcases h with rfl | rfl <;> rfl
theorem own_fz {r : Int32} (h : r = 0 ∨ r = 1) : fits .boolean (.int r) = true := by rcases h with rfl | rfl <;> rfl
theorem w_0 {a0 : Array Value} {Z : State} (hw : ∀ d ∈ tables_1, d.before a0 Z = true) : (Jvm.Cond.constant "com/example/graded_search/gradedsearch/engine/FeedbackExpandTermsPinLaw" (7 : Nat) (2147483647 : Int32)).before a0 Z = true := hw _ (List.mem_of_getElem? (i := 0) rfl)
theorem w_1 {a0 : Array Value} {Z : State} (hw : ∀ d ∈ tables_1, d.before a0 Z = true) : (Jvm.Cond.classLink "com/example/graded_search/gradedsearch/engine/FeedbackExpandTermsPinLaw" (8 : Nat) "com/example/graded_search/gradedsearch/engine/Feedback").before a0 Z = true := hw _ (List.mem_of_getElem? (i := 1) rfl)
theorem w_2 {a0 : Array Value} {Z : State} (hw : ∀ d ∈ tables_1, d.before a0 Z = true) : (Jvm.Cond.instantiable "com/example/graded_search/gradedsearch/engine/Feedback" (3 : Nat)).before a0 Z = true := hw _ (List.mem_of_getElem? (i := 2) rfl)
theorem w_3 {a0 : Array Value} {Z : State} (hw : ∀ d ∈ tables_1, d.before a0 Z = true) : (Jvm.Cond.initialized "com/example/graded_search/gradedsearch/engine/Feedback").before a0 Z = true := hw _ (List.mem_of_getElem? (i := 3) rfl)
theorem w_4 {a0 : Array Value} {Z : State} (hw : ∀ d ∈ tables_1, d.before a0 Z = true) : (Jvm.Cond.methodLink "com/example/graded_search/gradedsearch/engine/FeedbackExpandTermsPinLaw" (10 : Nat) ({ cls := "com/example/graded_search/gradedsearch/engine/Feedback", name := "<init>", desc := "()V" } : Jvm.MethodName)).before a0 Z = true := hw _ (List.mem_of_getElem? (i := 4) rfl)
theorem w_5 {a0 : Array Value} {Z : State} (hw : ∀ d ∈ tables_1, d.before a0 Z = true) : (Jvm.Cond.instanceMethod ({ cls := "com/example/graded_search/gradedsearch/engine/Feedback", name := "<init>", desc := "()V" } : Jvm.MethodName)).before a0 Z = true := hw _ (List.mem_of_getElem? (i := 5) rfl)
theorem w_6 {a0 : Array Value} {Z : State} (hw : ∀ d ∈ tables_1, d.before a0 Z = true) : (Jvm.Cond.code ({ cls := "com/example/graded_search/gradedsearch/engine/Feedback", name := "<init>", desc := "()V" } : Jvm.MethodName) prog_18_method_1_code (1 : Nat) (Option.none : Option Jvm.ClassFile.FieldType)).before a0 Z = true := hw _ (List.mem_of_getElem? (i := 6) rfl)
theorem w_7 {a0 : Array Value} {Z : State} (hw : ∀ d ∈ tables_1, d.before a0 Z = true) : (Jvm.Cond.methodLink "com/example/graded_search/gradedsearch/engine/Feedback" (1 : Nat) ({ cls := "java/lang/Object", name := "<init>", desc := "()V" } : Jvm.MethodName)).before a0 Z = true := hw _ (List.mem_of_getElem? (i := 7) rfl)
theorem w_8 {a0 : Array Value} {Z : State} (hw : ∀ d ∈ tables_1, d.before a0 Z = true) : (Jvm.Cond.instanceMethod ({ cls := "java/lang/Object", name := "<init>", desc := "()V" } : Jvm.MethodName)).before a0 Z = true := hw _ (List.mem_of_getElem? (i := 8) rfl)
theorem w_9 {a0 : Array Value} {Z : State} (hw : ∀ d ∈ tables_1, d.before a0 Z = true) : (Jvm.Cond.code ({ cls := "java/lang/Object", name := "<init>", desc := "()V" } : Jvm.MethodName) object_method_1_code (1 : Nat) (Option.none : Option Jvm.ClassFile.FieldType)).before a0 Z = true := hw _ (List.mem_of_getElem? (i := 9) rfl)
theorem w_10 {a0 : Array Value} {Z : State} (hw : ∀ d ∈ tables_1, d.before a0 Z = true) : (Jvm.Cond.fieldLink "com/example/graded_search/gradedsearch/engine/Feedback" (7 : Nat) "com/example/graded_search/gradedsearch/engine/Feedback" "expandTerms" "I").before a0 Z = true := hw _ (List.mem_of_getElem? (i := 10) rfl)
theorem w_11 {a0 : Array Value} {Z : State} (hw : ∀ d ∈ tables_1, d.before a0 Z = true) : (Jvm.Cond.lays "com/example/graded_search/gradedsearch/engine/Feedback" "com/example/graded_search/gradedsearch/engine/Feedback" "expandTerms" "I").before a0 Z = true := hw _ (List.mem_of_getElem? (i := 11) rfl)
theorem w_12 {a0 : Array Value} {Z : State} (hw : ∀ d ∈ tables_1, d.before a0 Z = true) : (Jvm.Cond.fieldLink "com/example/graded_search/gradedsearch/engine/Feedback" (13 : Nat) "com/example/graded_search/gradedsearch/engine/Feedback$Form" "GRADED" "Lcom/example/graded_search/gradedsearch/engine/Feedback$Form;").before a0 Z = true := hw _ (List.mem_of_getElem? (i := 12) rfl)
theorem w_13 {a0 : Array Value} {Z : State} (hw : ∀ d ∈ tables_1, d.before a0 Z = true) : (Jvm.Cond.initialized "com/example/graded_search/gradedsearch/engine/Feedback$Form").before a0 Z = true := hw _ (List.mem_of_getElem? (i := 13) rfl)
theorem w_14 {a0 : Array Value} {Z : State} (hw : ∀ d ∈ tables_1, d.before a0 Z = true) : (Jvm.Cond.laysStatic "com/example/graded_search/gradedsearch/engine/Feedback$Form" "GRADED" "Lcom/example/graded_search/gradedsearch/engine/Feedback$Form;").before a0 Z = true := hw _ (List.mem_of_getElem? (i := 14) rfl)
theorem w_15 {a0 : Array Value} {Z : State} (hw : ∀ d ∈ tables_1, d.before a0 Z = true) : (Jvm.Cond.fieldLink "com/example/graded_search/gradedsearch/engine/Feedback" (19 : Nat) "com/example/graded_search/gradedsearch/engine/Feedback" "form" "Lcom/example/graded_search/gradedsearch/engine/Feedback$Form;").before a0 Z = true := hw _ (List.mem_of_getElem? (i := 15) rfl)
theorem w_16 {a0 : Array Value} {Z : State} (hw : ∀ d ∈ tables_1, d.before a0 Z = true) : (Jvm.Cond.lays "com/example/graded_search/gradedsearch/engine/Feedback" "com/example/graded_search/gradedsearch/engine/Feedback" "form" "Lcom/example/graded_search/gradedsearch/engine/Feedback$Form;").before a0 Z = true := hw _ (List.mem_of_getElem? (i := 16) rfl)
theorem w_17 {a0 : Array Value} {Z : State} (hw : ∀ d ∈ tables_1, d.before a0 Z = true) : (Jvm.Cond.classLink "com/example/graded_search/gradedsearch/engine/Feedback" (22 : Nat) "com/example/graded_search/gradedsearch/engine/GfIof").before a0 Z = true := hw _ (List.mem_of_getElem? (i := 17) rfl)
theorem w_18 {a0 : Array Value} {Z : State} (hw : ∀ d ∈ tables_1, d.before a0 Z = true) : (Jvm.Cond.instantiable "com/example/graded_search/gradedsearch/engine/GfIof" (0 : Nat)).before a0 Z = true := hw _ (List.mem_of_getElem? (i := 18) rfl)
theorem w_19 {a0 : Array Value} {Z : State} (hw : ∀ d ∈ tables_1, d.before a0 Z = true) : (Jvm.Cond.initialized "com/example/graded_search/gradedsearch/engine/GfIof").before a0 Z = true := hw _ (List.mem_of_getElem? (i := 19) rfl)
theorem w_20 {a0 : Array Value} {Z : State} (hw : ∀ d ∈ tables_1, d.before a0 Z = true) : (Jvm.Cond.methodLink "com/example/graded_search/gradedsearch/engine/Feedback" (24 : Nat) ({ cls := "com/example/graded_search/gradedsearch/engine/GfIof", name := "<init>", desc := "()V" } : Jvm.MethodName)).before a0 Z = true := hw _ (List.mem_of_getElem? (i := 20) rfl)
theorem w_21 {a0 : Array Value} {Z : State} (hw : ∀ d ∈ tables_1, d.before a0 Z = true) : (Jvm.Cond.instanceMethod ({ cls := "com/example/graded_search/gradedsearch/engine/GfIof", name := "<init>", desc := "()V" } : Jvm.MethodName)).before a0 Z = true := hw _ (List.mem_of_getElem? (i := 21) rfl)
theorem w_22 {a0 : Array Value} {Z : State} (hw : ∀ d ∈ tables_1, d.before a0 Z = true) : (Jvm.Cond.code ({ cls := "com/example/graded_search/gradedsearch/engine/GfIof", name := "<init>", desc := "()V" } : Jvm.MethodName) prog_32_method_1_code (1 : Nat) (Option.none : Option Jvm.ClassFile.FieldType)).before a0 Z = true := hw _ (List.mem_of_getElem? (i := 22) rfl)
theorem w_23 {a0 : Array Value} {Z : State} (hw : ∀ d ∈ tables_1, d.before a0 Z = true) : (Jvm.Cond.methodLink "com/example/graded_search/gradedsearch/engine/GfIof" (1 : Nat) ({ cls := "com/example/graded_search/gradedsearch/engine/RankingModel", name := "<init>", desc := "()V" } : Jvm.MethodName)).before a0 Z = true := hw _ (List.mem_of_getElem? (i := 23) rfl)
theorem w_24 {a0 : Array Value} {Z : State} (hw : ∀ d ∈ tables_1, d.before a0 Z = true) : (Jvm.Cond.instanceMethod ({ cls := "com/example/graded_search/gradedsearch/engine/RankingModel", name := "<init>", desc := "()V" } : Jvm.MethodName)).before a0 Z = true := hw _ (List.mem_of_getElem? (i := 24) rfl)
theorem w_26 {a0 : Array Value} {Z : State} (hw : ∀ d ∈ tables_1, d.before a0 Z = true) : (Jvm.Cond.initialized "com/example/graded_search/gradedsearch/engine/RankingModel").before a0 Z = true := hw _ (List.mem_of_getElem? (i := 26) rfl)
theorem w_27 {a0 : Array Value} {Z : State} (hw : ∀ d ∈ tables_1, d.before a0 Z = true) : (Jvm.Cond.code ({ cls := "com/example/graded_search/gradedsearch/engine/RankingModel", name := "<init>", desc := "()V" } : Jvm.MethodName) prog_49_method_1_code (1 : Nat) (Option.none : Option Jvm.ClassFile.FieldType)).before a0 Z = true := hw _ (List.mem_of_getElem? (i := 27) rfl)
theorem w_28 {a0 : Array Value} {Z : State} (hw : ∀ d ∈ tables_1, d.before a0 Z = true) : (Jvm.Cond.methodLink "com/example/graded_search/gradedsearch/engine/RankingModel" (1 : Nat) ({ cls := "java/lang/Object", name := "<init>", desc := "()V" } : Jvm.MethodName)).before a0 Z = true := hw _ (List.mem_of_getElem? (i := 28) rfl)
theorem w_29 {a0 : Array Value} {Z : State} (hw : ∀ d ∈ tables_1, d.before a0 Z = true) : (Jvm.Cond.fieldLink "com/example/graded_search/gradedsearch/engine/Feedback" (25 : Nat) "com/example/graded_search/gradedsearch/engine/Feedback" "model" "Lcom/example/graded_search/gradedsearch/engine/RankingModel;").before a0 Z = true := hw _ (List.mem_of_getElem? (i := 29) rfl)
theorem w_30 {a0 : Array Value} {Z : State} (hw : ∀ d ∈ tables_1, d.before a0 Z = true) : (Jvm.Cond.lays "com/example/graded_search/gradedsearch/engine/Feedback" "com/example/graded_search/gradedsearch/engine/Feedback" "model" "Lcom/example/graded_search/gradedsearch/engine/RankingModel;").before a0 Z = true := hw _ (List.mem_of_getElem? (i := 30) rfl)
theorem w_31 {a0 : Array Value} {Z : State} (hw : ∀ d ∈ tables_1, d.before a0 Z = true) : (Jvm.Cond.methodLink "com/example/graded_search/gradedsearch/engine/FeedbackExpandTermsPinLaw" (11 : Nat) ({ cls := "com/example/graded_search/gradedsearch/engine/Feedback", name := "model", desc := "()Lcom/example/graded_search/gradedsearch/engine/RankingModel;" } : Jvm.MethodName)).before a0 Z = true := hw _ (List.mem_of_getElem? (i := 31) rfl)
theorem w_32 {a0 : Array Value} {Z : State} (hw : ∀ d ∈ tables_1, d.before a0 Z = true) : (Jvm.Cond.declares ({ cls := "com/example/graded_search/gradedsearch/engine/Feedback", name := "model", desc := "()Lcom/example/graded_search/gradedsearch/engine/RankingModel;" } : Jvm.MethodName)).before a0 Z = true := hw _ (List.mem_of_getElem? (i := 32) rfl)
theorem w_33 {a0 : Array Value} {Z : State} (hw : ∀ d ∈ tables_1, d.before a0 Z = true) : (Jvm.Cond.instanceMethod ({ cls := "com/example/graded_search/gradedsearch/engine/Feedback", name := "model", desc := "()Lcom/example/graded_search/gradedsearch/engine/RankingModel;" } : Jvm.MethodName)).before a0 Z = true := hw _ (List.mem_of_getElem? (i := 33) rfl)
theorem w_34 {a0 : Array Value} {Z : State} (hw : ∀ d ∈ tables_1, d.before a0 Z = true) : (Jvm.Cond.selects "com/example/graded_search/gradedsearch/engine/Feedback" ({ cls := "com/example/graded_search/gradedsearch/engine/Feedback", name := "model", desc := "()Lcom/example/graded_search/gradedsearch/engine/RankingModel;" } : Jvm.MethodName) ({ cls := "com/example/graded_search/gradedsearch/engine/Feedback", name := "model", desc := "()Lcom/example/graded_search/gradedsearch/engine/RankingModel;" } : Jvm.MethodName)).before a0 Z = true := hw _ (List.mem_of_getElem? (i := 34) rfl)
theorem w_35 {a0 : Array Value} {Z : State} (hw : ∀ d ∈ tables_1, d.before a0 Z = true) : (Jvm.Cond.code ({ cls := "com/example/graded_search/gradedsearch/engine/Feedback", name := "model", desc := "()Lcom/example/graded_search/gradedsearch/engine/RankingModel;" } : Jvm.MethodName) prog_18_method_6_code (1 : Nat) (Option.some (Jvm.ClassFile.FieldType.object "com/example/graded_search/gradedsearch/engine/RankingModel"))).before a0 Z = true := hw _ (List.mem_of_getElem? (i := 35) rfl)
theorem w_36 {a0 : Array Value} {Z : State} (hw : ∀ d ∈ tables_1, d.before a0 Z = true) : (Jvm.Cond.methodLink "com/example/graded_search/gradedsearch/engine/FeedbackExpandTermsPinLaw" (15 : Nat) ({ cls := "com/example/graded_search/gradedsearch/engine/Feedback", name := "form", desc := "()Lcom/example/graded_search/gradedsearch/engine/Feedback$Form;" } : Jvm.MethodName)).before a0 Z = true := hw _ (List.mem_of_getElem? (i := 36) rfl)
theorem w_37 {a0 : Array Value} {Z : State} (hw : ∀ d ∈ tables_1, d.before a0 Z = true) : (Jvm.Cond.declares ({ cls := "com/example/graded_search/gradedsearch/engine/Feedback", name := "form", desc := "()Lcom/example/graded_search/gradedsearch/engine/Feedback$Form;" } : Jvm.MethodName)).before a0 Z = true := hw _ (List.mem_of_getElem? (i := 37) rfl)
theorem w_38 {a0 : Array Value} {Z : State} (hw : ∀ d ∈ tables_1, d.before a0 Z = true) : (Jvm.Cond.instanceMethod ({ cls := "com/example/graded_search/gradedsearch/engine/Feedback", name := "form", desc := "()Lcom/example/graded_search/gradedsearch/engine/Feedback$Form;" } : Jvm.MethodName)).before a0 Z = true := hw _ (List.mem_of_getElem? (i := 38) rfl)
theorem w_39 {a0 : Array Value} {Z : State} (hw : ∀ d ∈ tables_1, d.before a0 Z = true) : (Jvm.Cond.selects "com/example/graded_search/gradedsearch/engine/Feedback" ({ cls := "com/example/graded_search/gradedsearch/engine/Feedback", name := "form", desc := "()Lcom/example/graded_search/gradedsearch/engine/Feedback$Form;" } : Jvm.MethodName) ({ cls := "com/example/graded_search/gradedsearch/engine/Feedback", name := "form", desc := "()Lcom/example/graded_search/gradedsearch/engine/Feedback$Form;" } : Jvm.MethodName)).before a0 Z = true := hw _ (List.mem_of_getElem? (i := 39) rfl)
theorem w_40 {a0 : Array Value} {Z : State} (hw : ∀ d ∈ tables_1, d.before a0 Z = true) : (Jvm.Cond.code ({ cls := "com/example/graded_search/gradedsearch/engine/Feedback", name := "form", desc := "()Lcom/example/graded_search/gradedsearch/engine/Feedback$Form;" } : Jvm.MethodName) prog_18_method_4_code (1 : Nat) (Option.some (Jvm.ClassFile.FieldType.object "com/example/graded_search/gradedsearch/engine/Feedback$Form"))).before a0 Z = true := hw _ (List.mem_of_getElem? (i := 40) rfl)
theorem w_41 {a0 : Array Value} {Z : State} (hw : ∀ d ∈ tables_1, d.before a0 Z = true) : (Jvm.Cond.methodLink "com/example/graded_search/gradedsearch/engine/FeedbackExpandTermsPinLaw" (19 : Nat) ({ cls := "com/example/graded_search/gradedsearch/engine/Feedback", name := "expandTerms", desc := "(I)Lcom/example/graded_search/gradedsearch/engine/Feedback;" } : Jvm.MethodName)).before a0 Z = true := hw _ (List.mem_of_getElem? (i := 41) rfl)
theorem w_42 {a0 : Array Value} {Z : State} (hw : ∀ d ∈ tables_1, d.before a0 Z = true) : (Jvm.Cond.declares ({ cls := "com/example/graded_search/gradedsearch/engine/Feedback", name := "expandTerms", desc := "(I)Lcom/example/graded_search/gradedsearch/engine/Feedback;" } : Jvm.MethodName)).before a0 Z = true := hw _ (List.mem_of_getElem? (i := 42) rfl)
theorem w_43 {a0 : Array Value} {Z : State} (hw : ∀ d ∈ tables_1, d.before a0 Z = true) : (Jvm.Cond.instanceMethod ({ cls := "com/example/graded_search/gradedsearch/engine/Feedback", name := "expandTerms", desc := "(I)Lcom/example/graded_search/gradedsearch/engine/Feedback;" } : Jvm.MethodName)).before a0 Z = true := hw _ (List.mem_of_getElem? (i := 43) rfl)
theorem w_44 {a0 : Array Value} {Z : State} (hw : ∀ d ∈ tables_1, d.before a0 Z = true) : (Jvm.Cond.selects "com/example/graded_search/gradedsearch/engine/Feedback" ({ cls := "com/example/graded_search/gradedsearch/engine/Feedback", name := "expandTerms", desc := "(I)Lcom/example/graded_search/gradedsearch/engine/Feedback;" } : Jvm.MethodName) ({ cls := "com/example/graded_search/gradedsearch/engine/Feedback", name := "expandTerms", desc := "(I)Lcom/example/graded_search/gradedsearch/engine/Feedback;" } : Jvm.MethodName)).before a0 Z = true := hw _ (List.mem_of_getElem? (i := 44) rfl)
theorem w_45 {a0 : Array Value} {Z : State} (hw : ∀ d ∈ tables_1, d.before a0 Z = true) : (Jvm.Cond.code ({ cls := "com/example/graded_search/gradedsearch/engine/Feedback", name := "expandTerms", desc := "(I)Lcom/example/graded_search/gradedsearch/engine/Feedback;" } : Jvm.MethodName) prog_18_method_3_code (2 : Nat) (Option.some (Jvm.ClassFile.FieldType.object "com/example/graded_search/gradedsearch/engine/Feedback"))).before a0 Z = true := hw _ (List.mem_of_getElem? (i := 45) rfl)
theorem w_46 {a0 : Array Value} {Z : State} (hw : ∀ d ∈ tables_1, d.before a0 Z = true) : (Jvm.Cond.methodLink "com/example/graded_search/gradedsearch/engine/FeedbackExpandTermsPinLaw" (23 : Nat) ({ cls := "com/example/graded_search/gradedsearch/engine/Feedback", name := "expandTerms", desc := "()I" } : Jvm.MethodName)).before a0 Z = true := hw _ (List.mem_of_getElem? (i := 46) rfl)
theorem w_47 {a0 : Array Value} {Z : State} (hw : ∀ d ∈ tables_1, d.before a0 Z = true) : (Jvm.Cond.declares ({ cls := "com/example/graded_search/gradedsearch/engine/Feedback", name := "expandTerms", desc := "()I" } : Jvm.MethodName)).before a0 Z = true := hw _ (List.mem_of_getElem? (i := 47) rfl)
theorem w_48 {a0 : Array Value} {Z : State} (hw : ∀ d ∈ tables_1, d.before a0 Z = true) : (Jvm.Cond.instanceMethod ({ cls := "com/example/graded_search/gradedsearch/engine/Feedback", name := "expandTerms", desc := "()I" } : Jvm.MethodName)).before a0 Z = true := hw _ (List.mem_of_getElem? (i := 48) rfl)
theorem w_49 {a0 : Array Value} {Z : State} (hw : ∀ d ∈ tables_1, d.before a0 Z = true) : (Jvm.Cond.selects "com/example/graded_search/gradedsearch/engine/Feedback" ({ cls := "com/example/graded_search/gradedsearch/engine/Feedback", name := "expandTerms", desc := "()I" } : Jvm.MethodName) ({ cls := "com/example/graded_search/gradedsearch/engine/Feedback", name := "expandTerms", desc := "()I" } : Jvm.MethodName)).before a0 Z = true := hw _ (List.mem_of_getElem? (i := 49) rfl)
theorem w_50 {a0 : Array Value} {Z : State} (hw : ∀ d ∈ tables_1, d.before a0 Z = true) : (Jvm.Cond.code ({ cls := "com/example/graded_search/gradedsearch/engine/Feedback", name := "expandTerms", desc := "()I" } : Jvm.MethodName) prog_18_method_2_code (1 : Nat) (Option.some Jvm.ClassFile.FieldType.int)).before a0 Z = true := hw _ (List.mem_of_getElem? (i := 50) rfl)
theorem d1_0 : decode prog_18_method_1_code 0 = .ok (.aload_n 0, 1) := by decide +kernel
theorem d1_1 : decode prog_18_method_1_code 1 = .ok (.invokespecial 1, 3) := by decide +kernel
theorem d1_4 : decode prog_18_method_1_code 4 = .ok (.aload_n 0, 1) := by decide +kernel
theorem d1_5 : decode prog_18_method_1_code 5 = .ok (.bipush 10, 2) := by decide +kernel
theorem d1_7 : decode prog_18_method_1_code 7 = .ok (.putfield 7, 3) := by decide +kernel
theorem d1_10 : decode prog_18_method_1_code 10 = .ok (.aload_n 0, 1) := by decide +kernel
theorem d1_11 : decode prog_18_method_1_code 11 = .ok (.getstatic 13, 3) := by decide +kernel
theorem d1_14 : decode prog_18_method_1_code 14 = .ok (.putfield 19, 3) := by decide +kernel
theorem d1_17 : decode prog_18_method_1_code 17 = .ok (.aload_n 0, 1) := by decide +kernel
theorem d1_18 : decode prog_18_method_1_code 18 = .ok (.new 22, 3) := by decide +kernel
theorem d1_21 : decode prog_18_method_1_code 21 = .ok (.dup, 1) := by decide +kernel
theorem d1_22 : decode prog_18_method_1_code 22 = .ok (.invokespecial 24, 3) := by decide +kernel
theorem d1_25 : decode prog_18_method_1_code 25 = .ok (.putfield 25, 3) := by decide +kernel
theorem d1_28 : decode prog_18_method_1_code 28 = .ok (.return_, 1) := by decide +kernel
theorem d3_0 : decode prog_32_method_1_code 0 = .ok (.aload_n 0, 1) := by decide +kernel
theorem d3_1 : decode prog_32_method_1_code 1 = .ok (.invokespecial 1, 3) := by decide +kernel
theorem d3_4 : decode prog_32_method_1_code 4 = .ok (.return_, 1) := by decide +kernel
theorem d4_0 : decode prog_49_method_1_code 0 = .ok (.aload_n 0, 1) := by decide +kernel
theorem d4_1 : decode prog_49_method_1_code 1 = .ok (.invokespecial 1, 3) := by decide +kernel
theorem d4_4 : decode prog_49_method_1_code 4 = .ok (.return_, 1) := by decide +kernel
theorem d5_0 : decode prog_18_method_6_code 0 = .ok (.aload_n 0, 1) := by decide +kernel
theorem d5_1 : decode prog_18_method_6_code 1 = .ok (.getfield 25, 3) := by decide +kernel
theorem d5_4 : decode prog_18_method_6_code 4 = .ok (.areturn, 1) := by decide +kernel
theorem d6_0 : decode prog_18_method_4_code 0 = .ok (.aload_n 0, 1) := by decide +kernel
theorem d6_1 : decode prog_18_method_4_code 1 = .ok (.getfield 19, 3) := by decide +kernel
theorem d6_4 : decode prog_18_method_4_code 4 = .ok (.areturn, 1) := by decide +kernel
theorem d7_0 : decode prog_18_method_3_code 0 = .ok (.iload_n 1, 1) := by decide +kernel
theorem d7_1 : decode prog_18_method_3_code 1 = .ok (.ifCond .ge 17, 3) := by decide +kernel
theorem d7_18 : decode prog_18_method_3_code 18 = .ok (.aload_n 0, 1) := by decide +kernel
theorem d7_19 : decode prog_18_method_3_code 19 = .ok (.iload_n 1, 1) := by decide +kernel
theorem d7_20 : decode prog_18_method_3_code 20 = .ok (.putfield 7, 3) := by decide +kernel
theorem d7_23 : decode prog_18_method_3_code 23 = .ok (.aload_n 0, 1) := by decide +kernel
theorem d7_24 : decode prog_18_method_3_code 24 = .ok (.areturn, 1) := by decide +kernel
theorem d8_0 : decode prog_18_method_2_code 0 = .ok (.aload_n 0, 1) := by decide +kernel
theorem d8_1 : decode prog_18_method_2_code 1 = .ok (.getfield 7, 3) := by decide +kernel
theorem d8_4 : decode prog_18_method_2_code 4 = .ok (.ireturn, 1) := by decide +kernel
theorem pn_0 : plainName "com/example/graded_search/gradedsearch/engine/RankingModel" = true := by first | (simp [plainName, overriddenIn]; done) | decide +kernel
theorem pn_1 : plainName "com/example/graded_search/gradedsearch/engine/GfIof" = true := by first | (simp [plainName, overriddenIn]; done) | decide +kernel
theorem pn_2 : plainName "com/example/graded_search/gradedsearch/engine/Feedback" = true := by first | (simp [plainName, overriddenIn]; done) | decide +kernel
theorem pn_3 : plainName "com/example/graded_search/gradedsearch/engine/FeedbackExpandTermsPinLaw" = true := by first | (simp [plainName, overriddenIn]; done) | decide +kernel
theorem pd_0 : parseMethodDescriptor "()V" = some ⟨[], none⟩ := by decide +kernel
theorem pd_1 : parseMethodDescriptor "()Lcom/example/graded_search/gradedsearch/engine/RankingModel;" = some ⟨[], some (.object "com/example/graded_search/gradedsearch/engine/RankingModel")⟩ := by decide +kernel
theorem pd_2 : parseMethodDescriptor "()Lcom/example/graded_search/gradedsearch/engine/Feedback$Form;" = some ⟨[], some (.object "com/example/graded_search/gradedsearch/engine/Feedback$Form")⟩ := by decide +kernel
theorem pd_3 : parseMethodDescriptor "(I)Lcom/example/graded_search/gradedsearch/engine/Feedback;" = some ⟨[.int], some (.object "com/example/graded_search/gradedsearch/engine/Feedback")⟩ := by decide +kernel
theorem pd_4 : parseMethodDescriptor "()I" = some ⟨[], some .int⟩ := by decide +kernel
def OwnS (Z : State) (a_GRADED : Addr) : Prop := (Sta Z Z.heap "com/example/graded_search/gradedsearch/engine/Feedback$Form" "GRADED" "Lcom/example/graded_search/gradedsearch/engine/Feedback$Form;" (.ref a_GRADED)) ∧ (Exa Z Z.heap a_GRADED "com/example/graded_search/gradedsearch/engine/Feedback$Form$1")
theorem own_nn (x : Int32) : ¬ (x &&& 2147483647 < (0 : Int32)) := by
  have h1 := (c_and x 2147483647 (by decide)).1
  rw [Int32.lt_iff_toInt_lt, show (0 : Int32).toInt = 0 by decide]
  omega
theorem ef_RM (m : MethodId) (x0 : Addr) : entryFrame m #[(.ref x0)] 1 = mkF m 0 #[.val (.ref x0)] [] := by first | (simp [entryFrame, mkF, argsToLocals, Value.category]; done) | rfl
def QRM (Z : State) (a : Addr) (h0 : Heap) (n0 : Nat) (v : Option Value) (h : Heap) (L : List Loc) : Prop := v = none ∧ Fr n0 L ∧ h = h0
set_option maxRecDepth 65536 in
set_option maxHeartbeats 40000000 in
theorem rmRM (l : Launch) (Z : State) (a0 : Array Value) (hw : ∀ d ∈ tables_1, d.before a0 Z = true) (ws : List Jvm.Cond) (a : Addr) (h0 : Heap) (n0 : Nat) (O0 : Old Z n0 h0) :
    MetFree l (⟨"com/example/graded_search/gradedsearch/engine/RankingModel", "<init>", "()V"⟩ : MethodName) (head1 (Jvm.Cond.code (⟨"com/example/graded_search/gradedsearch/engine/RankingModel", "<init>", "()V"⟩ : MethodName) prog_49_method_1_code 1 none :: ws) ({ frames := 1, cells := 0, slots := 0, locals := 12 } : Room)) (fun aa_ UU_ => aa_ = #[(.ref a)] ∧ Z.Warmed39 UU_.vm ∧ UU_.heap = h0) (fun _ _ _ _ _ => True) (fun _ UU_ oo_ UV_ => ∃ vv_ LL_, oo_ = .returned vv_ ∧ QRM Z a h0 n0 vv_ UV_.heap LL_ ∧ FrameEnd UU_ oo_ UV_ LL_ ({ frames := 1, cells := 0, slots := 0, locals := 12 } : Room).cells ({ frames := 1, cells := 0, slots := 0, locals := 12 } : Room).slots) := by
  refine MetFree.of_bodySF (plainFor_of_name pn_0) hisR ?_
  intro p e s m args below meth c s₁ Bd hml0 hP hK
  obtain ⟨rfl, hZ, hh⟩ := hP
  have hx := Bd.exec
  have hby := Bd.bytes
  have hlk := BodyLoose.notSynchronized Bd
  have hml : c.maxLocals = 1 := hml0
  have hown : s.vm.findClass "com/example/graded_search/gradedsearch/engine/RankingModel" = some m.cls := findClass_of_methodNamed Bd.named
  have hnm := (name_of_methodNamed Bd.named Bd.method).1
  have X0 : Stand p l e ({ frames := 1, cells := 0, slots := 0, locals := 12 } : Room) s m #[(.ref a)] below meth c s₁ [] 0 0 := Stand.of_body Bd
  have e0 : s₁.heap = h0 := by rw [← hh, Bd.state]; rfl
  have N0 := Fr.nil n0
  suffices hOW : OW p e below s (QRM Z a h0 n0) 0 0 (s₁.setTop (mkF m 0 #[.val (.ref a)] [])) by
    obtain ⟨q1, q2, q3, q4⟩ := hOW
    exact ⟨q1, q2, castTop (ef_RM m a) q3, q4⟩
  refine OW.st (B := s₁.setTop (mkF m 1 #[.val (.ref a)] [(.ref a)])) (fun _ kk_ => XS.aloadN X0.here hx rfl (hb hby d4_0) rfl rfl kk_) ?_
  obtain ⟨T1, X1, e1, st1⟩ := initO X0 hx hZ hown (w_28 hw) (w_8 hw) (w_9 hw) e0 (g := (mkF m 1 #[.val (.ref a)] [(.ref a)])) rfl (by rw [hml]; rfl) rfl (hb hby d4_1) (by decide) (W := 0) (by show 2 * 0 + _ ≤ _; exact Nat.le_of_eq rfl) (by decide)
  refine OW.st (B := T1.setTop (mkF m 4 #[.val (.ref a)] [])) (st1) ?_
  exact OW.retV X1 hx hlk Bd.returns (hb hby d4_4) e1 (by decide) (by decide) ⟨rfl, N0, rfl⟩
theorem ef_GI (m : MethodId) (x0 : Addr) : entryFrame m #[(.ref x0)] 1 = mkF m 0 #[.val (.ref x0)] [] := by first | (simp [entryFrame, mkF, argsToLocals, Value.category]; done) | rfl
def QGI (Z : State) (a : Addr) (h0 : Heap) (n0 : Nat) (v : Option Value) (h : Heap) (L : List Loc) : Prop := v = none ∧ Fr n0 L ∧ h = h0
set_option maxRecDepth 65536 in
set_option maxHeartbeats 40000000 in
theorem rmGI (l : Launch) (Z : State) (a0 : Array Value) (hw : ∀ d ∈ tables_1, d.before a0 Z = true) (ws : List Jvm.Cond) (a : Addr) (h0 : Heap) (n0 : Nat) (O0 : Old Z n0 h0) :
    MetFree l (⟨"com/example/graded_search/gradedsearch/engine/GfIof", "<init>", "()V"⟩ : MethodName) (head1 (Jvm.Cond.code (⟨"com/example/graded_search/gradedsearch/engine/GfIof", "<init>", "()V"⟩ : MethodName) prog_32_method_1_code 1 none :: ws) ({ frames := 2, cells := 0, slots := 0, locals := 24 } : Room)) (fun aa_ UU_ => aa_ = #[(.ref a)] ∧ Z.Warmed39 UU_.vm ∧ UU_.heap = h0) (fun _ _ _ _ _ => True) (fun _ UU_ oo_ UV_ => ∃ vv_ LL_, oo_ = .returned vv_ ∧ QGI Z a h0 n0 vv_ UV_.heap LL_ ∧ FrameEnd UU_ oo_ UV_ LL_ ({ frames := 2, cells := 0, slots := 0, locals := 24 } : Room).cells ({ frames := 2, cells := 0, slots := 0, locals := 24 } : Room).slots) := by
  refine MetFree.of_bodySF (plainFor_of_name pn_1) hisR ?_
  intro p e s m args below meth c s₁ Bd hml0 hP hK
  obtain ⟨rfl, hZ, hh⟩ := hP
  have hx := Bd.exec
  have hby := Bd.bytes
  have hlk := BodyLoose.notSynchronized Bd
  have hml : c.maxLocals = 1 := hml0
  have hown : s.vm.findClass "com/example/graded_search/gradedsearch/engine/GfIof" = some m.cls := findClass_of_methodNamed Bd.named
  have hnm := (name_of_methodNamed Bd.named Bd.method).1
  have X0 : Stand p l e ({ frames := 2, cells := 0, slots := 0, locals := 24 } : Room) s m #[(.ref a)] below meth c s₁ [] 0 0 := Stand.of_body Bd
  have e0 : s₁.heap = h0 := by rw [← hh, Bd.state]; rfl
  have N0 := Fr.nil n0
  suffices hOW : OW p e below s (QGI Z a h0 n0) 0 0 (s₁.setTop (mkF m 0 #[.val (.ref a)] [])) by
    obtain ⟨q1, q2, q3, q4⟩ := hOW
    exact ⟨q1, q2, castTop (ef_GI m a) q3, q4⟩
  refine OW.st (B := s₁.setTop (mkF m 1 #[.val (.ref a)] [(.ref a)])) (fun _ kk_ => XS.aloadN X0.here hx rfl (hb hby d3_0) rfl rfl kk_) ?_
  obtain ⟨_, _, ⟨T2, L2, k2, n2⟩, -, X2, ⟨Lc2, hQ2, l2, y2, z2⟩, st2⟩ := X0.specialBack hx (y := (⟨"com/example/graded_search/gradedsearch/engine/RankingModel", "<init>", "()V"⟩ : MethodName)) rfl hown (mvT hZ (w_23 hw)) (mvT hZ (w_24 hw)) (mvT hZ (w_27 hw)) (by decide) (backOf (W := 0) (rmRM l Z a0 hw [] a h0 n0 O0 ) hZ (w_27 hw) (w_26 hw) (by decide) (by decide)) (g := (mkF m 1 #[.val (.ref a)] [(.ref a)])) rfl (by rw [hml]; rfl) (Steps.refl _) (a := a) (argsL := []) (rest := []) (lenOf pd_0 rfl) rfl (by show 2 * 0 + _ ≤ _; exact Nat.le_of_eq rfl) (hb hby d3_1) (fun _ _ => ⟨rfl, e0, (by decide : 0 + 0 ≤ _), (by decide : 0 + 0 ≤ _)⟩)
  dsimp only [Pt.U, Pt.locs, Pt.cells, Pt.slots] at X2 l2 y2 z2 st2 hQ2
  subst l2 y2 z2
  obtain ⟨rfl, Nq2, e2⟩ := hQ2
  have N2 := Fr.app N0 Nq2
  refine OW.tr (B := T2.setTop (mkF m 4 #[.val (.ref a)] [])) (st2) ?_
  exact OW.retV X2 hx hlk Bd.returns (hb hby d3_4) e2 (by decide) (by decide) ⟨rfl, N2, rfl⟩
theorem ef_FI (m : MethodId) (x0 : Addr) : entryFrame m #[(.ref x0)] 1 = mkF m 0 #[.val (.ref x0)] [] := by first | (simp [entryFrame, mkF, argsToLocals, Value.category]; done) | rfl
def QFI (Z : State) (b : Addr) (a_GRADED : Addr) (h0 : Heap) (n0 : Nat) (v : Option Value) (h : Heap) (L : List Loc) : Prop := v = none ∧ Fr n0 L ∧ Keep h0 h [b] ∧ Exa Z h b "com/example/graded_search/gradedsearch/engine/Feedback" ∧ Fld Z h b "com/example/graded_search/gradedsearch/engine/Feedback" "expandTerms" "I" (.int (10 : Int32)) ∧ Fld Z h b "com/example/graded_search/gradedsearch/engine/Feedback" "form" "Lcom/example/graded_search/gradedsearch/engine/Feedback$Form;" (.ref a_GRADED) ∧ ∃ mo : Addr, Fld Z h b "com/example/graded_search/gradedsearch/engine/Feedback" "model" "Lcom/example/graded_search/gradedsearch/engine/RankingModel;" (.ref mo)
set_option maxRecDepth 65536 in
set_option maxHeartbeats 40000000 in
theorem rmFI (l : Launch) (Z : State) (a0 : Array Value) (hw : ∀ d ∈ tables_1, d.before a0 Z = true) (ws : List Jvm.Cond) (b : Addr) (a_GRADED : Addr) (h0 : Heap) (n0 : Nat) (O0 : Old Z n0 h0) (E : Exa Z h0 b "com/example/graded_search/gradedsearch/engine/Feedback") (F1 : Fld Z h0 b "com/example/graded_search/gradedsearch/engine/Feedback" "expandTerms" "I" (.int (0 : Int32))) (F2 : Fld Z h0 b "com/example/graded_search/gradedsearch/engine/Feedback" "form" "Lcom/example/graded_search/gradedsearch/engine/Feedback$Form;" .null) (F3 : Fld Z h0 b "com/example/graded_search/gradedsearch/engine/Feedback" "model" "Lcom/example/graded_search/gradedsearch/engine/RankingModel;" .null) (g : n0 ≤ b) (hS : OwnS Z a_GRADED) :
    MetFree l (⟨"com/example/graded_search/gradedsearch/engine/Feedback", "<init>", "()V"⟩ : MethodName) (head1 (Jvm.Cond.code (⟨"com/example/graded_search/gradedsearch/engine/Feedback", "<init>", "()V"⟩ : MethodName) prog_18_method_1_code 1 none :: ws) ({ frames := 3, cells := 1, slots := 0, locals := 38 } : Room)) (fun aa_ UU_ => aa_ = #[(.ref b)] ∧ Z.Warmed39 UU_.vm ∧ UU_.heap = h0) (fun _ _ _ _ _ => True) (fun _ UU_ oo_ UV_ => ∃ vv_ LL_, oo_ = .returned vv_ ∧ QFI Z b a_GRADED h0 n0 vv_ UV_.heap LL_ ∧ FrameEnd UU_ oo_ UV_ LL_ ({ frames := 3, cells := 1, slots := 0, locals := 38 } : Room).cells ({ frames := 3, cells := 1, slots := 0, locals := 38 } : Room).slots) := by
  refine MetFree.of_bodySF (plainFor_of_name pn_2) hisR ?_
  intro p e s m args below meth c s₁ Bd hml0 hP hK
  obtain ⟨rfl, hZ, hh⟩ := hP
  have hx := Bd.exec
  have hby := Bd.bytes
  have hlk := BodyLoose.notSynchronized Bd
  have hml : c.maxLocals = 1 := hml0
  have hown : s.vm.findClass "com/example/graded_search/gradedsearch/engine/Feedback" = some m.cls := findClass_of_methodNamed Bd.named
  have hnm := (name_of_methodNamed Bd.named Bd.method).1
  have X0 : Stand p l e ({ frames := 3, cells := 1, slots := 0, locals := 38 } : Room) s m #[(.ref b)] below meth c s₁ [] 0 0 := Stand.of_body Bd
  have e0 : s₁.heap = h0 := by rw [← hh, Bd.state]; rfl
  have N0 := Fr.nil n0
  have KC0 : Keep h0 h0 [b] := Keep.refl _ _
  suffices hOW : OW p e below s (QFI Z b a_GRADED h0 n0) 1 0 (s₁.setTop (mkF m 0 #[.val (.ref b)] [])) by
    obtain ⟨q1, q2, q3, q4⟩ := hOW
    exact ⟨q1, q2, castTop (ef_FI m b) q3, q4⟩
  have hS' := hS
  obtain ⟨Sa_GRADED, Ea_GRADED⟩ := hS'
  refine OW.st (B := s₁.setTop (mkF m 1 #[.val (.ref b)] [(.ref b)])) (fun _ kk_ => XS.aloadN X0.here hx rfl (hb hby d1_0) rfl rfl kk_) ?_
  obtain ⟨T3, X3, e3, st3⟩ := initO X0 hx hZ hown (w_7 hw) (w_8 hw) (w_9 hw) e0 (g := (mkF m 1 #[.val (.ref b)] [(.ref b)])) rfl (by rw [hml]; rfl) rfl (hb hby d1_1) (by decide) (W := 0) (by show 2 * 0 + _ ≤ _; exact Nat.le_of_eq rfl) (by decide)
  refine OW.st (B := T3.setTop (mkF m 4 #[.val (.ref b)] [])) (st3) ?_
  refine OW.st (B := T3.setTop (mkF m 5 #[.val (.ref b)] [(.ref b)])) (fun _ kk_ => XS.aloadN X3.here hx rfl (hb hby d1_4) rfl rfl kk_) ?_
  refine OW.st (B := T3.setTop (mkF m 7 #[.val (.ref b)] [(.int (10 : Int32)), (.ref b)])) (fun _ kk_ => XS.bipush X3.here hx rfl (hb hby d1_5) kk_) ?_
  obtain ⟨T4, h4, X4, e4, W4, st4⟩ := putF X3 hx hZ hown (host := "") (Or.inl (w_10 hw)) Via.refl e3 F1 E (Or.inl (w_11 hw)) (w_2 hw) (ty := .int) (by decide) rfl rfl (g := (mkF m 7 #[.val (.ref b)] [(.int (10 : Int32)), (.ref b)])) rfl rfl (hb hby d1_7)
  have N4 := Fr.snoc X4 N0 g
  have O4 : Old Z n0 h4 := O0.wr W4 g
  have KC4 : Keep h0 h4 [b] := KC0.wr W4 (Or.inl (List.mem_of_getElem? (i := 0) rfl))
  have F4 : Fld Z h4 b "com/example/graded_search/gradedsearch/engine/Feedback" "expandTerms" "I" (.int (10 : Int32)) := Fld.same W4 F1
  refine OW.st (B := T4.setTop (mkF m 10 #[.val (.ref b)] [])) (st4) ?_
  refine OW.st (B := T4.setTop (mkF m 11 #[.val (.ref b)] [(.ref b)])) (fun _ kk_ => XS.aloadN X4.here hx rfl (hb hby d1_10) rfl rfl kk_) ?_
  obtain ⟨T5, X5, e5, st5⟩ := getS2 X4 hx hZ hown (host := "") (Or.inl (w_12 hw)) Via.refl e4 (Sa_GRADED.ext O4.2) (g := (mkF m 11 #[.val (.ref b)] [(.ref b)])) rfl (hb hby d1_11)
  refine OW.st (B := T5.setTop (mkF m 14 #[.val (.ref b)] [(.ref a_GRADED), (.ref b)])) (st5) ?_
  obtain ⟨T6, h6, X6, e6, W6, st6⟩ := putF X5 hx hZ hown (host := "") (Or.inl (w_15 hw)) Via.refl e5 (F2.other W4 (Or.inr (slot_ne (Or.inl (w_16 hw)) (Or.inl (w_11 hw)) (by decide) (t := (.object "com/example/graded_search/gradedsearch/engine/Feedback$Form")) (t' := .int) (by decide) (by decide)))) (E.wr W4) (Or.inl (w_16 hw)) (w_2 hw) (ty := (.object "com/example/graded_search/gradedsearch/engine/Feedback$Form")) (by decide) rfl rfl (g := (mkF m 14 #[.val (.ref b)] [(.ref a_GRADED), (.ref b)])) rfl rfl (hb hby d1_14)
  have N6 := Fr.snoc X6 N4 g
  have O6 : Old Z n0 h6 := O4.wr W6 g
  have KC6 : Keep h0 h6 [b] := KC4.wr W6 (Or.inl (List.mem_of_getElem? (i := 0) rfl))
  have F6 : Fld Z h6 b "com/example/graded_search/gradedsearch/engine/Feedback" "form" "Lcom/example/graded_search/gradedsearch/engine/Feedback$Form;" (.ref a_GRADED) := Fld.same W6 (F2.other W4 (Or.inr (slot_ne (Or.inl (w_16 hw)) (Or.inl (w_11 hw)) (by decide) (t := (.object "com/example/graded_search/gradedsearch/engine/Feedback$Form")) (t' := .int) (by decide) (by decide))))
  refine OW.st (B := T6.setTop (mkF m 17 #[.val (.ref b)] [])) (st6) ?_
  refine OW.st (B := T6.setTop (mkF m 18 #[.val (.ref b)] [(.ref b)])) (fun _ kk_ => XS.aloadN X6.here hx rfl (hb hby d1_17) rfl rfl kk_) ?_
  obtain ⟨T7, h7, X7, e7, E7, A7, D7, -, st7⟩ := newO X6 hx hZ hown (w_17 hw) (w_18 hw) (w_19 hw) e6 (g := (mkF m 18 #[.val (.ref b)] [(.ref b)])) rfl (hb hby d1_18) (by decide) (by decide)
  obtain ⟨b7, g7⟩ : ∃ z, z = h6.size := ⟨_, rfl⟩
  rw [← g7] at A7 D7 st7
  have n_b7 : n0 ≤ b7 := Nat.le_trans (own_oldle O6) (Nat.le_of_eq g7.symm)
  have O7 : Old Z n0 h7 := O6.ext E7
  have sz_b7 : h0.size ≤ b7 := Nat.le_trans KC6.1 (Nat.le_of_eq g7.symm)
  have KC7 : Keep h0 h7 [b] := KC6.ext E7
  refine OW.st (B := T7.setTop (mkF m 21 #[.val (.ref b)] [(.ref b7), (.ref b)])) (st7) ?_
  refine OW.st (B := T7.setTop (mkF m 22 #[.val (.ref b)] [(.ref b7), (.ref b7), (.ref b)])) (fun _ kk_ => XS.dup X7.here hx rfl (hb hby d1_21) rfl rfl kk_) ?_
  obtain ⟨_, _, ⟨T8, L8, k8, n8⟩, -, X8, ⟨Lc8, hQ8, l8, y8, z8⟩, st8⟩ := X7.specialBack hx (y := (⟨"com/example/graded_search/gradedsearch/engine/GfIof", "<init>", "()V"⟩ : MethodName)) rfl hown (mvT hZ (w_20 hw)) (mvT hZ (w_21 hw)) (mvT hZ (w_22 hw)) (by decide) (backOf (W := 2) (rmGI l Z a0 hw [] b7 h7 n0 O7 ) hZ (w_22 hw) (w_19 hw) (by decide) (by decide)) (g := (mkF m 22 #[.val (.ref b)] [(.ref b7), (.ref b7), (.ref b)])) rfl (by rw [hml]; rfl) (Steps.refl _) (a := b7) (argsL := []) (rest := [(.ref b7), (.ref b)]) (lenOf pd_0 rfl) rfl (by show 2 * 0 + _ ≤ _; exact Nat.le_of_eq rfl) (hb hby d1_22) (fun _ _ => ⟨rfl, e7, (by decide : 1 + 0 ≤ _), (by decide : 0 + 0 ≤ _)⟩)
  dsimp only [Pt.U, Pt.locs, Pt.cells, Pt.slots] at X8 l8 y8 z8 st8 hQ8
  subst l8 y8 z8
  obtain ⟨rfl, Nq8, e8⟩ := hQ8
  have N8 := Fr.app N6 Nq8
  refine OW.tr (B := T8.setTop (mkF m 25 #[.val (.ref b)] [(.ref b7), (.ref b)])) (st8) ?_
  obtain ⟨T9, h9, X9, e9, W9, st9⟩ := putF X8 hx hZ hown (host := "") (Or.inl (w_29 hw)) Via.refl e8 (((F3.other W4 (Or.inr (slot_ne (Or.inl (w_30 hw)) (Or.inl (w_11 hw)) (by decide) (t := (.object "com/example/graded_search/gradedsearch/engine/RankingModel")) (t' := .int) (by decide) (by decide)))).other W6 (Or.inr (slot_ne (Or.inl (w_30 hw)) (Or.inl (w_16 hw)) (by decide) (t := (.object "com/example/graded_search/gradedsearch/engine/RankingModel")) (t' := (.object "com/example/graded_search/gradedsearch/engine/Feedback$Form")) (by decide) (by decide)))).ext E7) (((E.wr W4).wr W6).ext E7) (Or.inl (w_30 hw)) (w_2 hw) (ty := (.object "com/example/graded_search/gradedsearch/engine/RankingModel")) (by decide) rfl rfl (g := (mkF m 25 #[.val (.ref b)] [(.ref b7), (.ref b)])) rfl rfl (hb hby d1_25)
  have N9 := Fr.snoc X9 N8 g
  have O9 : Old Z n0 h9 := O7.wr W9 g
  have KC9 : Keep h0 h9 [b] := KC7.wr W9 (Or.inl (List.mem_of_getElem? (i := 0) rfl))
  have F9 : Fld Z h9 b "com/example/graded_search/gradedsearch/engine/Feedback" "model" "Lcom/example/graded_search/gradedsearch/engine/RankingModel;" (.ref b7) := Fld.same W9 (((F3.other W4 (Or.inr (slot_ne (Or.inl (w_30 hw)) (Or.inl (w_11 hw)) (by decide) (t := (.object "com/example/graded_search/gradedsearch/engine/RankingModel")) (t' := .int) (by decide) (by decide)))).other W6 (Or.inr (slot_ne (Or.inl (w_30 hw)) (Or.inl (w_16 hw)) (by decide) (t := (.object "com/example/graded_search/gradedsearch/engine/RankingModel")) (t' := (.object "com/example/graded_search/gradedsearch/engine/Feedback$Form")) (by decide) (by decide)))).ext E7)
  refine OW.st (B := T9.setTop (mkF m 28 #[.val (.ref b)] [])) (st9) ?_
  exact OW.retV X9 hx hlk Bd.returns (hb hby d1_28) e9 (by decide) (by decide) ⟨rfl, N9, KC9, ((((E.wr W4).wr W6).ext E7).wr W9), (((F4.other W6 (Or.inr (slot_ne (Or.inl (w_11 hw)) (Or.inl (w_16 hw)) (by decide) (t := .int) (t' := (.object "com/example/graded_search/gradedsearch/engine/Feedback$Form")) (by decide) (by decide)))).ext E7).other W9 (Or.inr (slot_ne (Or.inl (w_11 hw)) (Or.inl (w_30 hw)) (by decide) (t := .int) (t' := (.object "com/example/graded_search/gradedsearch/engine/RankingModel")) (by decide) (by decide)))), ((F6.ext E7).other W9 (Or.inr (slot_ne (Or.inl (w_16 hw)) (Or.inl (w_30 hw)) (by decide) (t := (.object "com/example/graded_search/gradedsearch/engine/Feedback$Form")) (t' := (.object "com/example/graded_search/gradedsearch/engine/RankingModel")) (by decide) (by decide)))), b7, F9⟩
theorem ef_GM (m : MethodId) (x0 : Addr) : entryFrame m #[(.ref x0)] 1 = mkF m 0 #[.val (.ref x0)] [] := by first | (simp [entryFrame, mkF, argsToLocals, Value.category]; done) | rfl
def QGM (Z : State) (a : Addr) (x1 : Addr) (h0 : Heap) (n0 : Nat) (v : Option Value) (h : Heap) (L : List Loc) : Prop := v = some (.ref x1) ∧ Fr n0 L ∧ h = h0
set_option maxRecDepth 65536 in
set_option maxHeartbeats 40000000 in
theorem rmGM (l : Launch) (Z : State) (a0 : Array Value) (hw : ∀ d ∈ tables_1, d.before a0 Z = true) (ws : List Jvm.Cond) (a : Addr) (x1 : Addr) (h0 : Heap) (n0 : Nat) (O0 : Old Z n0 h0) (F : Fld Z h0 a "com/example/graded_search/gradedsearch/engine/Feedback" "model" "Lcom/example/graded_search/gradedsearch/engine/RankingModel;" (.ref x1)) :
    MetFree l (⟨"com/example/graded_search/gradedsearch/engine/Feedback", "model", "()Lcom/example/graded_search/gradedsearch/engine/RankingModel;"⟩ : MethodName) (head1 (Jvm.Cond.code (⟨"com/example/graded_search/gradedsearch/engine/Feedback", "model", "()Lcom/example/graded_search/gradedsearch/engine/RankingModel;"⟩ : MethodName) prog_18_method_6_code 1 (some (.object "com/example/graded_search/gradedsearch/engine/RankingModel")) :: ws) ({ frames := 0, cells := 0, slots := 0, locals := 0 } : Room)) (fun aa_ UU_ => aa_ = #[(.ref a)] ∧ Z.Warmed39 UU_.vm ∧ UU_.heap = h0) (fun _ _ _ _ _ => True) (fun _ UU_ oo_ UV_ => ∃ vv_ LL_, oo_ = .returned vv_ ∧ QGM Z a x1 h0 n0 vv_ UV_.heap LL_ ∧ FrameEnd UU_ oo_ UV_ LL_ ({ frames := 0, cells := 0, slots := 0, locals := 0 } : Room).cells ({ frames := 0, cells := 0, slots := 0, locals := 0 } : Room).slots) := by
  refine MetFree.of_bodySF (plainFor_of_name pn_2) hisR ?_
  intro p e s m args below meth c s₁ Bd hml0 hP hK
  obtain ⟨rfl, hZ, hh⟩ := hP
  have hx := Bd.exec
  have hby := Bd.bytes
  have hlk := BodyLoose.notSynchronized Bd
  have hml : c.maxLocals = 1 := hml0
  have hown : s.vm.findClass "com/example/graded_search/gradedsearch/engine/Feedback" = some m.cls := findClass_of_methodNamed Bd.named
  have hnm := (name_of_methodNamed Bd.named Bd.method).1
  have X0 : Stand p l e ({ frames := 0, cells := 0, slots := 0, locals := 0 } : Room) s m #[(.ref a)] below meth c s₁ [] 0 0 := Stand.of_body Bd
  have e0 : s₁.heap = h0 := by rw [← hh, Bd.state]; rfl
  have N0 := Fr.nil n0
  suffices hOW : OW p e below s (QGM Z a x1 h0 n0) 0 0 (s₁.setTop (mkF m 0 #[.val (.ref a)] [])) by
    obtain ⟨q1, q2, q3, q4⟩ := hOW
    exact ⟨q1, q2, castTop (ef_GM m a) q3, q4⟩
  refine OW.st (B := s₁.setTop (mkF m 1 #[.val (.ref a)] [(.ref a)])) (fun _ kk_ => XS.aloadN X0.here hx rfl (hb hby d5_0) rfl rfl kk_) ?_
  obtain ⟨T10, X10, e10, st10⟩ := getF X0 hx hZ hown (host := "") (Or.inl (w_29 hw)) Via.refl e0 F (g := (mkF m 1 #[.val (.ref a)] [(.ref a)])) rfl rfl (hb hby d5_1)
  refine OW.st (B := T10.setTop (mkF m 4 #[.val (.ref a)] [(.ref x1)])) (st10) ?_
  exact OW.ret X10 hx hlk (i := .areturn) Bd.returns rfl (Or.inr (Or.inr (Or.inr (Or.inr ⟨rfl, rfl, rfl⟩)))) (hb hby d5_4) e10 (by decide) (by decide) ⟨rfl, N0, rfl⟩
theorem ef_GF (m : MethodId) (x0 : Addr) : entryFrame m #[(.ref x0)] 1 = mkF m 0 #[.val (.ref x0)] [] := by first | (simp [entryFrame, mkF, argsToLocals, Value.category]; done) | rfl
def QGF (Z : State) (a : Addr) (x1 : Addr) (h0 : Heap) (n0 : Nat) (v : Option Value) (h : Heap) (L : List Loc) : Prop := v = some (.ref x1) ∧ Fr n0 L ∧ h = h0
set_option maxRecDepth 65536 in
set_option maxHeartbeats 40000000 in
theorem rmGF (l : Launch) (Z : State) (a0 : Array Value) (hw : ∀ d ∈ tables_1, d.before a0 Z = true) (ws : List Jvm.Cond) (a : Addr) (x1 : Addr) (h0 : Heap) (n0 : Nat) (O0 : Old Z n0 h0) (F : Fld Z h0 a "com/example/graded_search/gradedsearch/engine/Feedback" "form" "Lcom/example/graded_search/gradedsearch/engine/Feedback$Form;" (.ref x1)) :
    MetFree l (⟨"com/example/graded_search/gradedsearch/engine/Feedback", "form", "()Lcom/example/graded_search/gradedsearch/engine/Feedback$Form;"⟩ : MethodName) (head1 (Jvm.Cond.code (⟨"com/example/graded_search/gradedsearch/engine/Feedback", "form", "()Lcom/example/graded_search/gradedsearch/engine/Feedback$Form;"⟩ : MethodName) prog_18_method_4_code 1 (some (.object "com/example/graded_search/gradedsearch/engine/Feedback$Form")) :: ws) ({ frames := 0, cells := 0, slots := 0, locals := 0 } : Room)) (fun aa_ UU_ => aa_ = #[(.ref a)] ∧ Z.Warmed39 UU_.vm ∧ UU_.heap = h0) (fun _ _ _ _ _ => True) (fun _ UU_ oo_ UV_ => ∃ vv_ LL_, oo_ = .returned vv_ ∧ QGF Z a x1 h0 n0 vv_ UV_.heap LL_ ∧ FrameEnd UU_ oo_ UV_ LL_ ({ frames := 0, cells := 0, slots := 0, locals := 0 } : Room).cells ({ frames := 0, cells := 0, slots := 0, locals := 0 } : Room).slots) := by
  refine MetFree.of_bodySF (plainFor_of_name pn_2) hisR ?_
  intro p e s m args below meth c s₁ Bd hml0 hP hK
  obtain ⟨rfl, hZ, hh⟩ := hP
  have hx := Bd.exec
  have hby := Bd.bytes
  have hlk := BodyLoose.notSynchronized Bd
  have hml : c.maxLocals = 1 := hml0
  have hown : s.vm.findClass "com/example/graded_search/gradedsearch/engine/Feedback" = some m.cls := findClass_of_methodNamed Bd.named
  have hnm := (name_of_methodNamed Bd.named Bd.method).1
  have X0 : Stand p l e ({ frames := 0, cells := 0, slots := 0, locals := 0 } : Room) s m #[(.ref a)] below meth c s₁ [] 0 0 := Stand.of_body Bd
  have e0 : s₁.heap = h0 := by rw [← hh, Bd.state]; rfl
  have N0 := Fr.nil n0
  suffices hOW : OW p e below s (QGF Z a x1 h0 n0) 0 0 (s₁.setTop (mkF m 0 #[.val (.ref a)] [])) by
    obtain ⟨q1, q2, q3, q4⟩ := hOW
    exact ⟨q1, q2, castTop (ef_GF m a) q3, q4⟩
  refine OW.st (B := s₁.setTop (mkF m 1 #[.val (.ref a)] [(.ref a)])) (fun _ kk_ => XS.aloadN X0.here hx rfl (hb hby d6_0) rfl rfl kk_) ?_
  obtain ⟨T11, X11, e11, st11⟩ := getF X0 hx hZ hown (host := "") (Or.inl (w_15 hw)) Via.refl e0 F (g := (mkF m 1 #[.val (.ref a)] [(.ref a)])) rfl rfl (hb hby d6_1)
  refine OW.st (B := T11.setTop (mkF m 4 #[.val (.ref a)] [(.ref x1)])) (st11) ?_
  exact OW.ret X11 hx hlk (i := .areturn) Bd.returns rfl (Or.inr (Or.inr (Or.inr (Or.inr ⟨rfl, rfl, rfl⟩)))) (hb hby d6_4) e11 (by decide) (by decide) ⟨rfl, N0, rfl⟩
theorem ef_GE (m : MethodId) (x0 : Addr) : entryFrame m #[(.ref x0)] 1 = mkF m 0 #[.val (.ref x0)] [] := by first | (simp [entryFrame, mkF, argsToLocals, Value.category]; done) | rfl
def QGE (Z : State) (a : Addr) (x1 : Int32) (h0 : Heap) (n0 : Nat) (v : Option Value) (h : Heap) (L : List Loc) : Prop := v = some (.int x1) ∧ Fr n0 L ∧ h = h0
set_option maxRecDepth 65536 in
set_option maxHeartbeats 40000000 in
theorem rmGE (l : Launch) (Z : State) (a0 : Array Value) (hw : ∀ d ∈ tables_1, d.before a0 Z = true) (ws : List Jvm.Cond) (a : Addr) (x1 : Int32) (h0 : Heap) (n0 : Nat) (O0 : Old Z n0 h0) (F : Fld Z h0 a "com/example/graded_search/gradedsearch/engine/Feedback" "expandTerms" "I" (.int x1)) :
    MetFree l (⟨"com/example/graded_search/gradedsearch/engine/Feedback", "expandTerms", "()I"⟩ : MethodName) (head1 (Jvm.Cond.code (⟨"com/example/graded_search/gradedsearch/engine/Feedback", "expandTerms", "()I"⟩ : MethodName) prog_18_method_2_code 1 (some .int) :: ws) ({ frames := 0, cells := 0, slots := 0, locals := 0 } : Room)) (fun aa_ UU_ => aa_ = #[(.ref a)] ∧ Z.Warmed39 UU_.vm ∧ UU_.heap = h0) (fun _ _ _ _ _ => True) (fun _ UU_ oo_ UV_ => ∃ vv_ LL_, oo_ = .returned vv_ ∧ QGE Z a x1 h0 n0 vv_ UV_.heap LL_ ∧ FrameEnd UU_ oo_ UV_ LL_ ({ frames := 0, cells := 0, slots := 0, locals := 0 } : Room).cells ({ frames := 0, cells := 0, slots := 0, locals := 0 } : Room).slots) := by
  refine MetFree.of_bodySF (plainFor_of_name pn_2) hisR ?_
  intro p e s m args below meth c s₁ Bd hml0 hP hK
  obtain ⟨rfl, hZ, hh⟩ := hP
  have hx := Bd.exec
  have hby := Bd.bytes
  have hlk := BodyLoose.notSynchronized Bd
  have hml : c.maxLocals = 1 := hml0
  have hown : s.vm.findClass "com/example/graded_search/gradedsearch/engine/Feedback" = some m.cls := findClass_of_methodNamed Bd.named
  have hnm := (name_of_methodNamed Bd.named Bd.method).1
  have X0 : Stand p l e ({ frames := 0, cells := 0, slots := 0, locals := 0 } : Room) s m #[(.ref a)] below meth c s₁ [] 0 0 := Stand.of_body Bd
  have e0 : s₁.heap = h0 := by rw [← hh, Bd.state]; rfl
  have N0 := Fr.nil n0
  suffices hOW : OW p e below s (QGE Z a x1 h0 n0) 0 0 (s₁.setTop (mkF m 0 #[.val (.ref a)] [])) by
    obtain ⟨q1, q2, q3, q4⟩ := hOW
    exact ⟨q1, q2, castTop (ef_GE m a) q3, q4⟩
  refine OW.st (B := s₁.setTop (mkF m 1 #[.val (.ref a)] [(.ref a)])) (fun _ kk_ => XS.aloadN X0.here hx rfl (hb hby d8_0) rfl rfl kk_) ?_
  obtain ⟨T12, X12, e12, st12⟩ := getF X0 hx hZ hown (host := "") (Or.inl (w_10 hw)) Via.refl e0 F (g := (mkF m 1 #[.val (.ref a)] [(.ref a)])) rfl rfl (hb hby d8_1)
  refine OW.st (B := T12.setTop (mkF m 4 #[.val (.ref a)] [(.int x1)])) (st12) ?_
  exact OW.ret X12 hx hlk (i := .ireturn) Bd.returns rfl (Or.inl ⟨rfl, Or.inl rfl, _, rfl⟩) (hb hby d8_4) e12 (by decide) (by decide) ⟨rfl, N0, rfl⟩
theorem ef_FS (m : MethodId) (x0 : Addr) (x1 : Int32) : entryFrame m #[(.ref x0), (.int x1)] 2 = mkF m 0 #[.val (.ref x0), .val (.int x1)] [] := by first | (simp [entryFrame, mkF, argsToLocals, Value.category]; done) | rfl
def QFS (Z : State) (b : Addr) (u : Int32) (fo : Addr) (mo : Addr) (n : Int32) (h0 : Heap) (n0 : Nat) (v : Option Value) (h : Heap) (L : List Loc) : Prop := v = some (.ref b) ∧ Fr n0 L ∧ Keep h0 h [b] ∧ Fld Z h b "com/example/graded_search/gradedsearch/engine/Feedback" "expandTerms" "I" (.int n) ∧ Fld Z h b "com/example/graded_search/gradedsearch/engine/Feedback" "form" "Lcom/example/graded_search/gradedsearch/engine/Feedback$Form;" (.ref fo) ∧ Fld Z h b "com/example/graded_search/gradedsearch/engine/Feedback" "model" "Lcom/example/graded_search/gradedsearch/engine/RankingModel;" (.ref mo)
set_option maxRecDepth 65536 in
set_option maxHeartbeats 40000000 in
theorem rmFS (l : Launch) (Z : State) (a0 : Array Value) (hw : ∀ d ∈ tables_1, d.before a0 Z = true) (ws : List Jvm.Cond) (b : Addr) (u : Int32) (fo : Addr) (mo : Addr) (n : Int32) (h0 : Heap) (n0 : Nat) (O0 : Old Z n0 h0) (E : Exa Z h0 b "com/example/graded_search/gradedsearch/engine/Feedback") (F1 : Fld Z h0 b "com/example/graded_search/gradedsearch/engine/Feedback" "expandTerms" "I" (.int u)) (F2 : Fld Z h0 b "com/example/graded_search/gradedsearch/engine/Feedback" "form" "Lcom/example/graded_search/gradedsearch/engine/Feedback$Form;" (.ref fo)) (F3 : Fld Z h0 b "com/example/graded_search/gradedsearch/engine/Feedback" "model" "Lcom/example/graded_search/gradedsearch/engine/RankingModel;" (.ref mo)) (g : n0 ≤ b) (hn : ¬ (n < (0 : Int32))) :
    MetFree l (⟨"com/example/graded_search/gradedsearch/engine/Feedback", "expandTerms", "(I)Lcom/example/graded_search/gradedsearch/engine/Feedback;"⟩ : MethodName) (head1 (Jvm.Cond.code (⟨"com/example/graded_search/gradedsearch/engine/Feedback", "expandTerms", "(I)Lcom/example/graded_search/gradedsearch/engine/Feedback;"⟩ : MethodName) prog_18_method_3_code 2 (some (.object "com/example/graded_search/gradedsearch/engine/Feedback")) :: ws) ({ frames := 0, cells := 0, slots := 0, locals := 0 } : Room)) (fun aa_ UU_ => aa_ = #[(.ref b), (.int n)] ∧ Z.Warmed39 UU_.vm ∧ UU_.heap = h0) (fun _ _ _ _ _ => True) (fun _ UU_ oo_ UV_ => ∃ vv_ LL_, oo_ = .returned vv_ ∧ QFS Z b u fo mo n h0 n0 vv_ UV_.heap LL_ ∧ FrameEnd UU_ oo_ UV_ LL_ ({ frames := 0, cells := 0, slots := 0, locals := 0 } : Room).cells ({ frames := 0, cells := 0, slots := 0, locals := 0 } : Room).slots) := by
  refine MetFree.of_bodySF (plainFor_of_name pn_2) hisR ?_
  intro p e s m args below meth c s₁ Bd hml0 hP hK
  obtain ⟨rfl, hZ, hh⟩ := hP
  have hx := Bd.exec
  have hby := Bd.bytes
  have hlk := BodyLoose.notSynchronized Bd
  have hml : c.maxLocals = 2 := hml0
  have hown : s.vm.findClass "com/example/graded_search/gradedsearch/engine/Feedback" = some m.cls := findClass_of_methodNamed Bd.named
  have hnm := (name_of_methodNamed Bd.named Bd.method).1
  have X0 : Stand p l e ({ frames := 0, cells := 0, slots := 0, locals := 0 } : Room) s m #[(.ref b), (.int n)] below meth c s₁ [] 0 0 := Stand.of_body Bd
  have e0 : s₁.heap = h0 := by rw [← hh, Bd.state]; rfl
  have N0 := Fr.nil n0
  have KC0 : Keep h0 h0 [b] := Keep.refl _ _
  suffices hOW : OW p e below s (QFS Z b u fo mo n h0 n0) 0 0 (s₁.setTop (mkF m 0 #[.val (.ref b), .val (.int n)] [])) by
    obtain ⟨q1, q2, q3, q4⟩ := hOW
    exact ⟨q1, q2, castTop (ef_FS m b n) q3, q4⟩
  refine OW.st (B := s₁.setTop (mkF m 1 #[.val (.ref b), .val (.int n)] [(.int n)])) (fun _ kk_ => XS.iloadN X0.here hx rfl (hb hby d7_0) rfl kk_) ?_
  refine OW.st (B := s₁.setTop (mkF m 18 #[.val (.ref b), .val (.int n)] [])) (fun _ kk_ => XS.ifYes X0.here hx rfl (pc0 := 1) (pc' := 18) rfl (hb hby d7_1) rfl ((if0 _ _).trans (flt hn).2.1) (by decide) (by decide) kk_) ?_
  refine OW.st (B := s₁.setTop (mkF m 19 #[.val (.ref b), .val (.int n)] [(.ref b)])) (fun _ kk_ => XS.aloadN X0.here hx rfl (hb hby d7_18) rfl rfl kk_) ?_
  refine OW.st (B := s₁.setTop (mkF m 20 #[.val (.ref b), .val (.int n)] [(.int n), (.ref b)])) (fun _ kk_ => XS.iloadN X0.here hx rfl (hb hby d7_19) rfl kk_) ?_
  obtain ⟨T13, h13, X13, e13, W13, st13⟩ := putF X0 hx hZ hown (host := "") (Or.inl (w_10 hw)) Via.refl e0 F1 E (Or.inl (w_11 hw)) (w_2 hw) (ty := .int) (by decide) rfl rfl (g := (mkF m 20 #[.val (.ref b), .val (.int n)] [(.int n), (.ref b)])) rfl rfl (hb hby d7_20)
  have N13 := Fr.snoc X13 N0 g
  have O13 : Old Z n0 h13 := O0.wr W13 g
  have KC13 : Keep h0 h13 [b] := KC0.wr W13 (Or.inl (List.mem_of_getElem? (i := 0) rfl))
  have F13 : Fld Z h13 b "com/example/graded_search/gradedsearch/engine/Feedback" "expandTerms" "I" (.int n) := Fld.same W13 F1
  refine OW.st (B := T13.setTop (mkF m 23 #[.val (.ref b), .val (.int n)] [])) (st13) ?_
  refine OW.st (B := T13.setTop (mkF m 24 #[.val (.ref b), .val (.int n)] [(.ref b)])) (fun _ kk_ => XS.aloadN X13.here hx rfl (hb hby d7_23) rfl rfl kk_) ?_
  exact OW.ret X13 hx hlk (i := .areturn) Bd.returns rfl (Or.inr (Or.inr (Or.inr (Or.inr ⟨rfl, rfl, rfl⟩)))) (hb hby d7_24) e13 (by decide) (by decide) ⟨rfl, N13, KC13, F13, (F2.other W13 (Or.inr (slot_ne (Or.inl (w_16 hw)) (Or.inl (w_11 hw)) (by decide) (t := (.object "com/example/graded_search/gradedsearch/engine/Feedback$Form")) (t' := .int) (by decide) (by decide)))), (F3.other W13 (Or.inr (slot_ne (Or.inl (w_30 hw)) (Or.inl (w_11 hw)) (by decide) (t := (.object "com/example/graded_search/gradedsearch/engine/RankingModel")) (t' := .int) (by decide) (by decide))))⟩
theorem ef_0 (m : MethodId) (x0 : Int32) (x1 : Int32) : entryFrame m #[(.int x0), (.int x1)] maxLocals = mkF m 0 #[.val (.int x0), .val (.int x1), .unset, .unset, .unset, .unset, .unset, .unset, .unset] [] := by first | (simp [entryFrame, mkF, argsToLocals, Value.category, maxLocals]; done) | rfl
def Q0 (Z : State) (n1 : Int32) (n2 : Int32) (a_GRADED : Addr) (h0 : Heap) (n0 : Nat) (v : Option Value) (h : Heap) (L : List Loc) : Prop := v = some (.int 1) ∧ Fr n0 L
set_option maxRecDepth 65536 in
set_option maxHeartbeats 40000000 in
theorem rm0 (l : Launch) (Z : State) (a0 : Array Value) (hw : ∀ d ∈ tables_1, d.before a0 Z = true) (ws : List Jvm.Cond) (n1 : Int32) (n2 : Int32) (a_GRADED : Addr) (h0 : Heap) (n0 : Nat) (O0 : Old Z n0 h0) (hS : OwnS Z a_GRADED) :
    MetFree l x (head1 (Jvm.Cond.code x code maxLocals ret :: ws) room_1) (fun aa_ UU_ => aa_ = #[(.int n1), (.int n2)] ∧ Z.Warmed39 UU_.vm ∧ UU_.heap = h0) (fun _ _ _ _ _ => True) (fun _ UU_ oo_ UV_ => ∃ vv_ LL_, oo_ = .returned vv_ ∧ Q0 Z n1 n2 a_GRADED h0 n0 vv_ UV_.heap LL_ ∧ FrameEnd UU_ oo_ UV_ LL_ 2 3) := by
  refine MetFree.of_bodySF (plainFor_of_name pn_3) hisR ?_
  intro p e s m args below meth c s₁ Bd hml0 hP hK
  obtain ⟨rfl, hZ, hh⟩ := hP
  have hx := Bd.exec
  have hby := Bd.bytes
  have hlk := BodyLoose.notSynchronized Bd
  have hml : c.maxLocals = 9 := hml0
  have hown : s.vm.findClass "com/example/graded_search/gradedsearch/engine/FeedbackExpandTermsPinLaw" = some m.cls := findClass_of_methodNamed Bd.named
  have hnm := (name_of_methodNamed Bd.named Bd.method).1
  have X0 : Stand p l e room_1 s m #[(.int n1), (.int n2)] below meth c s₁ [] 0 0 := Stand.of_body Bd
  have e0 : s₁.heap = h0 := by rw [← hh, Bd.state]; rfl
  have N0 := Fr.nil n0
  suffices hOW : OW p e below s (Q0 Z n1 n2 a_GRADED h0 n0) 2 3 (s₁.setTop (mkF m 0 #[.val (.int n1), .val (.int n2), .unset, .unset, .unset, .unset, .unset, .unset, .unset] [])) by
    obtain ⟨q1, q2, q3, q4⟩ := hOW
    exact ⟨q1, q2, castTop (ef_0 m n1 n2) q3, q4⟩
  have hS' := hS
  obtain ⟨Sa_GRADED, Ea_GRADED⟩ := hS'
  refine OW.st (B := s₁.setTop (mkF m 1 #[.val (.int n1), .val (.int n2), .unset, .unset, .unset, .unset, .unset, .unset, .unset] [(.int n1)])) (fun _ kk_ => XS.iloadN X0.here hx rfl (hb hby at_0) rfl kk_) ?_
  refine OW.st (B := s₁.setTop (mkF m 3 #[.val (.int n1), .val (.int n2), .unset, .unset, .unset, .unset, .unset, .unset, .unset] [(.int (2147483647 : Int32)), (.int n1)])) (X0.ldcInt hx hown (mvT hZ (w_0 hw)) (g := (mkF m 1 #[.val (.int n1), .val (.int n2), .unset, .unset, .unset, .unset, .unset, .unset, .unset] [(.int n1)])) rfl (hb hby at_1)) ?_
  refine OW.st (B := s₁.setTop (mkF m 4 #[.val (.int n1), .val (.int n2), .unset, .unset, .unset, .unset, .unset, .unset, .unset] [(.int (n1 &&& (2147483647 : Int32)))])) (fun _ kk_ => XS.iand X0.here hx rfl (hb hby at_3) rfl kk_) ?_
  suffices J : ∀ m1 : Int32, (¬ (m1 < (0 : Int32))) → OW p e below s (Q0 Z n1 n2 a_GRADED h0 n0) 2 3 (s₁.setTop (mkF m 4 #[.val (.int n1), .val (.int n2), .unset, .unset, .unset, .unset, .unset, .unset, .unset] [(.int m1)])) from J _ (own_nn n1)
  intro m1 hm1
  refine OW.st (B := s₁.setTop (mkF m 5 #[.val (.int n1), .val (.int n2), .val (.int m1), .unset, .unset, .unset, .unset, .unset, .unset] [])) (fun _ kk_ => XS.istoreN X0.here hx rfl (hb hby at_4) rfl (l' := #[.val (.int n1), .val (.int n2), .val (.int m1), .unset, .unset, .unset, .unset, .unset, .unset]) rfl kk_) ?_
  refine OW.st (B := s₁.setTop (mkF m 6 #[.val (.int n1), .val (.int n2), .val (.int m1), .unset, .unset, .unset, .unset, .unset, .unset] [(.int n2)])) (fun _ kk_ => XS.iloadN X0.here hx rfl (hb hby at_5) rfl kk_) ?_
  refine OW.st (B := s₁.setTop (mkF m 8 #[.val (.int n1), .val (.int n2), .val (.int m1), .unset, .unset, .unset, .unset, .unset, .unset] [(.int (2147483647 : Int32)), (.int n2)])) (X0.ldcInt hx hown (mvT hZ (w_0 hw)) (g := (mkF m 6 #[.val (.int n1), .val (.int n2), .val (.int m1), .unset, .unset, .unset, .unset, .unset, .unset] [(.int n2)])) rfl (hb hby at_6)) ?_
  refine OW.st (B := s₁.setTop (mkF m 9 #[.val (.int n1), .val (.int n2), .val (.int m1), .unset, .unset, .unset, .unset, .unset, .unset] [(.int (n2 &&& (2147483647 : Int32)))])) (fun _ kk_ => XS.iand X0.here hx rfl (hb hby at_8) rfl kk_) ?_
  suffices J : ∀ m2 : Int32, (¬ (m2 < (0 : Int32))) → OW p e below s (Q0 Z n1 n2 a_GRADED h0 n0) 2 3 (s₁.setTop (mkF m 9 #[.val (.int n1), .val (.int n2), .val (.int m1), .unset, .unset, .unset, .unset, .unset, .unset] [(.int m2)])) from J _ (own_nn n2)
  intro m2 hm2
  refine OW.st (B := s₁.setTop (mkF m 10 #[.val (.int n1), .val (.int n2), .val (.int m1), .val (.int m2), .unset, .unset, .unset, .unset, .unset] [])) (fun _ kk_ => XS.istoreN X0.here hx rfl (hb hby at_9) rfl (l' := #[.val (.int n1), .val (.int n2), .val (.int m1), .val (.int m2), .unset, .unset, .unset, .unset, .unset]) rfl kk_) ?_
  obtain ⟨T14, h14, X14, e14, E14, A14, D14, -, st14⟩ := newO X0 hx hZ hown (w_1 hw) (w_2 hw) (w_3 hw) e0 (g := (mkF m 10 #[.val (.int n1), .val (.int n2), .val (.int m1), .val (.int m2), .unset, .unset, .unset, .unset, .unset] [])) rfl (hb hby at_10) (by decide) (by decide)
  obtain ⟨b14, g14⟩ : ∃ z, z = h0.size := ⟨_, rfl⟩
  rw [← g14] at A14 D14 st14
  have n_b14 : n0 ≤ b14 := Nat.le_trans (own_oldle O0) (Nat.le_of_eq g14.symm)
  have O14 : Old Z n0 h14 := O0.ext E14
  have F14_11 : Fld Z h14 b14 "com/example/graded_search/gradedsearch/engine/Feedback" "expandTerms" "I" (.int (0 : Int32)) := D14 (Or.inl (w_11 hw)) (ty := .int) (by decide)
  have F14_16 : Fld Z h14 b14 "com/example/graded_search/gradedsearch/engine/Feedback" "form" "Lcom/example/graded_search/gradedsearch/engine/Feedback$Form;" .null := D14 (Or.inl (w_16 hw)) (ty := (.object "com/example/graded_search/gradedsearch/engine/Feedback$Form")) (by decide)
  have F14_30 : Fld Z h14 b14 "com/example/graded_search/gradedsearch/engine/Feedback" "model" "Lcom/example/graded_search/gradedsearch/engine/RankingModel;" .null := D14 (Or.inl (w_30 hw)) (ty := (.object "com/example/graded_search/gradedsearch/engine/RankingModel")) (by decide)
  refine OW.st (B := T14.setTop (mkF m 13 #[.val (.int n1), .val (.int n2), .val (.int m1), .val (.int m2), .unset, .unset, .unset, .unset, .unset] [(.ref b14)])) (st14) ?_
  refine OW.st (B := T14.setTop (mkF m 14 #[.val (.int n1), .val (.int n2), .val (.int m1), .val (.int m2), .unset, .unset, .unset, .unset, .unset] [(.ref b14), (.ref b14)])) (fun _ kk_ => XS.dup X14.here hx rfl (hb hby at_13) rfl rfl kk_) ?_
  obtain ⟨_, _, ⟨T15, L15, k15, n15⟩, -, X15, ⟨Lc15, hQ15, l15, y15, z15⟩, st15⟩ := X14.specialBack hx (y := (⟨"com/example/graded_search/gradedsearch/engine/Feedback", "<init>", "()V"⟩ : MethodName)) rfl hown (mvT hZ (w_4 hw)) (mvT hZ (w_5 hw)) (mvT hZ (w_6 hw)) (by decide) (backOf (W := 1) (rmFI l Z a0 hw [] b14 a_GRADED h14 n0 O14 A14 F14_11 F14_16 F14_30 n_b14 hS) hZ (w_6 hw) (w_3 hw) (by decide) (by decide)) (g := (mkF m 14 #[.val (.int n1), .val (.int n2), .val (.int m1), .val (.int m2), .unset, .unset, .unset, .unset, .unset] [(.ref b14), (.ref b14)])) rfl (by rw [hml]; rfl) (Steps.refl _) (a := b14) (argsL := []) (rest := [(.ref b14)]) (lenOf pd_0 rfl) rfl (by show 2 * 0 + _ ≤ _; exact Nat.le_of_eq rfl) (hb hby at_14) (fun _ _ => ⟨rfl, e14, (by decide : 1 + 1 ≤ _), (by decide : 3 + 0 ≤ _)⟩)
  dsimp only [Pt.U, Pt.locs, Pt.cells, Pt.slots] at X15 l15 y15 z15 st15 hQ15
  subst l15 y15 z15
  obtain ⟨rfl, Nq15, K15, Ei15, Fa15, Fb15, mo15, Fc15⟩ := hQ15
  have N15 := Fr.app N0 Nq15
  have O15 : Old Z n0 T15.heap := O14.keep K15 (allS n_b14 all0)
  refine OW.tr (B := T15.setTop (mkF m 17 #[.val (.int n1), .val (.int n2), .val (.int m1), .val (.int m2), .unset, .unset, .unset, .unset, .unset] [(.ref b14)])) (st15) ?_
  refine OW.st (B := T15.setTop (mkF m 19 #[.val (.int n1), .val (.int n2), .val (.int m1), .val (.int m2), .val (.ref b14), .unset, .unset, .unset, .unset] [])) (fun _ kk_ => XS.astore X15.here hx rfl (hb hby at_17) rfl rfl (l' := #[.val (.int n1), .val (.int n2), .val (.int m1), .val (.int m2), .val (.ref b14), .unset, .unset, .unset, .unset]) rfl kk_) ?_
  refine OW.st (B := T15.setTop (mkF m 21 #[.val (.int n1), .val (.int n2), .val (.int m1), .val (.int m2), .val (.ref b14), .unset, .unset, .unset, .unset] [(.ref b14)])) (fun _ kk_ => XS.aload X15.here hx rfl (hb hby at_19) rfl rfl kk_) ?_
  obtain ⟨cq16, kq16, q16a, q16b, q16c⟩ := isOf hZ rfl Ei15
  obtain ⟨_, _, ⟨T16, L16, k16, n16⟩, -, X16, ⟨Lc16, hQ16, l16, y16, z16⟩, st16⟩ := X15.virtualBack hx (y := (⟨"com/example/graded_search/gradedsearch/engine/Feedback", "model", "()Lcom/example/graded_search/gradedsearch/engine/RankingModel;"⟩ : MethodName)) (z := (⟨"com/example/graded_search/gradedsearch/engine/Feedback", "model", "()Lcom/example/graded_search/gradedsearch/engine/RankingModel;"⟩ : MethodName)) hown (mvT hZ (w_31 hw)) (mvT hZ (w_32 hw)) (notFace_of_selects (args := #[]) (mvT hZ (w_34 hw))) (mvT hZ (w_34 hw)) (mvT hZ (w_33 hw)) (by decide) (backOf (W := 0) (rmGM l Z a0 hw [] b14 mo15 T15.heap n0 O15 Fc15) hZ (w_35 hw) (w_3 hw) (by decide) (by decide)) q16a q16c (g := (mkF m 21 #[.val (.int n1), .val (.int n2), .val (.int m1), .val (.int m2), .val (.ref b14), .unset, .unset, .unset, .unset] [(.ref b14)])) rfl (by rw [hml]; rfl) (Steps.refl _) (argsL := []) (rest := []) (lenOf pd_1 rfl) rfl (by show 2 * 0 + _ ≤ _; exact Nat.le_of_eq rfl) (hb hby at_21) (fun _ _ => ⟨rfl, rfl, (by decide : 2 + 0 ≤ _), (by decide : 3 + 0 ≤ _)⟩)
  dsimp only [Pt.U, Pt.locs, Pt.cells, Pt.slots] at X16 l16 y16 z16 st16 hQ16
  subst l16 y16 z16
  obtain ⟨rfl, Nq16, e16⟩ := hQ16
  have N16 := Fr.app N15 Nq16
  refine OW.tr (B := T16.setTop (mkF m 24 #[.val (.int n1), .val (.int n2), .val (.int m1), .val (.int m2), .val (.ref b14), .unset, .unset, .unset, .unset] [(.ref mo15)])) (st16) ?_
  refine OW.st (B := T16.setTop (mkF m 26 #[.val (.int n1), .val (.int n2), .val (.int m1), .val (.int m2), .val (.ref b14), .val (.ref mo15), .unset, .unset, .unset] [])) (fun _ kk_ => XS.astore X16.here hx rfl (hb hby at_24) rfl rfl (l' := #[.val (.int n1), .val (.int n2), .val (.int m1), .val (.int m2), .val (.ref b14), .val (.ref mo15), .unset, .unset, .unset]) rfl kk_) ?_
  refine OW.st (B := T16.setTop (mkF m 28 #[.val (.int n1), .val (.int n2), .val (.int m1), .val (.int m2), .val (.ref b14), .val (.ref mo15), .unset, .unset, .unset] [(.ref b14)])) (fun _ kk_ => XS.aload X16.here hx rfl (hb hby at_26) rfl rfl kk_) ?_
  obtain ⟨cq17, kq17, q17a, q17b, q17c⟩ := isOf hZ e16 Ei15
  obtain ⟨_, _, ⟨T17, L17, k17, n17⟩, -, X17, ⟨Lc17, hQ17, l17, y17, z17⟩, st17⟩ := X16.virtualBack hx (y := (⟨"com/example/graded_search/gradedsearch/engine/Feedback", "form", "()Lcom/example/graded_search/gradedsearch/engine/Feedback$Form;"⟩ : MethodName)) (z := (⟨"com/example/graded_search/gradedsearch/engine/Feedback", "form", "()Lcom/example/graded_search/gradedsearch/engine/Feedback$Form;"⟩ : MethodName)) hown (mvT hZ (w_36 hw)) (mvT hZ (w_37 hw)) (notFace_of_selects (args := #[]) (mvT hZ (w_39 hw))) (mvT hZ (w_39 hw)) (mvT hZ (w_38 hw)) (by decide) (backOf (W := 0) (rmGF l Z a0 hw [] b14 a_GRADED T15.heap n0 O15 Fb15) hZ (w_40 hw) (w_3 hw) (by decide) (by decide)) q17a q17c (g := (mkF m 28 #[.val (.int n1), .val (.int n2), .val (.int m1), .val (.int m2), .val (.ref b14), .val (.ref mo15), .unset, .unset, .unset] [(.ref b14)])) rfl (by rw [hml]; rfl) (Steps.refl _) (argsL := []) (rest := []) (lenOf pd_2 rfl) rfl (by show 2 * 0 + _ ≤ _; exact Nat.le_of_eq rfl) (hb hby at_28) (fun _ _ => ⟨rfl, e16, (by decide : 2 + 0 ≤ _), (by decide : 3 + 0 ≤ _)⟩)
  dsimp only [Pt.U, Pt.locs, Pt.cells, Pt.slots] at X17 l17 y17 z17 st17 hQ17
  subst l17 y17 z17
  obtain ⟨rfl, Nq17, e17⟩ := hQ17
  have N17 := Fr.app N16 Nq17
  refine OW.tr (B := T17.setTop (mkF m 31 #[.val (.int n1), .val (.int n2), .val (.int m1), .val (.int m2), .val (.ref b14), .val (.ref mo15), .unset, .unset, .unset] [(.ref a_GRADED)])) (st17) ?_
  refine OW.st (B := T17.setTop (mkF m 33 #[.val (.int n1), .val (.int n2), .val (.int m1), .val (.int m2), .val (.ref b14), .val (.ref mo15), .val (.ref a_GRADED), .unset, .unset] [])) (fun _ kk_ => XS.astore X17.here hx rfl (hb hby at_31) rfl rfl (l' := #[.val (.int n1), .val (.int n2), .val (.int m1), .val (.int m2), .val (.ref b14), .val (.ref mo15), .val (.ref a_GRADED), .unset, .unset]) rfl kk_) ?_
  refine OW.st (B := T17.setTop (mkF m 35 #[.val (.int n1), .val (.int n2), .val (.int m1), .val (.int m2), .val (.ref b14), .val (.ref mo15), .val (.ref a_GRADED), .unset, .unset] [(.ref b14)])) (fun _ kk_ => XS.aload X17.here hx rfl (hb hby at_33) rfl rfl kk_) ?_
  refine OW.st (B := T17.setTop (mkF m 36 #[.val (.int n1), .val (.int n2), .val (.int m1), .val (.int m2), .val (.ref b14), .val (.ref mo15), .val (.ref a_GRADED), .unset, .unset] [(.int m1), (.ref b14)])) (fun _ kk_ => XS.iloadN X17.here hx rfl (hb hby at_35) rfl kk_) ?_
  obtain ⟨cq18, kq18, q18a, q18b, q18c⟩ := isOf hZ e17 Ei15
  obtain ⟨_, _, ⟨T18, L18, k18, n18⟩, -, X18, ⟨Lc18, hQ18, l18, y18, z18⟩, st18⟩ := X17.virtualBack hx (y := (⟨"com/example/graded_search/gradedsearch/engine/Feedback", "expandTerms", "(I)Lcom/example/graded_search/gradedsearch/engine/Feedback;"⟩ : MethodName)) (z := (⟨"com/example/graded_search/gradedsearch/engine/Feedback", "expandTerms", "(I)Lcom/example/graded_search/gradedsearch/engine/Feedback;"⟩ : MethodName)) hown (mvT hZ (w_41 hw)) (mvT hZ (w_42 hw)) (notFace_of_selects (args := #[]) (mvT hZ (w_44 hw))) (mvT hZ (w_44 hw)) (mvT hZ (w_43 hw)) (by decide) (backOf (W := 0) (rmFS l Z a0 hw [] b14 (10 : Int32) a_GRADED mo15 m1 T15.heap n0 O15 Ei15 Fa15 Fb15 Fc15 n_b14 hm1) hZ (w_45 hw) (w_3 hw) (by decide) (by decide)) q18a q18c (g := (mkF m 36 #[.val (.int n1), .val (.int n2), .val (.int m1), .val (.int m2), .val (.ref b14), .val (.ref mo15), .val (.ref a_GRADED), .unset, .unset] [(.int m1), (.ref b14)])) rfl (by rw [hml]; rfl) (Steps.refl _) (argsL := [(.int m1)]) (rest := []) (lenOf pd_3 rfl) rfl (by show 2 * 0 + _ ≤ _; exact Nat.le_of_eq rfl) (hb hby at_36) (fun _ _ => ⟨rfl, e17, (by decide : 2 + 0 ≤ _), (by decide : 3 + 0 ≤ _)⟩)
  dsimp only [Pt.U, Pt.locs, Pt.cells, Pt.slots] at X18 l18 y18 z18 st18 hQ18
  subst l18 y18 z18
  obtain ⟨rfl, Nq18, K18, Fa18, Fb18, Fc18⟩ := hQ18
  have N18 := Fr.app N17 Nq18
  have O18 : Old Z n0 T18.heap := O15.keep K18 (allS n_b14 all0)
  refine OW.tr (B := T18.setTop (mkF m 39 #[.val (.int n1), .val (.int n2), .val (.int m1), .val (.int m2), .val (.ref b14), .val (.ref mo15), .val (.ref a_GRADED), .unset, .unset] [(.ref b14)])) (st18) ?_
  refine OW.st (B := T18.setTop (mkF m 41 #[.val (.int n1), .val (.int n2), .val (.int m1), .val (.int m2), .val (.ref b14), .val (.ref mo15), .val (.ref a_GRADED), .val (.ref b14), .unset] [])) (fun _ kk_ => XS.astore X18.here hx rfl (hb hby at_39) rfl rfl (l' := #[.val (.int n1), .val (.int n2), .val (.int m1), .val (.int m2), .val (.ref b14), .val (.ref mo15), .val (.ref a_GRADED), .val (.ref b14), .unset]) rfl kk_) ?_
  refine OW.st (B := T18.setTop (mkF m 43 #[.val (.int n1), .val (.int n2), .val (.int m1), .val (.int m2), .val (.ref b14), .val (.ref mo15), .val (.ref a_GRADED), .val (.ref b14), .unset] [(.ref b14)])) (fun _ kk_ => XS.aload X18.here hx rfl (hb hby at_41) rfl rfl kk_) ?_
  refine OW.st (B := T18.setTop (mkF m 45 #[.val (.int n1), .val (.int n2), .val (.int m1), .val (.int m2), .val (.ref b14), .val (.ref mo15), .val (.ref a_GRADED), .val (.ref b14), .unset] [(.ref b14), (.ref b14)])) (fun _ kk_ => XS.aload X18.here hx rfl (hb hby at_43) rfl rfl kk_) ?_
  refine OW.st (B := T18.setTop (mkF m 50 #[.val (.int n1), .val (.int n2), .val (.int m1), .val (.int m2), .val (.ref b14), .val (.ref mo15), .val (.ref a_GRADED), .val (.ref b14), .unset] [])) (fun _ kk_ => Jvm.RoadKit.acmp (g := (mkF m 45 #[.val (.int n1), .val (.int n2), .val (.int m1), .val (.int m2), .val (.ref b14), .val (.ref mo15), .val (.ref a_GRADED), .val (.ref b14), .unset] [(.ref b14), (.ref b14)])) X18 hx rfl rfl rfl (pc0 := 45) (pc' := 50) (same := true) rfl (hb hby at_45) rfl (decide_eq_true rfl) (by decide) (by decide) kk_) ?_
  refine OW.st (B := T18.setTop (mkF m 52 #[.val (.int n1), .val (.int n2), .val (.int m1), .val (.int m2), .val (.ref b14), .val (.ref mo15), .val (.ref a_GRADED), .val (.ref b14), .unset] [(.ref b14)])) (fun _ kk_ => XS.aload X18.here hx rfl (hb hby at_50) rfl rfl kk_) ?_
  obtain ⟨cq19, kq19, q19a, q19b, q19c⟩ := isOf hZ rfl (Ei15.keep K18)
  obtain ⟨_, _, ⟨T19, L19, k19, n19⟩, -, X19, ⟨Lc19, hQ19, l19, y19, z19⟩, st19⟩ := X18.virtualBack hx (y := (⟨"com/example/graded_search/gradedsearch/engine/Feedback", "expandTerms", "()I"⟩ : MethodName)) (z := (⟨"com/example/graded_search/gradedsearch/engine/Feedback", "expandTerms", "()I"⟩ : MethodName)) hown (mvT hZ (w_46 hw)) (mvT hZ (w_47 hw)) (notFace_of_selects (args := #[]) (mvT hZ (w_49 hw))) (mvT hZ (w_49 hw)) (mvT hZ (w_48 hw)) (by decide) (backOf (W := 0) (rmGE l Z a0 hw [] b14 m1 T18.heap n0 O18 Fa18) hZ (w_50 hw) (w_3 hw) (by decide) (by decide)) q19a q19c (g := (mkF m 52 #[.val (.int n1), .val (.int n2), .val (.int m1), .val (.int m2), .val (.ref b14), .val (.ref mo15), .val (.ref a_GRADED), .val (.ref b14), .unset] [(.ref b14)])) rfl (by rw [hml]; rfl) (Steps.refl _) (argsL := []) (rest := []) (lenOf pd_4 rfl) rfl (by show 2 * 0 + _ ≤ _; exact Nat.le_of_eq rfl) (hb hby at_52) (fun _ _ => ⟨rfl, rfl, (by decide : 2 + 0 ≤ _), (by decide : 3 + 0 ≤ _)⟩)
  dsimp only [Pt.U, Pt.locs, Pt.cells, Pt.slots] at X19 l19 y19 z19 st19 hQ19
  subst l19 y19 z19
  obtain ⟨rfl, Nq19, e19⟩ := hQ19
  have N19 := Fr.app N18 Nq19
  refine OW.tr (B := T19.setTop (mkF m 55 #[.val (.int n1), .val (.int n2), .val (.int m1), .val (.int m2), .val (.ref b14), .val (.ref mo15), .val (.ref a_GRADED), .val (.ref b14), .unset] [(.int m1)])) (st19) ?_
  refine OW.st (B := T19.setTop (mkF m 56 #[.val (.int n1), .val (.int n2), .val (.int m1), .val (.int m2), .val (.ref b14), .val (.ref mo15), .val (.ref a_GRADED), .val (.ref b14), .unset] [(.int m1), (.int m1)])) (fun _ kk_ => XS.iloadN X19.here hx rfl (hb hby at_55) rfl kk_) ?_
  refine OW.st (B := T19.setTop (mkF m 61 #[.val (.int n1), .val (.int n2), .val (.int m1), .val (.int m2), .val (.ref b14), .val (.ref mo15), .val (.ref a_GRADED), .val (.ref b14), .unset] [])) (fun _ kk_ => XS.icmpYes X19.here hx rfl (pc0 := 56) (pc' := 61) rfl (hb hby at_56) rfl (teq rfl).1 (by decide) (by decide) kk_) ?_
  refine OW.st (B := T19.setTop (mkF m 63 #[.val (.int n1), .val (.int n2), .val (.int m1), .val (.int m2), .val (.ref b14), .val (.ref mo15), .val (.ref a_GRADED), .val (.ref b14), .unset] [(.ref b14)])) (fun _ kk_ => XS.aload X19.here hx rfl (hb hby at_61) rfl rfl kk_) ?_
  obtain ⟨cq20, kq20, q20a, q20b, q20c⟩ := isOf hZ e19 (Ei15.keep K18)
  obtain ⟨_, _, ⟨T20, L20, k20, n20⟩, -, X20, ⟨Lc20, hQ20, l20, y20, z20⟩, st20⟩ := X19.virtualBack hx (y := (⟨"com/example/graded_search/gradedsearch/engine/Feedback", "form", "()Lcom/example/graded_search/gradedsearch/engine/Feedback$Form;"⟩ : MethodName)) (z := (⟨"com/example/graded_search/gradedsearch/engine/Feedback", "form", "()Lcom/example/graded_search/gradedsearch/engine/Feedback$Form;"⟩ : MethodName)) hown (mvT hZ (w_36 hw)) (mvT hZ (w_37 hw)) (notFace_of_selects (args := #[]) (mvT hZ (w_39 hw))) (mvT hZ (w_39 hw)) (mvT hZ (w_38 hw)) (by decide) (backOf (W := 0) (rmGF l Z a0 hw [] b14 a_GRADED T18.heap n0 O18 Fb18) hZ (w_40 hw) (w_3 hw) (by decide) (by decide)) q20a q20c (g := (mkF m 63 #[.val (.int n1), .val (.int n2), .val (.int m1), .val (.int m2), .val (.ref b14), .val (.ref mo15), .val (.ref a_GRADED), .val (.ref b14), .unset] [(.ref b14)])) rfl (by rw [hml]; rfl) (Steps.refl _) (argsL := []) (rest := []) (lenOf pd_2 rfl) rfl (by show 2 * 0 + _ ≤ _; exact Nat.le_of_eq rfl) (hb hby at_63) (fun _ _ => ⟨rfl, e19, (by decide : 2 + 0 ≤ _), (by decide : 3 + 0 ≤ _)⟩)
  dsimp only [Pt.U, Pt.locs, Pt.cells, Pt.slots] at X20 l20 y20 z20 st20 hQ20
  subst l20 y20 z20
  obtain ⟨rfl, Nq20, e20⟩ := hQ20
  have N20 := Fr.app N19 Nq20
  refine OW.tr (B := T20.setTop (mkF m 66 #[.val (.int n1), .val (.int n2), .val (.int m1), .val (.int m2), .val (.ref b14), .val (.ref mo15), .val (.ref a_GRADED), .val (.ref b14), .unset] [(.ref a_GRADED)])) (st20) ?_
  refine OW.st (B := T20.setTop (mkF m 68 #[.val (.int n1), .val (.int n2), .val (.int m1), .val (.int m2), .val (.ref b14), .val (.ref mo15), .val (.ref a_GRADED), .val (.ref b14), .unset] [(.ref a_GRADED), (.ref a_GRADED)])) (fun _ kk_ => XS.aload X20.here hx rfl (hb hby at_66) rfl rfl kk_) ?_
  refine OW.st (B := T20.setTop (mkF m 73 #[.val (.int n1), .val (.int n2), .val (.int m1), .val (.int m2), .val (.ref b14), .val (.ref mo15), .val (.ref a_GRADED), .val (.ref b14), .unset] [])) (fun _ kk_ => Jvm.RoadKit.acmp (g := (mkF m 68 #[.val (.int n1), .val (.int n2), .val (.int m1), .val (.int m2), .val (.ref b14), .val (.ref mo15), .val (.ref a_GRADED), .val (.ref b14), .unset] [(.ref a_GRADED), (.ref a_GRADED)])) X20 hx rfl rfl rfl (pc0 := 68) (pc' := 73) (same := true) rfl (hb hby at_68) rfl (decide_eq_true rfl) (by decide) (by decide) kk_) ?_
  refine OW.st (B := T20.setTop (mkF m 75 #[.val (.int n1), .val (.int n2), .val (.int m1), .val (.int m2), .val (.ref b14), .val (.ref mo15), .val (.ref a_GRADED), .val (.ref b14), .unset] [(.ref b14)])) (fun _ kk_ => XS.aload X20.here hx rfl (hb hby at_73) rfl rfl kk_) ?_
  obtain ⟨cq21, kq21, q21a, q21b, q21c⟩ := isOf hZ e20 (Ei15.keep K18)
  obtain ⟨_, _, ⟨T21, L21, k21, n21⟩, -, X21, ⟨Lc21, hQ21, l21, y21, z21⟩, st21⟩ := X20.virtualBack hx (y := (⟨"com/example/graded_search/gradedsearch/engine/Feedback", "model", "()Lcom/example/graded_search/gradedsearch/engine/RankingModel;"⟩ : MethodName)) (z := (⟨"com/example/graded_search/gradedsearch/engine/Feedback", "model", "()Lcom/example/graded_search/gradedsearch/engine/RankingModel;"⟩ : MethodName)) hown (mvT hZ (w_31 hw)) (mvT hZ (w_32 hw)) (notFace_of_selects (args := #[]) (mvT hZ (w_34 hw))) (mvT hZ (w_34 hw)) (mvT hZ (w_33 hw)) (by decide) (backOf (W := 0) (rmGM l Z a0 hw [] b14 mo15 T18.heap n0 O18 Fc18) hZ (w_35 hw) (w_3 hw) (by decide) (by decide)) q21a q21c (g := (mkF m 75 #[.val (.int n1), .val (.int n2), .val (.int m1), .val (.int m2), .val (.ref b14), .val (.ref mo15), .val (.ref a_GRADED), .val (.ref b14), .unset] [(.ref b14)])) rfl (by rw [hml]; rfl) (Steps.refl _) (argsL := []) (rest := []) (lenOf pd_1 rfl) rfl (by show 2 * 0 + _ ≤ _; exact Nat.le_of_eq rfl) (hb hby at_75) (fun _ _ => ⟨rfl, e20, (by decide : 2 + 0 ≤ _), (by decide : 3 + 0 ≤ _)⟩)
  dsimp only [Pt.U, Pt.locs, Pt.cells, Pt.slots] at X21 l21 y21 z21 st21 hQ21
  subst l21 y21 z21
  obtain ⟨rfl, Nq21, e21⟩ := hQ21
  have N21 := Fr.app N20 Nq21
  refine OW.tr (B := T21.setTop (mkF m 78 #[.val (.int n1), .val (.int n2), .val (.int m1), .val (.int m2), .val (.ref b14), .val (.ref mo15), .val (.ref a_GRADED), .val (.ref b14), .unset] [(.ref mo15)])) (st21) ?_
  refine OW.st (B := T21.setTop (mkF m 80 #[.val (.int n1), .val (.int n2), .val (.int m1), .val (.int m2), .val (.ref b14), .val (.ref mo15), .val (.ref a_GRADED), .val (.ref b14), .unset] [(.ref mo15), (.ref mo15)])) (fun _ kk_ => XS.aload X21.here hx rfl (hb hby at_78) rfl rfl kk_) ?_
  refine OW.st (B := T21.setTop (mkF m 85 #[.val (.int n1), .val (.int n2), .val (.int m1), .val (.int m2), .val (.ref b14), .val (.ref mo15), .val (.ref a_GRADED), .val (.ref b14), .unset] [])) (fun _ kk_ => Jvm.RoadKit.acmp (g := (mkF m 80 #[.val (.int n1), .val (.int n2), .val (.int m1), .val (.int m2), .val (.ref b14), .val (.ref mo15), .val (.ref a_GRADED), .val (.ref b14), .unset] [(.ref mo15), (.ref mo15)])) X21 hx rfl rfl rfl (pc0 := 80) (pc' := 85) (same := true) rfl (hb hby at_80) rfl (decide_eq_true rfl) (by decide) (by decide) kk_) ?_
  refine OW.st (B := T21.setTop (mkF m 87 #[.val (.int n1), .val (.int n2), .val (.int m1), .val (.int m2), .val (.ref b14), .val (.ref mo15), .val (.ref a_GRADED), .val (.ref b14), .unset] [(.ref b14)])) (fun _ kk_ => XS.aload X21.here hx rfl (hb hby at_85) rfl rfl kk_) ?_
  refine OW.st (B := T21.setTop (mkF m 88 #[.val (.int n1), .val (.int n2), .val (.int m1), .val (.int m2), .val (.ref b14), .val (.ref mo15), .val (.ref a_GRADED), .val (.ref b14), .unset] [(.int m2), (.ref b14)])) (fun _ kk_ => XS.iloadN X21.here hx rfl (hb hby at_87) rfl kk_) ?_
  obtain ⟨cq22, kq22, q22a, q22b, q22c⟩ := isOf hZ e21 (Ei15.keep K18)
  obtain ⟨_, _, ⟨T22, L22, k22, n22⟩, -, X22, ⟨Lc22, hQ22, l22, y22, z22⟩, st22⟩ := X21.virtualBack hx (y := (⟨"com/example/graded_search/gradedsearch/engine/Feedback", "expandTerms", "(I)Lcom/example/graded_search/gradedsearch/engine/Feedback;"⟩ : MethodName)) (z := (⟨"com/example/graded_search/gradedsearch/engine/Feedback", "expandTerms", "(I)Lcom/example/graded_search/gradedsearch/engine/Feedback;"⟩ : MethodName)) hown (mvT hZ (w_41 hw)) (mvT hZ (w_42 hw)) (notFace_of_selects (args := #[]) (mvT hZ (w_44 hw))) (mvT hZ (w_44 hw)) (mvT hZ (w_43 hw)) (by decide) (backOf (W := 0) (rmFS l Z a0 hw [] b14 m1 a_GRADED mo15 m2 T18.heap n0 O18 (Ei15.keep K18) Fa18 Fb18 Fc18 n_b14 hm2) hZ (w_45 hw) (w_3 hw) (by decide) (by decide)) q22a q22c (g := (mkF m 88 #[.val (.int n1), .val (.int n2), .val (.int m1), .val (.int m2), .val (.ref b14), .val (.ref mo15), .val (.ref a_GRADED), .val (.ref b14), .unset] [(.int m2), (.ref b14)])) rfl (by rw [hml]; rfl) (Steps.refl _) (argsL := [(.int m2)]) (rest := []) (lenOf pd_3 rfl) rfl (by show 2 * 0 + _ ≤ _; exact Nat.le_of_eq rfl) (hb hby at_88) (fun _ _ => ⟨rfl, e21, (by decide : 2 + 0 ≤ _), (by decide : 3 + 0 ≤ _)⟩)
  dsimp only [Pt.U, Pt.locs, Pt.cells, Pt.slots] at X22 l22 y22 z22 st22 hQ22
  subst l22 y22 z22
  obtain ⟨rfl, Nq22, K22, Fa22, Fb22, Fc22⟩ := hQ22
  have N22 := Fr.app N21 Nq22
  have O22 : Old Z n0 T22.heap := O18.keep K22 (allS n_b14 all0)
  refine OW.tr (B := T22.setTop (mkF m 91 #[.val (.int n1), .val (.int n2), .val (.int m1), .val (.int m2), .val (.ref b14), .val (.ref mo15), .val (.ref a_GRADED), .val (.ref b14), .unset] [(.ref b14)])) (st22) ?_
  refine OW.st (B := T22.setTop (mkF m 93 #[.val (.int n1), .val (.int n2), .val (.int m1), .val (.int m2), .val (.ref b14), .val (.ref mo15), .val (.ref a_GRADED), .val (.ref b14), .val (.ref b14)] [])) (fun _ kk_ => XS.astore X22.here hx rfl (hb hby at_91) rfl rfl (l' := #[.val (.int n1), .val (.int n2), .val (.int m1), .val (.int m2), .val (.ref b14), .val (.ref mo15), .val (.ref a_GRADED), .val (.ref b14), .val (.ref b14)]) rfl kk_) ?_
  refine OW.st (B := T22.setTop (mkF m 95 #[.val (.int n1), .val (.int n2), .val (.int m1), .val (.int m2), .val (.ref b14), .val (.ref mo15), .val (.ref a_GRADED), .val (.ref b14), .val (.ref b14)] [(.ref b14)])) (fun _ kk_ => XS.aload X22.here hx rfl (hb hby at_93) rfl rfl kk_) ?_
  refine OW.st (B := T22.setTop (mkF m 97 #[.val (.int n1), .val (.int n2), .val (.int m1), .val (.int m2), .val (.ref b14), .val (.ref mo15), .val (.ref a_GRADED), .val (.ref b14), .val (.ref b14)] [(.ref b14), (.ref b14)])) (fun _ kk_ => XS.aload X22.here hx rfl (hb hby at_95) rfl rfl kk_) ?_
  refine OW.st (B := T22.setTop (mkF m 102 #[.val (.int n1), .val (.int n2), .val (.int m1), .val (.int m2), .val (.ref b14), .val (.ref mo15), .val (.ref a_GRADED), .val (.ref b14), .val (.ref b14)] [])) (fun _ kk_ => Jvm.RoadKit.acmp (g := (mkF m 97 #[.val (.int n1), .val (.int n2), .val (.int m1), .val (.int m2), .val (.ref b14), .val (.ref mo15), .val (.ref a_GRADED), .val (.ref b14), .val (.ref b14)] [(.ref b14), (.ref b14)])) X22 hx rfl rfl rfl (pc0 := 97) (pc' := 102) (same := true) rfl (hb hby at_97) rfl (decide_eq_true rfl) (by decide) (by decide) kk_) ?_
  refine OW.st (B := T22.setTop (mkF m 104 #[.val (.int n1), .val (.int n2), .val (.int m1), .val (.int m2), .val (.ref b14), .val (.ref mo15), .val (.ref a_GRADED), .val (.ref b14), .val (.ref b14)] [(.ref b14)])) (fun _ kk_ => XS.aload X22.here hx rfl (hb hby at_102) rfl rfl kk_) ?_
  obtain ⟨cq23, kq23, q23a, q23b, q23c⟩ := isOf hZ rfl ((Ei15.keep K18).keep K22)
  obtain ⟨_, _, ⟨T23, L23, k23, n23⟩, -, X23, ⟨Lc23, hQ23, l23, y23, z23⟩, st23⟩ := X22.virtualBack hx (y := (⟨"com/example/graded_search/gradedsearch/engine/Feedback", "expandTerms", "()I"⟩ : MethodName)) (z := (⟨"com/example/graded_search/gradedsearch/engine/Feedback", "expandTerms", "()I"⟩ : MethodName)) hown (mvT hZ (w_46 hw)) (mvT hZ (w_47 hw)) (notFace_of_selects (args := #[]) (mvT hZ (w_49 hw))) (mvT hZ (w_49 hw)) (mvT hZ (w_48 hw)) (by decide) (backOf (W := 0) (rmGE l Z a0 hw [] b14 m2 T22.heap n0 O22 Fa22) hZ (w_50 hw) (w_3 hw) (by decide) (by decide)) q23a q23c (g := (mkF m 104 #[.val (.int n1), .val (.int n2), .val (.int m1), .val (.int m2), .val (.ref b14), .val (.ref mo15), .val (.ref a_GRADED), .val (.ref b14), .val (.ref b14)] [(.ref b14)])) rfl (by rw [hml]; rfl) (Steps.refl _) (argsL := []) (rest := []) (lenOf pd_4 rfl) rfl (by show 2 * 0 + _ ≤ _; exact Nat.le_of_eq rfl) (hb hby at_104) (fun _ _ => ⟨rfl, rfl, (by decide : 2 + 0 ≤ _), (by decide : 3 + 0 ≤ _)⟩)
  dsimp only [Pt.U, Pt.locs, Pt.cells, Pt.slots] at X23 l23 y23 z23 st23 hQ23
  subst l23 y23 z23
  obtain ⟨rfl, Nq23, e23⟩ := hQ23
  have N23 := Fr.app N22 Nq23
  refine OW.tr (B := T23.setTop (mkF m 107 #[.val (.int n1), .val (.int n2), .val (.int m1), .val (.int m2), .val (.ref b14), .val (.ref mo15), .val (.ref a_GRADED), .val (.ref b14), .val (.ref b14)] [(.int m2)])) (st23) ?_
  refine OW.st (B := T23.setTop (mkF m 108 #[.val (.int n1), .val (.int n2), .val (.int m1), .val (.int m2), .val (.ref b14), .val (.ref mo15), .val (.ref a_GRADED), .val (.ref b14), .val (.ref b14)] [(.int m2), (.int m2)])) (fun _ kk_ => XS.iloadN X23.here hx rfl (hb hby at_107) rfl kk_) ?_
  refine OW.st (B := T23.setTop (mkF m 111 #[.val (.int n1), .val (.int n2), .val (.int m1), .val (.int m2), .val (.ref b14), .val (.ref mo15), .val (.ref a_GRADED), .val (.ref b14), .val (.ref b14)] [])) (fun _ kk_ => XS.icmpNo X23.here hx rfl (hb hby at_108) rfl (teq rfl).2 kk_) ?_
  refine OW.st (B := T23.setTop (mkF m 112 #[.val (.int n1), .val (.int n2), .val (.int m1), .val (.int m2), .val (.ref b14), .val (.ref mo15), .val (.ref a_GRADED), .val (.ref b14), .val (.ref b14)] [(.int (1 : Int32))])) (fun _ kk_ => XS.iconst X23.here hx rfl (hb hby at_111) kk_) ?_
  refine OW.st (B := T23.setTop (mkF m 116 #[.val (.int n1), .val (.int n2), .val (.int m1), .val (.int m2), .val (.ref b14), .val (.ref mo15), .val (.ref a_GRADED), .val (.ref b14), .val (.ref b14)] [(.int (1 : Int32))])) (fun _ kk_ => XS.goto X23.here hx rfl (pc0 := 112) (pc' := 116) rfl (hb hby at_112) (by decide) (by decide) kk_) ?_
  exact OW.ret X23 hx hlk (i := .ireturn) Bd.returns rfl (Or.inl ⟨rfl, Or.inr (Or.inl rfl), _, rfl⟩) (hb hby at_116) e23 (by decide) (by decide) ⟨rfl, N23⟩
set_option maxRecDepth 65536 in
set_option maxHeartbeats 40000000 in
theorem comes_1 {Post : Tables → Env → Array Value → State → Outcome → State → Prop} (hpost : ∀ tb e args s v u, (limb_1_1.after args s (.returned v) u = true ∧ limb_1_2.after args s (.returned v) u = true ∧ True) → FrameEnd s (.returned v) u (Jvm.fieldLocs frame_1_writes args s ++ Jvm.arrayLocs frame_1_arrays args s ++ Jvm.staticLocs frame_1_statics s) 16 128 → Post tb e args s (.returned v) u) :
    ArmFor flags0 classFile x code maxLocals ret World_1 tables_1 room_1 Calls_1 rest_1 Pre_1 Post := by
  intro l hfl _ _ p e ha hc hk s m args below hf hA hF happ hP
  obtain ⟨hcalls, hrest, hpre⟩ := hP
  obtain ⟨-, -, -, hnamed, -, -, -, hat⟩ := (Spec.applies_iff hf).mp happ
  obtain ⟨hg, hn⟩ := and_e (Cond.before_iff.mp (show (Jvm.Cond.and given_1 narrow_1).before args s = true from hpre))
  obtain ⟨k24, k25⟩ := and_e hg
  obtain ⟨k26, k27⟩ := and_e k25
  obtain ⟨w0, w1, rfl⟩ : ∃ w0 w1 : Value, args = #[w0, w1] := by
    have hs : args.size = 2 := by simpa [Cond.value, given_1] using k24
    obtain ⟨L⟩ := args
    match L, hs with
    | [w0, w1], _ => exact ⟨w0, w1, rfl⟩
  have hw := fun d (hd : d ∈ tables_1) => atoms_spec (ws := Jvm.Cond.code x code maxLocals ret :: tables_1) hat d (List.mem_cons_of_mem _ hd)
  have hfit : Fit s := fun {y c} hc i hi => by
    obtain ⟨ha, rfl⟩ := Array.getElem?_eq_some_iff.mp hc
    have q := List.all_eq_true.mp ((Array.all_eq_true_iff_forall_mem.mp hF) _ (Array.getElem_mem ha)) i (List.mem_range.mpr hi)
    simpa [Array.getElem?_eq_getElem hi] using q
  obtain ⟨i0, ei0⟩ := is_v k26
  obtain rfl : w0 = (.int i0) := Option.some.inj ei0
  obtain ⟨i1, ei1⟩ := is_v k27
  obtain rfl : w1 = (.int i1) := Option.some.inj ei1
  obtain ⟨a_GRADED, eva_GRADED⟩ := exa_v hn
  have hS : OwnS s a_GRADED := ⟨Sta.start eva_GRADED (Or.inr ⟨(w_13 hw), (w_14 hw)⟩), Exa.start eva_GRADED hn⟩
  obtain ⟨n, o, h1, h2, h3, _, L, rfl, ⟨rfl, N⟩, hq⟩ := rm0 l s _ hw tables_1 i0 i1 a_GRADED s.heap s.heap.size (Old.start s) hS p e ha hc hk s m _ below hf ((Spec.applies_iff_loose hf).mp happ).1 ⟨rfl, State.Warmed39.refl s, rfl⟩ trivial
  refine ⟨n, _, h1, h2, h3, hpost _ _ _ _ _ _ ⟨Cond.after_iff.mpr rfl, Cond.after_iff.mpr (eq_i res_at (Term.int_eval (1)) rfl), trivial⟩ ⟨hq.1, hq.2.1, (hq.2.2.sift fun y hy => Or.inr (N y hy)).mono (by decide) (by decide)⟩⟩
theorem main_1_1 : Claimed_1_1 := comes_1 fun _ _ _ _ _ _ h hF => ⟨h.1, hF⟩
theorem main_1_2 : Claimed_1_2 := comes_1 fun _ _ _ _ _ _ h hF => ⟨h.2.1, hF⟩
end Jvm.Pilot.@@N@@
namespace Jvm.Pilot.@@N@@
open Jvm Jvm.ClassFile Sem Op Lib Jvm.Free Jvm.Stand Jvm.Pilot.@@N@@.Jvm.D
/-! MADE BY PROGRAM (witnessworld.py) out of the Statement's table words and the real class files: 16 classes; the members and pool entries that the words name. The judged class is class 1, her method 1. -/
namespace start1
open Jvm.ClassFile
def u (s : String) : CpInfo := .utf8 (stringToUtf16 s)
/-- a pool by its gaps: so many unusable entries, then the entry; so many at the end -/
def gap : Nat → List CpInfo → List CpInfo
  | 0, r => r
  | n + 1, r => .unusable :: gap n r
def poolList (es : List (Nat × CpInfo)) (last : Nat) : List CpInfo := es.foldr (fun e r => gap e.1 (e.2 :: r)) (gap last [])
def pool (es : List (Nat × CpInfo)) (last : Nat) : Array CpInfo := ⟨poolList es last⟩
def fileOf (pool : Array CpInfo) (this : Nat) (attrs : Array Attribute := #[]) (ms : Array MethodInfo := #[]) (fl : Nat := 33) (sup : Nat := 0) (ifs : Array Nat := #[]) (fds : Array FieldInfo := #[]) : ClassFile where
  minorVersion := 0
  majorVersion := 65
  constantPool := pool
  accessFlags := fl
  thisClass := this
  superClass := sup
  interfaces := ifs
  fields := fds
  methods := ms
  attributes := attrs
def plain (name : String) (sup : Option ClassId) : Class where
  name := name
  kind := .ordinary
  loader := none
  accessFlags := 33
  super := sup
  interfaces := #[]
  cf := none
  fields := #[]
  methods := #[]
  instanceTypes := #[]
  staticTypes := #[]
  resolved := #[]
  callSites := []
  init := .initialized
  statics := none
  mirror := none

def pool0 : Array CpInfo := pool [(5, u "<init>"), (0, u "()V"), (1, .class_ 10), (1, u "java/lang/Object")] 113

def k0c0 : Code := { maxStack := 0, maxLocals := 1, code := object_method_1_code, exceptionTable := #[], attributes := #[] }
def k0m0 : Method := { name := "<init>", desc := "()V", sig := { parameters := [], returnType := none }, accessFlags := 1, code := some k0c0 }
/-- java/lang/Object -/
def k0 : Class := { plain "java/lang/Object" none with
  accessFlags := 33
  interfaces := #[]
  cf := some (fileOf pool0 8 #[] #[{ accessFlags := 1, nameIndex := 5, descriptorIndex := 6, attributes := #[] }] 33 0 #[] #[])
  fields := #[]
  methods := #[k0m0]
  instanceTypes := #[]
  staticTypes := #[]
  resolved := Array.replicate 124 none
  statics := none }

def pool1 : Array CpInfo := pool [(2, .class_ 4), (0, .nameAndType 5 6), (0, u "java/lang/Object"), (0, u "<init>"), (0, u "()V"), (0, .integer 2147483647), (0, .class_ 9), (0, u "com/example/graded_search/gradedsearch/engine/Feedback"), (0, .methodref 8 3), (0, .methodref 8 12), (0, .nameAndType 13 14), (0, u "model"), (0, u "()Lcom/example/graded_search/gradedsearch/engine/RankingModel;"), (0, .methodref 8 16), (0, .nameAndType 17 18), (0, u "form"), (0, u "()Lcom/example/graded_search/gradedsearch/engine/Feedback$Form;"), (0, .methodref 8 20), (0, .nameAndType 21 22), (0, u "expandTerms"), (0, u "(I)Lcom/example/graded_search/gradedsearch/engine/Feedback;"), (0, .methodref 8 24), (0, .nameAndType 21 25), (0, u "()I"), (0, .class_ 27), (0, u "com/example/graded_search/gradedsearch/engine/FeedbackExpandTermsPinLaw"), (2, u "law"), (0, u "(II)Z")] 9

def k1m0 : Method := { name := "<init>", desc := "()V", sig := { parameters := [], returnType := none }, accessFlags := 1, code := none }
def k1c1 : Code := { maxStack := 2, maxLocals := 9, code := code, exceptionTable := #[], attributes := #[] }
def k1m1 : Method := { name := "law", desc := "(II)Z", sig := { parameters := [.int, .int], returnType := some .boolean }, accessFlags := 9, code := some k1c1 }
/-- com/example/graded_search/gradedsearch/engine/FeedbackExpandTermsPinLaw -/
def k1 : Class := { plain "com/example/graded_search/gradedsearch/engine/FeedbackExpandTermsPinLaw" (some 0) with
  accessFlags := 49
  interfaces := #[]
  cf := some (fileOf pool1 26 #[] #[{ accessFlags := 1, nameIndex := 5, descriptorIndex := 6, attributes := #[] }, { accessFlags := 9, nameIndex := 30, descriptorIndex := 31, attributes := #[] }] 49 2 #[] #[])
  fields := #[]
  methods := #[k1m0, k1m1]
  instanceTypes := #[]
  staticTypes := #[]
  resolved := Array.replicate 41 none
  statics := none }

def pool2 : Array CpInfo := pool [(1, .methodref 2 3), (0, .class_ 4), (0, .nameAndType 5 6), (0, u "java/lang/Object"), (0, u "<init>"), (0, u "()V"), (0, .fieldref 8 9), (0, .class_ 10), (0, .nameAndType 11 12), (0, u "com/example/graded_search/gradedsearch/engine/Feedback"), (0, u "expandTerms"), (0, u "I"), (0, .fieldref 14 15), (0, .class_ 16), (0, .nameAndType 17 18), (0, u "com/example/graded_search/gradedsearch/engine/Feedback$Form"), (0, u "GRADED"), (0, u "Lcom/example/graded_search/gradedsearch/engine/Feedback$Form;"), (0, .fieldref 8 20), (0, .nameAndType 21 18), (0, u "form"), (0, .class_ 23), (0, u "com/example/graded_search/gradedsearch/engine/GfIof"), (0, .methodref 22 3), (0, .fieldref 8 26), (0, .nameAndType 27 28), (0, u "model"), (0, u "Lcom/example/graded_search/gradedsearch/engine/RankingModel;"), (64, u "()I"), (200, u "(I)Lcom/example/graded_search/gradedsearch/engine/Feedback;"), (1, u "()Lcom/example/graded_search/gradedsearch/engine/Feedback$Form;"), (1, u "()Lcom/example/graded_search/gradedsearch/engine/RankingModel;"), (27, .class_ 327), (0, u "com/example/graded_search/gradedsearch/engine/Feedback$Grades"), (0, .class_ 329), (0, u "com/example/graded_search/gradedsearch/engine/Feedback$Form$2"), (0, .class_ 331), (0, u "com/example/graded_search/gradedsearch/engine/Feedback$Form$1")] 54

def k2c0 : Code := { maxStack := 3, maxLocals := 1, code := prog_18_method_1_code, exceptionTable := #[], attributes := #[] }
def k2m0 : Method := { name := "<init>", desc := "()V", sig := { parameters := [], returnType := none }, accessFlags := 1, code := some k2c0 }
def k2c1 : Code := { maxStack := 1, maxLocals := 1, code := prog_18_method_2_code, exceptionTable := #[], attributes := #[] }
def k2m1 : Method := { name := "expandTerms", desc := "()I", sig := { parameters := [], returnType := some .int }, accessFlags := 1, code := some k2c1 }
def k2c2 : Code := { maxStack := 3, maxLocals := 2, code := prog_18_method_3_code, exceptionTable := #[], attributes := #[] }
def k2m2 : Method := { name := "expandTerms", desc := "(I)Lcom/example/graded_search/gradedsearch/engine/Feedback;", sig := { parameters := [.int], returnType := some (.object "com/example/graded_search/gradedsearch/engine/Feedback") }, accessFlags := 1, code := some k2c2 }
def k2c3 : Code := { maxStack := 1, maxLocals := 1, code := prog_18_method_4_code, exceptionTable := #[], attributes := #[] }
def k2m3 : Method := { name := "form", desc := "()Lcom/example/graded_search/gradedsearch/engine/Feedback$Form;", sig := { parameters := [], returnType := some (.object "com/example/graded_search/gradedsearch/engine/Feedback$Form") }, accessFlags := 1, code := some k2c3 }
def k2c4 : Code := { maxStack := 1, maxLocals := 1, code := prog_18_method_6_code, exceptionTable := #[], attributes := #[] }
def k2m4 : Method := { name := "model", desc := "()Lcom/example/graded_search/gradedsearch/engine/RankingModel;", sig := { parameters := [], returnType := some (.object "com/example/graded_search/gradedsearch/engine/RankingModel") }, accessFlags := 1, code := some k2c4 }
/-- com/example/graded_search/gradedsearch/engine/Feedback -/
def k2 : Class := { plain "com/example/graded_search/gradedsearch/engine/Feedback" (some 0) with
  accessFlags := 49
  interfaces := #[]
  cf := some (fileOf pool2 8 #[.nestMembers #[326, 14, 328, 330]] #[{ accessFlags := 1, nameIndex := 5, descriptorIndex := 6, attributes := #[] }, { accessFlags := 1, nameIndex := 11, descriptorIndex := 93, attributes := #[] }, { accessFlags := 1, nameIndex := 11, descriptorIndex := 294, attributes := #[] }, { accessFlags := 1, nameIndex := 21, descriptorIndex := 296, attributes := #[] }, { accessFlags := 1, nameIndex := 27, descriptorIndex := 298, attributes := #[] }] 49 2 #[] #[{ accessFlags := 2, nameIndex := 11, descriptorIndex := 12, attributes := #[] }, { accessFlags := 2, nameIndex := 21, descriptorIndex := 18, attributes := #[] }, { accessFlags := 2, nameIndex := 27, descriptorIndex := 28, attributes := #[] }])
  fields := #[{ name := "expandTerms", type := .int, accessFlags := 2, slot := 0, constantValue := 0 }, { name := "form", type := (.object "com/example/graded_search/gradedsearch/engine/Feedback$Form"), accessFlags := 2, slot := 1, constantValue := 0 }, { name := "model", type := (.object "com/example/graded_search/gradedsearch/engine/RankingModel"), accessFlags := 2, slot := 2, constantValue := 0 }]
  methods := #[k2m0, k2m1, k2m2, k2m3, k2m4]
  instanceTypes := #[.int, (.object "com/example/graded_search/gradedsearch/engine/Feedback$Form"), (.object "com/example/graded_search/gradedsearch/engine/RankingModel")]
  staticTypes := #[]
  resolved := Array.replicate 386 none
  statics := none }

def pool3 : Array CpInfo := pool [(1, .class_ 2), (0, u "java/lang/constant/Constable"), (0, .class_ 4), (0, u "java/lang/Object")] 6

/-- java/lang/constant/Constable -/
def k3 : Class := { plain "java/lang/constant/Constable" (some 0) with
  accessFlags := 1537
  interfaces := #[]
  cf := some (fileOf pool3 1 #[] #[] 1537 3 #[] #[])
  fields := #[]
  methods := #[]
  instanceTypes := #[]
  staticTypes := #[]
  resolved := Array.replicate 11 none
  statics := none }

def pool4 : Array CpInfo := pool [(1, .class_ 2), (0, u "java/lang/Comparable"), (0, .class_ 4), (0, u "java/lang/Object")] 7

/-- java/lang/Comparable -/
def k4 : Class := { plain "java/lang/Comparable" (some 0) with
  accessFlags := 1537
  interfaces := #[]
  cf := some (fileOf pool4 1 #[] #[] 1537 3 #[] #[])
  fields := #[]
  methods := #[]
  instanceTypes := #[]
  staticTypes := #[]
  resolved := Array.replicate 12 none
  statics := none }

def pool5 : Array CpInfo := pool [(1, .class_ 2), (0, u "java/io/Serializable"), (0, .class_ 4), (0, u "java/lang/Object")] 2

/-- java/io/Serializable -/
def k5 : Class := { plain "java/io/Serializable" (some 0) with
  accessFlags := 1537
  interfaces := #[]
  cf := some (fileOf pool5 1 #[] #[] 1537 3 #[] #[])
  fields := #[]
  methods := #[]
  instanceTypes := #[]
  staticTypes := #[]
  resolved := Array.replicate 7 none
  statics := none }

def pool6 : Array CpInfo := pool [(2, .class_ 4), (1, u "java/lang/Enum"), (0, u "name"), (0, u "Ljava/lang/String;"), (2, u "ordinal"), (0, u "I"), (1, .class_ 14), (1, u "java/lang/Object"), (4, u "hash"), (86, .class_ 108), (1, u "java/lang/Enum$EnumDesc"), (2, .class_ 112), (0, u "java/lang/constant/Constable"), (0, .class_ 114), (0, u "java/lang/Comparable"), (0, .class_ 116), (0, u "java/io/Serializable")] 87

/-- java/lang/Enum -/
def k6 : Class := { plain "java/lang/Enum" (some 0) with
  accessFlags := 1057
  interfaces := #[3, 4, 5]
  cf := some (fileOf pool6 2 #[.nestMembers #[106]] #[] 1057 12 #[111, 113, 115] #[{ accessFlags := 18, nameIndex := 5, descriptorIndex := 6, attributes := #[] }, { accessFlags := 18, nameIndex := 9, descriptorIndex := 10, attributes := #[] }, { accessFlags := 2, nameIndex := 19, descriptorIndex := 10, attributes := #[] }])
  fields := #[{ name := "name", type := (.object "java/lang/String"), accessFlags := 18, slot := 0, constantValue := 0 }, { name := "ordinal", type := .int, accessFlags := 18, slot := 1, constantValue := 0 }, { name := "hash", type := .int, accessFlags := 2, slot := 2, constantValue := 0 }]
  methods := #[]
  instanceTypes := #[(.object "java/lang/String"), .int, .int]
  staticTypes := #[]
  resolved := Array.replicate 204 none
  statics := none }

def pool7 : Array CpInfo := pool [(1, .class_ 2), (0, u "com/example/graded_search/gradedsearch/engine/Feedback$Form"), (2, u "GRADED"), (0, u "Lcom/example/graded_search/gradedsearch/engine/Feedback$Form;"), (2, u "OFFER"), (2, u "$VALUES"), (0, u "[Lcom/example/graded_search/gradedsearch/engine/Feedback$Form;"), (6, .class_ 22), (1, u "java/lang/Enum"), (54, .class_ 78), (0, u "com/example/graded_search/gradedsearch/engine/Feedback")] 6

/-- com/example/graded_search/gradedsearch/engine/Feedback$Form -/
def k7 : Class := { plain "com/example/graded_search/gradedsearch/engine/Feedback$Form" (some 6) with
  accessFlags := 17441
  interfaces := #[]
  cf := some (fileOf pool7 1 #[.nestHost 77] #[] 17441 20 #[] #[{ accessFlags := 16409, nameIndex := 5, descriptorIndex := 6, attributes := #[] }, { accessFlags := 16409, nameIndex := 9, descriptorIndex := 6, attributes := #[] }, { accessFlags := 4122, nameIndex := 12, descriptorIndex := 13, attributes := #[] }])
  fields := #[{ name := "GRADED", type := (.object "com/example/graded_search/gradedsearch/engine/Feedback$Form"), accessFlags := 16409, slot := 0, constantValue := 0 }, { name := "OFFER", type := (.object "com/example/graded_search/gradedsearch/engine/Feedback$Form"), accessFlags := 16409, slot := 1, constantValue := 0 }, { name := "$VALUES", type := (.array (.object "com/example/graded_search/gradedsearch/engine/Feedback$Form")), accessFlags := 4122, slot := 2, constantValue := 0 }]
  methods := #[]
  instanceTypes := #[(.object "java/lang/String"), .int, .int]
  staticTypes := #[(.object "com/example/graded_search/gradedsearch/engine/Feedback$Form"), (.object "com/example/graded_search/gradedsearch/engine/Feedback$Form"), (.array (.object "com/example/graded_search/gradedsearch/engine/Feedback$Form"))]
  resolved := Array.replicate 85 none
  statics := some 0 }

def pool8 : Array CpInfo := pool [(1, .methodref 2 3), (0, .class_ 4), (0, .nameAndType 5 6), (0, u "java/lang/Object"), (0, u "<init>"), (0, u "()V"), (1, .class_ 10), (1, u "com/example/graded_search/gradedsearch/engine/RankingModel"), (57, .class_ 69), (0, u "com/example/graded_search/gradedsearch/engine/RankingModel$Grade")] 23

def k8c0 : Code := { maxStack := 1, maxLocals := 1, code := prog_49_method_1_code, exceptionTable := #[], attributes := #[] }
def k8m0 : Method := { name := "<init>", desc := "()V", sig := { parameters := [], returnType := none }, accessFlags := 0, code := some k8c0 }
/-- com/example/graded_search/gradedsearch/engine/RankingModel -/
def k8 : Class := { plain "com/example/graded_search/gradedsearch/engine/RankingModel" (some 0) with
  accessFlags := 1057
  interfaces := #[]
  cf := some (fileOf pool8 8 #[.nestMembers #[68]] #[{ accessFlags := 0, nameIndex := 5, descriptorIndex := 6, attributes := #[] }] 1057 2 #[] #[])
  fields := #[]
  methods := #[k8m0]
  instanceTypes := #[]
  staticTypes := #[]
  resolved := Array.replicate 93 none
  statics := none }

def pool9 : Array CpInfo := pool [(1, .methodref 2 3), (0, .class_ 4), (0, .nameAndType 5 6), (0, u "com/example/graded_search/gradedsearch/engine/RankingModel"), (0, u "<init>"), (0, u "()V"), (0, .class_ 8), (0, u "com/example/graded_search/gradedsearch/engine/GfIof"), (24, u "LN_COUNTS"), (0, u "[D"), (6, u "NAME"), (0, u "Ljava/lang/String;")] 40

def k9c0 : Code := { maxStack := 1, maxLocals := 1, code := prog_32_method_1_code, exceptionTable := #[], attributes := #[] }
def k9m0 : Method := { name := "<init>", desc := "()V", sig := { parameters := [], returnType := none }, accessFlags := 1, code := some k9c0 }
/-- com/example/graded_search/gradedsearch/engine/GfIof -/
def k9 : Class := { plain "com/example/graded_search/gradedsearch/engine/GfIof" (some 8) with
  accessFlags := 49
  interfaces := #[]
  cf := some (fileOf pool9 7 #[] #[{ accessFlags := 1, nameIndex := 5, descriptorIndex := 6, attributes := #[] }] 49 2 #[] #[{ accessFlags := 25, nameIndex := 41, descriptorIndex := 42, attributes := #[] }, { accessFlags := 26, nameIndex := 33, descriptorIndex := 34, attributes := #[] }])
  fields := #[{ name := "NAME", type := (.object "java/lang/String"), accessFlags := 25, slot := 0, constantValue := 0 }, { name := "LN_COUNTS", type := (.array .double), accessFlags := 26, slot := 1, constantValue := 0 }]
  methods := #[k9m0]
  instanceTypes := #[]
  staticTypes := #[(.object "java/lang/String"), (.array .double)]
  resolved := Array.replicate 83 none
  statics := none }

def pool10 : Array CpInfo := pool [(2, .class_ 4), (1, u "com/example/graded_search/gradedsearch/engine/Feedback$Form"), (14, .class_ 20), (0, u "com/example/graded_search/gradedsearch/engine/Feedback$Form$1"), (16, .class_ 38), (0, u "com/example/graded_search/gradedsearch/engine/Feedback")] 3

/-- com/example/graded_search/gradedsearch/engine/Feedback$Form$1 -/
def k10 : Class := { plain "com/example/graded_search/gradedsearch/engine/Feedback$Form$1" (some 7) with
  accessFlags := 16432
  interfaces := #[]
  cf := some (fileOf pool10 19 #[.nestHost 37] #[] 16432 2 #[] #[])
  fields := #[]
  methods := #[]
  instanceTypes := #[(.object "java/lang/String"), .int, .int]
  staticTypes := #[]
  resolved := Array.replicate 42 none
  statics := none }

def pool11 : Array CpInfo := pool [(1, u "java/lang/Cloneable"), (0, .class_ 1), (0, u "java/lang/Object"), (0, .class_ 3)] 3

/-- java/lang/Cloneable -/
def k11 : Class := { plain "java/lang/Cloneable" (some 0) with
  accessFlags := 1537
  interfaces := #[]
  cf := some (fileOf pool11 2 #[] #[] 1537 4 #[] #[])
  fields := #[]
  methods := #[]
  instanceTypes := #[]
  staticTypes := #[]
  resolved := Array.replicate 8 none
  statics := none }

/-- the primitive byte -/
def k12 : Class := { plain "byte" none with kind := .primitive 'B', accessFlags := 0x411 }
/-- [B -/
def k13 : Class := { plain "[B" (some 0) with kind := .array 12 .byte, interfaces := #[11, 5], accessFlags := 1041 }

/-- the primitive int -/
def k14 : Class := { plain "int" none with kind := .primitive 'I', accessFlags := 0x411 }
/-- [I -/
def k15 : Class := { plain "[I" (some 0) with kind := .array 14 .int, interfaces := #[11, 5], accessFlags := 1041 }

def heap : Heap := #[{ cls := 7, slots := #[.ref 1, .null, .null], vm := .statics 7 },
  { cls := 10, slots := #[.null, .int 0, .int 0], vm := .none }]
def classes : Array Class := #[k0, k1, k2, k3, k4, k5, k6, k7, k8, k9, k10, k11, k12, k13, k14, k15]
def interned : List (Array UInt16 × Addr) := []
def slotsUsed : Nat := 6
def theMethod : MethodId := ⟨1, 1⟩
def args0 : Array Value := #[.int 5, .int 7]
def aboutOver (below : List Frame) : State where
  vm := { classes := classes, interned := interned.toArray }
  heap := heap
  slotsUsed := slotsUsed
  threads := #[{ frames := .invoking theMethod args0 :: below }]
def below0 : List Frame := [.native { method := ⟨0, 0⟩, args := #[] }]
def about1 : State := aboutOver below0
def p0 : Program := .bare "" "" ""
def e0 : Env := launch0.env 0 0 0
theorem w_frames : about1.frames = Frame.invoking theMethod args0 :: below0 := rfl
set_option maxRecDepth 65536 in
theorem w_args : argsFit about1.vm theMethod args0 = true := by decide +kernel
set_option maxRecDepth 65536 in
theorem w_heap : heapFits about1 = true := by decide +kernel
set_option maxRecDepth 65536 in
theorem w_runnable : about1.curStatus? = some .runnable := by decide +kernel
set_option maxRecDepth 65536 in
theorem w_alone : about1.alone = true := by decide +kernel
set_option maxRecDepth 65536 in
theorem w_named : about1.methodNamed? x = some theMethod := by decide +kernel
set_option maxRecDepth 65536 in
theorem w_hears : about1.hears theMethod below0 = true := by decide +kernel
set_option maxRecDepth 65536 in
theorem w_ripe : about1.ripe theMethod args0 below0 = true := by decide +kernel
theorem w_running : about1.status = .running := rfl
set_option maxRecDepth 65536 in
theorem w_room : about1.hasRoom e0.platform room_1 = true :=
  launch0.hasRoom_least _ room_1 (by decide +kernel) (by decide +kernel) (by decide +kernel) (by decide +kernel) (by decide +kernel) (by decide +kernel)
theorem allAtoms_all (ts : List Jvm.Cond) (a : Array Jvm.Value) (st : Jvm.State) : (allAtoms ts).before a st = ts.all (fun c => c.before a st) := by
  induction ts with
  | nil => rfl
  | cons c t ih =>
    show (Jvm.Cond.and c (allAtoms t)).before a st = _
    rw [Jvm.Cond.before_and, ih, List.all_cons]
def words1 : List Jvm.Cond := Jvm.Cond.code x code maxLocals ret :: tables_1
/-- a 'code' word, met by the world's own term for the bytes: nothing is compared byte by byte -/
theorem code_word {y : MethodName} {bytes : ByteArray} {mx : Nat} {rt : Option FieldType} {a : Array Value} {s : State} {m : MethodId} {meth : Method} {c : Code} (h1 : s.methodNamed? y = some m) (h2 : s.vm.method? m = some meth) (h3 : meth.code = some c) (h4 : c.code = bytes)
    (h5 : (c.maxLocals == mx && c.exceptionTable.isEmpty && decide (c.maxStack ≤ mostOperands) && decide (meth.sig.returnType = rt) && !meth.locks && decide (parseMethodDescriptor y.desc = some meth.sig)) = true) : (Jvm.Cond.code y bytes mx rt).before a s = true := by
  simp only [Bool.and_eq_true, beq_iff_eq, Bool.not_eq_true', decide_eq_true_eq] at h5
  obtain ⟨⟨⟨⟨⟨g1, g2⟩, g3⟩, g4⟩, g5⟩, g6⟩ := h5
  simp [Cond.before, Cond.holds, Cond.value, h1, h2, h3, h4, g1, g2, g3, g4, g5, g6]
def isCode : Jvm.Cond → Bool
  | .code _ _ _ _ => true
  | _ => false
theorem all_split {L : List Jvm.Cond} {P : Jvm.Cond → Bool} (h1 : L.all (fun c => isCode c || P c) = true) (h2 : ∀ c ∈ L.filter isCode, P c = true) : L.all P = true := by
  refine List.all_eq_true.mpr fun c hc => ?_
  have h := List.all_eq_true.mp h1 c hc
  rcases Bool.eq_false_or_eq_true (isCode c) with hi | hi
  · exact h2 c (List.mem_filter.mpr ⟨hc, hi⟩)
  · simpa [hi] using h
set_option maxRecDepth 65536 in
theorem w_c0 : (Jvm.Cond.code x code maxLocals ret).before args0 about1 = true := code_word (m := ⟨1, 1⟩) (meth := k1m1) (c := k1c1) (by decide +kernel) rfl rfl rfl (by decide +kernel)
set_option maxRecDepth 65536 in
theorem w_c1 : (Jvm.Cond.code ({ cls := "com/example/graded_search/gradedsearch/engine/Feedback", name := "<init>", desc := "()V" } : Jvm.MethodName) prog_18_method_1_code (1 : Nat) (Option.none : Option Jvm.ClassFile.FieldType)).before args0 about1 = true := code_word (m := ⟨2, 0⟩) (meth := k2m0) (c := k2c0) (by decide +kernel) rfl rfl rfl (by decide +kernel)
set_option maxRecDepth 65536 in
theorem w_c2 : (Jvm.Cond.code ({ cls := "java/lang/Object", name := "<init>", desc := "()V" } : Jvm.MethodName) object_method_1_code (1 : Nat) (Option.none : Option Jvm.ClassFile.FieldType)).before args0 about1 = true := code_word (m := ⟨0, 0⟩) (meth := k0m0) (c := k0c0) (by decide +kernel) rfl rfl rfl (by decide +kernel)
set_option maxRecDepth 65536 in
theorem w_c3 : (Jvm.Cond.code ({ cls := "com/example/graded_search/gradedsearch/engine/GfIof", name := "<init>", desc := "()V" } : Jvm.MethodName) prog_32_method_1_code (1 : Nat) (Option.none : Option Jvm.ClassFile.FieldType)).before args0 about1 = true := code_word (m := ⟨9, 0⟩) (meth := k9m0) (c := k9c0) (by decide +kernel) rfl rfl rfl (by decide +kernel)
set_option maxRecDepth 65536 in
theorem w_c4 : (Jvm.Cond.code ({ cls := "com/example/graded_search/gradedsearch/engine/RankingModel", name := "<init>", desc := "()V" } : Jvm.MethodName) prog_49_method_1_code (1 : Nat) (Option.none : Option Jvm.ClassFile.FieldType)).before args0 about1 = true := code_word (m := ⟨8, 0⟩) (meth := k8m0) (c := k8c0) (by decide +kernel) rfl rfl rfl (by decide +kernel)
set_option maxRecDepth 65536 in
theorem w_c5 : (Jvm.Cond.code ({ cls := "com/example/graded_search/gradedsearch/engine/Feedback", name := "model", desc := "()Lcom/example/graded_search/gradedsearch/engine/RankingModel;" } : Jvm.MethodName) prog_18_method_6_code (1 : Nat) (Option.some (Jvm.ClassFile.FieldType.object "com/example/graded_search/gradedsearch/engine/RankingModel"))).before args0 about1 = true := code_word (m := ⟨2, 4⟩) (meth := k2m4) (c := k2c4) (by decide +kernel) rfl rfl rfl (by decide +kernel)
set_option maxRecDepth 65536 in
theorem w_c6 : (Jvm.Cond.code ({ cls := "com/example/graded_search/gradedsearch/engine/Feedback", name := "form", desc := "()Lcom/example/graded_search/gradedsearch/engine/Feedback$Form;" } : Jvm.MethodName) prog_18_method_4_code (1 : Nat) (Option.some (Jvm.ClassFile.FieldType.object "com/example/graded_search/gradedsearch/engine/Feedback$Form"))).before args0 about1 = true := code_word (m := ⟨2, 3⟩) (meth := k2m3) (c := k2c3) (by decide +kernel) rfl rfl rfl (by decide +kernel)
set_option maxRecDepth 65536 in
theorem w_c7 : (Jvm.Cond.code ({ cls := "com/example/graded_search/gradedsearch/engine/Feedback", name := "expandTerms", desc := "(I)Lcom/example/graded_search/gradedsearch/engine/Feedback;" } : Jvm.MethodName) prog_18_method_3_code (2 : Nat) (Option.some (Jvm.ClassFile.FieldType.object "com/example/graded_search/gradedsearch/engine/Feedback"))).before args0 about1 = true := code_word (m := ⟨2, 2⟩) (meth := k2m2) (c := k2c2) (by decide +kernel) rfl rfl rfl (by decide +kernel)
set_option maxRecDepth 65536 in
theorem w_c8 : (Jvm.Cond.code ({ cls := "com/example/graded_search/gradedsearch/engine/Feedback", name := "expandTerms", desc := "()I" } : Jvm.MethodName) prog_18_method_2_code (1 : Nat) (Option.some Jvm.ClassFile.FieldType.int)).before args0 about1 = true := code_word (m := ⟨2, 1⟩) (meth := k2m1) (c := k2c1) (by decide +kernel) rfl rfl rfl (by decide +kernel)
def codes1 : List Jvm.Cond := [Jvm.Cond.code x code maxLocals ret, Jvm.Cond.code ({ cls := "com/example/graded_search/gradedsearch/engine/Feedback", name := "<init>", desc := "()V" } : Jvm.MethodName) prog_18_method_1_code (1 : Nat) (Option.none : Option Jvm.ClassFile.FieldType), Jvm.Cond.code ({ cls := "java/lang/Object", name := "<init>", desc := "()V" } : Jvm.MethodName) object_method_1_code (1 : Nat) (Option.none : Option Jvm.ClassFile.FieldType), Jvm.Cond.code ({ cls := "com/example/graded_search/gradedsearch/engine/GfIof", name := "<init>", desc := "()V" } : Jvm.MethodName) prog_32_method_1_code (1 : Nat) (Option.none : Option Jvm.ClassFile.FieldType), Jvm.Cond.code ({ cls := "com/example/graded_search/gradedsearch/engine/RankingModel", name := "<init>", desc := "()V" } : Jvm.MethodName) prog_49_method_1_code (1 : Nat) (Option.none : Option Jvm.ClassFile.FieldType), Jvm.Cond.code ({ cls := "com/example/graded_search/gradedsearch/engine/Feedback", name := "model", desc := "()Lcom/example/graded_search/gradedsearch/engine/RankingModel;" } : Jvm.MethodName) prog_18_method_6_code (1 : Nat) (Option.some (Jvm.ClassFile.FieldType.object "com/example/graded_search/gradedsearch/engine/RankingModel")), Jvm.Cond.code ({ cls := "com/example/graded_search/gradedsearch/engine/Feedback", name := "form", desc := "()Lcom/example/graded_search/gradedsearch/engine/Feedback$Form;" } : Jvm.MethodName) prog_18_method_4_code (1 : Nat) (Option.some (Jvm.ClassFile.FieldType.object "com/example/graded_search/gradedsearch/engine/Feedback$Form")), Jvm.Cond.code ({ cls := "com/example/graded_search/gradedsearch/engine/Feedback", name := "expandTerms", desc := "(I)Lcom/example/graded_search/gradedsearch/engine/Feedback;" } : Jvm.MethodName) prog_18_method_3_code (2 : Nat) (Option.some (Jvm.ClassFile.FieldType.object "com/example/graded_search/gradedsearch/engine/Feedback")), Jvm.Cond.code ({ cls := "com/example/graded_search/gradedsearch/engine/Feedback", name := "expandTerms", desc := "()I" } : Jvm.MethodName) prog_18_method_2_code (1 : Nat) (Option.some Jvm.ClassFile.FieldType.int)]
set_option maxRecDepth 65536 in
theorem codes_eq : words1.filter isCode = codes1 := rfl
theorem w_codes : ∀ c ∈ words1.filter isCode, c.before args0 about1 = true := by
  rw [codes_eq]
  intro c hc
  simp only [codes1, List.mem_cons, List.not_mem_nil, or_false] at hc
  rcases hc with rfl | rfl | rfl | rfl | rfl | rfl | rfl | rfl | rfl
  · exact w_c0
  · exact w_c1
  · exact w_c2
  · exact w_c3
  · exact w_c4
  · exact w_c5
  · exact w_c6
  · exact w_c7
  · exact w_c8
set_option maxRecDepth 65536 in
theorem w_t1 : (words1.take 24).all (fun c => isCode c || c.before args0 about1) = true := by decide +kernel
set_option maxRecDepth 65536 in
theorem w_t2 : ((words1.drop 24).take 24).all (fun c => isCode c || c.before args0 about1) = true := by decide +kernel
set_option maxRecDepth 65536 in
theorem w_t3 : ((words1.drop 24).drop 24).all (fun c => isCode c || c.before args0 about1) = true := by decide +kernel
theorem w_tables : (allAtoms (Jvm.Cond.code x code maxLocals ret :: tables_1)).before args0 about1 = true := by
  rw [allAtoms_all]
  show words1.all (fun c => c.before args0 about1) = true
  refine all_split ?_ w_codes
  rw [← List.take_append_drop 24 words1, List.all_append, w_t1, ← List.take_append_drop 24 (words1.drop 24), List.all_append, w_t2, w_t3]
  rfl
set_option maxRecDepth 65536 in
theorem w_case : (Jvm.Cond.and given_1 narrow_1).before args0 about1 = true := by decide +kernel
theorem w_applies : (headSpec (Jvm.Cond.code x code maxLocals ret :: tables_1) room_1).applies x e0.platform about1 = true :=
  (Spec.applies_iff w_frames).mpr ⟨w_running, w_runnable, w_alone, w_named, w_hears, w_ripe, w_room, w_tables⟩
theorem atStart : AtStart classFile x code maxLocals ret World_1 tables_1 room_1 Calls_1 rest_1 Pre_1 launch0 p0 e0 about1 theMethod args0 below0 :=
  ⟨lists_1, trivial, launch0.admits_env _ _ _, launch0.least_env, fairChoices_fair.cas, fairChoices_fair.clock, w_frames, w_args, w_heap, w_applies, trivial, trivial, w_case⟩
end start1
theorem witness_1 : WitnessClaimed_1 := ⟨start1.p0, start1.e0, start1.about1, start1.theMethod, start1.args0, start1.below0, start1.atStart⟩
end Jvm.Pilot.@@N@@
