import JvmDerived
import JvmDerived.Pilot.@@N@@Statement
import JvmDerived.Pilot.@@N@@Code
set_option linter.unusedVariables false
set_option linter.unusedSimpArgs false
namespace Jvm.Pilot.@@N@@
open Jvm Jvm.ClassFile Sem Op Lib Jvm.Free Jvm.Stand Jvm.LawKit Jvm.RoadKit Bundle Jvm.Pilot.@@N@@.Jvm.D
section OwnKit
variable {p : Program} {l : Launch} {e : Env} {R : Room} {s : State} {m : MethodId} {args : Array Value} {below : List Frame} {meth : Method} {c : Code} {T : State} {locs : List Loc} {cells slots kc ks : Nat} {Q : Option Value → Heap → List Loc → Prop} {A B : State}
/-- the rest of a walk: from the state A the run comes to a return that Q describes -/
def OW (p : Program) (e : Env) (below : List Frame) (s : State) (Q : Option Value → Heap → List Loc → Prop) (kc ks : Nat) (A : State) : Prop :=
  ∃ s₂ o, Steps p.tables e below A s₂ ∧ s₂.status = .running ∧ Ended s₂ below o ∧ ∃ v L, o = .returned v ∧ Q v s₂.heap L ∧ FrameEnd s o s₂ L kc ks
theorem OW.st (h : ∀ t, Steps p.tables e below B t → Steps p.tables e below A t) (k : OW p e below s Q kc ks B) : OW p e below s Q kc ks A := by
  obtain ⟨a, o, h1, h2⟩ := k; exact ⟨a, o, h _ h1, h2⟩
theorem OW.tr (h : Steps p.tables e below A B) (k : OW p e below s Q kc ks B) : OW p e below s Q kc ks A := by
  obtain ⟨a, o, h1, h2⟩ := k; exact ⟨a, o, h.trans h1, h2⟩
theorem OW.ret (X : Stand p l e R s m args below meth c T locs cells slots) (hx : p.tables.exec = Jvm.exec) (hlk : meth.locks = false) {pc : Nat} {Ls : Array Slot} {w : Value} {t : FieldType} {i : Instr} {rest : List Value} (hret : meth.sig.returnType = some t) (hn : narrow t w = w)
    (hi : (i = .ireturn ∧ (t = .int ∨ t = .boolean ∨ t = .byte ∨ t = .char ∨ t = .short) ∧ ∃ z, w = .int z) ∨ (i = .lreturn ∧ t = .long ∧ ∃ z, w = .long z) ∨ (i = .dreturn ∧ t = .double ∧ ∃ z, w = .double z) ∨ (i = .freturn ∧ t = .float ∧ ∃ z, w = .float z) ∨ (i = .areturn ∧ t.isReference = true ∧ w.isRef = true))
    (hd : decode c.code pc = .ok (i, 1)) {h : Heap} (eT : T.heap = h) (hc : cells ≤ kc) (hs : slots ≤ ks) (q : Q (some w) h locs) : OW p e below s Q kc ks (T.setTop (mkF m pc Ls (w :: rest))) := by
  obtain ⟨fs, hr, hrun, hended, hW, hsame⟩ := X.leave (v := some w) (fun h => by rw [hret] at h; cases h) hlk
  subst eT
  exact ⟨_, _, retOut X hx hret hn hi hd hr, hrun, hended, _, _, rfl, q, ⟨_, rfl⟩, hW, hsame.mono hc hs⟩
theorem OW.retV (X : Stand p l e R s m args below meth c T locs cells slots) (hx : p.tables.exec = Jvm.exec) (hlk : meth.locks = false) {pc : Nat} {Ls : Array Slot} (hret : meth.sig.returnType = none)
    (hd : decode c.code pc = .ok (.return_, 1)) {h : Heap} (eT : T.heap = h) (hc : cells ≤ kc) (hs : slots ≤ ks) (q : Q none h locs) : OW p e below s Q kc ks (T.setTop (mkF m pc Ls [])) := by
  obtain ⟨fs, hr, hrun, hended, hW, hsame⟩ := X.leave (v := none) (fun _ => rfl) hlk
  subst eT
  exact ⟨_, _, X.returnOut hx hret hd hr, hrun, hended, _, _, rfl, q, ⟨_, rfl⟩, hW, hsame.mono hc hs⟩
/-- the same for a walk that may intern: its Stand is over 's.setVm vm0' -/
def OWW (p : Program) (e : Env) (below : List Frame) (s : State) (Q : Option Value → Heap → List Loc → Prop) (kc ks : Nat) (A : State) : Prop :=
  ∃ s₂ o, Steps p.tables e below A s₂ ∧ s₂.status = .running ∧ Ended s₂ below o ∧ ∃ v L, o = .returned v ∧ Q v s₂.heap L ∧ ReturnedEndW s o s₂ L kc ks
theorem OWW.st (h : ∀ t, Steps p.tables e below B t → Steps p.tables e below A t) (k : OWW p e below s Q kc ks B) : OWW p e below s Q kc ks A := by
  obtain ⟨a, o, h1, h2⟩ := k; exact ⟨a, o, h _ h1, h2⟩
theorem OWW.tr (h : Steps p.tables e below A B) (k : OWW p e below s Q kc ks B) : OWW p e below s Q kc ks A := by
  obtain ⟨a, o, h1, h2⟩ := k; exact ⟨a, o, h.trans h1, h2⟩
theorem OWW.ret {vm0 : Vm} {k0 : Nat} (X : Stand p l e R (s.setVm vm0) m args below meth c T locs cells slots) {h : Heap} (hS : s.Since vm0 k0) (hk : k0 ≤ h.size) (hx : p.tables.exec = Jvm.exec) (hlk : meth.locks = false) {pc : Nat} {Ls : Array Slot} {w : Value} {t : FieldType} {i : Instr} {rest : List Value} (hret : meth.sig.returnType = some t) (hn : narrow t w = w)
    (hi : (i = .ireturn ∧ (t = .int ∨ t = .boolean ∨ t = .byte ∨ t = .char ∨ t = .short) ∧ ∃ z, w = .int z) ∨ (i = .lreturn ∧ t = .long ∧ ∃ z, w = .long z) ∨ (i = .dreturn ∧ t = .double ∧ ∃ z, w = .double z) ∨ (i = .freturn ∧ t = .float ∧ ∃ z, w = .float z) ∨ (i = .areturn ∧ t.isReference = true ∧ w.isRef = true))
    (hd : decode c.code pc = .ok (i, 1)) (eT : T.heap = h) (hc : cells ≤ kc) (hs : slots ≤ ks) (q : Q (some w) h locs) : OWW p e below s Q kc ks (T.setTop (mkF m pc Ls (w :: rest))) := by
  obtain ⟨fs, hr, hrun, hended, hW, hsame⟩ := X.leave (v := some w) (fun h => by rw [hret] at h; cases h) hlk
  subst eT
  obtain ⟨g1, g2, g3⟩ := hS.ended (U := T.setFrames fs) hW hk hsame
  exact ⟨_, _, retOut X hx hret hn hi hd hr, hrun, hended, _, _, rfl, q, ⟨_, rfl⟩, g1, g2, g3.mono hc hs⟩
theorem OWW.retV {vm0 : Vm} {k0 : Nat} (X : Stand p l e R (s.setVm vm0) m args below meth c T locs cells slots) {h : Heap} (hS : s.Since vm0 k0) (hk : k0 ≤ h.size) (hx : p.tables.exec = Jvm.exec) (hlk : meth.locks = false) {pc : Nat} {Ls : Array Slot} (hret : meth.sig.returnType = none)
    (hd : decode c.code pc = .ok (.return_, 1)) (eT : T.heap = h) (hc : cells ≤ kc) (hs : slots ≤ ks) (q : Q none h locs) : OWW p e below s Q kc ks (T.setTop (mkF m pc Ls [])) := by
  obtain ⟨fs, hr, hrun, hended, hW, hsame⟩ := X.leave (v := none) (fun _ => rfl) hlk
  subst eT
  obtain ⟨g1, g2, g3⟩ := hS.ended (U := T.setFrames fs) hW hk hsame
  exact ⟨_, _, X.returnOut hx hret hd hr, hrun, hended, _, _, rfl, q, ⟨_, rfl⟩, g1, g2, g3.mono hc hs⟩
end OwnKit
section OwnWords
variable {args : Array Value} {first s : State} {o : Option Outcome} {idx : List Nat} {t : Term}
theorem own_eq_int {k : Int32} (h : (Jvm.Cond.eq t (.int k)).value args first o s idx = some true) : t.eval args first o idx s = some (.int k) := by
  obtain ⟨x, y, h1, h2, k1, k2⟩ := cmp_v (Or.inl h)
  rw [Term.int_eval] at h2
  cases h2
  obtain ⟨z, rfl⟩ := k2
  rw [h1, gotT (Cond.eq_ints h1 (Term.int_eval k)) h]
theorem own_eq_ref {u : Term} {a : Addr} (h : (Jvm.Cond.eq t u).value args first o s idx = some true) (hu : u.eval args first o idx s = some (.ref a)) : t.eval args first o idx s = some (.ref a) := by
  obtain ⟨x, y, h1, h2, k1, k2⟩ := cmp_v (Or.inl h)
  cases hu.symm.trans h2
  have q := gotT (eq_R h1 hu k2.2 rfl) h
  rw [h1, q]
theorem own_arr {ty : FieldType} {a : Addr} {z : Int32} (ev : t.eval args s none [] s = some (.ref a)) (ha : (Jvm.Cond.arrayOf t ty).value args s none s [] = some true) (hl : (Term.length t).eval args s none [] s = some (.int z)) :
    ∃ cl : Cell, Arr s s.heap a cl ty ∧ cl.slots.size < 2 ^ 31 ∧ cl.slots.size.toInt32 = z ∧ ∀ j : Int32, ¬ j < 0 → ∀ v, (Term.elem t (.int j)).eval args s none [] s = some v → cl.slots[j.toNatClampNeg]? = some v := by
  obtain ⟨cl, A⟩ := Arr.start ev ha
  have hat := A.fin (Vm.Alike.refl _)
  have hlt : cl.slots.size < 2 ^ 31 := by
    refine Decidable.byContradiction fun q => ?_
    simp [Term.eval, ev, hat, q] at hl
  refine ⟨cl, A, hlt, ?_, fun j hj v hv => ?_⟩
  · rw [len_f ev hat hlt] at hl; exact Value.int.inj (Option.some.inj hl)
  · rw [elem_f ev (Term.int_eval j) hat hj] at hv; exact hv
end OwnWords
theorem own_oldle {Z : State} {n0 : Nat} {h : Heap} (X : Old Z n0 h) : n0 ≤ h.size := X.1 ▸ X.2.1
theorem own_cat {v : Value} (h : v.isRef = true) : v.category = 1 := by cases v <;> first | rfl | simp [Value.isRef] at h
theorem own_nar {v : Value} {t : FieldType} (h : v.isRef = true) (ht : t.isReference = true) : narrow t v = v := by cases t <;> first | (cases ht; done) | (cases v <;> first | rfl | simp [Value.isRef] at h)
theorem own_fit {v : Value} {t : FieldType} (h : v.isRef = true) (ht : t.isReference = true) : fits t v = true := by cases t <;> first | (cases ht; done) | (cases v <;> first | rfl | simp [Value.isRef] at h)

theorem own_nz {r : Int32} (h : r = 0 ∨ r = 1) : narrow .boolean (.int r) = .int r := by rcases h with rfl | rfl <;> rfl
theorem own_fz {r : Int32} (h : r = 0 ∨ r = 1) : fits .boolean (.int r) = true := by rcases h with rfl | rfl <;> rfl
theorem w_0 {a0 : Array Value} {Z : State} (hw : ∀ d ∈ tables_1, d.before a0 Z = true) : (Jvm.Cond.constant "com/example/tileburgh/tileburgh/model/ConstructionKindIsParkPinLaw" (28 : Nat) (2147483647 : Int32)).before a0 Z = true := hw _ (List.mem_of_getElem? (i := 0) rfl)
theorem w_1 {a0 : Array Value} {Z : State} (hw : ∀ d ∈ tables_1, d.before a0 Z = true) : (Jvm.Cond.methodLink "com/example/tileburgh/tileburgh/model/ConstructionKindIsParkPinLaw" (29 : Nat) ({ cls := "com/example/tileburgh/tileburgh/model/ConstructionKindIsParkPinLaw", name := "pick", desc := "(I)Lcom/example/tileburgh/tileburgh/model/ConstructionKind;" } : Jvm.MethodName)).before a0 Z = true := hw _ (List.mem_of_getElem? (i := 1) rfl)
theorem w_2 {a0 : Array Value} {Z : State} (hw : ∀ d ∈ tables_1, d.before a0 Z = true) : (Jvm.Cond.static ({ cls := "com/example/tileburgh/tileburgh/model/ConstructionKindIsParkPinLaw", name := "pick", desc := "(I)Lcom/example/tileburgh/tileburgh/model/ConstructionKind;" } : Jvm.MethodName)).before a0 Z = true := hw _ (List.mem_of_getElem? (i := 2) rfl)
theorem w_3 {a0 : Array Value} {Z : State} (hw : ∀ d ∈ tables_1, d.before a0 Z = true) : (Jvm.Cond.initialized "com/example/tileburgh/tileburgh/model/ConstructionKindIsParkPinLaw").before a0 Z = true := hw _ (List.mem_of_getElem? (i := 3) rfl)
theorem w_4 {a0 : Array Value} {Z : State} (hw : ∀ d ∈ tables_1, d.before a0 Z = true) : (Jvm.Cond.code ({ cls := "com/example/tileburgh/tileburgh/model/ConstructionKindIsParkPinLaw", name := "pick", desc := "(I)Lcom/example/tileburgh/tileburgh/model/ConstructionKind;" } : Jvm.MethodName) method_2_code (1 : Nat) (Option.some (Jvm.ClassFile.FieldType.object "com/example/tileburgh/tileburgh/model/ConstructionKind"))).before a0 Z = true := hw _ (List.mem_of_getElem? (i := 4) rfl)
theorem w_5 {a0 : Array Value} {Z : State} (hw : ∀ d ∈ tables_1, d.before a0 Z = true) : (Jvm.Cond.fieldLink "com/example/tileburgh/tileburgh/model/ConstructionKindIsParkPinLaw" (7 : Nat) "com/example/tileburgh/tileburgh/model/ConstructionKind" "LOW_COST" "Lcom/example/tileburgh/tileburgh/model/ConstructionKind;").before a0 Z = true := hw _ (List.mem_of_getElem? (i := 5) rfl)
theorem w_6 {a0 : Array Value} {Z : State} (hw : ∀ d ∈ tables_1, d.before a0 Z = true) : (Jvm.Cond.initialized "com/example/tileburgh/tileburgh/model/ConstructionKind").before a0 Z = true := hw _ (List.mem_of_getElem? (i := 6) rfl)
theorem w_7 {a0 : Array Value} {Z : State} (hw : ∀ d ∈ tables_1, d.before a0 Z = true) : (Jvm.Cond.laysStatic "com/example/tileburgh/tileburgh/model/ConstructionKind" "LOW_COST" "Lcom/example/tileburgh/tileburgh/model/ConstructionKind;").before a0 Z = true := hw _ (List.mem_of_getElem? (i := 7) rfl)
theorem w_8 {a0 : Array Value} {Z : State} (hw : ∀ d ∈ tables_1, d.before a0 Z = true) : (Jvm.Cond.methodLink "com/example/tileburgh/tileburgh/model/ConstructionKindIsParkPinLaw" (35 : Nat) ({ cls := "com/example/tileburgh/tileburgh/model/ConstructionKind", name := "isPark", desc := "()Z" } : Jvm.MethodName)).before a0 Z = true := hw _ (List.mem_of_getElem? (i := 8) rfl)
theorem w_9 {a0 : Array Value} {Z : State} (hw : ∀ d ∈ tables_1, d.before a0 Z = true) : (Jvm.Cond.declares ({ cls := "com/example/tileburgh/tileburgh/model/ConstructionKind", name := "isPark", desc := "()Z" } : Jvm.MethodName)).before a0 Z = true := hw _ (List.mem_of_getElem? (i := 9) rfl)
theorem w_10 {a0 : Array Value} {Z : State} (hw : ∀ d ∈ tables_1, d.before a0 Z = true) : (Jvm.Cond.instanceMethod ({ cls := "com/example/tileburgh/tileburgh/model/ConstructionKind", name := "isPark", desc := "()Z" } : Jvm.MethodName)).before a0 Z = true := hw _ (List.mem_of_getElem? (i := 10) rfl)
theorem w_11 {a0 : Array Value} {Z : State} (hw : ∀ d ∈ tables_1, d.before a0 Z = true) : (Jvm.Cond.selects "com/example/tileburgh/tileburgh/model/ConstructionKind" ({ cls := "com/example/tileburgh/tileburgh/model/ConstructionKind", name := "isPark", desc := "()Z" } : Jvm.MethodName) ({ cls := "com/example/tileburgh/tileburgh/model/ConstructionKind", name := "isPark", desc := "()Z" } : Jvm.MethodName)).before a0 Z = true := hw _ (List.mem_of_getElem? (i := 11) rfl)
theorem w_12 {a0 : Array Value} {Z : State} (hw : ∀ d ∈ tables_1, d.before a0 Z = true) : (Jvm.Cond.code ({ cls := "com/example/tileburgh/tileburgh/model/ConstructionKind", name := "isPark", desc := "()Z" } : Jvm.MethodName) prog_14_method_7_code (1 : Nat) (Option.some Jvm.ClassFile.FieldType.boolean)).before a0 Z = true := hw _ (List.mem_of_getElem? (i := 12) rfl)
theorem w_13 {a0 : Array Value} {Z : State} (hw : ∀ d ∈ tables_1, d.before a0 Z = true) : (Jvm.Cond.fieldLink "com/example/tileburgh/tileburgh/model/ConstructionKind" (16 : Nat) "com/example/tileburgh/tileburgh/model/ConstructionKind" "GREENSPACE" "Lcom/example/tileburgh/tileburgh/model/ConstructionKind;").before a0 Z = true := hw _ (List.mem_of_getElem? (i := 13) rfl)
theorem w_14 {a0 : Array Value} {Z : State} (hw : ∀ d ∈ tables_1, d.before a0 Z = true) : (Jvm.Cond.laysStatic "com/example/tileburgh/tileburgh/model/ConstructionKind" "GREENSPACE" "Lcom/example/tileburgh/tileburgh/model/ConstructionKind;").before a0 Z = true := hw _ (List.mem_of_getElem? (i := 14) rfl)
theorem w_15 {a0 : Array Value} {Z : State} (hw : ∀ d ∈ tables_1, d.before a0 Z = true) : (Jvm.Cond.fieldLink "com/example/tileburgh/tileburgh/model/ConstructionKind" (19 : Nat) "com/example/tileburgh/tileburgh/model/ConstructionKind" "ECO_PARK" "Lcom/example/tileburgh/tileburgh/model/ConstructionKind;").before a0 Z = true := hw _ (List.mem_of_getElem? (i := 15) rfl)
theorem w_16 {a0 : Array Value} {Z : State} (hw : ∀ d ∈ tables_1, d.before a0 Z = true) : (Jvm.Cond.laysStatic "com/example/tileburgh/tileburgh/model/ConstructionKind" "ECO_PARK" "Lcom/example/tileburgh/tileburgh/model/ConstructionKind;").before a0 Z = true := hw _ (List.mem_of_getElem? (i := 16) rfl)
theorem w_17 {a0 : Array Value} {Z : State} (hw : ∀ d ∈ tables_1, d.before a0 Z = true) : (Jvm.Cond.methodLink "com/example/tileburgh/tileburgh/model/ConstructionKindIsParkPinLaw" (39 : Nat) ({ cls := "com/example/tileburgh/tileburgh/model/ConstructionKind", name := "takesRenter", desc := "()Z" } : Jvm.MethodName)).before a0 Z = true := hw _ (List.mem_of_getElem? (i := 17) rfl)
theorem w_18 {a0 : Array Value} {Z : State} (hw : ∀ d ∈ tables_1, d.before a0 Z = true) : (Jvm.Cond.declares ({ cls := "com/example/tileburgh/tileburgh/model/ConstructionKind", name := "takesRenter", desc := "()Z" } : Jvm.MethodName)).before a0 Z = true := hw _ (List.mem_of_getElem? (i := 18) rfl)
theorem w_19 {a0 : Array Value} {Z : State} (hw : ∀ d ∈ tables_1, d.before a0 Z = true) : (Jvm.Cond.instanceMethod ({ cls := "com/example/tileburgh/tileburgh/model/ConstructionKind", name := "takesRenter", desc := "()Z" } : Jvm.MethodName)).before a0 Z = true := hw _ (List.mem_of_getElem? (i := 19) rfl)
theorem w_20 {a0 : Array Value} {Z : State} (hw : ∀ d ∈ tables_1, d.before a0 Z = true) : (Jvm.Cond.selects "com/example/tileburgh/tileburgh/model/ConstructionKind" ({ cls := "com/example/tileburgh/tileburgh/model/ConstructionKind", name := "takesRenter", desc := "()Z" } : Jvm.MethodName) ({ cls := "com/example/tileburgh/tileburgh/model/ConstructionKind", name := "takesRenter", desc := "()Z" } : Jvm.MethodName)).before a0 Z = true := hw _ (List.mem_of_getElem? (i := 20) rfl)
theorem w_21 {a0 : Array Value} {Z : State} (hw : ∀ d ∈ tables_1, d.before a0 Z = true) : (Jvm.Cond.code ({ cls := "com/example/tileburgh/tileburgh/model/ConstructionKind", name := "takesRenter", desc := "()Z" } : Jvm.MethodName) prog_14_method_6_code (1 : Nat) (Option.some Jvm.ClassFile.FieldType.boolean)).before a0 Z = true := hw _ (List.mem_of_getElem? (i := 21) rfl)
theorem w_22 {a0 : Array Value} {Z : State} (hw : ∀ d ∈ tables_1, d.before a0 Z = true) : (Jvm.Cond.fieldLink "com/example/tileburgh/tileburgh/model/ConstructionKind" (3 : Nat) "com/example/tileburgh/tileburgh/model/ConstructionKind" "LOW_COST" "Lcom/example/tileburgh/tileburgh/model/ConstructionKind;").before a0 Z = true := hw _ (List.mem_of_getElem? (i := 22) rfl)
theorem w_23 {a0 : Array Value} {Z : State} (hw : ∀ d ∈ tables_1, d.before a0 Z = true) : (Jvm.Cond.fieldLink "com/example/tileburgh/tileburgh/model/ConstructionKindIsParkPinLaw" (19 : Nat) "com/example/tileburgh/tileburgh/model/ConstructionKind" "SHOPPING" "Lcom/example/tileburgh/tileburgh/model/ConstructionKind;").before a0 Z = true := hw _ (List.mem_of_getElem? (i := 23) rfl)
theorem w_24 {a0 : Array Value} {Z : State} (hw : ∀ d ∈ tables_1, d.before a0 Z = true) : (Jvm.Cond.laysStatic "com/example/tileburgh/tileburgh/model/ConstructionKind" "SHOPPING" "Lcom/example/tileburgh/tileburgh/model/ConstructionKind;").before a0 Z = true := hw _ (List.mem_of_getElem? (i := 24) rfl)
theorem w_25 {a0 : Array Value} {Z : State} (hw : ∀ d ∈ tables_1, d.before a0 Z = true) : (Jvm.Cond.fieldLink "com/example/tileburgh/tileburgh/model/ConstructionKind" (7 : Nat) "com/example/tileburgh/tileburgh/model/ConstructionKind" "CONVENTIONAL" "Lcom/example/tileburgh/tileburgh/model/ConstructionKind;").before a0 Z = true := hw _ (List.mem_of_getElem? (i := 25) rfl)
theorem w_26 {a0 : Array Value} {Z : State} (hw : ∀ d ∈ tables_1, d.before a0 Z = true) : (Jvm.Cond.laysStatic "com/example/tileburgh/tileburgh/model/ConstructionKind" "CONVENTIONAL" "Lcom/example/tileburgh/tileburgh/model/ConstructionKind;").before a0 Z = true := hw _ (List.mem_of_getElem? (i := 26) rfl)
theorem w_27 {a0 : Array Value} {Z : State} (hw : ∀ d ∈ tables_1, d.before a0 Z = true) : (Jvm.Cond.fieldLink "com/example/tileburgh/tileburgh/model/ConstructionKind" (10 : Nat) "com/example/tileburgh/tileburgh/model/ConstructionKind" "GREEN" "Lcom/example/tileburgh/tileburgh/model/ConstructionKind;").before a0 Z = true := hw _ (List.mem_of_getElem? (i := 27) rfl)
theorem w_28 {a0 : Array Value} {Z : State} (hw : ∀ d ∈ tables_1, d.before a0 Z = true) : (Jvm.Cond.laysStatic "com/example/tileburgh/tileburgh/model/ConstructionKind" "GREEN" "Lcom/example/tileburgh/tileburgh/model/ConstructionKind;").before a0 Z = true := hw _ (List.mem_of_getElem? (i := 28) rfl)
theorem w_29 {a0 : Array Value} {Z : State} (hw : ∀ d ∈ tables_1, d.before a0 Z = true) : (Jvm.Cond.fieldLink "com/example/tileburgh/tileburgh/model/ConstructionKindIsParkPinLaw" (16 : Nat) "com/example/tileburgh/tileburgh/model/ConstructionKind" "GREEN" "Lcom/example/tileburgh/tileburgh/model/ConstructionKind;").before a0 Z = true := hw _ (List.mem_of_getElem? (i := 29) rfl)
theorem w_30 {a0 : Array Value} {Z : State} (hw : ∀ d ∈ tables_1, d.before a0 Z = true) : (Jvm.Cond.fieldLink "com/example/tileburgh/tileburgh/model/ConstructionKindIsParkPinLaw" (13 : Nat) "com/example/tileburgh/tileburgh/model/ConstructionKind" "CONVENTIONAL" "Lcom/example/tileburgh/tileburgh/model/ConstructionKind;").before a0 Z = true := hw _ (List.mem_of_getElem? (i := 30) rfl)
theorem w_31 {a0 : Array Value} {Z : State} (hw : ∀ d ∈ tables_1, d.before a0 Z = true) : (Jvm.Cond.fieldLink "com/example/tileburgh/tileburgh/model/ConstructionKindIsParkPinLaw" (25 : Nat) "com/example/tileburgh/tileburgh/model/ConstructionKind" "ECO_PARK" "Lcom/example/tileburgh/tileburgh/model/ConstructionKind;").before a0 Z = true := hw _ (List.mem_of_getElem? (i := 31) rfl)
theorem w_32 {a0 : Array Value} {Z : State} (hw : ∀ d ∈ tables_1, d.before a0 Z = true) : (Jvm.Cond.fieldLink "com/example/tileburgh/tileburgh/model/ConstructionKindIsParkPinLaw" (22 : Nat) "com/example/tileburgh/tileburgh/model/ConstructionKind" "GREENSPACE" "Lcom/example/tileburgh/tileburgh/model/ConstructionKind;").before a0 Z = true := hw _ (List.mem_of_getElem? (i := 32) rfl)
theorem d1_0 : decode method_2_code 0 = .ok (.iload_n 0, 1) := by decide +kernel
theorem d1_1 : decode method_2_code 1 = .ok (.ifCond .ne 7, 3) := by decide +kernel
theorem d1_4 : decode method_2_code 4 = .ok (.getstatic 7, 3) := by decide +kernel
theorem d1_7 : decode method_2_code 7 = .ok (.areturn, 1) := by decide +kernel
theorem d1_8 : decode method_2_code 8 = .ok (.iload_n 0, 1) := by decide +kernel
theorem d1_9 : decode method_2_code 9 = .ok (.iconst 1, 1) := by decide +kernel
theorem d1_10 : decode method_2_code 10 = .ok (.if_icmp .ne 7, 3) := by decide +kernel
theorem d1_13 : decode method_2_code 13 = .ok (.getstatic 13, 3) := by decide +kernel
theorem d1_16 : decode method_2_code 16 = .ok (.areturn, 1) := by decide +kernel
theorem d1_17 : decode method_2_code 17 = .ok (.iload_n 0, 1) := by decide +kernel
theorem d1_18 : decode method_2_code 18 = .ok (.iconst 2, 1) := by decide +kernel
theorem d1_19 : decode method_2_code 19 = .ok (.if_icmp .ne 7, 3) := by decide +kernel
theorem d1_22 : decode method_2_code 22 = .ok (.getstatic 16, 3) := by decide +kernel
theorem d1_25 : decode method_2_code 25 = .ok (.areturn, 1) := by decide +kernel
theorem d1_26 : decode method_2_code 26 = .ok (.iload_n 0, 1) := by decide +kernel
theorem d1_27 : decode method_2_code 27 = .ok (.iconst 3, 1) := by decide +kernel
theorem d1_28 : decode method_2_code 28 = .ok (.if_icmp .ne 7, 3) := by decide +kernel
theorem d1_31 : decode method_2_code 31 = .ok (.getstatic 19, 3) := by decide +kernel
theorem d1_34 : decode method_2_code 34 = .ok (.areturn, 1) := by decide +kernel
theorem d1_35 : decode method_2_code 35 = .ok (.iload_n 0, 1) := by decide +kernel
theorem d1_36 : decode method_2_code 36 = .ok (.iconst 4, 1) := by decide +kernel
theorem d1_37 : decode method_2_code 37 = .ok (.if_icmp .ne 7, 3) := by decide +kernel
theorem d1_40 : decode method_2_code 40 = .ok (.getstatic 22, 3) := by decide +kernel
theorem d1_43 : decode method_2_code 43 = .ok (.areturn, 1) := by decide +kernel
theorem d1_44 : decode method_2_code 44 = .ok (.getstatic 25, 3) := by decide +kernel
theorem d1_47 : decode method_2_code 47 = .ok (.areturn, 1) := by decide +kernel
theorem d2_0 : decode prog_14_method_7_code 0 = .ok (.aload_n 0, 1) := by decide +kernel
theorem d2_1 : decode prog_14_method_7_code 1 = .ok (.getstatic 16, 3) := by decide +kernel
theorem d2_4 : decode prog_14_method_7_code 4 = .ok (.if_acmp .eq 10, 3) := by decide +kernel
theorem d2_7 : decode prog_14_method_7_code 7 = .ok (.aload_n 0, 1) := by decide +kernel
theorem d2_8 : decode prog_14_method_7_code 8 = .ok (.getstatic 19, 3) := by decide +kernel
theorem d2_11 : decode prog_14_method_7_code 11 = .ok (.if_acmp .ne 7, 3) := by decide +kernel
theorem d2_14 : decode prog_14_method_7_code 14 = .ok (.iconst 1, 1) := by decide +kernel
theorem d2_15 : decode prog_14_method_7_code 15 = .ok (.goto 4, 3) := by decide +kernel
theorem d2_18 : decode prog_14_method_7_code 18 = .ok (.iconst 0, 1) := by decide +kernel
theorem d2_19 : decode prog_14_method_7_code 19 = .ok (.ireturn, 1) := by decide +kernel
theorem d3_0 : decode prog_14_method_6_code 0 = .ok (.aload_n 0, 1) := by decide +kernel
theorem d3_1 : decode prog_14_method_6_code 1 = .ok (.getstatic 3, 3) := by decide +kernel
theorem d3_4 : decode prog_14_method_6_code 4 = .ok (.if_acmp .eq 17, 3) := by decide +kernel
theorem d3_7 : decode prog_14_method_6_code 7 = .ok (.aload_n 0, 1) := by decide +kernel
theorem d3_8 : decode prog_14_method_6_code 8 = .ok (.getstatic 7, 3) := by decide +kernel
theorem d3_11 : decode prog_14_method_6_code 11 = .ok (.if_acmp .eq 10, 3) := by decide +kernel
theorem d3_14 : decode prog_14_method_6_code 14 = .ok (.aload_n 0, 1) := by decide +kernel
theorem d3_15 : decode prog_14_method_6_code 15 = .ok (.getstatic 10, 3) := by decide +kernel
theorem d3_18 : decode prog_14_method_6_code 18 = .ok (.if_acmp .ne 7, 3) := by decide +kernel
theorem d3_21 : decode prog_14_method_6_code 21 = .ok (.iconst 1, 1) := by decide +kernel
theorem d3_22 : decode prog_14_method_6_code 22 = .ok (.goto 4, 3) := by decide +kernel
theorem d3_25 : decode prog_14_method_6_code 25 = .ok (.iconst 0, 1) := by decide +kernel
theorem d3_26 : decode prog_14_method_6_code 26 = .ok (.ireturn, 1) := by decide +kernel
theorem pn_0 : plainName "com/example/tileburgh/tileburgh/model/ConstructionKindIsParkPinLaw" = true := by first | (simp [plainName, overriddenIn]; done) | decide +kernel
theorem pn_1 : plainName "com/example/tileburgh/tileburgh/model/ConstructionKind" = true := by first | (simp [plainName, overriddenIn]; done) | decide +kernel
theorem pd_0 : parseMethodDescriptor "(I)Lcom/example/tileburgh/tileburgh/model/ConstructionKind;" = some ⟨[.int], some (.object "com/example/tileburgh/tileburgh/model/ConstructionKind")⟩ := by decide +kernel
theorem pd_1 : parseMethodDescriptor "()Z" = some ⟨[], some .boolean⟩ := by decide +kernel
def OwnS (Z : State) (a_LOW_COST : Addr) (a_GREENSPACE : Addr) (a_ECO_PARK : Addr) (a_SHOPPING : Addr) (a_CONVENTIONAL : Addr) (a_GREEN : Addr) : Prop := (Sta Z Z.heap "com/example/tileburgh/tileburgh/model/ConstructionKind" "LOW_COST" "Lcom/example/tileburgh/tileburgh/model/ConstructionKind;" (.ref a_LOW_COST)) ∧ (Exa Z Z.heap a_LOW_COST "com/example/tileburgh/tileburgh/model/ConstructionKind") ∧ (Sta Z Z.heap "com/example/tileburgh/tileburgh/model/ConstructionKind" "GREENSPACE" "Lcom/example/tileburgh/tileburgh/model/ConstructionKind;" (.ref a_GREENSPACE)) ∧ (Exa Z Z.heap a_GREENSPACE "com/example/tileburgh/tileburgh/model/ConstructionKind") ∧ (Sta Z Z.heap "com/example/tileburgh/tileburgh/model/ConstructionKind" "ECO_PARK" "Lcom/example/tileburgh/tileburgh/model/ConstructionKind;" (.ref a_ECO_PARK)) ∧ (Exa Z Z.heap a_ECO_PARK "com/example/tileburgh/tileburgh/model/ConstructionKind") ∧ (Sta Z Z.heap "com/example/tileburgh/tileburgh/model/ConstructionKind" "SHOPPING" "Lcom/example/tileburgh/tileburgh/model/ConstructionKind;" (.ref a_SHOPPING)) ∧ (Exa Z Z.heap a_SHOPPING "com/example/tileburgh/tileburgh/model/ConstructionKind") ∧ (Sta Z Z.heap "com/example/tileburgh/tileburgh/model/ConstructionKind" "CONVENTIONAL" "Lcom/example/tileburgh/tileburgh/model/ConstructionKind;" (.ref a_CONVENTIONAL)) ∧ (Exa Z Z.heap a_CONVENTIONAL "com/example/tileburgh/tileburgh/model/ConstructionKind") ∧ (Sta Z Z.heap "com/example/tileburgh/tileburgh/model/ConstructionKind" "GREEN" "Lcom/example/tileburgh/tileburgh/model/ConstructionKind;" (.ref a_GREEN)) ∧ (Exa Z Z.heap a_GREEN "com/example/tileburgh/tileburgh/model/ConstructionKind") ∧ (Fld Z Z.heap a_LOW_COST "java/lang/Enum" "ordinal" "I" (.int (0 : Int32))) ∧ (Fld Z Z.heap a_GREENSPACE "java/lang/Enum" "ordinal" "I" (.int (4 : Int32))) ∧ (Fld Z Z.heap a_ECO_PARK "java/lang/Enum" "ordinal" "I" (.int (5 : Int32))) ∧ (Fld Z Z.heap a_SHOPPING "java/lang/Enum" "ordinal" "I" (.int (3 : Int32))) ∧ (Fld Z Z.heap a_CONVENTIONAL "java/lang/Enum" "ordinal" "I" (.int (1 : Int32))) ∧ (Fld Z Z.heap a_GREEN "java/lang/Enum" "ordinal" "I" (.int (2 : Int32)))
def own_pick (a0 a1 a2 a3 a4 a5 : Addr) (k : Int32) : Addr := if k = 0 then a0 else if k = 1 then a1 else if k = 2 then a2 else if k = 3 then a3 else if k = 4 then a4 else a5
theorem own_mod6 (x : Int32) : (x &&& 2147483647) % 6 = 0 ∨ (x &&& 2147483647) % 6 = 1 ∨ (x &&& 2147483647) % 6 = 2 ∨ (x &&& 2147483647) % 6 = 3 ∨ (x &&& 2147483647) % 6 = 4 ∨ (x &&& 2147483647) % 6 = 5 := by
  have h1 := (c_and x 2147483647 (by decide)).1
  have h2 := (c_irem (x &&& 2147483647) 6 6 (by decide)).1 h1
  have h3 : 0 ≤ ((x &&& 2147483647) % 6).toInt ∧ ((x &&& 2147483647) % 6).toInt < 6 := by rw [h2]; omega
  generalize (x &&& 2147483647) % 6 = k at h3
  have h4 : k.toInt = 0 ∨ k.toInt = 1 ∨ k.toInt = 2 ∨ k.toInt = 3 ∨ k.toInt = 4 ∨ k.toInt = 5 := by omega
  rcases h4 with h | h | h | h | h | h
  · exact Or.inl (Int32.toInt_inj.mp h)
  · exact Or.inr (Or.inl (Int32.toInt_inj.mp h))
  · exact Or.inr (Or.inr (Or.inl (Int32.toInt_inj.mp h)))
  · exact Or.inr (Or.inr (Or.inr (Or.inl (Int32.toInt_inj.mp h))))
  · exact Or.inr (Or.inr (Or.inr (Or.inr (Or.inl (Int32.toInt_inj.mp h)))))
  · exact Or.inr (Or.inr (Or.inr (Or.inr (Or.inr (Int32.toInt_inj.mp h)))))
theorem ef_P (m : MethodId) (x0 : Int32) : entryFrame m #[(.int x0)] 1 = mkF m 0 #[.val (.int x0)] [] := by first | (simp [entryFrame, mkF, argsToLocals, Value.category]; done) | rfl
def QP (Z : State) (k : Int32) (a_LOW_COST : Addr) (a_GREENSPACE : Addr) (a_ECO_PARK : Addr) (a_SHOPPING : Addr) (a_CONVENTIONAL : Addr) (a_GREEN : Addr) (h0 : Heap) (n0 : Nat) (v : Option Value) (h : Heap) (L : List Loc) : Prop := v = some (.ref (own_pick a_LOW_COST a_CONVENTIONAL a_GREEN a_SHOPPING a_GREENSPACE a_ECO_PARK k)) ∧ Fr n0 L ∧ h = h0
set_option maxRecDepth 65536 in
set_option maxHeartbeats 40000000 in
theorem rmP (l : Launch) (Z : State) (a0 : Array Value) (hw : ∀ d ∈ tables_1, d.before a0 Z = true) (ws : List Jvm.Cond) (k : Int32) (a_LOW_COST : Addr) (a_GREENSPACE : Addr) (a_ECO_PARK : Addr) (a_SHOPPING : Addr) (a_CONVENTIONAL : Addr) (a_GREEN : Addr) (h0 : Heap) (n0 : Nat) (O0 : Old Z n0 h0) (hS : OwnS Z a_LOW_COST a_GREENSPACE a_ECO_PARK a_SHOPPING a_CONVENTIONAL a_GREEN) :
    MetFree l (⟨"com/example/tileburgh/tileburgh/model/ConstructionKindIsParkPinLaw", "pick", "(I)Lcom/example/tileburgh/tileburgh/model/ConstructionKind;"⟩ : MethodName) (head1 (Jvm.Cond.code (⟨"com/example/tileburgh/tileburgh/model/ConstructionKindIsParkPinLaw", "pick", "(I)Lcom/example/tileburgh/tileburgh/model/ConstructionKind;"⟩ : MethodName) method_2_code 1 (some (.object "com/example/tileburgh/tileburgh/model/ConstructionKind")) :: ws) ({ frames := 0, cells := 0, slots := 0, locals := 0 } : Room)) (fun aa_ UU_ => aa_ = #[(.int k)] ∧ Z.Warmed39 UU_.vm ∧ UU_.heap = h0) (fun _ _ _ _ _ => True) (fun _ UU_ oo_ UV_ => ∃ vv_ LL_, oo_ = .returned vv_ ∧ QP Z k a_LOW_COST a_GREENSPACE a_ECO_PARK a_SHOPPING a_CONVENTIONAL a_GREEN h0 n0 vv_ UV_.heap LL_ ∧ FrameEnd UU_ oo_ UV_ LL_ ({ frames := 0, cells := 0, slots := 0, locals := 0 } : Room).cells ({ frames := 0, cells := 0, slots := 0, locals := 0 } : Room).slots) := by
  refine MetFree.of_bodySF (plainFor_of_name pn_0) hisR ?_
  intro p e s m args below meth c s₁ Bd hml0 hP hK
  obtain ⟨rfl, hZ, hh⟩ := hP
  have hx := Bd.exec
  have hby := Bd.bytes
  have hlk := BodyLoose.notSynchronized Bd
  have hml : c.maxLocals = 1 := hml0
  have hown : s.vm.findClass "com/example/tileburgh/tileburgh/model/ConstructionKindIsParkPinLaw" = some m.cls := findClass_of_methodNamed Bd.named
  have hnm := (name_of_methodNamed Bd.named Bd.method).1
  have X0 : Stand p l e ({ frames := 0, cells := 0, slots := 0, locals := 0 } : Room) s m #[(.int k)] below meth c s₁ [] 0 0 := Stand.of_body Bd
  have e0 : s₁.heap = h0 := by rw [← hh, Bd.state]; rfl
  have N0 := Fr.nil n0
  suffices hOW : OW p e below s (QP Z k a_LOW_COST a_GREENSPACE a_ECO_PARK a_SHOPPING a_CONVENTIONAL a_GREEN h0 n0) 0 0 (s₁.setTop (mkF m 0 #[.val (.int k)] [])) by
    obtain ⟨q1, q2, q3, q4⟩ := hOW
    exact ⟨q1, q2, castTop (ef_P m k) q3, q4⟩
  have hS' := hS
  obtain ⟨Sa_LOW_COST, Ea_LOW_COST, Sa_GREENSPACE, Ea_GREENSPACE, Sa_ECO_PARK, Ea_ECO_PARK, Sa_SHOPPING, Ea_SHOPPING, Sa_CONVENTIONAL, Ea_CONVENTIONAL, Sa_GREEN, Ea_GREEN, Fa_LOW_COST_ordinal, Fa_GREENSPACE_ordinal, Fa_ECO_PARK_ordinal, Fa_SHOPPING_ordinal, Fa_CONVENTIONAL_ordinal, Fa_GREEN_ordinal⟩ := hS'
  refine OW.st (B := s₁.setTop (mkF m 1 #[.val (.int k)] [(.int k)])) (fun _ k => XS.iloadN X0.here hx rfl (hb hby d1_0) rfl k) ?_
  by_cases hc23 : k = (0 : Int32)
  · refine OW.st (B := s₁.setTop (mkF m 4 #[.val (.int k)] [])) (fun _ k => XS.ifNo X0.here hx rfl (hb hby d1_1) rfl ((if0 _ _).trans (teq hc23).2) k) ?_
    obtain ⟨T24, X24, e24, st24⟩ := getS2 X0 hx hZ hown (host := "") (Or.inl (w_5 hw)) Via.refl e0 (Sa_LOW_COST.ext O0.2) (g := (mkF m 4 #[.val (.int k)] [])) rfl (hb hby d1_4)
    refine OW.st (B := T24.setTop (mkF m 7 #[.val (.int k)] [(.ref a_LOW_COST)])) (st24) ?_
    exact OW.ret X24 hx hlk (i := .areturn) Bd.returns rfl (Or.inr (Or.inr (Or.inr (Or.inr ⟨rfl, rfl, rfl⟩)))) (hb hby d1_7) e24 (by decide) (by decide) ⟨by simp [own_pick, hc23], N0, rfl⟩
  · refine OW.st (B := s₁.setTop (mkF m 8 #[.val (.int k)] [])) (fun _ k => XS.ifYes X0.here hx rfl (pc0 := 1) (pc' := 8) rfl (hb hby d1_1) rfl ((if0 _ _).trans (feq hc23).2) (by decide) (by decide) k) ?_
    refine OW.st (B := s₁.setTop (mkF m 9 #[.val (.int k)] [(.int k)])) (fun _ k => XS.iloadN X0.here hx rfl (hb hby d1_8) rfl k) ?_
    refine OW.st (B := s₁.setTop (mkF m 10 #[.val (.int k)] [(.int (1 : Int32)), (.int k)])) (fun _ k => XS.iconst X0.here hx rfl (hb hby d1_9) k) ?_
    by_cases hc25 : k = (1 : Int32)
    · refine OW.st (B := s₁.setTop (mkF m 13 #[.val (.int k)] [])) (fun _ k => XS.icmpNo X0.here hx rfl (hb hby d1_10) rfl (teq hc25).2 k) ?_
      obtain ⟨T26, X26, e26, st26⟩ := getS2 X0 hx hZ hown (host := "") (Or.inl (w_30 hw)) Via.refl e0 (Sa_CONVENTIONAL.ext O0.2) (g := (mkF m 13 #[.val (.int k)] [])) rfl (hb hby d1_13)
      refine OW.st (B := T26.setTop (mkF m 16 #[.val (.int k)] [(.ref a_CONVENTIONAL)])) (st26) ?_
      exact OW.ret X26 hx hlk (i := .areturn) Bd.returns rfl (Or.inr (Or.inr (Or.inr (Or.inr ⟨rfl, rfl, rfl⟩)))) (hb hby d1_16) e26 (by decide) (by decide) ⟨by simp [own_pick, hc23, hc25], N0, rfl⟩
    · refine OW.st (B := s₁.setTop (mkF m 17 #[.val (.int k)] [])) (fun _ k => XS.icmpYes X0.here hx rfl (pc0 := 10) (pc' := 17) rfl (hb hby d1_10) rfl (feq hc25).2 (by decide) (by decide) k) ?_
      refine OW.st (B := s₁.setTop (mkF m 18 #[.val (.int k)] [(.int k)])) (fun _ k => XS.iloadN X0.here hx rfl (hb hby d1_17) rfl k) ?_
      refine OW.st (B := s₁.setTop (mkF m 19 #[.val (.int k)] [(.int (2 : Int32)), (.int k)])) (fun _ k => XS.iconst X0.here hx rfl (hb hby d1_18) k) ?_
      by_cases hc27 : k = (2 : Int32)
      · refine OW.st (B := s₁.setTop (mkF m 22 #[.val (.int k)] [])) (fun _ k => XS.icmpNo X0.here hx rfl (hb hby d1_19) rfl (teq hc27).2 k) ?_
        obtain ⟨T28, X28, e28, st28⟩ := getS2 X0 hx hZ hown (host := "") (Or.inl (w_29 hw)) Via.refl e0 (Sa_GREEN.ext O0.2) (g := (mkF m 22 #[.val (.int k)] [])) rfl (hb hby d1_22)
        refine OW.st (B := T28.setTop (mkF m 25 #[.val (.int k)] [(.ref a_GREEN)])) (st28) ?_
        exact OW.ret X28 hx hlk (i := .areturn) Bd.returns rfl (Or.inr (Or.inr (Or.inr (Or.inr ⟨rfl, rfl, rfl⟩)))) (hb hby d1_25) e28 (by decide) (by decide) ⟨by simp [own_pick, hc23, hc25, hc27], N0, rfl⟩
      · refine OW.st (B := s₁.setTop (mkF m 26 #[.val (.int k)] [])) (fun _ k => XS.icmpYes X0.here hx rfl (pc0 := 19) (pc' := 26) rfl (hb hby d1_19) rfl (feq hc27).2 (by decide) (by decide) k) ?_
        refine OW.st (B := s₁.setTop (mkF m 27 #[.val (.int k)] [(.int k)])) (fun _ k => XS.iloadN X0.here hx rfl (hb hby d1_26) rfl k) ?_
        refine OW.st (B := s₁.setTop (mkF m 28 #[.val (.int k)] [(.int (3 : Int32)), (.int k)])) (fun _ k => XS.iconst X0.here hx rfl (hb hby d1_27) k) ?_
        by_cases hc29 : k = (3 : Int32)
        · refine OW.st (B := s₁.setTop (mkF m 31 #[.val (.int k)] [])) (fun _ k => XS.icmpNo X0.here hx rfl (hb hby d1_28) rfl (teq hc29).2 k) ?_
          obtain ⟨T30, X30, e30, st30⟩ := getS2 X0 hx hZ hown (host := "") (Or.inl (w_23 hw)) Via.refl e0 (Sa_SHOPPING.ext O0.2) (g := (mkF m 31 #[.val (.int k)] [])) rfl (hb hby d1_31)
          refine OW.st (B := T30.setTop (mkF m 34 #[.val (.int k)] [(.ref a_SHOPPING)])) (st30) ?_
          exact OW.ret X30 hx hlk (i := .areturn) Bd.returns rfl (Or.inr (Or.inr (Or.inr (Or.inr ⟨rfl, rfl, rfl⟩)))) (hb hby d1_34) e30 (by decide) (by decide) ⟨by simp [own_pick, hc23, hc25, hc27, hc29], N0, rfl⟩
        · refine OW.st (B := s₁.setTop (mkF m 35 #[.val (.int k)] [])) (fun _ k => XS.icmpYes X0.here hx rfl (pc0 := 28) (pc' := 35) rfl (hb hby d1_28) rfl (feq hc29).2 (by decide) (by decide) k) ?_
          refine OW.st (B := s₁.setTop (mkF m 36 #[.val (.int k)] [(.int k)])) (fun _ k => XS.iloadN X0.here hx rfl (hb hby d1_35) rfl k) ?_
          refine OW.st (B := s₁.setTop (mkF m 37 #[.val (.int k)] [(.int (4 : Int32)), (.int k)])) (fun _ k => XS.iconst X0.here hx rfl (hb hby d1_36) k) ?_
          by_cases hc31 : k = (4 : Int32)
          · refine OW.st (B := s₁.setTop (mkF m 40 #[.val (.int k)] [])) (fun _ k => XS.icmpNo X0.here hx rfl (hb hby d1_37) rfl (teq hc31).2 k) ?_
            obtain ⟨T32, X32, e32, st32⟩ := getS2 X0 hx hZ hown (host := "") (Or.inl (w_32 hw)) Via.refl e0 (Sa_GREENSPACE.ext O0.2) (g := (mkF m 40 #[.val (.int k)] [])) rfl (hb hby d1_40)
            refine OW.st (B := T32.setTop (mkF m 43 #[.val (.int k)] [(.ref a_GREENSPACE)])) (st32) ?_
            exact OW.ret X32 hx hlk (i := .areturn) Bd.returns rfl (Or.inr (Or.inr (Or.inr (Or.inr ⟨rfl, rfl, rfl⟩)))) (hb hby d1_43) e32 (by decide) (by decide) ⟨by simp [own_pick, hc23, hc25, hc27, hc29, hc31], N0, rfl⟩
          · refine OW.st (B := s₁.setTop (mkF m 44 #[.val (.int k)] [])) (fun _ k => XS.icmpYes X0.here hx rfl (pc0 := 37) (pc' := 44) rfl (hb hby d1_37) rfl (feq hc31).2 (by decide) (by decide) k) ?_
            obtain ⟨T33, X33, e33, st33⟩ := getS2 X0 hx hZ hown (host := "") (Or.inl (w_31 hw)) Via.refl e0 (Sa_ECO_PARK.ext O0.2) (g := (mkF m 44 #[.val (.int k)] [])) rfl (hb hby d1_44)
            refine OW.st (B := T33.setTop (mkF m 47 #[.val (.int k)] [(.ref a_ECO_PARK)])) (st33) ?_
            exact OW.ret X33 hx hlk (i := .areturn) Bd.returns rfl (Or.inr (Or.inr (Or.inr (Or.inr ⟨rfl, rfl, rfl⟩)))) (hb hby d1_47) e33 (by decide) (by decide) ⟨by simp [own_pick, hc23, hc25, hc27, hc29, hc31], N0, rfl⟩
theorem ef_K (m : MethodId) (x0 : Addr) : entryFrame m #[(.ref x0)] 1 = mkF m 0 #[.val (.ref x0)] [] := by first | (simp [entryFrame, mkF, argsToLocals, Value.category]; done) | rfl
def QK (Z : State) (a : Addr) (a_LOW_COST : Addr) (a_GREENSPACE : Addr) (a_ECO_PARK : Addr) (a_SHOPPING : Addr) (a_CONVENTIONAL : Addr) (a_GREEN : Addr) (h0 : Heap) (n0 : Nat) (v : Option Value) (h : Heap) (L : List Loc) : Prop := v = some (.int (if a = a_GREENSPACE ∨ a = a_ECO_PARK then 1 else 0)) ∧ Fr n0 L ∧ h = h0
set_option maxRecDepth 65536 in
set_option maxHeartbeats 40000000 in
theorem rmK (l : Launch) (Z : State) (a0 : Array Value) (hw : ∀ d ∈ tables_1, d.before a0 Z = true) (ws : List Jvm.Cond) (a : Addr) (a_LOW_COST : Addr) (a_GREENSPACE : Addr) (a_ECO_PARK : Addr) (a_SHOPPING : Addr) (a_CONVENTIONAL : Addr) (a_GREEN : Addr) (h0 : Heap) (n0 : Nat) (O0 : Old Z n0 h0) (hS : OwnS Z a_LOW_COST a_GREENSPACE a_ECO_PARK a_SHOPPING a_CONVENTIONAL a_GREEN) :
    MetFree l (⟨"com/example/tileburgh/tileburgh/model/ConstructionKind", "isPark", "()Z"⟩ : MethodName) (head1 (Jvm.Cond.code (⟨"com/example/tileburgh/tileburgh/model/ConstructionKind", "isPark", "()Z"⟩ : MethodName) prog_14_method_7_code 1 (some .boolean) :: ws) ({ frames := 0, cells := 0, slots := 0, locals := 0 } : Room)) (fun aa_ UU_ => aa_ = #[(.ref a)] ∧ Z.Warmed39 UU_.vm ∧ UU_.heap = h0) (fun _ _ _ _ _ => True) (fun _ UU_ oo_ UV_ => ∃ vv_ LL_, oo_ = .returned vv_ ∧ QK Z a a_LOW_COST a_GREENSPACE a_ECO_PARK a_SHOPPING a_CONVENTIONAL a_GREEN h0 n0 vv_ UV_.heap LL_ ∧ FrameEnd UU_ oo_ UV_ LL_ ({ frames := 0, cells := 0, slots := 0, locals := 0 } : Room).cells ({ frames := 0, cells := 0, slots := 0, locals := 0 } : Room).slots) := by
  refine MetFree.of_bodySF (plainFor_of_name pn_1) hisR ?_
  intro p e s m args below meth c s₁ Bd hml0 hP hK
  obtain ⟨rfl, hZ, hh⟩ := hP
  have hx := Bd.exec
  have hby := Bd.bytes
  have hlk := BodyLoose.notSynchronized Bd
  have hml : c.maxLocals = 1 := hml0
  have hown : s.vm.findClass "com/example/tileburgh/tileburgh/model/ConstructionKind" = some m.cls := findClass_of_methodNamed Bd.named
  have hnm := (name_of_methodNamed Bd.named Bd.method).1
  have X0 : Stand p l e ({ frames := 0, cells := 0, slots := 0, locals := 0 } : Room) s m #[(.ref a)] below meth c s₁ [] 0 0 := Stand.of_body Bd
  have e0 : s₁.heap = h0 := by rw [← hh, Bd.state]; rfl
  have N0 := Fr.nil n0
  suffices hOW : OW p e below s (QK Z a a_LOW_COST a_GREENSPACE a_ECO_PARK a_SHOPPING a_CONVENTIONAL a_GREEN h0 n0) 0 0 (s₁.setTop (mkF m 0 #[.val (.ref a)] [])) by
    obtain ⟨q1, q2, q3, q4⟩ := hOW
    exact ⟨q1, q2, castTop (ef_K m a) q3, q4⟩
  have hS' := hS
  obtain ⟨Sa_LOW_COST, Ea_LOW_COST, Sa_GREENSPACE, Ea_GREENSPACE, Sa_ECO_PARK, Ea_ECO_PARK, Sa_SHOPPING, Ea_SHOPPING, Sa_CONVENTIONAL, Ea_CONVENTIONAL, Sa_GREEN, Ea_GREEN, Fa_LOW_COST_ordinal, Fa_GREENSPACE_ordinal, Fa_ECO_PARK_ordinal, Fa_SHOPPING_ordinal, Fa_CONVENTIONAL_ordinal, Fa_GREEN_ordinal⟩ := hS'
  refine OW.st (B := s₁.setTop (mkF m 1 #[.val (.ref a)] [(.ref a)])) (fun _ k => XS.aloadN X0.here hx rfl (hb hby d2_0) rfl rfl k) ?_
  obtain ⟨T34, X34, e34, st34⟩ := getS2 X0 hx hZ hown (host := "") (Or.inl (w_13 hw)) Via.refl e0 (Sa_GREENSPACE.ext O0.2) (g := (mkF m 1 #[.val (.ref a)] [(.ref a)])) rfl (hb hby d2_1)
  refine OW.st (B := T34.setTop (mkF m 4 #[.val (.ref a)] [(.ref a_GREENSPACE), (.ref a)])) (st34) ?_
  by_cases hc35 : a = a_GREENSPACE
  · refine OW.st (B := T34.setTop (mkF m 14 #[.val (.ref a)] [])) (fun _ k => Jvm.RoadKit.acmp (g := (mkF m 4 #[.val (.ref a)] [(.ref a_GREENSPACE), (.ref a)])) X34 hx rfl rfl rfl (pc0 := 4) (pc' := 14) (same := true) rfl (hb hby d2_4) rfl (decide_eq_true (congrArg Value.ref hc35)) (by decide) (by decide) k) ?_
    refine OW.st (B := T34.setTop (mkF m 15 #[.val (.ref a)] [(.int (1 : Int32))])) (fun _ k => XS.iconst X34.here hx rfl (hb hby d2_14) k) ?_
    refine OW.st (B := T34.setTop (mkF m 19 #[.val (.ref a)] [(.int (1 : Int32))])) (fun _ k => XS.goto X34.here hx rfl (pc0 := 15) (pc' := 19) rfl (hb hby d2_15) (by decide) (by decide) k) ?_
    exact OW.ret X34 hx hlk (i := .ireturn) Bd.returns rfl (Or.inl ⟨rfl, Or.inr (Or.inl rfl), _, rfl⟩) (hb hby d2_19) e34 (by decide) (by decide) ⟨by simp [hc35], N0, rfl⟩
  · refine OW.st (B := T34.setTop (mkF m 7 #[.val (.ref a)] [])) (fun _ k => Jvm.RoadKit.acmp (g := (mkF m 4 #[.val (.ref a)] [(.ref a_GREENSPACE), (.ref a)])) X34 hx rfl rfl rfl (pc0 := 4) (pc' := 7) (same := false) rfl (hb hby d2_4) rfl (decide_eq_false fun q => hc35 (Value.ref.inj q)) (by decide) (by decide) k) ?_
    refine OW.st (B := T34.setTop (mkF m 8 #[.val (.ref a)] [(.ref a)])) (fun _ k => XS.aloadN X34.here hx rfl (hb hby d2_7) rfl rfl k) ?_
    obtain ⟨T36, X36, e36, st36⟩ := getS2 X34 hx hZ hown (host := "") (Or.inl (w_15 hw)) Via.refl e34 (Sa_ECO_PARK.ext O0.2) (g := (mkF m 8 #[.val (.ref a)] [(.ref a)])) rfl (hb hby d2_8)
    refine OW.st (B := T36.setTop (mkF m 11 #[.val (.ref a)] [(.ref a_ECO_PARK), (.ref a)])) (st36) ?_
    by_cases hc37 : a = a_ECO_PARK
    · refine OW.st (B := T36.setTop (mkF m 14 #[.val (.ref a)] [])) (fun _ k => Jvm.RoadKit.acmp (g := (mkF m 11 #[.val (.ref a)] [(.ref a_ECO_PARK), (.ref a)])) X36 hx rfl rfl rfl (pc0 := 11) (pc' := 14) (same := true) rfl (hb hby d2_11) rfl (decide_eq_true (congrArg Value.ref hc37)) (by decide) (by decide) k) ?_
      refine OW.st (B := T36.setTop (mkF m 15 #[.val (.ref a)] [(.int (1 : Int32))])) (fun _ k => XS.iconst X36.here hx rfl (hb hby d2_14) k) ?_
      refine OW.st (B := T36.setTop (mkF m 19 #[.val (.ref a)] [(.int (1 : Int32))])) (fun _ k => XS.goto X36.here hx rfl (pc0 := 15) (pc' := 19) rfl (hb hby d2_15) (by decide) (by decide) k) ?_
      exact OW.ret X36 hx hlk (i := .ireturn) Bd.returns rfl (Or.inl ⟨rfl, Or.inr (Or.inl rfl), _, rfl⟩) (hb hby d2_19) e36 (by decide) (by decide) ⟨by simp [hc35, hc37], N0, rfl⟩
    · refine OW.st (B := T36.setTop (mkF m 18 #[.val (.ref a)] [])) (fun _ k => Jvm.RoadKit.acmp (g := (mkF m 11 #[.val (.ref a)] [(.ref a_ECO_PARK), (.ref a)])) X36 hx rfl rfl rfl (pc0 := 11) (pc' := 18) (same := false) rfl (hb hby d2_11) rfl (decide_eq_false fun q => hc37 (Value.ref.inj q)) (by decide) (by decide) k) ?_
      refine OW.st (B := T36.setTop (mkF m 19 #[.val (.ref a)] [(.int (0 : Int32))])) (fun _ k => XS.iconst X36.here hx rfl (hb hby d2_18) k) ?_
      exact OW.ret X36 hx hlk (i := .ireturn) Bd.returns rfl (Or.inl ⟨rfl, Or.inr (Or.inl rfl), _, rfl⟩) (hb hby d2_19) e36 (by decide) (by decide) ⟨by simp [hc35, hc37], N0, rfl⟩
theorem ef_R (m : MethodId) (x0 : Addr) : entryFrame m #[(.ref x0)] 1 = mkF m 0 #[.val (.ref x0)] [] := by first | (simp [entryFrame, mkF, argsToLocals, Value.category]; done) | rfl
def QR (Z : State) (a : Addr) (a_LOW_COST : Addr) (a_GREENSPACE : Addr) (a_ECO_PARK : Addr) (a_SHOPPING : Addr) (a_CONVENTIONAL : Addr) (a_GREEN : Addr) (h0 : Heap) (n0 : Nat) (v : Option Value) (h : Heap) (L : List Loc) : Prop := v = some (.int (if a = a_LOW_COST ∨ a = a_CONVENTIONAL ∨ a = a_GREEN then 1 else 0)) ∧ Fr n0 L ∧ h = h0
set_option maxRecDepth 65536 in
set_option maxHeartbeats 40000000 in
theorem rmR (l : Launch) (Z : State) (a0 : Array Value) (hw : ∀ d ∈ tables_1, d.before a0 Z = true) (ws : List Jvm.Cond) (a : Addr) (a_LOW_COST : Addr) (a_GREENSPACE : Addr) (a_ECO_PARK : Addr) (a_SHOPPING : Addr) (a_CONVENTIONAL : Addr) (a_GREEN : Addr) (h0 : Heap) (n0 : Nat) (O0 : Old Z n0 h0) (hS : OwnS Z a_LOW_COST a_GREENSPACE a_ECO_PARK a_SHOPPING a_CONVENTIONAL a_GREEN) :
    MetFree l (⟨"com/example/tileburgh/tileburgh/model/ConstructionKind", "takesRenter", "()Z"⟩ : MethodName) (head1 (Jvm.Cond.code (⟨"com/example/tileburgh/tileburgh/model/ConstructionKind", "takesRenter", "()Z"⟩ : MethodName) prog_14_method_6_code 1 (some .boolean) :: ws) ({ frames := 0, cells := 0, slots := 0, locals := 0 } : Room)) (fun aa_ UU_ => aa_ = #[(.ref a)] ∧ Z.Warmed39 UU_.vm ∧ UU_.heap = h0) (fun _ _ _ _ _ => True) (fun _ UU_ oo_ UV_ => ∃ vv_ LL_, oo_ = .returned vv_ ∧ QR Z a a_LOW_COST a_GREENSPACE a_ECO_PARK a_SHOPPING a_CONVENTIONAL a_GREEN h0 n0 vv_ UV_.heap LL_ ∧ FrameEnd UU_ oo_ UV_ LL_ ({ frames := 0, cells := 0, slots := 0, locals := 0 } : Room).cells ({ frames := 0, cells := 0, slots := 0, locals := 0 } : Room).slots) := by
  refine MetFree.of_bodySF (plainFor_of_name pn_1) hisR ?_
  intro p e s m args below meth c s₁ Bd hml0 hP hK
  obtain ⟨rfl, hZ, hh⟩ := hP
  have hx := Bd.exec
  have hby := Bd.bytes
  have hlk := BodyLoose.notSynchronized Bd
  have hml : c.maxLocals = 1 := hml0
  have hown : s.vm.findClass "com/example/tileburgh/tileburgh/model/ConstructionKind" = some m.cls := findClass_of_methodNamed Bd.named
  have hnm := (name_of_methodNamed Bd.named Bd.method).1
  have X0 : Stand p l e ({ frames := 0, cells := 0, slots := 0, locals := 0 } : Room) s m #[(.ref a)] below meth c s₁ [] 0 0 := Stand.of_body Bd
  have e0 : s₁.heap = h0 := by rw [← hh, Bd.state]; rfl
  have N0 := Fr.nil n0
  suffices hOW : OW p e below s (QR Z a a_LOW_COST a_GREENSPACE a_ECO_PARK a_SHOPPING a_CONVENTIONAL a_GREEN h0 n0) 0 0 (s₁.setTop (mkF m 0 #[.val (.ref a)] [])) by
    obtain ⟨q1, q2, q3, q4⟩ := hOW
    exact ⟨q1, q2, castTop (ef_R m a) q3, q4⟩
  have hS' := hS
  obtain ⟨Sa_LOW_COST, Ea_LOW_COST, Sa_GREENSPACE, Ea_GREENSPACE, Sa_ECO_PARK, Ea_ECO_PARK, Sa_SHOPPING, Ea_SHOPPING, Sa_CONVENTIONAL, Ea_CONVENTIONAL, Sa_GREEN, Ea_GREEN, Fa_LOW_COST_ordinal, Fa_GREENSPACE_ordinal, Fa_ECO_PARK_ordinal, Fa_SHOPPING_ordinal, Fa_CONVENTIONAL_ordinal, Fa_GREEN_ordinal⟩ := hS'
  refine OW.st (B := s₁.setTop (mkF m 1 #[.val (.ref a)] [(.ref a)])) (fun _ k => XS.aloadN X0.here hx rfl (hb hby d3_0) rfl rfl k) ?_
  obtain ⟨T38, X38, e38, st38⟩ := getS2 X0 hx hZ hown (host := "") (Or.inl (w_22 hw)) Via.refl e0 (Sa_LOW_COST.ext O0.2) (g := (mkF m 1 #[.val (.ref a)] [(.ref a)])) rfl (hb hby d3_1)
  refine OW.st (B := T38.setTop (mkF m 4 #[.val (.ref a)] [(.ref a_LOW_COST), (.ref a)])) (st38) ?_
  by_cases hc39 : a = a_LOW_COST
  · refine OW.st (B := T38.setTop (mkF m 21 #[.val (.ref a)] [])) (fun _ k => Jvm.RoadKit.acmp (g := (mkF m 4 #[.val (.ref a)] [(.ref a_LOW_COST), (.ref a)])) X38 hx rfl rfl rfl (pc0 := 4) (pc' := 21) (same := true) rfl (hb hby d3_4) rfl (decide_eq_true (congrArg Value.ref hc39)) (by decide) (by decide) k) ?_
    refine OW.st (B := T38.setTop (mkF m 22 #[.val (.ref a)] [(.int (1 : Int32))])) (fun _ k => XS.iconst X38.here hx rfl (hb hby d3_21) k) ?_
    refine OW.st (B := T38.setTop (mkF m 26 #[.val (.ref a)] [(.int (1 : Int32))])) (fun _ k => XS.goto X38.here hx rfl (pc0 := 22) (pc' := 26) rfl (hb hby d3_22) (by decide) (by decide) k) ?_
    exact OW.ret X38 hx hlk (i := .ireturn) Bd.returns rfl (Or.inl ⟨rfl, Or.inr (Or.inl rfl), _, rfl⟩) (hb hby d3_26) e38 (by decide) (by decide) ⟨by simp [hc39], N0, rfl⟩
  · refine OW.st (B := T38.setTop (mkF m 7 #[.val (.ref a)] [])) (fun _ k => Jvm.RoadKit.acmp (g := (mkF m 4 #[.val (.ref a)] [(.ref a_LOW_COST), (.ref a)])) X38 hx rfl rfl rfl (pc0 := 4) (pc' := 7) (same := false) rfl (hb hby d3_4) rfl (decide_eq_false fun q => hc39 (Value.ref.inj q)) (by decide) (by decide) k) ?_
    refine OW.st (B := T38.setTop (mkF m 8 #[.val (.ref a)] [(.ref a)])) (fun _ k => XS.aloadN X38.here hx rfl (hb hby d3_7) rfl rfl k) ?_
    obtain ⟨T40, X40, e40, st40⟩ := getS2 X38 hx hZ hown (host := "") (Or.inl (w_25 hw)) Via.refl e38 (Sa_CONVENTIONAL.ext O0.2) (g := (mkF m 8 #[.val (.ref a)] [(.ref a)])) rfl (hb hby d3_8)
    refine OW.st (B := T40.setTop (mkF m 11 #[.val (.ref a)] [(.ref a_CONVENTIONAL), (.ref a)])) (st40) ?_
    by_cases hc41 : a = a_CONVENTIONAL
    · refine OW.st (B := T40.setTop (mkF m 21 #[.val (.ref a)] [])) (fun _ k => Jvm.RoadKit.acmp (g := (mkF m 11 #[.val (.ref a)] [(.ref a_CONVENTIONAL), (.ref a)])) X40 hx rfl rfl rfl (pc0 := 11) (pc' := 21) (same := true) rfl (hb hby d3_11) rfl (decide_eq_true (congrArg Value.ref hc41)) (by decide) (by decide) k) ?_
      refine OW.st (B := T40.setTop (mkF m 22 #[.val (.ref a)] [(.int (1 : Int32))])) (fun _ k => XS.iconst X40.here hx rfl (hb hby d3_21) k) ?_
      refine OW.st (B := T40.setTop (mkF m 26 #[.val (.ref a)] [(.int (1 : Int32))])) (fun _ k => XS.goto X40.here hx rfl (pc0 := 22) (pc' := 26) rfl (hb hby d3_22) (by decide) (by decide) k) ?_
      exact OW.ret X40 hx hlk (i := .ireturn) Bd.returns rfl (Or.inl ⟨rfl, Or.inr (Or.inl rfl), _, rfl⟩) (hb hby d3_26) e40 (by decide) (by decide) ⟨by simp [hc39, hc41], N0, rfl⟩
    · refine OW.st (B := T40.setTop (mkF m 14 #[.val (.ref a)] [])) (fun _ k => Jvm.RoadKit.acmp (g := (mkF m 11 #[.val (.ref a)] [(.ref a_CONVENTIONAL), (.ref a)])) X40 hx rfl rfl rfl (pc0 := 11) (pc' := 14) (same := false) rfl (hb hby d3_11) rfl (decide_eq_false fun q => hc41 (Value.ref.inj q)) (by decide) (by decide) k) ?_
      refine OW.st (B := T40.setTop (mkF m 15 #[.val (.ref a)] [(.ref a)])) (fun _ k => XS.aloadN X40.here hx rfl (hb hby d3_14) rfl rfl k) ?_
      obtain ⟨T42, X42, e42, st42⟩ := getS2 X40 hx hZ hown (host := "") (Or.inl (w_27 hw)) Via.refl e40 (Sa_GREEN.ext O0.2) (g := (mkF m 15 #[.val (.ref a)] [(.ref a)])) rfl (hb hby d3_15)
      refine OW.st (B := T42.setTop (mkF m 18 #[.val (.ref a)] [(.ref a_GREEN), (.ref a)])) (st42) ?_
      by_cases hc43 : a = a_GREEN
      · refine OW.st (B := T42.setTop (mkF m 21 #[.val (.ref a)] [])) (fun _ k => Jvm.RoadKit.acmp (g := (mkF m 18 #[.val (.ref a)] [(.ref a_GREEN), (.ref a)])) X42 hx rfl rfl rfl (pc0 := 18) (pc' := 21) (same := true) rfl (hb hby d3_18) rfl (decide_eq_true (congrArg Value.ref hc43)) (by decide) (by decide) k) ?_
        refine OW.st (B := T42.setTop (mkF m 22 #[.val (.ref a)] [(.int (1 : Int32))])) (fun _ k => XS.iconst X42.here hx rfl (hb hby d3_21) k) ?_
        refine OW.st (B := T42.setTop (mkF m 26 #[.val (.ref a)] [(.int (1 : Int32))])) (fun _ k => XS.goto X42.here hx rfl (pc0 := 22) (pc' := 26) rfl (hb hby d3_22) (by decide) (by decide) k) ?_
        exact OW.ret X42 hx hlk (i := .ireturn) Bd.returns rfl (Or.inl ⟨rfl, Or.inr (Or.inl rfl), _, rfl⟩) (hb hby d3_26) e42 (by decide) (by decide) ⟨by simp [hc39, hc41, hc43], N0, rfl⟩
      · refine OW.st (B := T42.setTop (mkF m 25 #[.val (.ref a)] [])) (fun _ k => Jvm.RoadKit.acmp (g := (mkF m 18 #[.val (.ref a)] [(.ref a_GREEN), (.ref a)])) X42 hx rfl rfl rfl (pc0 := 18) (pc' := 25) (same := false) rfl (hb hby d3_18) rfl (decide_eq_false fun q => hc43 (Value.ref.inj q)) (by decide) (by decide) k) ?_
        refine OW.st (B := T42.setTop (mkF m 26 #[.val (.ref a)] [(.int (0 : Int32))])) (fun _ k => XS.iconst X42.here hx rfl (hb hby d3_25) k) ?_
        exact OW.ret X42 hx hlk (i := .ireturn) Bd.returns rfl (Or.inl ⟨rfl, Or.inr (Or.inl rfl), _, rfl⟩) (hb hby d3_26) e42 (by decide) (by decide) ⟨by simp [hc39, hc41, hc43], N0, rfl⟩
theorem ef_0 (m : MethodId) (x0 : Int32) : entryFrame m #[(.int x0)] maxLocals = mkF m 0 #[.val (.int x0), .unset, .unset, .unset, .unset, .unset, .unset] [] := by first | (simp [entryFrame, mkF, argsToLocals, Value.category, maxLocals]; done) | rfl
def Q0 (Z : State) (n1 : Int32) (a_LOW_COST : Addr) (a_GREENSPACE : Addr) (a_ECO_PARK : Addr) (a_SHOPPING : Addr) (a_CONVENTIONAL : Addr) (a_GREEN : Addr) (h0 : Heap) (n0 : Nat) (v : Option Value) (h : Heap) (L : List Loc) : Prop := v = some (.int 1) ∧ Fr n0 L
set_option maxRecDepth 65536 in
set_option maxHeartbeats 40000000 in
theorem rm0 (l : Launch) (Z : State) (a0 : Array Value) (hw : ∀ d ∈ tables_1, d.before a0 Z = true) (ws : List Jvm.Cond) (n1 : Int32) (a_LOW_COST : Addr) (a_GREENSPACE : Addr) (a_ECO_PARK : Addr) (a_SHOPPING : Addr) (a_CONVENTIONAL : Addr) (a_GREEN : Addr) (h0 : Heap) (n0 : Nat) (O0 : Old Z n0 h0) (hS : OwnS Z a_LOW_COST a_GREENSPACE a_ECO_PARK a_SHOPPING a_CONVENTIONAL a_GREEN) :
    MetFree l x (head1 (Jvm.Cond.code x code maxLocals ret :: ws) room_1) (fun aa_ UU_ => aa_ = #[(.int n1)] ∧ Z.Warmed39 UU_.vm ∧ UU_.heap = h0) (fun _ _ _ _ _ => True) (fun _ UU_ oo_ UV_ => ∃ vv_ LL_, oo_ = .returned vv_ ∧ Q0 Z n1 a_LOW_COST a_GREENSPACE a_ECO_PARK a_SHOPPING a_CONVENTIONAL a_GREEN h0 n0 vv_ UV_.heap LL_ ∧ FrameEnd UU_ oo_ UV_ LL_ 0 0) := by
  refine MetFree.of_bodySF (plainFor_of_name pn_0) hisR ?_
  intro p e s m args below meth c s₁ Bd hml0 hP hK
  obtain ⟨rfl, hZ, hh⟩ := hP
  have hx := Bd.exec
  have hby := Bd.bytes
  have hlk := BodyLoose.notSynchronized Bd
  have hml : c.maxLocals = 7 := hml0
  have hown : s.vm.findClass "com/example/tileburgh/tileburgh/model/ConstructionKindIsParkPinLaw" = some m.cls := findClass_of_methodNamed Bd.named
  have hnm := (name_of_methodNamed Bd.named Bd.method).1
  have X0 : Stand p l e room_1 s m #[(.int n1)] below meth c s₁ [] 0 0 := Stand.of_body Bd
  have e0 : s₁.heap = h0 := by rw [← hh, Bd.state]; rfl
  have N0 := Fr.nil n0
  suffices hOW : OW p e below s (Q0 Z n1 a_LOW_COST a_GREENSPACE a_ECO_PARK a_SHOPPING a_CONVENTIONAL a_GREEN h0 n0) 0 0 (s₁.setTop (mkF m 0 #[.val (.int n1), .unset, .unset, .unset, .unset, .unset, .unset] [])) by
    obtain ⟨q1, q2, q3, q4⟩ := hOW
    exact ⟨q1, q2, castTop (ef_0 m n1) q3, q4⟩
  have hS' := hS
  obtain ⟨Sa_LOW_COST, Ea_LOW_COST, Sa_GREENSPACE, Ea_GREENSPACE, Sa_ECO_PARK, Ea_ECO_PARK, Sa_SHOPPING, Ea_SHOPPING, Sa_CONVENTIONAL, Ea_CONVENTIONAL, Sa_GREEN, Ea_GREEN, Fa_LOW_COST_ordinal, Fa_GREENSPACE_ordinal, Fa_ECO_PARK_ordinal, Fa_SHOPPING_ordinal, Fa_CONVENTIONAL_ordinal, Fa_GREEN_ordinal⟩ := hS'
  refine OW.st (B := s₁.setTop (mkF m 1 #[.val (.int n1), .unset, .unset, .unset, .unset, .unset, .unset] [(.int n1)])) (fun _ k => XS.iloadN X0.here hx rfl (hb hby at_0) rfl k) ?_
  refine OW.st (B := s₁.setTop (mkF m 3 #[.val (.int n1), .unset, .unset, .unset, .unset, .unset, .unset] [(.int (2147483647 : Int32)), (.int n1)])) (X0.ldcInt hx hown (mvT hZ (w_0 hw)) (g := (mkF m 1 #[.val (.int n1), .unset, .unset, .unset, .unset, .unset, .unset] [(.int n1)])) rfl (hb hby at_1)) ?_
  refine OW.st (B := s₁.setTop (mkF m 4 #[.val (.int n1), .unset, .unset, .unset, .unset, .unset, .unset] [(.int (n1 &&& (2147483647 : Int32)))])) (fun _ k => XS.iand X0.here hx rfl (hb hby at_3) rfl k) ?_
  refine OW.st (B := s₁.setTop (mkF m 6 #[.val (.int n1), .unset, .unset, .unset, .unset, .unset, .unset] [(.int (6 : Int32)), (.int (n1 &&& (2147483647 : Int32)))])) (fun _ k => XS.bipush X0.here hx rfl (hb hby at_4) k) ?_
  refine OW.st (B := s₁.setTop (mkF m 7 #[.val (.int n1), .unset, .unset, .unset, .unset, .unset, .unset] [(.int ((n1 &&& (2147483647 : Int32)) % (6 : Int32)))])) (fun _ k => iremM X0 hx rfl (hb hby at_6) rfl (by decide) k) ?_
  suffices J : ∀ k : Int32, k = 0 ∨ k = 1 ∨ k = 2 ∨ k = 3 ∨ k = 4 ∨ k = 5 → OW p e below s (Q0 Z n1 a_LOW_COST a_GREENSPACE a_ECO_PARK a_SHOPPING a_CONVENTIONAL a_GREEN h0 n0) 0 0 (s₁.setTop (mkF m 7 #[.val (.int n1), .unset, .unset, .unset, .unset, .unset, .unset] [(.int k)])) from J _ (own_mod6 n1)
  intro k hk
  rcases hk with rfl | rfl | rfl | rfl | rfl | rfl
  · refine OW.st (B := s₁.setTop (mkF m 8 #[.val (.int n1), .val (.int (0 : Int32)), .unset, .unset, .unset, .unset, .unset] [])) (fun _ k => XS.istoreN X0.here hx rfl (hb hby at_7) rfl (l' := #[.val (.int n1), .val (.int (0 : Int32)), .unset, .unset, .unset, .unset, .unset]) rfl k) ?_
    refine OW.st (B := s₁.setTop (mkF m 9 #[.val (.int n1), .val (.int (0 : Int32)), .unset, .unset, .unset, .unset, .unset] [(.int (0 : Int32))])) (fun _ k => XS.iloadN X0.here hx rfl (hb hby at_8) rfl k) ?_
    obtain ⟨_, _, ⟨T44, L44, k44, n44⟩, -, X44, ⟨Lc44, hQ44, l44, y44, z44⟩, st44⟩ := Jvm.LawKit.callS X0 hx (y := (⟨"com/example/tileburgh/tileburgh/model/ConstructionKindIsParkPinLaw", "pick", "(I)Lcom/example/tileburgh/tileburgh/model/ConstructionKind;"⟩ : MethodName)) hown (mvT hZ (w_1 hw)) (mvT hZ (w_2 hw)) (mvT hZ (w_3 hw)) (mvT hZ (w_4 hw)) (by decide) (backOf (W := 0) (rmP l Z a0 hw [] (0 : Int32) a_LOW_COST a_GREENSPACE a_ECO_PARK a_SHOPPING a_CONVENTIONAL a_GREEN h0 n0 O0 hS) hZ (w_4 hw) (w_3 hw) (by decide) (by decide)) (g := (mkF m 9 #[.val (.int n1), .val (.int (0 : Int32)), .unset, .unset, .unset, .unset, .unset] [(.int (0 : Int32))])) rfl (by rw [hml]; rfl) (argsL := [(.int (0 : Int32))]) (rest := []) (lenOf pd_0 rfl) rfl (by show 2 * 0 + _ ≤ _; exact Nat.le_of_eq rfl) (hb hby at_9) (fun _ _ => ⟨rfl, e0, (by decide : 0 + 0 ≤ _), (by decide : 0 + 0 ≤ _)⟩)
    dsimp only [Pt.U, Pt.locs, Pt.cells, Pt.slots] at X44 l44 y44 z44 st44 hQ44
    subst l44 y44 z44
    obtain ⟨rfl, Nq44, e44⟩ := hQ44
    have N44 := Fr.app N0 Nq44
    refine OW.st (B := T44.setTop (mkF m 12 #[.val (.int n1), .val (.int (0 : Int32)), .unset, .unset, .unset, .unset, .unset] [(.ref a_LOW_COST)])) (st44) ?_
    refine OW.st (B := T44.setTop (mkF m 13 #[.val (.int n1), .val (.int (0 : Int32)), .val (.ref a_LOW_COST), .unset, .unset, .unset, .unset] [])) (fun _ k => XS.astoreN X44.here hx rfl (hb hby at_12) rfl rfl (l' := #[.val (.int n1), .val (.int (0 : Int32)), .val (.ref a_LOW_COST), .unset, .unset, .unset, .unset]) rfl k) ?_
    refine OW.st (B := T44.setTop (mkF m 14 #[.val (.int n1), .val (.int (0 : Int32)), .val (.ref a_LOW_COST), .unset, .unset, .unset, .unset] [(.ref a_LOW_COST)])) (fun _ k => XS.aloadN X44.here hx rfl (hb hby at_13) rfl rfl k) ?_
    obtain ⟨cq45, kq45, q45a, q45b, q45c⟩ := isOf hZ e44 (Ea_LOW_COST.ext O0.2)
    obtain ⟨_, _, ⟨T45, L45, k45, n45⟩, -, X45, ⟨Lc45, hQ45, l45, y45, z45⟩, st45⟩ := X44.virtualBack hx (y := (⟨"com/example/tileburgh/tileburgh/model/ConstructionKind", "isPark", "()Z"⟩ : MethodName)) (z := (⟨"com/example/tileburgh/tileburgh/model/ConstructionKind", "isPark", "()Z"⟩ : MethodName)) hown (mvT hZ (w_8 hw)) (mvT hZ (w_9 hw)) (notFace_of_selects (args := #[]) (mvT hZ (w_11 hw))) (mvT hZ (w_11 hw)) (mvT hZ (w_10 hw)) (by decide) (backOf (W := 0) (rmK l Z a0 hw [] a_LOW_COST a_LOW_COST a_GREENSPACE a_ECO_PARK a_SHOPPING a_CONVENTIONAL a_GREEN h0 n0 O0 hS) hZ (w_12 hw) (w_6 hw) (by decide) (by decide)) q45a q45c (g := (mkF m 14 #[.val (.int n1), .val (.int (0 : Int32)), .val (.ref a_LOW_COST), .unset, .unset, .unset, .unset] [(.ref a_LOW_COST)])) rfl (by rw [hml]; rfl) (Steps.refl _) (argsL := []) (rest := []) (lenOf pd_1 rfl) rfl (by show 2 * 0 + _ ≤ _; exact Nat.le_of_eq rfl) (hb hby at_14) (fun _ _ => ⟨rfl, e44, (by decide : 0 + 0 ≤ _), (by decide : 0 + 0 ≤ _)⟩)
    dsimp only [Pt.U, Pt.locs, Pt.cells, Pt.slots] at X45 l45 y45 z45 st45 hQ45
    subst l45 y45 z45
    obtain ⟨hv45, Nq45, e45⟩ := hQ45
    have N45 := Fr.app N44 Nq45
    rw [if_neg (by simp [(Fld.ne Fa_LOW_COST_ordinal Fa_GREENSPACE_ordinal (fun q => absurd (Value.int.inj q) (by decide))), (Fld.ne Fa_LOW_COST_ordinal Fa_ECO_PARK_ordinal (fun q => absurd (Value.int.inj q) (by decide)))])] at hv45; subst hv45
    refine OW.tr (B := T45.setTop (mkF m 17 #[.val (.int n1), .val (.int (0 : Int32)), .val (.ref a_LOW_COST), .unset, .unset, .unset, .unset] [(.int (0 : Int32))])) (st45) ?_
    refine OW.st (B := T45.setTop (mkF m 18 #[.val (.int n1), .val (.int (0 : Int32)), .val (.ref a_LOW_COST), .val (.int (0 : Int32)), .unset, .unset, .unset] [])) (fun _ k => XS.istoreN X45.here hx rfl (hb hby at_17) rfl (l' := #[.val (.int n1), .val (.int (0 : Int32)), .val (.ref a_LOW_COST), .val (.int (0 : Int32)), .unset, .unset, .unset]) rfl k) ?_
    refine OW.st (B := T45.setTop (mkF m 19 #[.val (.int n1), .val (.int (0 : Int32)), .val (.ref a_LOW_COST), .val (.int (0 : Int32)), .unset, .unset, .unset] [(.ref a_LOW_COST)])) (fun _ k => XS.aloadN X45.here hx rfl (hb hby at_18) rfl rfl k) ?_
    obtain ⟨cq46, kq46, q46a, q46b, q46c⟩ := isOf hZ e45 (Ea_LOW_COST.ext O0.2)
    obtain ⟨_, _, ⟨T46, L46, k46, n46⟩, -, X46, ⟨Lc46, hQ46, l46, y46, z46⟩, st46⟩ := X45.virtualBack hx (y := (⟨"com/example/tileburgh/tileburgh/model/ConstructionKind", "takesRenter", "()Z"⟩ : MethodName)) (z := (⟨"com/example/tileburgh/tileburgh/model/ConstructionKind", "takesRenter", "()Z"⟩ : MethodName)) hown (mvT hZ (w_17 hw)) (mvT hZ (w_18 hw)) (notFace_of_selects (args := #[]) (mvT hZ (w_20 hw))) (mvT hZ (w_20 hw)) (mvT hZ (w_19 hw)) (by decide) (backOf (W := 0) (rmR l Z a0 hw [] a_LOW_COST a_LOW_COST a_GREENSPACE a_ECO_PARK a_SHOPPING a_CONVENTIONAL a_GREEN h0 n0 O0 hS) hZ (w_21 hw) (w_6 hw) (by decide) (by decide)) q46a q46c (g := (mkF m 19 #[.val (.int n1), .val (.int (0 : Int32)), .val (.ref a_LOW_COST), .val (.int (0 : Int32)), .unset, .unset, .unset] [(.ref a_LOW_COST)])) rfl (by rw [hml]; rfl) (Steps.refl _) (argsL := []) (rest := []) (lenOf pd_1 rfl) rfl (by show 2 * 0 + _ ≤ _; exact Nat.le_of_eq rfl) (hb hby at_19) (fun _ _ => ⟨rfl, e45, (by decide : 0 + 0 ≤ _), (by decide : 0 + 0 ≤ _)⟩)
    dsimp only [Pt.U, Pt.locs, Pt.cells, Pt.slots] at X46 l46 y46 z46 st46 hQ46
    subst l46 y46 z46
    obtain ⟨hv46, Nq46, e46⟩ := hQ46
    have N46 := Fr.app N45 Nq46
    rw [if_pos (by simp)] at hv46; subst hv46
    refine OW.tr (B := T46.setTop (mkF m 22 #[.val (.int n1), .val (.int (0 : Int32)), .val (.ref a_LOW_COST), .val (.int (0 : Int32)), .unset, .unset, .unset] [(.int (1 : Int32))])) (st46) ?_
    refine OW.st (B := T46.setTop (mkF m 24 #[.val (.int n1), .val (.int (0 : Int32)), .val (.ref a_LOW_COST), .val (.int (0 : Int32)), .val (.int (1 : Int32)), .unset, .unset] [])) (fun _ k => XS.istore X46.here hx rfl (hb hby at_22) rfl (l' := #[.val (.int n1), .val (.int (0 : Int32)), .val (.ref a_LOW_COST), .val (.int (0 : Int32)), .val (.int (1 : Int32)), .unset, .unset]) rfl k) ?_
    refine OW.st (B := T46.setTop (mkF m 25 #[.val (.int n1), .val (.int (0 : Int32)), .val (.ref a_LOW_COST), .val (.int (0 : Int32)), .val (.int (1 : Int32)), .unset, .unset] [(.ref a_LOW_COST)])) (fun _ k => XS.aloadN X46.here hx rfl (hb hby at_24) rfl rfl k) ?_
    obtain ⟨T47, X47, e47, st47⟩ := getS2 X46 hx hZ hown (host := "") (Or.inl (w_23 hw)) Via.refl e46 (Sa_SHOPPING.ext O0.2) (g := (mkF m 25 #[.val (.int n1), .val (.int (0 : Int32)), .val (.ref a_LOW_COST), .val (.int (0 : Int32)), .val (.int (1 : Int32)), .unset, .unset] [(.ref a_LOW_COST)])) rfl (hb hby at_25)
    refine OW.st (B := T47.setTop (mkF m 28 #[.val (.int n1), .val (.int (0 : Int32)), .val (.ref a_LOW_COST), .val (.int (0 : Int32)), .val (.int (1 : Int32)), .unset, .unset] [(.ref a_SHOPPING), (.ref a_LOW_COST)])) (st47) ?_
    refine OW.st (B := T47.setTop (mkF m 35 #[.val (.int n1), .val (.int (0 : Int32)), .val (.ref a_LOW_COST), .val (.int (0 : Int32)), .val (.int (1 : Int32)), .unset, .unset] [])) (fun _ k => Jvm.RoadKit.acmp (g := (mkF m 28 #[.val (.int n1), .val (.int (0 : Int32)), .val (.ref a_LOW_COST), .val (.int (0 : Int32)), .val (.int (1 : Int32)), .unset, .unset] [(.ref a_SHOPPING), (.ref a_LOW_COST)])) X47 hx rfl rfl rfl (pc0 := 28) (pc' := 35) (same := false) rfl (hb hby at_28) rfl (decide_eq_false fun q => (Fld.ne Fa_LOW_COST_ordinal Fa_SHOPPING_ordinal (fun q => absurd (Value.int.inj q) (by decide))) (Value.ref.inj q)) (by decide) (by decide) k) ?_
    refine OW.st (B := T47.setTop (mkF m 36 #[.val (.int n1), .val (.int (0 : Int32)), .val (.ref a_LOW_COST), .val (.int (0 : Int32)), .val (.int (1 : Int32)), .unset, .unset] [(.int (0 : Int32))])) (fun _ k => XS.iconst X47.here hx rfl (hb hby at_35) k) ?_
    refine OW.st (B := T47.setTop (mkF m 38 #[.val (.int n1), .val (.int (0 : Int32)), .val (.ref a_LOW_COST), .val (.int (0 : Int32)), .val (.int (1 : Int32)), .val (.int (0 : Int32)), .unset] [])) (fun _ k => XS.istore X47.here hx rfl (hb hby at_36) rfl (l' := #[.val (.int n1), .val (.int (0 : Int32)), .val (.ref a_LOW_COST), .val (.int (0 : Int32)), .val (.int (1 : Int32)), .val (.int (0 : Int32)), .unset]) rfl k) ?_
    refine OW.st (B := T47.setTop (mkF m 39 #[.val (.int n1), .val (.int (0 : Int32)), .val (.ref a_LOW_COST), .val (.int (0 : Int32)), .val (.int (1 : Int32)), .val (.int (0 : Int32)), .unset] [(.int (0 : Int32))])) (fun _ k => XS.iconst X47.here hx rfl (hb hby at_38) k) ?_
    refine OW.st (B := T47.setTop (mkF m 41 #[.val (.int n1), .val (.int (0 : Int32)), .val (.ref a_LOW_COST), .val (.int (0 : Int32)), .val (.int (1 : Int32)), .val (.int (0 : Int32)), .val (.int (0 : Int32))] [])) (fun _ k => XS.istore X47.here hx rfl (hb hby at_39) rfl (l' := #[.val (.int n1), .val (.int (0 : Int32)), .val (.ref a_LOW_COST), .val (.int (0 : Int32)), .val (.int (1 : Int32)), .val (.int (0 : Int32)), .val (.int (0 : Int32))]) rfl k) ?_
    refine OW.st (B := T47.setTop (mkF m 42 #[.val (.int n1), .val (.int (0 : Int32)), .val (.ref a_LOW_COST), .val (.int (0 : Int32)), .val (.int (1 : Int32)), .val (.int (0 : Int32)), .val (.int (0 : Int32))] [(.int (0 : Int32))])) (fun _ k => XS.iloadN X47.here hx rfl (hb hby at_41) rfl k) ?_
    refine OW.st (B := T47.setTop (mkF m 51 #[.val (.int n1), .val (.int (0 : Int32)), .val (.ref a_LOW_COST), .val (.int (0 : Int32)), .val (.int (1 : Int32)), .val (.int (0 : Int32)), .val (.int (0 : Int32))] [])) (fun _ k => XS.ifYes X47.here hx rfl (pc0 := 42) (pc' := 51) rfl (hb hby at_42) rfl ((if0 _ _).trans (teq (by decide)).1) (by decide) (by decide) k) ?_
    refine OW.st (B := T47.setTop (mkF m 53 #[.val (.int n1), .val (.int (0 : Int32)), .val (.ref a_LOW_COST), .val (.int (0 : Int32)), .val (.int (1 : Int32)), .val (.int (0 : Int32)), .val (.int (0 : Int32))] [(.int (1 : Int32))])) (fun _ k => XS.iload X47.here hx rfl (hb hby at_51) rfl k) ?_
    refine OW.st (B := T47.setTop (mkF m 56 #[.val (.int n1), .val (.int (0 : Int32)), .val (.ref a_LOW_COST), .val (.int (0 : Int32)), .val (.int (1 : Int32)), .val (.int (0 : Int32)), .val (.int (0 : Int32))] [])) (fun _ k => XS.ifNo X47.here hx rfl (hb hby at_53) rfl ((if0 _ _).trans (feq (by decide)).1) k) ?_
    refine OW.st (B := T47.setTop (mkF m 58 #[.val (.int n1), .val (.int (0 : Int32)), .val (.ref a_LOW_COST), .val (.int (0 : Int32)), .val (.int (1 : Int32)), .val (.int (0 : Int32)), .val (.int (0 : Int32))] [(.int (0 : Int32))])) (fun _ k => XS.iload X47.here hx rfl (hb hby at_56) rfl k) ?_
    refine OW.st (B := T47.setTop (mkF m 59 #[.val (.int n1), .val (.int (0 : Int32)), .val (.ref a_LOW_COST), .val (.int (0 : Int32)), .val (.int (1 : Int32)), .val (.int (0 : Int32)), .val (.int (0 : Int32))] [(.int (1 : Int32)), (.int (0 : Int32))])) (fun _ k => XS.iconst X47.here hx rfl (hb hby at_58) k) ?_
    refine OW.st (B := T47.setTop (mkF m 60 #[.val (.int n1), .val (.int (0 : Int32)), .val (.ref a_LOW_COST), .val (.int (0 : Int32)), .val (.int (1 : Int32)), .val (.int (0 : Int32)), .val (.int (0 : Int32))] [(.int ((0 : Int32) + (1 : Int32)))])) (fun _ k => XS.iadd X47.here hx rfl (hb hby at_59) rfl k) ?_
    refine OW.st (B := T47.setTop (mkF m 62 #[.val (.int n1), .val (.int (0 : Int32)), .val (.ref a_LOW_COST), .val (.int (0 : Int32)), .val (.int (1 : Int32)), .val (.int (0 : Int32)), .val (.int ((0 : Int32) + (1 : Int32)))] [])) (fun _ k => XS.istore X47.here hx rfl (hb hby at_60) rfl (l' := #[.val (.int n1), .val (.int (0 : Int32)), .val (.ref a_LOW_COST), .val (.int (0 : Int32)), .val (.int (1 : Int32)), .val (.int (0 : Int32)), .val (.int ((0 : Int32) + (1 : Int32)))]) rfl k) ?_
    refine OW.st (B := T47.setTop (mkF m 64 #[.val (.int n1), .val (.int (0 : Int32)), .val (.ref a_LOW_COST), .val (.int (0 : Int32)), .val (.int (1 : Int32)), .val (.int (0 : Int32)), .val (.int ((0 : Int32) + (1 : Int32)))] [(.int (0 : Int32))])) (fun _ k => XS.iload X47.here hx rfl (hb hby at_62) rfl k) ?_
    refine OW.st (B := T47.setTop (mkF m 73 #[.val (.int n1), .val (.int (0 : Int32)), .val (.ref a_LOW_COST), .val (.int (0 : Int32)), .val (.int (1 : Int32)), .val (.int (0 : Int32)), .val (.int ((0 : Int32) + (1 : Int32)))] [])) (fun _ k => XS.ifYes X47.here hx rfl (pc0 := 64) (pc' := 73) rfl (hb hby at_64) rfl ((if0 _ _).trans (teq (by decide)).1) (by decide) (by decide) k) ?_
    refine OW.st (B := T47.setTop (mkF m 75 #[.val (.int n1), .val (.int (0 : Int32)), .val (.ref a_LOW_COST), .val (.int (0 : Int32)), .val (.int (1 : Int32)), .val (.int (0 : Int32)), .val (.int ((0 : Int32) + (1 : Int32)))] [(.int ((0 : Int32) + (1 : Int32)))])) (fun _ k => XS.iload X47.here hx rfl (hb hby at_73) rfl k) ?_
    refine OW.st (B := T47.setTop (mkF m 76 #[.val (.int n1), .val (.int (0 : Int32)), .val (.ref a_LOW_COST), .val (.int (0 : Int32)), .val (.int (1 : Int32)), .val (.int (0 : Int32)), .val (.int ((0 : Int32) + (1 : Int32)))] [(.int (1 : Int32)), (.int ((0 : Int32) + (1 : Int32)))])) (fun _ k => XS.iconst X47.here hx rfl (hb hby at_75) k) ?_
    refine OW.st (B := T47.setTop (mkF m 79 #[.val (.int n1), .val (.int (0 : Int32)), .val (.ref a_LOW_COST), .val (.int (0 : Int32)), .val (.int (1 : Int32)), .val (.int (0 : Int32)), .val (.int ((0 : Int32) + (1 : Int32)))] [])) (fun _ k => XS.icmpNo X47.here hx rfl (hb hby at_76) rfl (teq (by decide)).2 k) ?_
    refine OW.st (B := T47.setTop (mkF m 80 #[.val (.int n1), .val (.int (0 : Int32)), .val (.ref a_LOW_COST), .val (.int (0 : Int32)), .val (.int (1 : Int32)), .val (.int (0 : Int32)), .val (.int ((0 : Int32) + (1 : Int32)))] [(.int (1 : Int32))])) (fun _ k => XS.iconst X47.here hx rfl (hb hby at_79) k) ?_
    refine OW.st (B := T47.setTop (mkF m 84 #[.val (.int n1), .val (.int (0 : Int32)), .val (.ref a_LOW_COST), .val (.int (0 : Int32)), .val (.int (1 : Int32)), .val (.int (0 : Int32)), .val (.int ((0 : Int32) + (1 : Int32)))] [(.int (1 : Int32))])) (fun _ k => XS.goto X47.here hx rfl (pc0 := 80) (pc' := 84) rfl (hb hby at_80) (by decide) (by decide) k) ?_
    exact OW.ret X47 hx hlk (i := .ireturn) Bd.returns rfl (Or.inl ⟨rfl, Or.inr (Or.inl rfl), _, rfl⟩) (hb hby at_84) e47 (by decide) (by decide) ⟨rfl, N46⟩
  · refine OW.st (B := s₁.setTop (mkF m 8 #[.val (.int n1), .val (.int (1 : Int32)), .unset, .unset, .unset, .unset, .unset] [])) (fun _ k => XS.istoreN X0.here hx rfl (hb hby at_7) rfl (l' := #[.val (.int n1), .val (.int (1 : Int32)), .unset, .unset, .unset, .unset, .unset]) rfl k) ?_
    refine OW.st (B := s₁.setTop (mkF m 9 #[.val (.int n1), .val (.int (1 : Int32)), .unset, .unset, .unset, .unset, .unset] [(.int (1 : Int32))])) (fun _ k => XS.iloadN X0.here hx rfl (hb hby at_8) rfl k) ?_
    obtain ⟨_, _, ⟨T48, L48, k48, n48⟩, -, X48, ⟨Lc48, hQ48, l48, y48, z48⟩, st48⟩ := Jvm.LawKit.callS X0 hx (y := (⟨"com/example/tileburgh/tileburgh/model/ConstructionKindIsParkPinLaw", "pick", "(I)Lcom/example/tileburgh/tileburgh/model/ConstructionKind;"⟩ : MethodName)) hown (mvT hZ (w_1 hw)) (mvT hZ (w_2 hw)) (mvT hZ (w_3 hw)) (mvT hZ (w_4 hw)) (by decide) (backOf (W := 0) (rmP l Z a0 hw [] (1 : Int32) a_LOW_COST a_GREENSPACE a_ECO_PARK a_SHOPPING a_CONVENTIONAL a_GREEN h0 n0 O0 hS) hZ (w_4 hw) (w_3 hw) (by decide) (by decide)) (g := (mkF m 9 #[.val (.int n1), .val (.int (1 : Int32)), .unset, .unset, .unset, .unset, .unset] [(.int (1 : Int32))])) rfl (by rw [hml]; rfl) (argsL := [(.int (1 : Int32))]) (rest := []) (lenOf pd_0 rfl) rfl (by show 2 * 0 + _ ≤ _; exact Nat.le_of_eq rfl) (hb hby at_9) (fun _ _ => ⟨rfl, e0, (by decide : 0 + 0 ≤ _), (by decide : 0 + 0 ≤ _)⟩)
    dsimp only [Pt.U, Pt.locs, Pt.cells, Pt.slots] at X48 l48 y48 z48 st48 hQ48
    subst l48 y48 z48
    obtain ⟨rfl, Nq48, e48⟩ := hQ48
    have N48 := Fr.app N0 Nq48
    refine OW.st (B := T48.setTop (mkF m 12 #[.val (.int n1), .val (.int (1 : Int32)), .unset, .unset, .unset, .unset, .unset] [(.ref a_CONVENTIONAL)])) (st48) ?_
    refine OW.st (B := T48.setTop (mkF m 13 #[.val (.int n1), .val (.int (1 : Int32)), .val (.ref a_CONVENTIONAL), .unset, .unset, .unset, .unset] [])) (fun _ k => XS.astoreN X48.here hx rfl (hb hby at_12) rfl rfl (l' := #[.val (.int n1), .val (.int (1 : Int32)), .val (.ref a_CONVENTIONAL), .unset, .unset, .unset, .unset]) rfl k) ?_
    refine OW.st (B := T48.setTop (mkF m 14 #[.val (.int n1), .val (.int (1 : Int32)), .val (.ref a_CONVENTIONAL), .unset, .unset, .unset, .unset] [(.ref a_CONVENTIONAL)])) (fun _ k => XS.aloadN X48.here hx rfl (hb hby at_13) rfl rfl k) ?_
    obtain ⟨cq49, kq49, q49a, q49b, q49c⟩ := isOf hZ e48 (Ea_CONVENTIONAL.ext O0.2)
    obtain ⟨_, _, ⟨T49, L49, k49, n49⟩, -, X49, ⟨Lc49, hQ49, l49, y49, z49⟩, st49⟩ := X48.virtualBack hx (y := (⟨"com/example/tileburgh/tileburgh/model/ConstructionKind", "isPark", "()Z"⟩ : MethodName)) (z := (⟨"com/example/tileburgh/tileburgh/model/ConstructionKind", "isPark", "()Z"⟩ : MethodName)) hown (mvT hZ (w_8 hw)) (mvT hZ (w_9 hw)) (notFace_of_selects (args := #[]) (mvT hZ (w_11 hw))) (mvT hZ (w_11 hw)) (mvT hZ (w_10 hw)) (by decide) (backOf (W := 0) (rmK l Z a0 hw [] a_CONVENTIONAL a_LOW_COST a_GREENSPACE a_ECO_PARK a_SHOPPING a_CONVENTIONAL a_GREEN h0 n0 O0 hS) hZ (w_12 hw) (w_6 hw) (by decide) (by decide)) q49a q49c (g := (mkF m 14 #[.val (.int n1), .val (.int (1 : Int32)), .val (.ref a_CONVENTIONAL), .unset, .unset, .unset, .unset] [(.ref a_CONVENTIONAL)])) rfl (by rw [hml]; rfl) (Steps.refl _) (argsL := []) (rest := []) (lenOf pd_1 rfl) rfl (by show 2 * 0 + _ ≤ _; exact Nat.le_of_eq rfl) (hb hby at_14) (fun _ _ => ⟨rfl, e48, (by decide : 0 + 0 ≤ _), (by decide : 0 + 0 ≤ _)⟩)
    dsimp only [Pt.U, Pt.locs, Pt.cells, Pt.slots] at X49 l49 y49 z49 st49 hQ49
    subst l49 y49 z49
    obtain ⟨hv49, Nq49, e49⟩ := hQ49
    have N49 := Fr.app N48 Nq49
    rw [if_neg (by simp [(Ne.symm (Fld.ne Fa_GREENSPACE_ordinal Fa_CONVENTIONAL_ordinal (fun q => absurd (Value.int.inj q) (by decide)))), (Ne.symm (Fld.ne Fa_ECO_PARK_ordinal Fa_CONVENTIONAL_ordinal (fun q => absurd (Value.int.inj q) (by decide))))])] at hv49; subst hv49
    refine OW.tr (B := T49.setTop (mkF m 17 #[.val (.int n1), .val (.int (1 : Int32)), .val (.ref a_CONVENTIONAL), .unset, .unset, .unset, .unset] [(.int (0 : Int32))])) (st49) ?_
    refine OW.st (B := T49.setTop (mkF m 18 #[.val (.int n1), .val (.int (1 : Int32)), .val (.ref a_CONVENTIONAL), .val (.int (0 : Int32)), .unset, .unset, .unset] [])) (fun _ k => XS.istoreN X49.here hx rfl (hb hby at_17) rfl (l' := #[.val (.int n1), .val (.int (1 : Int32)), .val (.ref a_CONVENTIONAL), .val (.int (0 : Int32)), .unset, .unset, .unset]) rfl k) ?_
    refine OW.st (B := T49.setTop (mkF m 19 #[.val (.int n1), .val (.int (1 : Int32)), .val (.ref a_CONVENTIONAL), .val (.int (0 : Int32)), .unset, .unset, .unset] [(.ref a_CONVENTIONAL)])) (fun _ k => XS.aloadN X49.here hx rfl (hb hby at_18) rfl rfl k) ?_
    obtain ⟨cq50, kq50, q50a, q50b, q50c⟩ := isOf hZ e49 (Ea_CONVENTIONAL.ext O0.2)
    obtain ⟨_, _, ⟨T50, L50, k50, n50⟩, -, X50, ⟨Lc50, hQ50, l50, y50, z50⟩, st50⟩ := X49.virtualBack hx (y := (⟨"com/example/tileburgh/tileburgh/model/ConstructionKind", "takesRenter", "()Z"⟩ : MethodName)) (z := (⟨"com/example/tileburgh/tileburgh/model/ConstructionKind", "takesRenter", "()Z"⟩ : MethodName)) hown (mvT hZ (w_17 hw)) (mvT hZ (w_18 hw)) (notFace_of_selects (args := #[]) (mvT hZ (w_20 hw))) (mvT hZ (w_20 hw)) (mvT hZ (w_19 hw)) (by decide) (backOf (W := 0) (rmR l Z a0 hw [] a_CONVENTIONAL a_LOW_COST a_GREENSPACE a_ECO_PARK a_SHOPPING a_CONVENTIONAL a_GREEN h0 n0 O0 hS) hZ (w_21 hw) (w_6 hw) (by decide) (by decide)) q50a q50c (g := (mkF m 19 #[.val (.int n1), .val (.int (1 : Int32)), .val (.ref a_CONVENTIONAL), .val (.int (0 : Int32)), .unset, .unset, .unset] [(.ref a_CONVENTIONAL)])) rfl (by rw [hml]; rfl) (Steps.refl _) (argsL := []) (rest := []) (lenOf pd_1 rfl) rfl (by show 2 * 0 + _ ≤ _; exact Nat.le_of_eq rfl) (hb hby at_19) (fun _ _ => ⟨rfl, e49, (by decide : 0 + 0 ≤ _), (by decide : 0 + 0 ≤ _)⟩)
    dsimp only [Pt.U, Pt.locs, Pt.cells, Pt.slots] at X50 l50 y50 z50 st50 hQ50
    subst l50 y50 z50
    obtain ⟨hv50, Nq50, e50⟩ := hQ50
    have N50 := Fr.app N49 Nq50
    rw [if_pos (by simp)] at hv50; subst hv50
    refine OW.tr (B := T50.setTop (mkF m 22 #[.val (.int n1), .val (.int (1 : Int32)), .val (.ref a_CONVENTIONAL), .val (.int (0 : Int32)), .unset, .unset, .unset] [(.int (1 : Int32))])) (st50) ?_
    refine OW.st (B := T50.setTop (mkF m 24 #[.val (.int n1), .val (.int (1 : Int32)), .val (.ref a_CONVENTIONAL), .val (.int (0 : Int32)), .val (.int (1 : Int32)), .unset, .unset] [])) (fun _ k => XS.istore X50.here hx rfl (hb hby at_22) rfl (l' := #[.val (.int n1), .val (.int (1 : Int32)), .val (.ref a_CONVENTIONAL), .val (.int (0 : Int32)), .val (.int (1 : Int32)), .unset, .unset]) rfl k) ?_
    refine OW.st (B := T50.setTop (mkF m 25 #[.val (.int n1), .val (.int (1 : Int32)), .val (.ref a_CONVENTIONAL), .val (.int (0 : Int32)), .val (.int (1 : Int32)), .unset, .unset] [(.ref a_CONVENTIONAL)])) (fun _ k => XS.aloadN X50.here hx rfl (hb hby at_24) rfl rfl k) ?_
    obtain ⟨T51, X51, e51, st51⟩ := getS2 X50 hx hZ hown (host := "") (Or.inl (w_23 hw)) Via.refl e50 (Sa_SHOPPING.ext O0.2) (g := (mkF m 25 #[.val (.int n1), .val (.int (1 : Int32)), .val (.ref a_CONVENTIONAL), .val (.int (0 : Int32)), .val (.int (1 : Int32)), .unset, .unset] [(.ref a_CONVENTIONAL)])) rfl (hb hby at_25)
    refine OW.st (B := T51.setTop (mkF m 28 #[.val (.int n1), .val (.int (1 : Int32)), .val (.ref a_CONVENTIONAL), .val (.int (0 : Int32)), .val (.int (1 : Int32)), .unset, .unset] [(.ref a_SHOPPING), (.ref a_CONVENTIONAL)])) (st51) ?_
    refine OW.st (B := T51.setTop (mkF m 35 #[.val (.int n1), .val (.int (1 : Int32)), .val (.ref a_CONVENTIONAL), .val (.int (0 : Int32)), .val (.int (1 : Int32)), .unset, .unset] [])) (fun _ k => Jvm.RoadKit.acmp (g := (mkF m 28 #[.val (.int n1), .val (.int (1 : Int32)), .val (.ref a_CONVENTIONAL), .val (.int (0 : Int32)), .val (.int (1 : Int32)), .unset, .unset] [(.ref a_SHOPPING), (.ref a_CONVENTIONAL)])) X51 hx rfl rfl rfl (pc0 := 28) (pc' := 35) (same := false) rfl (hb hby at_28) rfl (decide_eq_false fun q => (Ne.symm (Fld.ne Fa_SHOPPING_ordinal Fa_CONVENTIONAL_ordinal (fun q => absurd (Value.int.inj q) (by decide)))) (Value.ref.inj q)) (by decide) (by decide) k) ?_
    refine OW.st (B := T51.setTop (mkF m 36 #[.val (.int n1), .val (.int (1 : Int32)), .val (.ref a_CONVENTIONAL), .val (.int (0 : Int32)), .val (.int (1 : Int32)), .unset, .unset] [(.int (0 : Int32))])) (fun _ k => XS.iconst X51.here hx rfl (hb hby at_35) k) ?_
    refine OW.st (B := T51.setTop (mkF m 38 #[.val (.int n1), .val (.int (1 : Int32)), .val (.ref a_CONVENTIONAL), .val (.int (0 : Int32)), .val (.int (1 : Int32)), .val (.int (0 : Int32)), .unset] [])) (fun _ k => XS.istore X51.here hx rfl (hb hby at_36) rfl (l' := #[.val (.int n1), .val (.int (1 : Int32)), .val (.ref a_CONVENTIONAL), .val (.int (0 : Int32)), .val (.int (1 : Int32)), .val (.int (0 : Int32)), .unset]) rfl k) ?_
    refine OW.st (B := T51.setTop (mkF m 39 #[.val (.int n1), .val (.int (1 : Int32)), .val (.ref a_CONVENTIONAL), .val (.int (0 : Int32)), .val (.int (1 : Int32)), .val (.int (0 : Int32)), .unset] [(.int (0 : Int32))])) (fun _ k => XS.iconst X51.here hx rfl (hb hby at_38) k) ?_
    refine OW.st (B := T51.setTop (mkF m 41 #[.val (.int n1), .val (.int (1 : Int32)), .val (.ref a_CONVENTIONAL), .val (.int (0 : Int32)), .val (.int (1 : Int32)), .val (.int (0 : Int32)), .val (.int (0 : Int32))] [])) (fun _ k => XS.istore X51.here hx rfl (hb hby at_39) rfl (l' := #[.val (.int n1), .val (.int (1 : Int32)), .val (.ref a_CONVENTIONAL), .val (.int (0 : Int32)), .val (.int (1 : Int32)), .val (.int (0 : Int32)), .val (.int (0 : Int32))]) rfl k) ?_
    refine OW.st (B := T51.setTop (mkF m 42 #[.val (.int n1), .val (.int (1 : Int32)), .val (.ref a_CONVENTIONAL), .val (.int (0 : Int32)), .val (.int (1 : Int32)), .val (.int (0 : Int32)), .val (.int (0 : Int32))] [(.int (0 : Int32))])) (fun _ k => XS.iloadN X51.here hx rfl (hb hby at_41) rfl k) ?_
    refine OW.st (B := T51.setTop (mkF m 51 #[.val (.int n1), .val (.int (1 : Int32)), .val (.ref a_CONVENTIONAL), .val (.int (0 : Int32)), .val (.int (1 : Int32)), .val (.int (0 : Int32)), .val (.int (0 : Int32))] [])) (fun _ k => XS.ifYes X51.here hx rfl (pc0 := 42) (pc' := 51) rfl (hb hby at_42) rfl ((if0 _ _).trans (teq (by decide)).1) (by decide) (by decide) k) ?_
    refine OW.st (B := T51.setTop (mkF m 53 #[.val (.int n1), .val (.int (1 : Int32)), .val (.ref a_CONVENTIONAL), .val (.int (0 : Int32)), .val (.int (1 : Int32)), .val (.int (0 : Int32)), .val (.int (0 : Int32))] [(.int (1 : Int32))])) (fun _ k => XS.iload X51.here hx rfl (hb hby at_51) rfl k) ?_
    refine OW.st (B := T51.setTop (mkF m 56 #[.val (.int n1), .val (.int (1 : Int32)), .val (.ref a_CONVENTIONAL), .val (.int (0 : Int32)), .val (.int (1 : Int32)), .val (.int (0 : Int32)), .val (.int (0 : Int32))] [])) (fun _ k => XS.ifNo X51.here hx rfl (hb hby at_53) rfl ((if0 _ _).trans (feq (by decide)).1) k) ?_
    refine OW.st (B := T51.setTop (mkF m 58 #[.val (.int n1), .val (.int (1 : Int32)), .val (.ref a_CONVENTIONAL), .val (.int (0 : Int32)), .val (.int (1 : Int32)), .val (.int (0 : Int32)), .val (.int (0 : Int32))] [(.int (0 : Int32))])) (fun _ k => XS.iload X51.here hx rfl (hb hby at_56) rfl k) ?_
    refine OW.st (B := T51.setTop (mkF m 59 #[.val (.int n1), .val (.int (1 : Int32)), .val (.ref a_CONVENTIONAL), .val (.int (0 : Int32)), .val (.int (1 : Int32)), .val (.int (0 : Int32)), .val (.int (0 : Int32))] [(.int (1 : Int32)), (.int (0 : Int32))])) (fun _ k => XS.iconst X51.here hx rfl (hb hby at_58) k) ?_
    refine OW.st (B := T51.setTop (mkF m 60 #[.val (.int n1), .val (.int (1 : Int32)), .val (.ref a_CONVENTIONAL), .val (.int (0 : Int32)), .val (.int (1 : Int32)), .val (.int (0 : Int32)), .val (.int (0 : Int32))] [(.int ((0 : Int32) + (1 : Int32)))])) (fun _ k => XS.iadd X51.here hx rfl (hb hby at_59) rfl k) ?_
    refine OW.st (B := T51.setTop (mkF m 62 #[.val (.int n1), .val (.int (1 : Int32)), .val (.ref a_CONVENTIONAL), .val (.int (0 : Int32)), .val (.int (1 : Int32)), .val (.int (0 : Int32)), .val (.int ((0 : Int32) + (1 : Int32)))] [])) (fun _ k => XS.istore X51.here hx rfl (hb hby at_60) rfl (l' := #[.val (.int n1), .val (.int (1 : Int32)), .val (.ref a_CONVENTIONAL), .val (.int (0 : Int32)), .val (.int (1 : Int32)), .val (.int (0 : Int32)), .val (.int ((0 : Int32) + (1 : Int32)))]) rfl k) ?_
    refine OW.st (B := T51.setTop (mkF m 64 #[.val (.int n1), .val (.int (1 : Int32)), .val (.ref a_CONVENTIONAL), .val (.int (0 : Int32)), .val (.int (1 : Int32)), .val (.int (0 : Int32)), .val (.int ((0 : Int32) + (1 : Int32)))] [(.int (0 : Int32))])) (fun _ k => XS.iload X51.here hx rfl (hb hby at_62) rfl k) ?_
    refine OW.st (B := T51.setTop (mkF m 73 #[.val (.int n1), .val (.int (1 : Int32)), .val (.ref a_CONVENTIONAL), .val (.int (0 : Int32)), .val (.int (1 : Int32)), .val (.int (0 : Int32)), .val (.int ((0 : Int32) + (1 : Int32)))] [])) (fun _ k => XS.ifYes X51.here hx rfl (pc0 := 64) (pc' := 73) rfl (hb hby at_64) rfl ((if0 _ _).trans (teq (by decide)).1) (by decide) (by decide) k) ?_
    refine OW.st (B := T51.setTop (mkF m 75 #[.val (.int n1), .val (.int (1 : Int32)), .val (.ref a_CONVENTIONAL), .val (.int (0 : Int32)), .val (.int (1 : Int32)), .val (.int (0 : Int32)), .val (.int ((0 : Int32) + (1 : Int32)))] [(.int ((0 : Int32) + (1 : Int32)))])) (fun _ k => XS.iload X51.here hx rfl (hb hby at_73) rfl k) ?_
    refine OW.st (B := T51.setTop (mkF m 76 #[.val (.int n1), .val (.int (1 : Int32)), .val (.ref a_CONVENTIONAL), .val (.int (0 : Int32)), .val (.int (1 : Int32)), .val (.int (0 : Int32)), .val (.int ((0 : Int32) + (1 : Int32)))] [(.int (1 : Int32)), (.int ((0 : Int32) + (1 : Int32)))])) (fun _ k => XS.iconst X51.here hx rfl (hb hby at_75) k) ?_
    refine OW.st (B := T51.setTop (mkF m 79 #[.val (.int n1), .val (.int (1 : Int32)), .val (.ref a_CONVENTIONAL), .val (.int (0 : Int32)), .val (.int (1 : Int32)), .val (.int (0 : Int32)), .val (.int ((0 : Int32) + (1 : Int32)))] [])) (fun _ k => XS.icmpNo X51.here hx rfl (hb hby at_76) rfl (teq (by decide)).2 k) ?_
    refine OW.st (B := T51.setTop (mkF m 80 #[.val (.int n1), .val (.int (1 : Int32)), .val (.ref a_CONVENTIONAL), .val (.int (0 : Int32)), .val (.int (1 : Int32)), .val (.int (0 : Int32)), .val (.int ((0 : Int32) + (1 : Int32)))] [(.int (1 : Int32))])) (fun _ k => XS.iconst X51.here hx rfl (hb hby at_79) k) ?_
    refine OW.st (B := T51.setTop (mkF m 84 #[.val (.int n1), .val (.int (1 : Int32)), .val (.ref a_CONVENTIONAL), .val (.int (0 : Int32)), .val (.int (1 : Int32)), .val (.int (0 : Int32)), .val (.int ((0 : Int32) + (1 : Int32)))] [(.int (1 : Int32))])) (fun _ k => XS.goto X51.here hx rfl (pc0 := 80) (pc' := 84) rfl (hb hby at_80) (by decide) (by decide) k) ?_
    exact OW.ret X51 hx hlk (i := .ireturn) Bd.returns rfl (Or.inl ⟨rfl, Or.inr (Or.inl rfl), _, rfl⟩) (hb hby at_84) e51 (by decide) (by decide) ⟨rfl, N50⟩
  · refine OW.st (B := s₁.setTop (mkF m 8 #[.val (.int n1), .val (.int (2 : Int32)), .unset, .unset, .unset, .unset, .unset] [])) (fun _ k => XS.istoreN X0.here hx rfl (hb hby at_7) rfl (l' := #[.val (.int n1), .val (.int (2 : Int32)), .unset, .unset, .unset, .unset, .unset]) rfl k) ?_
    refine OW.st (B := s₁.setTop (mkF m 9 #[.val (.int n1), .val (.int (2 : Int32)), .unset, .unset, .unset, .unset, .unset] [(.int (2 : Int32))])) (fun _ k => XS.iloadN X0.here hx rfl (hb hby at_8) rfl k) ?_
    obtain ⟨_, _, ⟨T52, L52, k52, n52⟩, -, X52, ⟨Lc52, hQ52, l52, y52, z52⟩, st52⟩ := Jvm.LawKit.callS X0 hx (y := (⟨"com/example/tileburgh/tileburgh/model/ConstructionKindIsParkPinLaw", "pick", "(I)Lcom/example/tileburgh/tileburgh/model/ConstructionKind;"⟩ : MethodName)) hown (mvT hZ (w_1 hw)) (mvT hZ (w_2 hw)) (mvT hZ (w_3 hw)) (mvT hZ (w_4 hw)) (by decide) (backOf (W := 0) (rmP l Z a0 hw [] (2 : Int32) a_LOW_COST a_GREENSPACE a_ECO_PARK a_SHOPPING a_CONVENTIONAL a_GREEN h0 n0 O0 hS) hZ (w_4 hw) (w_3 hw) (by decide) (by decide)) (g := (mkF m 9 #[.val (.int n1), .val (.int (2 : Int32)), .unset, .unset, .unset, .unset, .unset] [(.int (2 : Int32))])) rfl (by rw [hml]; rfl) (argsL := [(.int (2 : Int32))]) (rest := []) (lenOf pd_0 rfl) rfl (by show 2 * 0 + _ ≤ _; exact Nat.le_of_eq rfl) (hb hby at_9) (fun _ _ => ⟨rfl, e0, (by decide : 0 + 0 ≤ _), (by decide : 0 + 0 ≤ _)⟩)
    dsimp only [Pt.U, Pt.locs, Pt.cells, Pt.slots] at X52 l52 y52 z52 st52 hQ52
    subst l52 y52 z52
    obtain ⟨rfl, Nq52, e52⟩ := hQ52
    have N52 := Fr.app N0 Nq52
    refine OW.st (B := T52.setTop (mkF m 12 #[.val (.int n1), .val (.int (2 : Int32)), .unset, .unset, .unset, .unset, .unset] [(.ref a_GREEN)])) (st52) ?_
    refine OW.st (B := T52.setTop (mkF m 13 #[.val (.int n1), .val (.int (2 : Int32)), .val (.ref a_GREEN), .unset, .unset, .unset, .unset] [])) (fun _ k => XS.astoreN X52.here hx rfl (hb hby at_12) rfl rfl (l' := #[.val (.int n1), .val (.int (2 : Int32)), .val (.ref a_GREEN), .unset, .unset, .unset, .unset]) rfl k) ?_
    refine OW.st (B := T52.setTop (mkF m 14 #[.val (.int n1), .val (.int (2 : Int32)), .val (.ref a_GREEN), .unset, .unset, .unset, .unset] [(.ref a_GREEN)])) (fun _ k => XS.aloadN X52.here hx rfl (hb hby at_13) rfl rfl k) ?_
    obtain ⟨cq53, kq53, q53a, q53b, q53c⟩ := isOf hZ e52 (Ea_GREEN.ext O0.2)
    obtain ⟨_, _, ⟨T53, L53, k53, n53⟩, -, X53, ⟨Lc53, hQ53, l53, y53, z53⟩, st53⟩ := X52.virtualBack hx (y := (⟨"com/example/tileburgh/tileburgh/model/ConstructionKind", "isPark", "()Z"⟩ : MethodName)) (z := (⟨"com/example/tileburgh/tileburgh/model/ConstructionKind", "isPark", "()Z"⟩ : MethodName)) hown (mvT hZ (w_8 hw)) (mvT hZ (w_9 hw)) (notFace_of_selects (args := #[]) (mvT hZ (w_11 hw))) (mvT hZ (w_11 hw)) (mvT hZ (w_10 hw)) (by decide) (backOf (W := 0) (rmK l Z a0 hw [] a_GREEN a_LOW_COST a_GREENSPACE a_ECO_PARK a_SHOPPING a_CONVENTIONAL a_GREEN h0 n0 O0 hS) hZ (w_12 hw) (w_6 hw) (by decide) (by decide)) q53a q53c (g := (mkF m 14 #[.val (.int n1), .val (.int (2 : Int32)), .val (.ref a_GREEN), .unset, .unset, .unset, .unset] [(.ref a_GREEN)])) rfl (by rw [hml]; rfl) (Steps.refl _) (argsL := []) (rest := []) (lenOf pd_1 rfl) rfl (by show 2 * 0 + _ ≤ _; exact Nat.le_of_eq rfl) (hb hby at_14) (fun _ _ => ⟨rfl, e52, (by decide : 0 + 0 ≤ _), (by decide : 0 + 0 ≤ _)⟩)
    dsimp only [Pt.U, Pt.locs, Pt.cells, Pt.slots] at X53 l53 y53 z53 st53 hQ53
    subst l53 y53 z53
    obtain ⟨hv53, Nq53, e53⟩ := hQ53
    have N53 := Fr.app N52 Nq53
    rw [if_neg (by simp [(Ne.symm (Fld.ne Fa_GREENSPACE_ordinal Fa_GREEN_ordinal (fun q => absurd (Value.int.inj q) (by decide)))), (Ne.symm (Fld.ne Fa_ECO_PARK_ordinal Fa_GREEN_ordinal (fun q => absurd (Value.int.inj q) (by decide))))])] at hv53; subst hv53
    refine OW.tr (B := T53.setTop (mkF m 17 #[.val (.int n1), .val (.int (2 : Int32)), .val (.ref a_GREEN), .unset, .unset, .unset, .unset] [(.int (0 : Int32))])) (st53) ?_
    refine OW.st (B := T53.setTop (mkF m 18 #[.val (.int n1), .val (.int (2 : Int32)), .val (.ref a_GREEN), .val (.int (0 : Int32)), .unset, .unset, .unset] [])) (fun _ k => XS.istoreN X53.here hx rfl (hb hby at_17) rfl (l' := #[.val (.int n1), .val (.int (2 : Int32)), .val (.ref a_GREEN), .val (.int (0 : Int32)), .unset, .unset, .unset]) rfl k) ?_
    refine OW.st (B := T53.setTop (mkF m 19 #[.val (.int n1), .val (.int (2 : Int32)), .val (.ref a_GREEN), .val (.int (0 : Int32)), .unset, .unset, .unset] [(.ref a_GREEN)])) (fun _ k => XS.aloadN X53.here hx rfl (hb hby at_18) rfl rfl k) ?_
    obtain ⟨cq54, kq54, q54a, q54b, q54c⟩ := isOf hZ e53 (Ea_GREEN.ext O0.2)
    obtain ⟨_, _, ⟨T54, L54, k54, n54⟩, -, X54, ⟨Lc54, hQ54, l54, y54, z54⟩, st54⟩ := X53.virtualBack hx (y := (⟨"com/example/tileburgh/tileburgh/model/ConstructionKind", "takesRenter", "()Z"⟩ : MethodName)) (z := (⟨"com/example/tileburgh/tileburgh/model/ConstructionKind", "takesRenter", "()Z"⟩ : MethodName)) hown (mvT hZ (w_17 hw)) (mvT hZ (w_18 hw)) (notFace_of_selects (args := #[]) (mvT hZ (w_20 hw))) (mvT hZ (w_20 hw)) (mvT hZ (w_19 hw)) (by decide) (backOf (W := 0) (rmR l Z a0 hw [] a_GREEN a_LOW_COST a_GREENSPACE a_ECO_PARK a_SHOPPING a_CONVENTIONAL a_GREEN h0 n0 O0 hS) hZ (w_21 hw) (w_6 hw) (by decide) (by decide)) q54a q54c (g := (mkF m 19 #[.val (.int n1), .val (.int (2 : Int32)), .val (.ref a_GREEN), .val (.int (0 : Int32)), .unset, .unset, .unset] [(.ref a_GREEN)])) rfl (by rw [hml]; rfl) (Steps.refl _) (argsL := []) (rest := []) (lenOf pd_1 rfl) rfl (by show 2 * 0 + _ ≤ _; exact Nat.le_of_eq rfl) (hb hby at_19) (fun _ _ => ⟨rfl, e53, (by decide : 0 + 0 ≤ _), (by decide : 0 + 0 ≤ _)⟩)
    dsimp only [Pt.U, Pt.locs, Pt.cells, Pt.slots] at X54 l54 y54 z54 st54 hQ54
    subst l54 y54 z54
    obtain ⟨hv54, Nq54, e54⟩ := hQ54
    have N54 := Fr.app N53 Nq54
    rw [if_pos (by simp)] at hv54; subst hv54
    refine OW.tr (B := T54.setTop (mkF m 22 #[.val (.int n1), .val (.int (2 : Int32)), .val (.ref a_GREEN), .val (.int (0 : Int32)), .unset, .unset, .unset] [(.int (1 : Int32))])) (st54) ?_
    refine OW.st (B := T54.setTop (mkF m 24 #[.val (.int n1), .val (.int (2 : Int32)), .val (.ref a_GREEN), .val (.int (0 : Int32)), .val (.int (1 : Int32)), .unset, .unset] [])) (fun _ k => XS.istore X54.here hx rfl (hb hby at_22) rfl (l' := #[.val (.int n1), .val (.int (2 : Int32)), .val (.ref a_GREEN), .val (.int (0 : Int32)), .val (.int (1 : Int32)), .unset, .unset]) rfl k) ?_
    refine OW.st (B := T54.setTop (mkF m 25 #[.val (.int n1), .val (.int (2 : Int32)), .val (.ref a_GREEN), .val (.int (0 : Int32)), .val (.int (1 : Int32)), .unset, .unset] [(.ref a_GREEN)])) (fun _ k => XS.aloadN X54.here hx rfl (hb hby at_24) rfl rfl k) ?_
    obtain ⟨T55, X55, e55, st55⟩ := getS2 X54 hx hZ hown (host := "") (Or.inl (w_23 hw)) Via.refl e54 (Sa_SHOPPING.ext O0.2) (g := (mkF m 25 #[.val (.int n1), .val (.int (2 : Int32)), .val (.ref a_GREEN), .val (.int (0 : Int32)), .val (.int (1 : Int32)), .unset, .unset] [(.ref a_GREEN)])) rfl (hb hby at_25)
    refine OW.st (B := T55.setTop (mkF m 28 #[.val (.int n1), .val (.int (2 : Int32)), .val (.ref a_GREEN), .val (.int (0 : Int32)), .val (.int (1 : Int32)), .unset, .unset] [(.ref a_SHOPPING), (.ref a_GREEN)])) (st55) ?_
    refine OW.st (B := T55.setTop (mkF m 35 #[.val (.int n1), .val (.int (2 : Int32)), .val (.ref a_GREEN), .val (.int (0 : Int32)), .val (.int (1 : Int32)), .unset, .unset] [])) (fun _ k => Jvm.RoadKit.acmp (g := (mkF m 28 #[.val (.int n1), .val (.int (2 : Int32)), .val (.ref a_GREEN), .val (.int (0 : Int32)), .val (.int (1 : Int32)), .unset, .unset] [(.ref a_SHOPPING), (.ref a_GREEN)])) X55 hx rfl rfl rfl (pc0 := 28) (pc' := 35) (same := false) rfl (hb hby at_28) rfl (decide_eq_false fun q => (Ne.symm (Fld.ne Fa_SHOPPING_ordinal Fa_GREEN_ordinal (fun q => absurd (Value.int.inj q) (by decide)))) (Value.ref.inj q)) (by decide) (by decide) k) ?_
    refine OW.st (B := T55.setTop (mkF m 36 #[.val (.int n1), .val (.int (2 : Int32)), .val (.ref a_GREEN), .val (.int (0 : Int32)), .val (.int (1 : Int32)), .unset, .unset] [(.int (0 : Int32))])) (fun _ k => XS.iconst X55.here hx rfl (hb hby at_35) k) ?_
    refine OW.st (B := T55.setTop (mkF m 38 #[.val (.int n1), .val (.int (2 : Int32)), .val (.ref a_GREEN), .val (.int (0 : Int32)), .val (.int (1 : Int32)), .val (.int (0 : Int32)), .unset] [])) (fun _ k => XS.istore X55.here hx rfl (hb hby at_36) rfl (l' := #[.val (.int n1), .val (.int (2 : Int32)), .val (.ref a_GREEN), .val (.int (0 : Int32)), .val (.int (1 : Int32)), .val (.int (0 : Int32)), .unset]) rfl k) ?_
    refine OW.st (B := T55.setTop (mkF m 39 #[.val (.int n1), .val (.int (2 : Int32)), .val (.ref a_GREEN), .val (.int (0 : Int32)), .val (.int (1 : Int32)), .val (.int (0 : Int32)), .unset] [(.int (0 : Int32))])) (fun _ k => XS.iconst X55.here hx rfl (hb hby at_38) k) ?_
    refine OW.st (B := T55.setTop (mkF m 41 #[.val (.int n1), .val (.int (2 : Int32)), .val (.ref a_GREEN), .val (.int (0 : Int32)), .val (.int (1 : Int32)), .val (.int (0 : Int32)), .val (.int (0 : Int32))] [])) (fun _ k => XS.istore X55.here hx rfl (hb hby at_39) rfl (l' := #[.val (.int n1), .val (.int (2 : Int32)), .val (.ref a_GREEN), .val (.int (0 : Int32)), .val (.int (1 : Int32)), .val (.int (0 : Int32)), .val (.int (0 : Int32))]) rfl k) ?_
    refine OW.st (B := T55.setTop (mkF m 42 #[.val (.int n1), .val (.int (2 : Int32)), .val (.ref a_GREEN), .val (.int (0 : Int32)), .val (.int (1 : Int32)), .val (.int (0 : Int32)), .val (.int (0 : Int32))] [(.int (0 : Int32))])) (fun _ k => XS.iloadN X55.here hx rfl (hb hby at_41) rfl k) ?_
    refine OW.st (B := T55.setTop (mkF m 51 #[.val (.int n1), .val (.int (2 : Int32)), .val (.ref a_GREEN), .val (.int (0 : Int32)), .val (.int (1 : Int32)), .val (.int (0 : Int32)), .val (.int (0 : Int32))] [])) (fun _ k => XS.ifYes X55.here hx rfl (pc0 := 42) (pc' := 51) rfl (hb hby at_42) rfl ((if0 _ _).trans (teq (by decide)).1) (by decide) (by decide) k) ?_
    refine OW.st (B := T55.setTop (mkF m 53 #[.val (.int n1), .val (.int (2 : Int32)), .val (.ref a_GREEN), .val (.int (0 : Int32)), .val (.int (1 : Int32)), .val (.int (0 : Int32)), .val (.int (0 : Int32))] [(.int (1 : Int32))])) (fun _ k => XS.iload X55.here hx rfl (hb hby at_51) rfl k) ?_
    refine OW.st (B := T55.setTop (mkF m 56 #[.val (.int n1), .val (.int (2 : Int32)), .val (.ref a_GREEN), .val (.int (0 : Int32)), .val (.int (1 : Int32)), .val (.int (0 : Int32)), .val (.int (0 : Int32))] [])) (fun _ k => XS.ifNo X55.here hx rfl (hb hby at_53) rfl ((if0 _ _).trans (feq (by decide)).1) k) ?_
    refine OW.st (B := T55.setTop (mkF m 58 #[.val (.int n1), .val (.int (2 : Int32)), .val (.ref a_GREEN), .val (.int (0 : Int32)), .val (.int (1 : Int32)), .val (.int (0 : Int32)), .val (.int (0 : Int32))] [(.int (0 : Int32))])) (fun _ k => XS.iload X55.here hx rfl (hb hby at_56) rfl k) ?_
    refine OW.st (B := T55.setTop (mkF m 59 #[.val (.int n1), .val (.int (2 : Int32)), .val (.ref a_GREEN), .val (.int (0 : Int32)), .val (.int (1 : Int32)), .val (.int (0 : Int32)), .val (.int (0 : Int32))] [(.int (1 : Int32)), (.int (0 : Int32))])) (fun _ k => XS.iconst X55.here hx rfl (hb hby at_58) k) ?_
    refine OW.st (B := T55.setTop (mkF m 60 #[.val (.int n1), .val (.int (2 : Int32)), .val (.ref a_GREEN), .val (.int (0 : Int32)), .val (.int (1 : Int32)), .val (.int (0 : Int32)), .val (.int (0 : Int32))] [(.int ((0 : Int32) + (1 : Int32)))])) (fun _ k => XS.iadd X55.here hx rfl (hb hby at_59) rfl k) ?_
    refine OW.st (B := T55.setTop (mkF m 62 #[.val (.int n1), .val (.int (2 : Int32)), .val (.ref a_GREEN), .val (.int (0 : Int32)), .val (.int (1 : Int32)), .val (.int (0 : Int32)), .val (.int ((0 : Int32) + (1 : Int32)))] [])) (fun _ k => XS.istore X55.here hx rfl (hb hby at_60) rfl (l' := #[.val (.int n1), .val (.int (2 : Int32)), .val (.ref a_GREEN), .val (.int (0 : Int32)), .val (.int (1 : Int32)), .val (.int (0 : Int32)), .val (.int ((0 : Int32) + (1 : Int32)))]) rfl k) ?_
    refine OW.st (B := T55.setTop (mkF m 64 #[.val (.int n1), .val (.int (2 : Int32)), .val (.ref a_GREEN), .val (.int (0 : Int32)), .val (.int (1 : Int32)), .val (.int (0 : Int32)), .val (.int ((0 : Int32) + (1 : Int32)))] [(.int (0 : Int32))])) (fun _ k => XS.iload X55.here hx rfl (hb hby at_62) rfl k) ?_
    refine OW.st (B := T55.setTop (mkF m 73 #[.val (.int n1), .val (.int (2 : Int32)), .val (.ref a_GREEN), .val (.int (0 : Int32)), .val (.int (1 : Int32)), .val (.int (0 : Int32)), .val (.int ((0 : Int32) + (1 : Int32)))] [])) (fun _ k => XS.ifYes X55.here hx rfl (pc0 := 64) (pc' := 73) rfl (hb hby at_64) rfl ((if0 _ _).trans (teq (by decide)).1) (by decide) (by decide) k) ?_
    refine OW.st (B := T55.setTop (mkF m 75 #[.val (.int n1), .val (.int (2 : Int32)), .val (.ref a_GREEN), .val (.int (0 : Int32)), .val (.int (1 : Int32)), .val (.int (0 : Int32)), .val (.int ((0 : Int32) + (1 : Int32)))] [(.int ((0 : Int32) + (1 : Int32)))])) (fun _ k => XS.iload X55.here hx rfl (hb hby at_73) rfl k) ?_
    refine OW.st (B := T55.setTop (mkF m 76 #[.val (.int n1), .val (.int (2 : Int32)), .val (.ref a_GREEN), .val (.int (0 : Int32)), .val (.int (1 : Int32)), .val (.int (0 : Int32)), .val (.int ((0 : Int32) + (1 : Int32)))] [(.int (1 : Int32)), (.int ((0 : Int32) + (1 : Int32)))])) (fun _ k => XS.iconst X55.here hx rfl (hb hby at_75) k) ?_
    refine OW.st (B := T55.setTop (mkF m 79 #[.val (.int n1), .val (.int (2 : Int32)), .val (.ref a_GREEN), .val (.int (0 : Int32)), .val (.int (1 : Int32)), .val (.int (0 : Int32)), .val (.int ((0 : Int32) + (1 : Int32)))] [])) (fun _ k => XS.icmpNo X55.here hx rfl (hb hby at_76) rfl (teq (by decide)).2 k) ?_
    refine OW.st (B := T55.setTop (mkF m 80 #[.val (.int n1), .val (.int (2 : Int32)), .val (.ref a_GREEN), .val (.int (0 : Int32)), .val (.int (1 : Int32)), .val (.int (0 : Int32)), .val (.int ((0 : Int32) + (1 : Int32)))] [(.int (1 : Int32))])) (fun _ k => XS.iconst X55.here hx rfl (hb hby at_79) k) ?_
    refine OW.st (B := T55.setTop (mkF m 84 #[.val (.int n1), .val (.int (2 : Int32)), .val (.ref a_GREEN), .val (.int (0 : Int32)), .val (.int (1 : Int32)), .val (.int (0 : Int32)), .val (.int ((0 : Int32) + (1 : Int32)))] [(.int (1 : Int32))])) (fun _ k => XS.goto X55.here hx rfl (pc0 := 80) (pc' := 84) rfl (hb hby at_80) (by decide) (by decide) k) ?_
    exact OW.ret X55 hx hlk (i := .ireturn) Bd.returns rfl (Or.inl ⟨rfl, Or.inr (Or.inl rfl), _, rfl⟩) (hb hby at_84) e55 (by decide) (by decide) ⟨rfl, N54⟩
  · refine OW.st (B := s₁.setTop (mkF m 8 #[.val (.int n1), .val (.int (3 : Int32)), .unset, .unset, .unset, .unset, .unset] [])) (fun _ k => XS.istoreN X0.here hx rfl (hb hby at_7) rfl (l' := #[.val (.int n1), .val (.int (3 : Int32)), .unset, .unset, .unset, .unset, .unset]) rfl k) ?_
    refine OW.st (B := s₁.setTop (mkF m 9 #[.val (.int n1), .val (.int (3 : Int32)), .unset, .unset, .unset, .unset, .unset] [(.int (3 : Int32))])) (fun _ k => XS.iloadN X0.here hx rfl (hb hby at_8) rfl k) ?_
    obtain ⟨_, _, ⟨T56, L56, k56, n56⟩, -, X56, ⟨Lc56, hQ56, l56, y56, z56⟩, st56⟩ := Jvm.LawKit.callS X0 hx (y := (⟨"com/example/tileburgh/tileburgh/model/ConstructionKindIsParkPinLaw", "pick", "(I)Lcom/example/tileburgh/tileburgh/model/ConstructionKind;"⟩ : MethodName)) hown (mvT hZ (w_1 hw)) (mvT hZ (w_2 hw)) (mvT hZ (w_3 hw)) (mvT hZ (w_4 hw)) (by decide) (backOf (W := 0) (rmP l Z a0 hw [] (3 : Int32) a_LOW_COST a_GREENSPACE a_ECO_PARK a_SHOPPING a_CONVENTIONAL a_GREEN h0 n0 O0 hS) hZ (w_4 hw) (w_3 hw) (by decide) (by decide)) (g := (mkF m 9 #[.val (.int n1), .val (.int (3 : Int32)), .unset, .unset, .unset, .unset, .unset] [(.int (3 : Int32))])) rfl (by rw [hml]; rfl) (argsL := [(.int (3 : Int32))]) (rest := []) (lenOf pd_0 rfl) rfl (by show 2 * 0 + _ ≤ _; exact Nat.le_of_eq rfl) (hb hby at_9) (fun _ _ => ⟨rfl, e0, (by decide : 0 + 0 ≤ _), (by decide : 0 + 0 ≤ _)⟩)
    dsimp only [Pt.U, Pt.locs, Pt.cells, Pt.slots] at X56 l56 y56 z56 st56 hQ56
    subst l56 y56 z56
    obtain ⟨rfl, Nq56, e56⟩ := hQ56
    have N56 := Fr.app N0 Nq56
    refine OW.st (B := T56.setTop (mkF m 12 #[.val (.int n1), .val (.int (3 : Int32)), .unset, .unset, .unset, .unset, .unset] [(.ref a_SHOPPING)])) (st56) ?_
    refine OW.st (B := T56.setTop (mkF m 13 #[.val (.int n1), .val (.int (3 : Int32)), .val (.ref a_SHOPPING), .unset, .unset, .unset, .unset] [])) (fun _ k => XS.astoreN X56.here hx rfl (hb hby at_12) rfl rfl (l' := #[.val (.int n1), .val (.int (3 : Int32)), .val (.ref a_SHOPPING), .unset, .unset, .unset, .unset]) rfl k) ?_
    refine OW.st (B := T56.setTop (mkF m 14 #[.val (.int n1), .val (.int (3 : Int32)), .val (.ref a_SHOPPING), .unset, .unset, .unset, .unset] [(.ref a_SHOPPING)])) (fun _ k => XS.aloadN X56.here hx rfl (hb hby at_13) rfl rfl k) ?_
    obtain ⟨cq57, kq57, q57a, q57b, q57c⟩ := isOf hZ e56 (Ea_SHOPPING.ext O0.2)
    obtain ⟨_, _, ⟨T57, L57, k57, n57⟩, -, X57, ⟨Lc57, hQ57, l57, y57, z57⟩, st57⟩ := X56.virtualBack hx (y := (⟨"com/example/tileburgh/tileburgh/model/ConstructionKind", "isPark", "()Z"⟩ : MethodName)) (z := (⟨"com/example/tileburgh/tileburgh/model/ConstructionKind", "isPark", "()Z"⟩ : MethodName)) hown (mvT hZ (w_8 hw)) (mvT hZ (w_9 hw)) (notFace_of_selects (args := #[]) (mvT hZ (w_11 hw))) (mvT hZ (w_11 hw)) (mvT hZ (w_10 hw)) (by decide) (backOf (W := 0) (rmK l Z a0 hw [] a_SHOPPING a_LOW_COST a_GREENSPACE a_ECO_PARK a_SHOPPING a_CONVENTIONAL a_GREEN h0 n0 O0 hS) hZ (w_12 hw) (w_6 hw) (by decide) (by decide)) q57a q57c (g := (mkF m 14 #[.val (.int n1), .val (.int (3 : Int32)), .val (.ref a_SHOPPING), .unset, .unset, .unset, .unset] [(.ref a_SHOPPING)])) rfl (by rw [hml]; rfl) (Steps.refl _) (argsL := []) (rest := []) (lenOf pd_1 rfl) rfl (by show 2 * 0 + _ ≤ _; exact Nat.le_of_eq rfl) (hb hby at_14) (fun _ _ => ⟨rfl, e56, (by decide : 0 + 0 ≤ _), (by decide : 0 + 0 ≤ _)⟩)
    dsimp only [Pt.U, Pt.locs, Pt.cells, Pt.slots] at X57 l57 y57 z57 st57 hQ57
    subst l57 y57 z57
    obtain ⟨hv57, Nq57, e57⟩ := hQ57
    have N57 := Fr.app N56 Nq57
    rw [if_neg (by simp [(Ne.symm (Fld.ne Fa_GREENSPACE_ordinal Fa_SHOPPING_ordinal (fun q => absurd (Value.int.inj q) (by decide)))), (Ne.symm (Fld.ne Fa_ECO_PARK_ordinal Fa_SHOPPING_ordinal (fun q => absurd (Value.int.inj q) (by decide))))])] at hv57; subst hv57
    refine OW.tr (B := T57.setTop (mkF m 17 #[.val (.int n1), .val (.int (3 : Int32)), .val (.ref a_SHOPPING), .unset, .unset, .unset, .unset] [(.int (0 : Int32))])) (st57) ?_
    refine OW.st (B := T57.setTop (mkF m 18 #[.val (.int n1), .val (.int (3 : Int32)), .val (.ref a_SHOPPING), .val (.int (0 : Int32)), .unset, .unset, .unset] [])) (fun _ k => XS.istoreN X57.here hx rfl (hb hby at_17) rfl (l' := #[.val (.int n1), .val (.int (3 : Int32)), .val (.ref a_SHOPPING), .val (.int (0 : Int32)), .unset, .unset, .unset]) rfl k) ?_
    refine OW.st (B := T57.setTop (mkF m 19 #[.val (.int n1), .val (.int (3 : Int32)), .val (.ref a_SHOPPING), .val (.int (0 : Int32)), .unset, .unset, .unset] [(.ref a_SHOPPING)])) (fun _ k => XS.aloadN X57.here hx rfl (hb hby at_18) rfl rfl k) ?_
    obtain ⟨cq58, kq58, q58a, q58b, q58c⟩ := isOf hZ e57 (Ea_SHOPPING.ext O0.2)
    obtain ⟨_, _, ⟨T58, L58, k58, n58⟩, -, X58, ⟨Lc58, hQ58, l58, y58, z58⟩, st58⟩ := X57.virtualBack hx (y := (⟨"com/example/tileburgh/tileburgh/model/ConstructionKind", "takesRenter", "()Z"⟩ : MethodName)) (z := (⟨"com/example/tileburgh/tileburgh/model/ConstructionKind", "takesRenter", "()Z"⟩ : MethodName)) hown (mvT hZ (w_17 hw)) (mvT hZ (w_18 hw)) (notFace_of_selects (args := #[]) (mvT hZ (w_20 hw))) (mvT hZ (w_20 hw)) (mvT hZ (w_19 hw)) (by decide) (backOf (W := 0) (rmR l Z a0 hw [] a_SHOPPING a_LOW_COST a_GREENSPACE a_ECO_PARK a_SHOPPING a_CONVENTIONAL a_GREEN h0 n0 O0 hS) hZ (w_21 hw) (w_6 hw) (by decide) (by decide)) q58a q58c (g := (mkF m 19 #[.val (.int n1), .val (.int (3 : Int32)), .val (.ref a_SHOPPING), .val (.int (0 : Int32)), .unset, .unset, .unset] [(.ref a_SHOPPING)])) rfl (by rw [hml]; rfl) (Steps.refl _) (argsL := []) (rest := []) (lenOf pd_1 rfl) rfl (by show 2 * 0 + _ ≤ _; exact Nat.le_of_eq rfl) (hb hby at_19) (fun _ _ => ⟨rfl, e57, (by decide : 0 + 0 ≤ _), (by decide : 0 + 0 ≤ _)⟩)
    dsimp only [Pt.U, Pt.locs, Pt.cells, Pt.slots] at X58 l58 y58 z58 st58 hQ58
    subst l58 y58 z58
    obtain ⟨hv58, Nq58, e58⟩ := hQ58
    have N58 := Fr.app N57 Nq58
    rw [if_neg (by simp [(Ne.symm (Fld.ne Fa_LOW_COST_ordinal Fa_SHOPPING_ordinal (fun q => absurd (Value.int.inj q) (by decide)))), (Fld.ne Fa_SHOPPING_ordinal Fa_CONVENTIONAL_ordinal (fun q => absurd (Value.int.inj q) (by decide))), (Fld.ne Fa_SHOPPING_ordinal Fa_GREEN_ordinal (fun q => absurd (Value.int.inj q) (by decide)))])] at hv58; subst hv58
    refine OW.tr (B := T58.setTop (mkF m 22 #[.val (.int n1), .val (.int (3 : Int32)), .val (.ref a_SHOPPING), .val (.int (0 : Int32)), .unset, .unset, .unset] [(.int (0 : Int32))])) (st58) ?_
    refine OW.st (B := T58.setTop (mkF m 24 #[.val (.int n1), .val (.int (3 : Int32)), .val (.ref a_SHOPPING), .val (.int (0 : Int32)), .val (.int (0 : Int32)), .unset, .unset] [])) (fun _ k => XS.istore X58.here hx rfl (hb hby at_22) rfl (l' := #[.val (.int n1), .val (.int (3 : Int32)), .val (.ref a_SHOPPING), .val (.int (0 : Int32)), .val (.int (0 : Int32)), .unset, .unset]) rfl k) ?_
    refine OW.st (B := T58.setTop (mkF m 25 #[.val (.int n1), .val (.int (3 : Int32)), .val (.ref a_SHOPPING), .val (.int (0 : Int32)), .val (.int (0 : Int32)), .unset, .unset] [(.ref a_SHOPPING)])) (fun _ k => XS.aloadN X58.here hx rfl (hb hby at_24) rfl rfl k) ?_
    obtain ⟨T59, X59, e59, st59⟩ := getS2 X58 hx hZ hown (host := "") (Or.inl (w_23 hw)) Via.refl e58 (Sa_SHOPPING.ext O0.2) (g := (mkF m 25 #[.val (.int n1), .val (.int (3 : Int32)), .val (.ref a_SHOPPING), .val (.int (0 : Int32)), .val (.int (0 : Int32)), .unset, .unset] [(.ref a_SHOPPING)])) rfl (hb hby at_25)
    refine OW.st (B := T59.setTop (mkF m 28 #[.val (.int n1), .val (.int (3 : Int32)), .val (.ref a_SHOPPING), .val (.int (0 : Int32)), .val (.int (0 : Int32)), .unset, .unset] [(.ref a_SHOPPING), (.ref a_SHOPPING)])) (st59) ?_
    refine OW.st (B := T59.setTop (mkF m 31 #[.val (.int n1), .val (.int (3 : Int32)), .val (.ref a_SHOPPING), .val (.int (0 : Int32)), .val (.int (0 : Int32)), .unset, .unset] [])) (fun _ k => Jvm.RoadKit.acmp (g := (mkF m 28 #[.val (.int n1), .val (.int (3 : Int32)), .val (.ref a_SHOPPING), .val (.int (0 : Int32)), .val (.int (0 : Int32)), .unset, .unset] [(.ref a_SHOPPING), (.ref a_SHOPPING)])) X59 hx rfl rfl rfl (pc0 := 28) (pc' := 31) (same := true) rfl (hb hby at_28) rfl (decide_eq_true rfl) (by decide) (by decide) k) ?_
    refine OW.st (B := T59.setTop (mkF m 32 #[.val (.int n1), .val (.int (3 : Int32)), .val (.ref a_SHOPPING), .val (.int (0 : Int32)), .val (.int (0 : Int32)), .unset, .unset] [(.int (1 : Int32))])) (fun _ k => XS.iconst X59.here hx rfl (hb hby at_31) k) ?_
    refine OW.st (B := T59.setTop (mkF m 36 #[.val (.int n1), .val (.int (3 : Int32)), .val (.ref a_SHOPPING), .val (.int (0 : Int32)), .val (.int (0 : Int32)), .unset, .unset] [(.int (1 : Int32))])) (fun _ k => XS.goto X59.here hx rfl (pc0 := 32) (pc' := 36) rfl (hb hby at_32) (by decide) (by decide) k) ?_
    refine OW.st (B := T59.setTop (mkF m 38 #[.val (.int n1), .val (.int (3 : Int32)), .val (.ref a_SHOPPING), .val (.int (0 : Int32)), .val (.int (0 : Int32)), .val (.int (1 : Int32)), .unset] [])) (fun _ k => XS.istore X59.here hx rfl (hb hby at_36) rfl (l' := #[.val (.int n1), .val (.int (3 : Int32)), .val (.ref a_SHOPPING), .val (.int (0 : Int32)), .val (.int (0 : Int32)), .val (.int (1 : Int32)), .unset]) rfl k) ?_
    refine OW.st (B := T59.setTop (mkF m 39 #[.val (.int n1), .val (.int (3 : Int32)), .val (.ref a_SHOPPING), .val (.int (0 : Int32)), .val (.int (0 : Int32)), .val (.int (1 : Int32)), .unset] [(.int (0 : Int32))])) (fun _ k => XS.iconst X59.here hx rfl (hb hby at_38) k) ?_
    refine OW.st (B := T59.setTop (mkF m 41 #[.val (.int n1), .val (.int (3 : Int32)), .val (.ref a_SHOPPING), .val (.int (0 : Int32)), .val (.int (0 : Int32)), .val (.int (1 : Int32)), .val (.int (0 : Int32))] [])) (fun _ k => XS.istore X59.here hx rfl (hb hby at_39) rfl (l' := #[.val (.int n1), .val (.int (3 : Int32)), .val (.ref a_SHOPPING), .val (.int (0 : Int32)), .val (.int (0 : Int32)), .val (.int (1 : Int32)), .val (.int (0 : Int32))]) rfl k) ?_
    refine OW.st (B := T59.setTop (mkF m 42 #[.val (.int n1), .val (.int (3 : Int32)), .val (.ref a_SHOPPING), .val (.int (0 : Int32)), .val (.int (0 : Int32)), .val (.int (1 : Int32)), .val (.int (0 : Int32))] [(.int (0 : Int32))])) (fun _ k => XS.iloadN X59.here hx rfl (hb hby at_41) rfl k) ?_
    refine OW.st (B := T59.setTop (mkF m 51 #[.val (.int n1), .val (.int (3 : Int32)), .val (.ref a_SHOPPING), .val (.int (0 : Int32)), .val (.int (0 : Int32)), .val (.int (1 : Int32)), .val (.int (0 : Int32))] [])) (fun _ k => XS.ifYes X59.here hx rfl (pc0 := 42) (pc' := 51) rfl (hb hby at_42) rfl ((if0 _ _).trans (teq (by decide)).1) (by decide) (by decide) k) ?_
    refine OW.st (B := T59.setTop (mkF m 53 #[.val (.int n1), .val (.int (3 : Int32)), .val (.ref a_SHOPPING), .val (.int (0 : Int32)), .val (.int (0 : Int32)), .val (.int (1 : Int32)), .val (.int (0 : Int32))] [(.int (0 : Int32))])) (fun _ k => XS.iload X59.here hx rfl (hb hby at_51) rfl k) ?_
    refine OW.st (B := T59.setTop (mkF m 62 #[.val (.int n1), .val (.int (3 : Int32)), .val (.ref a_SHOPPING), .val (.int (0 : Int32)), .val (.int (0 : Int32)), .val (.int (1 : Int32)), .val (.int (0 : Int32))] [])) (fun _ k => XS.ifYes X59.here hx rfl (pc0 := 53) (pc' := 62) rfl (hb hby at_53) rfl ((if0 _ _).trans (teq (by decide)).1) (by decide) (by decide) k) ?_
    refine OW.st (B := T59.setTop (mkF m 64 #[.val (.int n1), .val (.int (3 : Int32)), .val (.ref a_SHOPPING), .val (.int (0 : Int32)), .val (.int (0 : Int32)), .val (.int (1 : Int32)), .val (.int (0 : Int32))] [(.int (1 : Int32))])) (fun _ k => XS.iload X59.here hx rfl (hb hby at_62) rfl k) ?_
    refine OW.st (B := T59.setTop (mkF m 67 #[.val (.int n1), .val (.int (3 : Int32)), .val (.ref a_SHOPPING), .val (.int (0 : Int32)), .val (.int (0 : Int32)), .val (.int (1 : Int32)), .val (.int (0 : Int32))] [])) (fun _ k => XS.ifNo X59.here hx rfl (hb hby at_64) rfl ((if0 _ _).trans (feq (by decide)).1) k) ?_
    refine OW.st (B := T59.setTop (mkF m 69 #[.val (.int n1), .val (.int (3 : Int32)), .val (.ref a_SHOPPING), .val (.int (0 : Int32)), .val (.int (0 : Int32)), .val (.int (1 : Int32)), .val (.int (0 : Int32))] [(.int (0 : Int32))])) (fun _ k => XS.iload X59.here hx rfl (hb hby at_67) rfl k) ?_
    refine OW.st (B := T59.setTop (mkF m 70 #[.val (.int n1), .val (.int (3 : Int32)), .val (.ref a_SHOPPING), .val (.int (0 : Int32)), .val (.int (0 : Int32)), .val (.int (1 : Int32)), .val (.int (0 : Int32))] [(.int (1 : Int32)), (.int (0 : Int32))])) (fun _ k => XS.iconst X59.here hx rfl (hb hby at_69) k) ?_
    refine OW.st (B := T59.setTop (mkF m 71 #[.val (.int n1), .val (.int (3 : Int32)), .val (.ref a_SHOPPING), .val (.int (0 : Int32)), .val (.int (0 : Int32)), .val (.int (1 : Int32)), .val (.int (0 : Int32))] [(.int ((0 : Int32) + (1 : Int32)))])) (fun _ k => XS.iadd X59.here hx rfl (hb hby at_70) rfl k) ?_
    refine OW.st (B := T59.setTop (mkF m 73 #[.val (.int n1), .val (.int (3 : Int32)), .val (.ref a_SHOPPING), .val (.int (0 : Int32)), .val (.int (0 : Int32)), .val (.int (1 : Int32)), .val (.int ((0 : Int32) + (1 : Int32)))] [])) (fun _ k => XS.istore X59.here hx rfl (hb hby at_71) rfl (l' := #[.val (.int n1), .val (.int (3 : Int32)), .val (.ref a_SHOPPING), .val (.int (0 : Int32)), .val (.int (0 : Int32)), .val (.int (1 : Int32)), .val (.int ((0 : Int32) + (1 : Int32)))]) rfl k) ?_
    refine OW.st (B := T59.setTop (mkF m 75 #[.val (.int n1), .val (.int (3 : Int32)), .val (.ref a_SHOPPING), .val (.int (0 : Int32)), .val (.int (0 : Int32)), .val (.int (1 : Int32)), .val (.int ((0 : Int32) + (1 : Int32)))] [(.int ((0 : Int32) + (1 : Int32)))])) (fun _ k => XS.iload X59.here hx rfl (hb hby at_73) rfl k) ?_
    refine OW.st (B := T59.setTop (mkF m 76 #[.val (.int n1), .val (.int (3 : Int32)), .val (.ref a_SHOPPING), .val (.int (0 : Int32)), .val (.int (0 : Int32)), .val (.int (1 : Int32)), .val (.int ((0 : Int32) + (1 : Int32)))] [(.int (1 : Int32)), (.int ((0 : Int32) + (1 : Int32)))])) (fun _ k => XS.iconst X59.here hx rfl (hb hby at_75) k) ?_
    refine OW.st (B := T59.setTop (mkF m 79 #[.val (.int n1), .val (.int (3 : Int32)), .val (.ref a_SHOPPING), .val (.int (0 : Int32)), .val (.int (0 : Int32)), .val (.int (1 : Int32)), .val (.int ((0 : Int32) + (1 : Int32)))] [])) (fun _ k => XS.icmpNo X59.here hx rfl (hb hby at_76) rfl (teq (by decide)).2 k) ?_
    refine OW.st (B := T59.setTop (mkF m 80 #[.val (.int n1), .val (.int (3 : Int32)), .val (.ref a_SHOPPING), .val (.int (0 : Int32)), .val (.int (0 : Int32)), .val (.int (1 : Int32)), .val (.int ((0 : Int32) + (1 : Int32)))] [(.int (1 : Int32))])) (fun _ k => XS.iconst X59.here hx rfl (hb hby at_79) k) ?_
    refine OW.st (B := T59.setTop (mkF m 84 #[.val (.int n1), .val (.int (3 : Int32)), .val (.ref a_SHOPPING), .val (.int (0 : Int32)), .val (.int (0 : Int32)), .val (.int (1 : Int32)), .val (.int ((0 : Int32) + (1 : Int32)))] [(.int (1 : Int32))])) (fun _ k => XS.goto X59.here hx rfl (pc0 := 80) (pc' := 84) rfl (hb hby at_80) (by decide) (by decide) k) ?_
    exact OW.ret X59 hx hlk (i := .ireturn) Bd.returns rfl (Or.inl ⟨rfl, Or.inr (Or.inl rfl), _, rfl⟩) (hb hby at_84) e59 (by decide) (by decide) ⟨rfl, N58⟩
  · refine OW.st (B := s₁.setTop (mkF m 8 #[.val (.int n1), .val (.int (4 : Int32)), .unset, .unset, .unset, .unset, .unset] [])) (fun _ k => XS.istoreN X0.here hx rfl (hb hby at_7) rfl (l' := #[.val (.int n1), .val (.int (4 : Int32)), .unset, .unset, .unset, .unset, .unset]) rfl k) ?_
    refine OW.st (B := s₁.setTop (mkF m 9 #[.val (.int n1), .val (.int (4 : Int32)), .unset, .unset, .unset, .unset, .unset] [(.int (4 : Int32))])) (fun _ k => XS.iloadN X0.here hx rfl (hb hby at_8) rfl k) ?_
    obtain ⟨_, _, ⟨T60, L60, k60, n60⟩, -, X60, ⟨Lc60, hQ60, l60, y60, z60⟩, st60⟩ := Jvm.LawKit.callS X0 hx (y := (⟨"com/example/tileburgh/tileburgh/model/ConstructionKindIsParkPinLaw", "pick", "(I)Lcom/example/tileburgh/tileburgh/model/ConstructionKind;"⟩ : MethodName)) hown (mvT hZ (w_1 hw)) (mvT hZ (w_2 hw)) (mvT hZ (w_3 hw)) (mvT hZ (w_4 hw)) (by decide) (backOf (W := 0) (rmP l Z a0 hw [] (4 : Int32) a_LOW_COST a_GREENSPACE a_ECO_PARK a_SHOPPING a_CONVENTIONAL a_GREEN h0 n0 O0 hS) hZ (w_4 hw) (w_3 hw) (by decide) (by decide)) (g := (mkF m 9 #[.val (.int n1), .val (.int (4 : Int32)), .unset, .unset, .unset, .unset, .unset] [(.int (4 : Int32))])) rfl (by rw [hml]; rfl) (argsL := [(.int (4 : Int32))]) (rest := []) (lenOf pd_0 rfl) rfl (by show 2 * 0 + _ ≤ _; exact Nat.le_of_eq rfl) (hb hby at_9) (fun _ _ => ⟨rfl, e0, (by decide : 0 + 0 ≤ _), (by decide : 0 + 0 ≤ _)⟩)
    dsimp only [Pt.U, Pt.locs, Pt.cells, Pt.slots] at X60 l60 y60 z60 st60 hQ60
    subst l60 y60 z60
    obtain ⟨rfl, Nq60, e60⟩ := hQ60
    have N60 := Fr.app N0 Nq60
    refine OW.st (B := T60.setTop (mkF m 12 #[.val (.int n1), .val (.int (4 : Int32)), .unset, .unset, .unset, .unset, .unset] [(.ref a_GREENSPACE)])) (st60) ?_
    refine OW.st (B := T60.setTop (mkF m 13 #[.val (.int n1), .val (.int (4 : Int32)), .val (.ref a_GREENSPACE), .unset, .unset, .unset, .unset] [])) (fun _ k => XS.astoreN X60.here hx rfl (hb hby at_12) rfl rfl (l' := #[.val (.int n1), .val (.int (4 : Int32)), .val (.ref a_GREENSPACE), .unset, .unset, .unset, .unset]) rfl k) ?_
    refine OW.st (B := T60.setTop (mkF m 14 #[.val (.int n1), .val (.int (4 : Int32)), .val (.ref a_GREENSPACE), .unset, .unset, .unset, .unset] [(.ref a_GREENSPACE)])) (fun _ k => XS.aloadN X60.here hx rfl (hb hby at_13) rfl rfl k) ?_
    obtain ⟨cq61, kq61, q61a, q61b, q61c⟩ := isOf hZ e60 (Ea_GREENSPACE.ext O0.2)
    obtain ⟨_, _, ⟨T61, L61, k61, n61⟩, -, X61, ⟨Lc61, hQ61, l61, y61, z61⟩, st61⟩ := X60.virtualBack hx (y := (⟨"com/example/tileburgh/tileburgh/model/ConstructionKind", "isPark", "()Z"⟩ : MethodName)) (z := (⟨"com/example/tileburgh/tileburgh/model/ConstructionKind", "isPark", "()Z"⟩ : MethodName)) hown (mvT hZ (w_8 hw)) (mvT hZ (w_9 hw)) (notFace_of_selects (args := #[]) (mvT hZ (w_11 hw))) (mvT hZ (w_11 hw)) (mvT hZ (w_10 hw)) (by decide) (backOf (W := 0) (rmK l Z a0 hw [] a_GREENSPACE a_LOW_COST a_GREENSPACE a_ECO_PARK a_SHOPPING a_CONVENTIONAL a_GREEN h0 n0 O0 hS) hZ (w_12 hw) (w_6 hw) (by decide) (by decide)) q61a q61c (g := (mkF m 14 #[.val (.int n1), .val (.int (4 : Int32)), .val (.ref a_GREENSPACE), .unset, .unset, .unset, .unset] [(.ref a_GREENSPACE)])) rfl (by rw [hml]; rfl) (Steps.refl _) (argsL := []) (rest := []) (lenOf pd_1 rfl) rfl (by show 2 * 0 + _ ≤ _; exact Nat.le_of_eq rfl) (hb hby at_14) (fun _ _ => ⟨rfl, e60, (by decide : 0 + 0 ≤ _), (by decide : 0 + 0 ≤ _)⟩)
    dsimp only [Pt.U, Pt.locs, Pt.cells, Pt.slots] at X61 l61 y61 z61 st61 hQ61
    subst l61 y61 z61
    obtain ⟨hv61, Nq61, e61⟩ := hQ61
    have N61 := Fr.app N60 Nq61
    rw [if_pos (by simp)] at hv61; subst hv61
    refine OW.tr (B := T61.setTop (mkF m 17 #[.val (.int n1), .val (.int (4 : Int32)), .val (.ref a_GREENSPACE), .unset, .unset, .unset, .unset] [(.int (1 : Int32))])) (st61) ?_
    refine OW.st (B := T61.setTop (mkF m 18 #[.val (.int n1), .val (.int (4 : Int32)), .val (.ref a_GREENSPACE), .val (.int (1 : Int32)), .unset, .unset, .unset] [])) (fun _ k => XS.istoreN X61.here hx rfl (hb hby at_17) rfl (l' := #[.val (.int n1), .val (.int (4 : Int32)), .val (.ref a_GREENSPACE), .val (.int (1 : Int32)), .unset, .unset, .unset]) rfl k) ?_
    refine OW.st (B := T61.setTop (mkF m 19 #[.val (.int n1), .val (.int (4 : Int32)), .val (.ref a_GREENSPACE), .val (.int (1 : Int32)), .unset, .unset, .unset] [(.ref a_GREENSPACE)])) (fun _ k => XS.aloadN X61.here hx rfl (hb hby at_18) rfl rfl k) ?_
    obtain ⟨cq62, kq62, q62a, q62b, q62c⟩ := isOf hZ e61 (Ea_GREENSPACE.ext O0.2)
    obtain ⟨_, _, ⟨T62, L62, k62, n62⟩, -, X62, ⟨Lc62, hQ62, l62, y62, z62⟩, st62⟩ := X61.virtualBack hx (y := (⟨"com/example/tileburgh/tileburgh/model/ConstructionKind", "takesRenter", "()Z"⟩ : MethodName)) (z := (⟨"com/example/tileburgh/tileburgh/model/ConstructionKind", "takesRenter", "()Z"⟩ : MethodName)) hown (mvT hZ (w_17 hw)) (mvT hZ (w_18 hw)) (notFace_of_selects (args := #[]) (mvT hZ (w_20 hw))) (mvT hZ (w_20 hw)) (mvT hZ (w_19 hw)) (by decide) (backOf (W := 0) (rmR l Z a0 hw [] a_GREENSPACE a_LOW_COST a_GREENSPACE a_ECO_PARK a_SHOPPING a_CONVENTIONAL a_GREEN h0 n0 O0 hS) hZ (w_21 hw) (w_6 hw) (by decide) (by decide)) q62a q62c (g := (mkF m 19 #[.val (.int n1), .val (.int (4 : Int32)), .val (.ref a_GREENSPACE), .val (.int (1 : Int32)), .unset, .unset, .unset] [(.ref a_GREENSPACE)])) rfl (by rw [hml]; rfl) (Steps.refl _) (argsL := []) (rest := []) (lenOf pd_1 rfl) rfl (by show 2 * 0 + _ ≤ _; exact Nat.le_of_eq rfl) (hb hby at_19) (fun _ _ => ⟨rfl, e61, (by decide : 0 + 0 ≤ _), (by decide : 0 + 0 ≤ _)⟩)
    dsimp only [Pt.U, Pt.locs, Pt.cells, Pt.slots] at X62 l62 y62 z62 st62 hQ62
    subst l62 y62 z62
    obtain ⟨hv62, Nq62, e62⟩ := hQ62
    have N62 := Fr.app N61 Nq62
    rw [if_neg (by simp [(Ne.symm (Fld.ne Fa_LOW_COST_ordinal Fa_GREENSPACE_ordinal (fun q => absurd (Value.int.inj q) (by decide)))), (Fld.ne Fa_GREENSPACE_ordinal Fa_CONVENTIONAL_ordinal (fun q => absurd (Value.int.inj q) (by decide))), (Fld.ne Fa_GREENSPACE_ordinal Fa_GREEN_ordinal (fun q => absurd (Value.int.inj q) (by decide)))])] at hv62; subst hv62
    refine OW.tr (B := T62.setTop (mkF m 22 #[.val (.int n1), .val (.int (4 : Int32)), .val (.ref a_GREENSPACE), .val (.int (1 : Int32)), .unset, .unset, .unset] [(.int (0 : Int32))])) (st62) ?_
    refine OW.st (B := T62.setTop (mkF m 24 #[.val (.int n1), .val (.int (4 : Int32)), .val (.ref a_GREENSPACE), .val (.int (1 : Int32)), .val (.int (0 : Int32)), .unset, .unset] [])) (fun _ k => XS.istore X62.here hx rfl (hb hby at_22) rfl (l' := #[.val (.int n1), .val (.int (4 : Int32)), .val (.ref a_GREENSPACE), .val (.int (1 : Int32)), .val (.int (0 : Int32)), .unset, .unset]) rfl k) ?_
    refine OW.st (B := T62.setTop (mkF m 25 #[.val (.int n1), .val (.int (4 : Int32)), .val (.ref a_GREENSPACE), .val (.int (1 : Int32)), .val (.int (0 : Int32)), .unset, .unset] [(.ref a_GREENSPACE)])) (fun _ k => XS.aloadN X62.here hx rfl (hb hby at_24) rfl rfl k) ?_
    obtain ⟨T63, X63, e63, st63⟩ := getS2 X62 hx hZ hown (host := "") (Or.inl (w_23 hw)) Via.refl e62 (Sa_SHOPPING.ext O0.2) (g := (mkF m 25 #[.val (.int n1), .val (.int (4 : Int32)), .val (.ref a_GREENSPACE), .val (.int (1 : Int32)), .val (.int (0 : Int32)), .unset, .unset] [(.ref a_GREENSPACE)])) rfl (hb hby at_25)
    refine OW.st (B := T63.setTop (mkF m 28 #[.val (.int n1), .val (.int (4 : Int32)), .val (.ref a_GREENSPACE), .val (.int (1 : Int32)), .val (.int (0 : Int32)), .unset, .unset] [(.ref a_SHOPPING), (.ref a_GREENSPACE)])) (st63) ?_
    refine OW.st (B := T63.setTop (mkF m 35 #[.val (.int n1), .val (.int (4 : Int32)), .val (.ref a_GREENSPACE), .val (.int (1 : Int32)), .val (.int (0 : Int32)), .unset, .unset] [])) (fun _ k => Jvm.RoadKit.acmp (g := (mkF m 28 #[.val (.int n1), .val (.int (4 : Int32)), .val (.ref a_GREENSPACE), .val (.int (1 : Int32)), .val (.int (0 : Int32)), .unset, .unset] [(.ref a_SHOPPING), (.ref a_GREENSPACE)])) X63 hx rfl rfl rfl (pc0 := 28) (pc' := 35) (same := false) rfl (hb hby at_28) rfl (decide_eq_false fun q => (Fld.ne Fa_GREENSPACE_ordinal Fa_SHOPPING_ordinal (fun q => absurd (Value.int.inj q) (by decide))) (Value.ref.inj q)) (by decide) (by decide) k) ?_
    refine OW.st (B := T63.setTop (mkF m 36 #[.val (.int n1), .val (.int (4 : Int32)), .val (.ref a_GREENSPACE), .val (.int (1 : Int32)), .val (.int (0 : Int32)), .unset, .unset] [(.int (0 : Int32))])) (fun _ k => XS.iconst X63.here hx rfl (hb hby at_35) k) ?_
    refine OW.st (B := T63.setTop (mkF m 38 #[.val (.int n1), .val (.int (4 : Int32)), .val (.ref a_GREENSPACE), .val (.int (1 : Int32)), .val (.int (0 : Int32)), .val (.int (0 : Int32)), .unset] [])) (fun _ k => XS.istore X63.here hx rfl (hb hby at_36) rfl (l' := #[.val (.int n1), .val (.int (4 : Int32)), .val (.ref a_GREENSPACE), .val (.int (1 : Int32)), .val (.int (0 : Int32)), .val (.int (0 : Int32)), .unset]) rfl k) ?_
    refine OW.st (B := T63.setTop (mkF m 39 #[.val (.int n1), .val (.int (4 : Int32)), .val (.ref a_GREENSPACE), .val (.int (1 : Int32)), .val (.int (0 : Int32)), .val (.int (0 : Int32)), .unset] [(.int (0 : Int32))])) (fun _ k => XS.iconst X63.here hx rfl (hb hby at_38) k) ?_
    refine OW.st (B := T63.setTop (mkF m 41 #[.val (.int n1), .val (.int (4 : Int32)), .val (.ref a_GREENSPACE), .val (.int (1 : Int32)), .val (.int (0 : Int32)), .val (.int (0 : Int32)), .val (.int (0 : Int32))] [])) (fun _ k => XS.istore X63.here hx rfl (hb hby at_39) rfl (l' := #[.val (.int n1), .val (.int (4 : Int32)), .val (.ref a_GREENSPACE), .val (.int (1 : Int32)), .val (.int (0 : Int32)), .val (.int (0 : Int32)), .val (.int (0 : Int32))]) rfl k) ?_
    refine OW.st (B := T63.setTop (mkF m 42 #[.val (.int n1), .val (.int (4 : Int32)), .val (.ref a_GREENSPACE), .val (.int (1 : Int32)), .val (.int (0 : Int32)), .val (.int (0 : Int32)), .val (.int (0 : Int32))] [(.int (1 : Int32))])) (fun _ k => XS.iloadN X63.here hx rfl (hb hby at_41) rfl k) ?_
    refine OW.st (B := T63.setTop (mkF m 45 #[.val (.int n1), .val (.int (4 : Int32)), .val (.ref a_GREENSPACE), .val (.int (1 : Int32)), .val (.int (0 : Int32)), .val (.int (0 : Int32)), .val (.int (0 : Int32))] [])) (fun _ k => XS.ifNo X63.here hx rfl (hb hby at_42) rfl ((if0 _ _).trans (feq (by decide)).1) k) ?_
    refine OW.st (B := T63.setTop (mkF m 47 #[.val (.int n1), .val (.int (4 : Int32)), .val (.ref a_GREENSPACE), .val (.int (1 : Int32)), .val (.int (0 : Int32)), .val (.int (0 : Int32)), .val (.int (0 : Int32))] [(.int (0 : Int32))])) (fun _ k => XS.iload X63.here hx rfl (hb hby at_45) rfl k) ?_
    refine OW.st (B := T63.setTop (mkF m 48 #[.val (.int n1), .val (.int (4 : Int32)), .val (.ref a_GREENSPACE), .val (.int (1 : Int32)), .val (.int (0 : Int32)), .val (.int (0 : Int32)), .val (.int (0 : Int32))] [(.int (1 : Int32)), (.int (0 : Int32))])) (fun _ k => XS.iconst X63.here hx rfl (hb hby at_47) k) ?_
    refine OW.st (B := T63.setTop (mkF m 49 #[.val (.int n1), .val (.int (4 : Int32)), .val (.ref a_GREENSPACE), .val (.int (1 : Int32)), .val (.int (0 : Int32)), .val (.int (0 : Int32)), .val (.int (0 : Int32))] [(.int ((0 : Int32) + (1 : Int32)))])) (fun _ k => XS.iadd X63.here hx rfl (hb hby at_48) rfl k) ?_
    refine OW.st (B := T63.setTop (mkF m 51 #[.val (.int n1), .val (.int (4 : Int32)), .val (.ref a_GREENSPACE), .val (.int (1 : Int32)), .val (.int (0 : Int32)), .val (.int (0 : Int32)), .val (.int ((0 : Int32) + (1 : Int32)))] [])) (fun _ k => XS.istore X63.here hx rfl (hb hby at_49) rfl (l' := #[.val (.int n1), .val (.int (4 : Int32)), .val (.ref a_GREENSPACE), .val (.int (1 : Int32)), .val (.int (0 : Int32)), .val (.int (0 : Int32)), .val (.int ((0 : Int32) + (1 : Int32)))]) rfl k) ?_
    refine OW.st (B := T63.setTop (mkF m 53 #[.val (.int n1), .val (.int (4 : Int32)), .val (.ref a_GREENSPACE), .val (.int (1 : Int32)), .val (.int (0 : Int32)), .val (.int (0 : Int32)), .val (.int ((0 : Int32) + (1 : Int32)))] [(.int (0 : Int32))])) (fun _ k => XS.iload X63.here hx rfl (hb hby at_51) rfl k) ?_
    refine OW.st (B := T63.setTop (mkF m 62 #[.val (.int n1), .val (.int (4 : Int32)), .val (.ref a_GREENSPACE), .val (.int (1 : Int32)), .val (.int (0 : Int32)), .val (.int (0 : Int32)), .val (.int ((0 : Int32) + (1 : Int32)))] [])) (fun _ k => XS.ifYes X63.here hx rfl (pc0 := 53) (pc' := 62) rfl (hb hby at_53) rfl ((if0 _ _).trans (teq (by decide)).1) (by decide) (by decide) k) ?_
    refine OW.st (B := T63.setTop (mkF m 64 #[.val (.int n1), .val (.int (4 : Int32)), .val (.ref a_GREENSPACE), .val (.int (1 : Int32)), .val (.int (0 : Int32)), .val (.int (0 : Int32)), .val (.int ((0 : Int32) + (1 : Int32)))] [(.int (0 : Int32))])) (fun _ k => XS.iload X63.here hx rfl (hb hby at_62) rfl k) ?_
    refine OW.st (B := T63.setTop (mkF m 73 #[.val (.int n1), .val (.int (4 : Int32)), .val (.ref a_GREENSPACE), .val (.int (1 : Int32)), .val (.int (0 : Int32)), .val (.int (0 : Int32)), .val (.int ((0 : Int32) + (1 : Int32)))] [])) (fun _ k => XS.ifYes X63.here hx rfl (pc0 := 64) (pc' := 73) rfl (hb hby at_64) rfl ((if0 _ _).trans (teq (by decide)).1) (by decide) (by decide) k) ?_
    refine OW.st (B := T63.setTop (mkF m 75 #[.val (.int n1), .val (.int (4 : Int32)), .val (.ref a_GREENSPACE), .val (.int (1 : Int32)), .val (.int (0 : Int32)), .val (.int (0 : Int32)), .val (.int ((0 : Int32) + (1 : Int32)))] [(.int ((0 : Int32) + (1 : Int32)))])) (fun _ k => XS.iload X63.here hx rfl (hb hby at_73) rfl k) ?_
    refine OW.st (B := T63.setTop (mkF m 76 #[.val (.int n1), .val (.int (4 : Int32)), .val (.ref a_GREENSPACE), .val (.int (1 : Int32)), .val (.int (0 : Int32)), .val (.int (0 : Int32)), .val (.int ((0 : Int32) + (1 : Int32)))] [(.int (1 : Int32)), (.int ((0 : Int32) + (1 : Int32)))])) (fun _ k => XS.iconst X63.here hx rfl (hb hby at_75) k) ?_
    refine OW.st (B := T63.setTop (mkF m 79 #[.val (.int n1), .val (.int (4 : Int32)), .val (.ref a_GREENSPACE), .val (.int (1 : Int32)), .val (.int (0 : Int32)), .val (.int (0 : Int32)), .val (.int ((0 : Int32) + (1 : Int32)))] [])) (fun _ k => XS.icmpNo X63.here hx rfl (hb hby at_76) rfl (teq (by decide)).2 k) ?_
    refine OW.st (B := T63.setTop (mkF m 80 #[.val (.int n1), .val (.int (4 : Int32)), .val (.ref a_GREENSPACE), .val (.int (1 : Int32)), .val (.int (0 : Int32)), .val (.int (0 : Int32)), .val (.int ((0 : Int32) + (1 : Int32)))] [(.int (1 : Int32))])) (fun _ k => XS.iconst X63.here hx rfl (hb hby at_79) k) ?_
    refine OW.st (B := T63.setTop (mkF m 84 #[.val (.int n1), .val (.int (4 : Int32)), .val (.ref a_GREENSPACE), .val (.int (1 : Int32)), .val (.int (0 : Int32)), .val (.int (0 : Int32)), .val (.int ((0 : Int32) + (1 : Int32)))] [(.int (1 : Int32))])) (fun _ k => XS.goto X63.here hx rfl (pc0 := 80) (pc' := 84) rfl (hb hby at_80) (by decide) (by decide) k) ?_
    exact OW.ret X63 hx hlk (i := .ireturn) Bd.returns rfl (Or.inl ⟨rfl, Or.inr (Or.inl rfl), _, rfl⟩) (hb hby at_84) e63 (by decide) (by decide) ⟨rfl, N62⟩
  · refine OW.st (B := s₁.setTop (mkF m 8 #[.val (.int n1), .val (.int (5 : Int32)), .unset, .unset, .unset, .unset, .unset] [])) (fun _ k => XS.istoreN X0.here hx rfl (hb hby at_7) rfl (l' := #[.val (.int n1), .val (.int (5 : Int32)), .unset, .unset, .unset, .unset, .unset]) rfl k) ?_
    refine OW.st (B := s₁.setTop (mkF m 9 #[.val (.int n1), .val (.int (5 : Int32)), .unset, .unset, .unset, .unset, .unset] [(.int (5 : Int32))])) (fun _ k => XS.iloadN X0.here hx rfl (hb hby at_8) rfl k) ?_
    obtain ⟨_, _, ⟨T64, L64, k64, n64⟩, -, X64, ⟨Lc64, hQ64, l64, y64, z64⟩, st64⟩ := Jvm.LawKit.callS X0 hx (y := (⟨"com/example/tileburgh/tileburgh/model/ConstructionKindIsParkPinLaw", "pick", "(I)Lcom/example/tileburgh/tileburgh/model/ConstructionKind;"⟩ : MethodName)) hown (mvT hZ (w_1 hw)) (mvT hZ (w_2 hw)) (mvT hZ (w_3 hw)) (mvT hZ (w_4 hw)) (by decide) (backOf (W := 0) (rmP l Z a0 hw [] (5 : Int32) a_LOW_COST a_GREENSPACE a_ECO_PARK a_SHOPPING a_CONVENTIONAL a_GREEN h0 n0 O0 hS) hZ (w_4 hw) (w_3 hw) (by decide) (by decide)) (g := (mkF m 9 #[.val (.int n1), .val (.int (5 : Int32)), .unset, .unset, .unset, .unset, .unset] [(.int (5 : Int32))])) rfl (by rw [hml]; rfl) (argsL := [(.int (5 : Int32))]) (rest := []) (lenOf pd_0 rfl) rfl (by show 2 * 0 + _ ≤ _; exact Nat.le_of_eq rfl) (hb hby at_9) (fun _ _ => ⟨rfl, e0, (by decide : 0 + 0 ≤ _), (by decide : 0 + 0 ≤ _)⟩)
    dsimp only [Pt.U, Pt.locs, Pt.cells, Pt.slots] at X64 l64 y64 z64 st64 hQ64
    subst l64 y64 z64
    obtain ⟨rfl, Nq64, e64⟩ := hQ64
    have N64 := Fr.app N0 Nq64
    refine OW.st (B := T64.setTop (mkF m 12 #[.val (.int n1), .val (.int (5 : Int32)), .unset, .unset, .unset, .unset, .unset] [(.ref a_ECO_PARK)])) (st64) ?_
    refine OW.st (B := T64.setTop (mkF m 13 #[.val (.int n1), .val (.int (5 : Int32)), .val (.ref a_ECO_PARK), .unset, .unset, .unset, .unset] [])) (fun _ k => XS.astoreN X64.here hx rfl (hb hby at_12) rfl rfl (l' := #[.val (.int n1), .val (.int (5 : Int32)), .val (.ref a_ECO_PARK), .unset, .unset, .unset, .unset]) rfl k) ?_
    refine OW.st (B := T64.setTop (mkF m 14 #[.val (.int n1), .val (.int (5 : Int32)), .val (.ref a_ECO_PARK), .unset, .unset, .unset, .unset] [(.ref a_ECO_PARK)])) (fun _ k => XS.aloadN X64.here hx rfl (hb hby at_13) rfl rfl k) ?_
    obtain ⟨cq65, kq65, q65a, q65b, q65c⟩ := isOf hZ e64 (Ea_ECO_PARK.ext O0.2)
    obtain ⟨_, _, ⟨T65, L65, k65, n65⟩, -, X65, ⟨Lc65, hQ65, l65, y65, z65⟩, st65⟩ := X64.virtualBack hx (y := (⟨"com/example/tileburgh/tileburgh/model/ConstructionKind", "isPark", "()Z"⟩ : MethodName)) (z := (⟨"com/example/tileburgh/tileburgh/model/ConstructionKind", "isPark", "()Z"⟩ : MethodName)) hown (mvT hZ (w_8 hw)) (mvT hZ (w_9 hw)) (notFace_of_selects (args := #[]) (mvT hZ (w_11 hw))) (mvT hZ (w_11 hw)) (mvT hZ (w_10 hw)) (by decide) (backOf (W := 0) (rmK l Z a0 hw [] a_ECO_PARK a_LOW_COST a_GREENSPACE a_ECO_PARK a_SHOPPING a_CONVENTIONAL a_GREEN h0 n0 O0 hS) hZ (w_12 hw) (w_6 hw) (by decide) (by decide)) q65a q65c (g := (mkF m 14 #[.val (.int n1), .val (.int (5 : Int32)), .val (.ref a_ECO_PARK), .unset, .unset, .unset, .unset] [(.ref a_ECO_PARK)])) rfl (by rw [hml]; rfl) (Steps.refl _) (argsL := []) (rest := []) (lenOf pd_1 rfl) rfl (by show 2 * 0 + _ ≤ _; exact Nat.le_of_eq rfl) (hb hby at_14) (fun _ _ => ⟨rfl, e64, (by decide : 0 + 0 ≤ _), (by decide : 0 + 0 ≤ _)⟩)
    dsimp only [Pt.U, Pt.locs, Pt.cells, Pt.slots] at X65 l65 y65 z65 st65 hQ65
    subst l65 y65 z65
    obtain ⟨hv65, Nq65, e65⟩ := hQ65
    have N65 := Fr.app N64 Nq65
    rw [if_pos (by simp)] at hv65; subst hv65
    refine OW.tr (B := T65.setTop (mkF m 17 #[.val (.int n1), .val (.int (5 : Int32)), .val (.ref a_ECO_PARK), .unset, .unset, .unset, .unset] [(.int (1 : Int32))])) (st65) ?_
    refine OW.st (B := T65.setTop (mkF m 18 #[.val (.int n1), .val (.int (5 : Int32)), .val (.ref a_ECO_PARK), .val (.int (1 : Int32)), .unset, .unset, .unset] [])) (fun _ k => XS.istoreN X65.here hx rfl (hb hby at_17) rfl (l' := #[.val (.int n1), .val (.int (5 : Int32)), .val (.ref a_ECO_PARK), .val (.int (1 : Int32)), .unset, .unset, .unset]) rfl k) ?_
    refine OW.st (B := T65.setTop (mkF m 19 #[.val (.int n1), .val (.int (5 : Int32)), .val (.ref a_ECO_PARK), .val (.int (1 : Int32)), .unset, .unset, .unset] [(.ref a_ECO_PARK)])) (fun _ k => XS.aloadN X65.here hx rfl (hb hby at_18) rfl rfl k) ?_
    obtain ⟨cq66, kq66, q66a, q66b, q66c⟩ := isOf hZ e65 (Ea_ECO_PARK.ext O0.2)
    obtain ⟨_, _, ⟨T66, L66, k66, n66⟩, -, X66, ⟨Lc66, hQ66, l66, y66, z66⟩, st66⟩ := X65.virtualBack hx (y := (⟨"com/example/tileburgh/tileburgh/model/ConstructionKind", "takesRenter", "()Z"⟩ : MethodName)) (z := (⟨"com/example/tileburgh/tileburgh/model/ConstructionKind", "takesRenter", "()Z"⟩ : MethodName)) hown (mvT hZ (w_17 hw)) (mvT hZ (w_18 hw)) (notFace_of_selects (args := #[]) (mvT hZ (w_20 hw))) (mvT hZ (w_20 hw)) (mvT hZ (w_19 hw)) (by decide) (backOf (W := 0) (rmR l Z a0 hw [] a_ECO_PARK a_LOW_COST a_GREENSPACE a_ECO_PARK a_SHOPPING a_CONVENTIONAL a_GREEN h0 n0 O0 hS) hZ (w_21 hw) (w_6 hw) (by decide) (by decide)) q66a q66c (g := (mkF m 19 #[.val (.int n1), .val (.int (5 : Int32)), .val (.ref a_ECO_PARK), .val (.int (1 : Int32)), .unset, .unset, .unset] [(.ref a_ECO_PARK)])) rfl (by rw [hml]; rfl) (Steps.refl _) (argsL := []) (rest := []) (lenOf pd_1 rfl) rfl (by show 2 * 0 + _ ≤ _; exact Nat.le_of_eq rfl) (hb hby at_19) (fun _ _ => ⟨rfl, e65, (by decide : 0 + 0 ≤ _), (by decide : 0 + 0 ≤ _)⟩)
    dsimp only [Pt.U, Pt.locs, Pt.cells, Pt.slots] at X66 l66 y66 z66 st66 hQ66
    subst l66 y66 z66
    obtain ⟨hv66, Nq66, e66⟩ := hQ66
    have N66 := Fr.app N65 Nq66
    rw [if_neg (by simp [(Ne.symm (Fld.ne Fa_LOW_COST_ordinal Fa_ECO_PARK_ordinal (fun q => absurd (Value.int.inj q) (by decide)))), (Fld.ne Fa_ECO_PARK_ordinal Fa_CONVENTIONAL_ordinal (fun q => absurd (Value.int.inj q) (by decide))), (Fld.ne Fa_ECO_PARK_ordinal Fa_GREEN_ordinal (fun q => absurd (Value.int.inj q) (by decide)))])] at hv66; subst hv66
    refine OW.tr (B := T66.setTop (mkF m 22 #[.val (.int n1), .val (.int (5 : Int32)), .val (.ref a_ECO_PARK), .val (.int (1 : Int32)), .unset, .unset, .unset] [(.int (0 : Int32))])) (st66) ?_
    refine OW.st (B := T66.setTop (mkF m 24 #[.val (.int n1), .val (.int (5 : Int32)), .val (.ref a_ECO_PARK), .val (.int (1 : Int32)), .val (.int (0 : Int32)), .unset, .unset] [])) (fun _ k => XS.istore X66.here hx rfl (hb hby at_22) rfl (l' := #[.val (.int n1), .val (.int (5 : Int32)), .val (.ref a_ECO_PARK), .val (.int (1 : Int32)), .val (.int (0 : Int32)), .unset, .unset]) rfl k) ?_
    refine OW.st (B := T66.setTop (mkF m 25 #[.val (.int n1), .val (.int (5 : Int32)), .val (.ref a_ECO_PARK), .val (.int (1 : Int32)), .val (.int (0 : Int32)), .unset, .unset] [(.ref a_ECO_PARK)])) (fun _ k => XS.aloadN X66.here hx rfl (hb hby at_24) rfl rfl k) ?_
    obtain ⟨T67, X67, e67, st67⟩ := getS2 X66 hx hZ hown (host := "") (Or.inl (w_23 hw)) Via.refl e66 (Sa_SHOPPING.ext O0.2) (g := (mkF m 25 #[.val (.int n1), .val (.int (5 : Int32)), .val (.ref a_ECO_PARK), .val (.int (1 : Int32)), .val (.int (0 : Int32)), .unset, .unset] [(.ref a_ECO_PARK)])) rfl (hb hby at_25)
    refine OW.st (B := T67.setTop (mkF m 28 #[.val (.int n1), .val (.int (5 : Int32)), .val (.ref a_ECO_PARK), .val (.int (1 : Int32)), .val (.int (0 : Int32)), .unset, .unset] [(.ref a_SHOPPING), (.ref a_ECO_PARK)])) (st67) ?_
    refine OW.st (B := T67.setTop (mkF m 35 #[.val (.int n1), .val (.int (5 : Int32)), .val (.ref a_ECO_PARK), .val (.int (1 : Int32)), .val (.int (0 : Int32)), .unset, .unset] [])) (fun _ k => Jvm.RoadKit.acmp (g := (mkF m 28 #[.val (.int n1), .val (.int (5 : Int32)), .val (.ref a_ECO_PARK), .val (.int (1 : Int32)), .val (.int (0 : Int32)), .unset, .unset] [(.ref a_SHOPPING), (.ref a_ECO_PARK)])) X67 hx rfl rfl rfl (pc0 := 28) (pc' := 35) (same := false) rfl (hb hby at_28) rfl (decide_eq_false fun q => (Fld.ne Fa_ECO_PARK_ordinal Fa_SHOPPING_ordinal (fun q => absurd (Value.int.inj q) (by decide))) (Value.ref.inj q)) (by decide) (by decide) k) ?_
    refine OW.st (B := T67.setTop (mkF m 36 #[.val (.int n1), .val (.int (5 : Int32)), .val (.ref a_ECO_PARK), .val (.int (1 : Int32)), .val (.int (0 : Int32)), .unset, .unset] [(.int (0 : Int32))])) (fun _ k => XS.iconst X67.here hx rfl (hb hby at_35) k) ?_
    refine OW.st (B := T67.setTop (mkF m 38 #[.val (.int n1), .val (.int (5 : Int32)), .val (.ref a_ECO_PARK), .val (.int (1 : Int32)), .val (.int (0 : Int32)), .val (.int (0 : Int32)), .unset] [])) (fun _ k => XS.istore X67.here hx rfl (hb hby at_36) rfl (l' := #[.val (.int n1), .val (.int (5 : Int32)), .val (.ref a_ECO_PARK), .val (.int (1 : Int32)), .val (.int (0 : Int32)), .val (.int (0 : Int32)), .unset]) rfl k) ?_
    refine OW.st (B := T67.setTop (mkF m 39 #[.val (.int n1), .val (.int (5 : Int32)), .val (.ref a_ECO_PARK), .val (.int (1 : Int32)), .val (.int (0 : Int32)), .val (.int (0 : Int32)), .unset] [(.int (0 : Int32))])) (fun _ k => XS.iconst X67.here hx rfl (hb hby at_38) k) ?_
    refine OW.st (B := T67.setTop (mkF m 41 #[.val (.int n1), .val (.int (5 : Int32)), .val (.ref a_ECO_PARK), .val (.int (1 : Int32)), .val (.int (0 : Int32)), .val (.int (0 : Int32)), .val (.int (0 : Int32))] [])) (fun _ k => XS.istore X67.here hx rfl (hb hby at_39) rfl (l' := #[.val (.int n1), .val (.int (5 : Int32)), .val (.ref a_ECO_PARK), .val (.int (1 : Int32)), .val (.int (0 : Int32)), .val (.int (0 : Int32)), .val (.int (0 : Int32))]) rfl k) ?_
    refine OW.st (B := T67.setTop (mkF m 42 #[.val (.int n1), .val (.int (5 : Int32)), .val (.ref a_ECO_PARK), .val (.int (1 : Int32)), .val (.int (0 : Int32)), .val (.int (0 : Int32)), .val (.int (0 : Int32))] [(.int (1 : Int32))])) (fun _ k => XS.iloadN X67.here hx rfl (hb hby at_41) rfl k) ?_
    refine OW.st (B := T67.setTop (mkF m 45 #[.val (.int n1), .val (.int (5 : Int32)), .val (.ref a_ECO_PARK), .val (.int (1 : Int32)), .val (.int (0 : Int32)), .val (.int (0 : Int32)), .val (.int (0 : Int32))] [])) (fun _ k => XS.ifNo X67.here hx rfl (hb hby at_42) rfl ((if0 _ _).trans (feq (by decide)).1) k) ?_
    refine OW.st (B := T67.setTop (mkF m 47 #[.val (.int n1), .val (.int (5 : Int32)), .val (.ref a_ECO_PARK), .val (.int (1 : Int32)), .val (.int (0 : Int32)), .val (.int (0 : Int32)), .val (.int (0 : Int32))] [(.int (0 : Int32))])) (fun _ k => XS.iload X67.here hx rfl (hb hby at_45) rfl k) ?_
    refine OW.st (B := T67.setTop (mkF m 48 #[.val (.int n1), .val (.int (5 : Int32)), .val (.ref a_ECO_PARK), .val (.int (1 : Int32)), .val (.int (0 : Int32)), .val (.int (0 : Int32)), .val (.int (0 : Int32))] [(.int (1 : Int32)), (.int (0 : Int32))])) (fun _ k => XS.iconst X67.here hx rfl (hb hby at_47) k) ?_
    refine OW.st (B := T67.setTop (mkF m 49 #[.val (.int n1), .val (.int (5 : Int32)), .val (.ref a_ECO_PARK), .val (.int (1 : Int32)), .val (.int (0 : Int32)), .val (.int (0 : Int32)), .val (.int (0 : Int32))] [(.int ((0 : Int32) + (1 : Int32)))])) (fun _ k => XS.iadd X67.here hx rfl (hb hby at_48) rfl k) ?_
    refine OW.st (B := T67.setTop (mkF m 51 #[.val (.int n1), .val (.int (5 : Int32)), .val (.ref a_ECO_PARK), .val (.int (1 : Int32)), .val (.int (0 : Int32)), .val (.int (0 : Int32)), .val (.int ((0 : Int32) + (1 : Int32)))] [])) (fun _ k => XS.istore X67.here hx rfl (hb hby at_49) rfl (l' := #[.val (.int n1), .val (.int (5 : Int32)), .val (.ref a_ECO_PARK), .val (.int (1 : Int32)), .val (.int (0 : Int32)), .val (.int (0 : Int32)), .val (.int ((0 : Int32) + (1 : Int32)))]) rfl k) ?_
    refine OW.st (B := T67.setTop (mkF m 53 #[.val (.int n1), .val (.int (5 : Int32)), .val (.ref a_ECO_PARK), .val (.int (1 : Int32)), .val (.int (0 : Int32)), .val (.int (0 : Int32)), .val (.int ((0 : Int32) + (1 : Int32)))] [(.int (0 : Int32))])) (fun _ k => XS.iload X67.here hx rfl (hb hby at_51) rfl k) ?_
    refine OW.st (B := T67.setTop (mkF m 62 #[.val (.int n1), .val (.int (5 : Int32)), .val (.ref a_ECO_PARK), .val (.int (1 : Int32)), .val (.int (0 : Int32)), .val (.int (0 : Int32)), .val (.int ((0 : Int32) + (1 : Int32)))] [])) (fun _ k => XS.ifYes X67.here hx rfl (pc0 := 53) (pc' := 62) rfl (hb hby at_53) rfl ((if0 _ _).trans (teq (by decide)).1) (by decide) (by decide) k) ?_
    refine OW.st (B := T67.setTop (mkF m 64 #[.val (.int n1), .val (.int (5 : Int32)), .val (.ref a_ECO_PARK), .val (.int (1 : Int32)), .val (.int (0 : Int32)), .val (.int (0 : Int32)), .val (.int ((0 : Int32) + (1 : Int32)))] [(.int (0 : Int32))])) (fun _ k => XS.iload X67.here hx rfl (hb hby at_62) rfl k) ?_
    refine OW.st (B := T67.setTop (mkF m 73 #[.val (.int n1), .val (.int (5 : Int32)), .val (.ref a_ECO_PARK), .val (.int (1 : Int32)), .val (.int (0 : Int32)), .val (.int (0 : Int32)), .val (.int ((0 : Int32) + (1 : Int32)))] [])) (fun _ k => XS.ifYes X67.here hx rfl (pc0 := 64) (pc' := 73) rfl (hb hby at_64) rfl ((if0 _ _).trans (teq (by decide)).1) (by decide) (by decide) k) ?_
    refine OW.st (B := T67.setTop (mkF m 75 #[.val (.int n1), .val (.int (5 : Int32)), .val (.ref a_ECO_PARK), .val (.int (1 : Int32)), .val (.int (0 : Int32)), .val (.int (0 : Int32)), .val (.int ((0 : Int32) + (1 : Int32)))] [(.int ((0 : Int32) + (1 : Int32)))])) (fun _ k => XS.iload X67.here hx rfl (hb hby at_73) rfl k) ?_
    refine OW.st (B := T67.setTop (mkF m 76 #[.val (.int n1), .val (.int (5 : Int32)), .val (.ref a_ECO_PARK), .val (.int (1 : Int32)), .val (.int (0 : Int32)), .val (.int (0 : Int32)), .val (.int ((0 : Int32) + (1 : Int32)))] [(.int (1 : Int32)), (.int ((0 : Int32) + (1 : Int32)))])) (fun _ k => XS.iconst X67.here hx rfl (hb hby at_75) k) ?_
    refine OW.st (B := T67.setTop (mkF m 79 #[.val (.int n1), .val (.int (5 : Int32)), .val (.ref a_ECO_PARK), .val (.int (1 : Int32)), .val (.int (0 : Int32)), .val (.int (0 : Int32)), .val (.int ((0 : Int32) + (1 : Int32)))] [])) (fun _ k => XS.icmpNo X67.here hx rfl (hb hby at_76) rfl (teq (by decide)).2 k) ?_
    refine OW.st (B := T67.setTop (mkF m 80 #[.val (.int n1), .val (.int (5 : Int32)), .val (.ref a_ECO_PARK), .val (.int (1 : Int32)), .val (.int (0 : Int32)), .val (.int (0 : Int32)), .val (.int ((0 : Int32) + (1 : Int32)))] [(.int (1 : Int32))])) (fun _ k => XS.iconst X67.here hx rfl (hb hby at_79) k) ?_
    refine OW.st (B := T67.setTop (mkF m 84 #[.val (.int n1), .val (.int (5 : Int32)), .val (.ref a_ECO_PARK), .val (.int (1 : Int32)), .val (.int (0 : Int32)), .val (.int (0 : Int32)), .val (.int ((0 : Int32) + (1 : Int32)))] [(.int (1 : Int32))])) (fun _ k => XS.goto X67.here hx rfl (pc0 := 80) (pc' := 84) rfl (hb hby at_80) (by decide) (by decide) k) ?_
    exact OW.ret X67 hx hlk (i := .ireturn) Bd.returns rfl (Or.inl ⟨rfl, Or.inr (Or.inl rfl), _, rfl⟩) (hb hby at_84) e67 (by decide) (by decide) ⟨rfl, N66⟩
set_option maxRecDepth 65536 in
set_option maxHeartbeats 40000000 in
theorem comes_1 {Post : Tables → Env → Array Value → State → Outcome → State → Prop} (hpost : ∀ tb e args s v u, (limb_1_1.after args s (.returned v) u = true ∧ limb_1_2.after args s (.returned v) u = true ∧ True) → FrameEnd s (.returned v) u (Jvm.fieldLocs frame_1_writes args s ++ Jvm.arrayLocs frame_1_arrays args s ++ Jvm.staticLocs frame_1_statics s) 0 0 → Post tb e args s (.returned v) u) :
    ArmFor flags0 classFile x code maxLocals ret World_1 tables_1 room_1 Calls_1 rest_1 Pre_1 Post := by
  intro l hfl _ _ p e ha hc hk s m args below hf hA hF happ hP
  obtain ⟨hcalls, hrest, hpre⟩ := hP
  obtain ⟨-, -, -, hnamed, -, -, -, hat⟩ := (Spec.applies_iff hf).mp happ
  obtain ⟨hg, hn⟩ := and_e (Cond.before_iff.mp (show (Jvm.Cond.and given_1 narrow_1).before args s = true from hpre))
  obtain ⟨k68, k69⟩ := and_e hg
  obtain ⟨w0, rfl⟩ : ∃ w0 : Value, args = #[w0] := by
    have hs : args.size = 1 := by simpa [Cond.value, given_1] using k68
    obtain ⟨L⟩ := args
    match L, hs with
    | [w0], _ => exact ⟨w0, rfl⟩
  have hw := fun d (hd : d ∈ tables_1) => atoms_spec (ws := Jvm.Cond.code x code maxLocals ret :: tables_1) hat d (List.mem_cons_of_mem _ hd)
  have hfit : Fit s := fun {y c} hc i hi => by
    obtain ⟨ha, rfl⟩ := Array.getElem?_eq_some_iff.mp hc
    have q := List.all_eq_true.mp ((Array.all_eq_true_iff_forall_mem.mp hF) _ (Array.getElem_mem ha)) i (List.mem_range.mpr hi)
    simpa [Array.getElem?_eq_getElem hi] using q
  obtain ⟨i0, ei0⟩ := is_v k69
  obtain rfl : w0 = (.int i0) := Option.some.inj ei0
  obtain ⟨k1, k2⟩ := and_e hn
  obtain ⟨k3, k4⟩ := and_e k2
  obtain ⟨k5, k6⟩ := and_e k4
  obtain ⟨k7, k8⟩ := and_e k6
  obtain ⟨k9, k10⟩ := and_e k8
  obtain ⟨k11, k12⟩ := and_e k10
  obtain ⟨k13, k14⟩ := and_e k12
  obtain ⟨k15, k16⟩ := and_e k14
  obtain ⟨k17, k18⟩ := and_e k16
  obtain ⟨k19, k20⟩ := and_e k18
  obtain ⟨k21, k22⟩ := and_e k20
  obtain ⟨a_LOW_COST, eva_LOW_COST⟩ := exa_v k1
  obtain ⟨a_GREENSPACE, eva_GREENSPACE⟩ := exa_v k3
  obtain ⟨a_ECO_PARK, eva_ECO_PARK⟩ := exa_v k9
  obtain ⟨a_SHOPPING, eva_SHOPPING⟩ := exa_v k13
  obtain ⟨a_CONVENTIONAL, eva_CONVENTIONAL⟩ := exa_v k17
  obtain ⟨a_GREEN, eva_GREEN⟩ := exa_v k21
  have hS : OwnS s a_LOW_COST a_GREENSPACE a_ECO_PARK a_SHOPPING a_CONVENTIONAL a_GREEN := ⟨Sta.start eva_LOW_COST (Or.inr ⟨(w_6 hw), (w_7 hw)⟩), Exa.start eva_LOW_COST k1, Sta.start eva_GREENSPACE (Or.inr ⟨(w_6 hw), (w_14 hw)⟩), Exa.start eva_GREENSPACE k3, Sta.start eva_ECO_PARK (Or.inr ⟨(w_6 hw), (w_16 hw)⟩), Exa.start eva_ECO_PARK k9, Sta.start eva_SHOPPING (Or.inr ⟨(w_6 hw), (w_24 hw)⟩), Exa.start eva_SHOPPING k13, Sta.start eva_CONVENTIONAL (Or.inr ⟨(w_6 hw), (w_26 hw)⟩), Exa.start eva_CONVENTIONAL k17, Sta.start eva_GREEN (Or.inr ⟨(w_6 hw), (w_28 hw)⟩), Exa.start eva_GREEN k21, Fld.start ((fld_at eva_LOW_COST).symm.trans (own_eq_int k5)), Fld.start ((fld_at eva_GREENSPACE).symm.trans (own_eq_int k7)), Fld.start ((fld_at eva_ECO_PARK).symm.trans (own_eq_int k11)), Fld.start ((fld_at eva_SHOPPING).symm.trans (own_eq_int k15)), Fld.start ((fld_at eva_CONVENTIONAL).symm.trans (own_eq_int k19)), Fld.start ((fld_at eva_GREEN).symm.trans (own_eq_int k22))⟩
  obtain ⟨n, o, h1, h2, h3, _, L, rfl, ⟨rfl, N⟩, hq⟩ := rm0 l s _ hw tables_1 i0 a_LOW_COST a_GREENSPACE a_ECO_PARK a_SHOPPING a_CONVENTIONAL a_GREEN s.heap s.heap.size (Old.start s) hS p e ha hc hk s m _ below hf ((Spec.applies_iff_loose hf).mp happ).1 ⟨rfl, State.Warmed39.refl s, rfl⟩ trivial
  refine ⟨n, _, h1, h2, h3, hpost _ _ _ _ _ _ ⟨Cond.after_iff.mpr rfl, Cond.after_iff.mpr (eq_i res_at (Term.int_eval (1)) rfl), trivial⟩ ⟨hq.1, hq.2.1, (hq.2.2.sift fun y hy => Or.inr (N y hy)).mono (by decide) (by decide)⟩⟩
theorem main_1_1 : Claimed_1_1 := comes_1 fun _ _ _ _ _ _ h hF => ⟨h.1, hF⟩
theorem main_1_2 : Claimed_1_2 := comes_1 fun _ _ _ _ _ _ h hF => ⟨h.2.1, hF⟩
end Jvm.Pilot.@@N@@
namespace Jvm.Pilot.@@N@@
open Jvm Jvm.ClassFile Sem Op Lib Jvm.Free Jvm.Stand Jvm.Pilot.@@N@@.Jvm.D
/-! MADE BY PROGRAM (witnessworld.py) out of the Statement's table words and the real class files: 12 classes; the members and pool entries that the words name. The judged class is class 1, her method 2. -/
namespace start1
open Jvm.ClassFile
def u (s : String) : CpInfo := .utf8 (stringToUtf16 s)
/-- a pool by its gaps: so many unusable entries, then the entry; so many at the end -/
def gap : Nat → List CpInfo → List CpInfo
  | 0, r => r
  | n + 1, r => .unusable :: gap n r
def poolList (es : List (Nat × CpInfo)) (last : Nat) : List CpInfo := es.foldr (fun e r => gap e.1 (e.2 :: r)) (gap last [])
def pool (es : List (Nat × CpInfo)) (last : Nat) : Array CpInfo := ⟨poolList es last⟩
def fileOf (pool : Array CpInfo) (this : Nat) (attrs : Array Attribute := #[]) (ms : Array MethodInfo := #[]) (fl : Nat := 33) (sup : Nat := 0) (ifs : Array Nat := #[]) (fds : Array FieldInfo := #[]) : ClassFile where
  minorVersion := 0
  majorVersion := 65
  constantPool := pool
  accessFlags := fl
  thisClass := this
  superClass := sup
  interfaces := ifs
  fields := fds
  methods := ms
  attributes := attrs
def plain (name : String) (sup : Option ClassId) : Class where
  name := name
  kind := .ordinary
  loader := none
  accessFlags := 33
  super := sup
  interfaces := #[]
  cf := none
  fields := #[]
  methods := #[]
  instanceTypes := #[]
  staticTypes := #[]
  resolved := #[]
  callSites := []
  init := .initialized
  statics := none
  mirror := none

def pool0 : Array CpInfo := pool [(5, u "<init>"), (0, u "()V"), (1, .class_ 10), (1, u "java/lang/Object")] 113

def k0m0 : Method := { name := "<init>", desc := "()V", sig := { parameters := [], returnType := none }, accessFlags := 1, code := none }
/-- java/lang/Object -/
def k0 : Class := { plain "java/lang/Object" none with
  accessFlags := 33
  interfaces := #[]
  cf := some (fileOf pool0 8 #[] #[{ accessFlags := 1, nameIndex := 5, descriptorIndex := 6, attributes := #[] }] 33 0 #[] #[])
  fields := #[]
  methods := #[k0m0]
  instanceTypes := #[]
  staticTypes := #[]
  resolved := Array.replicate 124 none
  statics := none }

def pool1 : Array CpInfo := pool [(2, .class_ 4), (1, u "java/lang/Object"), (0, u "<init>"), (0, u "()V"), (0, .fieldref 8 9), (0, .class_ 10), (0, .nameAndType 11 12), (0, u "com/example/tileburgh/tileburgh/model/ConstructionKind"), (0, u "LOW_COST"), (0, u "Lcom/example/tileburgh/tileburgh/model/ConstructionKind;"), (0, .fieldref 8 14), (0, .nameAndType 15 12), (0, u "CONVENTIONAL"), (0, .fieldref 8 17), (0, .nameAndType 18 12), (0, u "GREEN"), (0, .fieldref 8 20), (0, .nameAndType 21 12), (0, u "SHOPPING"), (0, .fieldref 8 23), (0, .nameAndType 24 12), (0, u "GREENSPACE"), (0, .fieldref 8 26), (0, .nameAndType 27 12), (0, u "ECO_PARK"), (0, .integer 2147483647), (0, .methodref 30 31), (0, .class_ 32), (0, .nameAndType 33 34), (0, u "com/example/tileburgh/tileburgh/model/ConstructionKindIsParkPinLaw"), (0, u "pick"), (0, u "(I)Lcom/example/tileburgh/tileburgh/model/ConstructionKind;"), (0, .methodref 8 36), (0, .nameAndType 37 38), (0, u "isPark"), (0, u "()Z"), (0, .methodref 8 40), (0, .nameAndType 41 38), (0, u "takesRenter"), (3, u "law"), (0, u "(I)Z")] 2

def k1m0 : Method := { name := "<init>", desc := "()V", sig := { parameters := [], returnType := none }, accessFlags := 1, code := none }
def k1c1 : Code := { maxStack := 2, maxLocals := 1, code := method_2_code, exceptionTable := #[], attributes := #[] }
def k1m1 : Method := { name := "pick", desc := "(I)Lcom/example/tileburgh/tileburgh/model/ConstructionKind;", sig := { parameters := [.int], returnType := some (.object "com/example/tileburgh/tileburgh/model/ConstructionKind") }, accessFlags := 10, code := some k1c1 }
def k1c2 : Code := { maxStack := 2, maxLocals := 7, code := code, exceptionTable := #[], attributes := #[] }
def k1m2 : Method := { name := "law", desc := "(I)Z", sig := { parameters := [.int], returnType := some .boolean }, accessFlags := 9, code := some k1c2 }
/-- com/example/tileburgh/tileburgh/model/ConstructionKindIsParkPinLaw -/
def k1 : Class := { plain "com/example/tileburgh/tileburgh/model/ConstructionKindIsParkPinLaw" (some 0) with
  accessFlags := 49
  interfaces := #[]
  cf := some (fileOf pool1 30 #[] #[{ accessFlags := 1, nameIndex := 5, descriptorIndex := 6, attributes := #[] }, { accessFlags := 10, nameIndex := 33, descriptorIndex := 34, attributes := #[] }, { accessFlags := 9, nameIndex := 45, descriptorIndex := 46, attributes := #[] }] 49 2 #[] #[])
  fields := #[]
  methods := #[k1m0, k1m1, k1m2]
  instanceTypes := #[]
  staticTypes := #[]
  resolved := Array.replicate 49 none
  statics := none }

def pool2 : Array CpInfo := pool [(1, .class_ 2), (0, u "java/lang/constant/Constable"), (0, .class_ 4), (0, u "java/lang/Object")] 6

/-- java/lang/constant/Constable -/
def k2 : Class := { plain "java/lang/constant/Constable" (some 0) with
  accessFlags := 1537
  interfaces := #[]
  cf := some (fileOf pool2 1 #[] #[] 1537 3 #[] #[])
  fields := #[]
  methods := #[]
  instanceTypes := #[]
  staticTypes := #[]
  resolved := Array.replicate 11 none
  statics := none }

def pool3 : Array CpInfo := pool [(1, .class_ 2), (0, u "java/lang/Comparable"), (0, .class_ 4), (0, u "java/lang/Object")] 7

/-- java/lang/Comparable -/
def k3 : Class := { plain "java/lang/Comparable" (some 0) with
  accessFlags := 1537
  interfaces := #[]
  cf := some (fileOf pool3 1 #[] #[] 1537 3 #[] #[])
  fields := #[]
  methods := #[]
  instanceTypes := #[]
  staticTypes := #[]
  resolved := Array.replicate 12 none
  statics := none }

def pool4 : Array CpInfo := pool [(1, .class_ 2), (0, u "java/io/Serializable"), (0, .class_ 4), (0, u "java/lang/Object")] 2

/-- java/io/Serializable -/
def k4 : Class := { plain "java/io/Serializable" (some 0) with
  accessFlags := 1537
  interfaces := #[]
  cf := some (fileOf pool4 1 #[] #[] 1537 3 #[] #[])
  fields := #[]
  methods := #[]
  instanceTypes := #[]
  staticTypes := #[]
  resolved := Array.replicate 7 none
  statics := none }

def pool5 : Array CpInfo := pool [(2, .class_ 4), (1, u "java/lang/Enum"), (0, u "name"), (0, u "Ljava/lang/String;"), (2, u "ordinal"), (0, u "I"), (1, .class_ 14), (1, u "java/lang/Object"), (4, u "hash"), (86, .class_ 108), (1, u "java/lang/Enum$EnumDesc"), (2, .class_ 112), (0, u "java/lang/constant/Constable"), (0, .class_ 114), (0, u "java/lang/Comparable"), (0, .class_ 116), (0, u "java/io/Serializable")] 87

/-- java/lang/Enum -/
def k5 : Class := { plain "java/lang/Enum" (some 0) with
  accessFlags := 1057
  interfaces := #[2, 3, 4]
  cf := some (fileOf pool5 2 #[.nestMembers #[106]] #[] 1057 12 #[111, 113, 115] #[{ accessFlags := 18, nameIndex := 5, descriptorIndex := 6, attributes := #[] }, { accessFlags := 18, nameIndex := 9, descriptorIndex := 10, attributes := #[] }, { accessFlags := 2, nameIndex := 19, descriptorIndex := 10, attributes := #[] }])
  fields := #[{ name := "name", type := (.object "java/lang/String"), accessFlags := 18, slot := 0, constantValue := 0 }, { name := "ordinal", type := .int, accessFlags := 18, slot := 1, constantValue := 0 }, { name := "hash", type := .int, accessFlags := 2, slot := 2, constantValue := 0 }]
  methods := #[]
  instanceTypes := #[(.object "java/lang/String"), .int, .int]
  staticTypes := #[]
  resolved := Array.replicate 204 none
  statics := none }

def pool6 : Array CpInfo := pool [(1, .class_ 2), (0, u "com/example/tileburgh/tileburgh/model/ConstructionKind"), (0, .fieldref 1 4), (0, .nameAndType 5 6), (0, u "LOW_COST"), (0, u "Lcom/example/tileburgh/tileburgh/model/ConstructionKind;"), (0, .fieldref 1 8), (0, .nameAndType 9 6), (0, u "CONVENTIONAL"), (0, .fieldref 1 11), (0, .nameAndType 12 6), (0, u "GREEN"), (2, u "SHOPPING"), (0, .fieldref 1 17), (0, .nameAndType 18 6), (0, u "GREENSPACE"), (0, .fieldref 1 20), (0, .nameAndType 21 6), (0, u "ECO_PARK"), (2, u "$VALUES"), (0, u "[Lcom/example/tileburgh/tileburgh/model/ConstructionKind;"), (6, .class_ 34), (1, u "java/lang/Enum"), (8, u "displayName"), (0, u "Ljava/lang/String;"), (49, u "takesRenter"), (0, u "()Z"), (1, u "isPark")] 27

def k6c0 : Code := { maxStack := 2, maxLocals := 1, code := prog_14_method_6_code, exceptionTable := #[], attributes := #[] }
def k6m0 : Method := { name := "takesRenter", desc := "()Z", sig := { parameters := [], returnType := some .boolean }, accessFlags := 1, code := some k6c0 }
def k6c1 : Code := { maxStack := 2, maxLocals := 1, code := prog_14_method_7_code, exceptionTable := #[], attributes := #[] }
def k6m1 : Method := { name := "isPark", desc := "()Z", sig := { parameters := [], returnType := some .boolean }, accessFlags := 1, code := some k6c1 }
/-- com/example/tileburgh/tileburgh/model/ConstructionKind -/
def k6 : Class := { plain "com/example/tileburgh/tileburgh/model/ConstructionKind" (some 5) with
  accessFlags := 16433
  interfaces := #[]
  cf := some (fileOf pool6 1 #[] #[{ accessFlags := 1, nameIndex := 94, descriptorIndex := 95, attributes := #[] }, { accessFlags := 1, nameIndex := 97, descriptorIndex := 95, attributes := #[] }] 16433 32 #[] #[{ accessFlags := 16409, nameIndex := 5, descriptorIndex := 6, attributes := #[] }, { accessFlags := 16409, nameIndex := 9, descriptorIndex := 6, attributes := #[] }, { accessFlags := 16409, nameIndex := 12, descriptorIndex := 6, attributes := #[] }, { accessFlags := 16409, nameIndex := 15, descriptorIndex := 6, attributes := #[] }, { accessFlags := 16409, nameIndex := 18, descriptorIndex := 6, attributes := #[] }, { accessFlags := 16409, nameIndex := 21, descriptorIndex := 6, attributes := #[] }, { accessFlags := 18, nameIndex := 43, descriptorIndex := 44, attributes := #[] }, { accessFlags := 4122, nameIndex := 24, descriptorIndex := 25, attributes := #[] }])
  fields := #[{ name := "LOW_COST", type := (.object "com/example/tileburgh/tileburgh/model/ConstructionKind"), accessFlags := 16409, slot := 0, constantValue := 0 }, { name := "CONVENTIONAL", type := (.object "com/example/tileburgh/tileburgh/model/ConstructionKind"), accessFlags := 16409, slot := 1, constantValue := 0 }, { name := "GREEN", type := (.object "com/example/tileburgh/tileburgh/model/ConstructionKind"), accessFlags := 16409, slot := 2, constantValue := 0 }, { name := "SHOPPING", type := (.object "com/example/tileburgh/tileburgh/model/ConstructionKind"), accessFlags := 16409, slot := 3, constantValue := 0 }, { name := "GREENSPACE", type := (.object "com/example/tileburgh/tileburgh/model/ConstructionKind"), accessFlags := 16409, slot := 4, constantValue := 0 }, { name := "ECO_PARK", type := (.object "com/example/tileburgh/tileburgh/model/ConstructionKind"), accessFlags := 16409, slot := 5, constantValue := 0 }, { name := "displayName", type := (.object "java/lang/String"), accessFlags := 18, slot := 3, constantValue := 0 }, { name := "$VALUES", type := (.array (.object "com/example/tileburgh/tileburgh/model/ConstructionKind")), accessFlags := 4122, slot := 6, constantValue := 0 }]
  methods := #[k6m0, k6m1]
  instanceTypes := #[(.object "java/lang/String"), .int, .int, (.object "java/lang/String")]
  staticTypes := #[(.object "com/example/tileburgh/tileburgh/model/ConstructionKind"), (.object "com/example/tileburgh/tileburgh/model/ConstructionKind"), (.object "com/example/tileburgh/tileburgh/model/ConstructionKind"), (.object "com/example/tileburgh/tileburgh/model/ConstructionKind"), (.object "com/example/tileburgh/tileburgh/model/ConstructionKind"), (.object "com/example/tileburgh/tileburgh/model/ConstructionKind"), (.array (.object "com/example/tileburgh/tileburgh/model/ConstructionKind"))]
  resolved := Array.replicate 125 none
  statics := some 0 }

def pool7 : Array CpInfo := pool [(1, u "java/lang/Cloneable"), (0, .class_ 1), (0, u "java/lang/Object"), (0, .class_ 3)] 3

/-- java/lang/Cloneable -/
def k7 : Class := { plain "java/lang/Cloneable" (some 0) with
  accessFlags := 1537
  interfaces := #[]
  cf := some (fileOf pool7 2 #[] #[] 1537 4 #[] #[])
  fields := #[]
  methods := #[]
  instanceTypes := #[]
  staticTypes := #[]
  resolved := Array.replicate 8 none
  statics := none }

/-- the primitive byte -/
def k8 : Class := { plain "byte" none with kind := .primitive 'B', accessFlags := 0x411 }
/-- [B -/
def k9 : Class := { plain "[B" (some 0) with kind := .array 8 .byte, interfaces := #[7, 4], accessFlags := 1041 }

/-- the primitive int -/
def k10 : Class := { plain "int" none with kind := .primitive 'I', accessFlags := 0x411 }
/-- [I -/
def k11 : Class := { plain "[I" (some 0) with kind := .array 10 .int, interfaces := #[7, 4], accessFlags := 1041 }

def heap : Heap := #[{ cls := 6, slots := #[.ref 1, .ref 5, .ref 6, .ref 4, .ref 2, .ref 3, .null], vm := .statics 6 },
  { cls := 6, slots := #[.null, .int 0, .int 0, .null], vm := .none },
  { cls := 6, slots := #[.null, .int 4, .int 0, .null], vm := .none },
  { cls := 6, slots := #[.null, .int 5, .int 0, .null], vm := .none },
  { cls := 6, slots := #[.null, .int 3, .int 0, .null], vm := .none },
  { cls := 6, slots := #[.null, .int 1, .int 0, .null], vm := .none },
  { cls := 6, slots := #[.null, .int 2, .int 0, .null], vm := .none }]
def classes : Array Class := #[k0, k1, k2, k3, k4, k5, k6, k7, k8, k9, k10, k11]
def interned : List (Array UInt16 × Addr) := []
def slotsUsed : Nat := 31
def theMethod : MethodId := ⟨1, 2⟩
def args0 : Array Value := #[.int 5]
def aboutOver (below : List Frame) : State where
  vm := { classes := classes, interned := interned.toArray }
  heap := heap
  slotsUsed := slotsUsed
  threads := #[{ frames := .invoking theMethod args0 :: below }]
def below0 : List Frame := [.native { method := ⟨0, 0⟩, args := #[] }]
def about1 : State := aboutOver below0
def p0 : Program := .bare "" "" ""
def e0 : Env := launch0.env 0 0 0
theorem w_frames : about1.frames = Frame.invoking theMethod args0 :: below0 := rfl
set_option maxRecDepth 65536 in
theorem w_args : argsFit about1.vm theMethod args0 = true := by decide +kernel
set_option maxRecDepth 65536 in
theorem w_heap : heapFits about1 = true := by decide +kernel
set_option maxRecDepth 65536 in
theorem w_runnable : about1.curStatus? = some .runnable := by decide +kernel
set_option maxRecDepth 65536 in
theorem w_alone : about1.alone = true := by decide +kernel
set_option maxRecDepth 65536 in
theorem w_named : about1.methodNamed? x = some theMethod := by decide +kernel
set_option maxRecDepth 65536 in
theorem w_hears : about1.hears theMethod below0 = true := by decide +kernel
set_option maxRecDepth 65536 in
theorem w_ripe : about1.ripe theMethod args0 below0 = true := by decide +kernel
theorem w_running : about1.status = .running := rfl
set_option maxRecDepth 65536 in
theorem w_room : about1.hasRoom e0.platform room_1 = true :=
  launch0.hasRoom_least _ room_1 (by decide +kernel) (by decide +kernel) (by decide +kernel) (by decide +kernel) (by decide +kernel) (by decide +kernel)
theorem allAtoms_all (ts : List Jvm.Cond) (a : Array Jvm.Value) (st : Jvm.State) : (allAtoms ts).before a st = ts.all (fun c => c.before a st) := by
  induction ts with
  | nil => rfl
  | cons c t ih =>
    show (Jvm.Cond.and c (allAtoms t)).before a st = _
    rw [Jvm.Cond.before_and, ih, List.all_cons]
def words1 : List Jvm.Cond := Jvm.Cond.code x code maxLocals ret :: tables_1
/-- a 'code' word, met by the world's own term for the bytes: nothing is compared byte by byte -/
theorem code_word {y : MethodName} {bytes : ByteArray} {mx : Nat} {rt : Option FieldType} {a : Array Value} {s : State} {m : MethodId} {meth : Method} {c : Code} (h1 : s.methodNamed? y = some m) (h2 : s.vm.method? m = some meth) (h3 : meth.code = some c) (h4 : c.code = bytes)
    (h5 : (c.maxLocals == mx && c.exceptionTable.isEmpty && decide (c.maxStack ≤ mostOperands) && decide (meth.sig.returnType = rt) && !meth.locks && decide (parseMethodDescriptor y.desc = some meth.sig)) = true) : (Jvm.Cond.code y bytes mx rt).before a s = true := by
  simp only [Bool.and_eq_true, beq_iff_eq, Bool.not_eq_true', decide_eq_true_eq] at h5
  obtain ⟨⟨⟨⟨⟨g1, g2⟩, g3⟩, g4⟩, g5⟩, g6⟩ := h5
  simp [Cond.before, Cond.holds, Cond.value, h1, h2, h3, h4, g1, g2, g3, g4, g5, g6]
def isCode : Jvm.Cond → Bool
  | .code _ _ _ _ => true
  | _ => false
theorem all_split {L : List Jvm.Cond} {P : Jvm.Cond → Bool} (h1 : L.all (fun c => isCode c || P c) = true) (h2 : ∀ c ∈ L.filter isCode, P c = true) : L.all P = true := by
  refine List.all_eq_true.mpr fun c hc => ?_
  have h := List.all_eq_true.mp h1 c hc
  rcases Bool.eq_false_or_eq_true (isCode c) with hi | hi
  · exact h2 c (List.mem_filter.mpr ⟨hc, hi⟩)
  · simpa [hi] using h
set_option maxRecDepth 65536 in
theorem w_c0 : (Jvm.Cond.code x code maxLocals ret).before args0 about1 = true := code_word (m := ⟨1, 2⟩) (meth := k1m2) (c := k1c2) (by decide +kernel) rfl rfl rfl (by decide +kernel)
set_option maxRecDepth 65536 in
theorem w_c1 : (Jvm.Cond.code ({ cls := "com/example/tileburgh/tileburgh/model/ConstructionKindIsParkPinLaw", name := "pick", desc := "(I)Lcom/example/tileburgh/tileburgh/model/ConstructionKind;" } : Jvm.MethodName) method_2_code (1 : Nat) (Option.some (Jvm.ClassFile.FieldType.object "com/example/tileburgh/tileburgh/model/ConstructionKind"))).before args0 about1 = true := code_word (m := ⟨1, 1⟩) (meth := k1m1) (c := k1c1) (by decide +kernel) rfl rfl rfl (by decide +kernel)
set_option maxRecDepth 65536 in
theorem w_c2 : (Jvm.Cond.code ({ cls := "com/example/tileburgh/tileburgh/model/ConstructionKind", name := "isPark", desc := "()Z" } : Jvm.MethodName) prog_14_method_7_code (1 : Nat) (Option.some Jvm.ClassFile.FieldType.boolean)).before args0 about1 = true := code_word (m := ⟨6, 1⟩) (meth := k6m1) (c := k6c1) (by decide +kernel) rfl rfl rfl (by decide +kernel)
set_option maxRecDepth 65536 in
theorem w_c3 : (Jvm.Cond.code ({ cls := "com/example/tileburgh/tileburgh/model/ConstructionKind", name := "takesRenter", desc := "()Z" } : Jvm.MethodName) prog_14_method_6_code (1 : Nat) (Option.some Jvm.ClassFile.FieldType.boolean)).before args0 about1 = true := code_word (m := ⟨6, 0⟩) (meth := k6m0) (c := k6c0) (by decide +kernel) rfl rfl rfl (by decide +kernel)
def codes1 : List Jvm.Cond := [Jvm.Cond.code x code maxLocals ret, Jvm.Cond.code ({ cls := "com/example/tileburgh/tileburgh/model/ConstructionKindIsParkPinLaw", name := "pick", desc := "(I)Lcom/example/tileburgh/tileburgh/model/ConstructionKind;" } : Jvm.MethodName) method_2_code (1 : Nat) (Option.some (Jvm.ClassFile.FieldType.object "com/example/tileburgh/tileburgh/model/ConstructionKind")), Jvm.Cond.code ({ cls := "com/example/tileburgh/tileburgh/model/ConstructionKind", name := "isPark", desc := "()Z" } : Jvm.MethodName) prog_14_method_7_code (1 : Nat) (Option.some Jvm.ClassFile.FieldType.boolean), Jvm.Cond.code ({ cls := "com/example/tileburgh/tileburgh/model/ConstructionKind", name := "takesRenter", desc := "()Z" } : Jvm.MethodName) prog_14_method_6_code (1 : Nat) (Option.some Jvm.ClassFile.FieldType.boolean)]
set_option maxRecDepth 65536 in
theorem codes_eq : words1.filter isCode = codes1 := rfl
theorem w_codes : ∀ c ∈ words1.filter isCode, c.before args0 about1 = true := by
  rw [codes_eq]
  intro c hc
  simp only [codes1, List.mem_cons, List.not_mem_nil, or_false] at hc
  rcases hc with rfl | rfl | rfl | rfl
  · exact w_c0
  · exact w_c1
  · exact w_c2
  · exact w_c3
set_option maxRecDepth 65536 in
theorem w_t1 : (words1.take 24).all (fun c => isCode c || c.before args0 about1) = true := by decide +kernel
set_option maxRecDepth 65536 in
theorem w_t2 : (words1.drop 24).all (fun c => isCode c || c.before args0 about1) = true := by decide +kernel
theorem w_tables : (allAtoms (Jvm.Cond.code x code maxLocals ret :: tables_1)).before args0 about1 = true := by
  rw [allAtoms_all]
  show words1.all (fun c => c.before args0 about1) = true
  refine all_split ?_ w_codes
  rw [← List.take_append_drop 24 words1, List.all_append, w_t1, w_t2]
  rfl
set_option maxRecDepth 65536 in
theorem w_case : (Jvm.Cond.and given_1 narrow_1).before args0 about1 = true := by decide +kernel
theorem w_applies : (headSpec (Jvm.Cond.code x code maxLocals ret :: tables_1) room_1).applies x e0.platform about1 = true :=
  (Spec.applies_iff w_frames).mpr ⟨w_running, w_runnable, w_alone, w_named, w_hears, w_ripe, w_room, w_tables⟩
theorem atStart : AtStart classFile x code maxLocals ret World_1 tables_1 room_1 Calls_1 rest_1 Pre_1 launch0 p0 e0 about1 theMethod args0 below0 :=
  ⟨lists_1, trivial, launch0.admits_env _ _ _, launch0.least_env, fairChoices_fair.cas, fairChoices_fair.clock, w_frames, w_args, w_heap, w_applies, trivial, trivial, w_case⟩
end start1
theorem witness_1 : WitnessClaimed_1 := ⟨start1.p0, start1.e0, start1.about1, start1.theMethod, start1.args0, start1.below0, start1.atStart⟩
end Jvm.Pilot.@@N@@
