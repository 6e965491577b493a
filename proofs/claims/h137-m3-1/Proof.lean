import JvmDerived
import JvmDerived.Pilot.@@N@@Statement
import JvmDerived.Pilot.@@N@@Code
set_option linter.unusedVariables false
set_option linter.unusedSimpArgs false
namespace Jvm.Pilot.@@N@@
open Jvm Jvm.ClassFile Sem Op Lib Jvm.Free Jvm.Stand Jvm.LawKit Jvm.RoadKit Bundle Jvm.Pilot.@@N@@.Jvm.D
section OwnKit
variable {p : Program} {l : Launch} {e : Env} {R : Room} {s : State} {m : MethodId} {args : Array Value} {below : List Frame} {meth : Method} {c : Code} {T : State} {locs : List Loc} {cells slots kc ks : Nat} {Q : Option Value → Heap → List Loc → Prop} {A B : State}
/-- the rest of a walk: from the state A the run comes to a return that Q describes -/
def OW (p : Program) (e : Env) (below : List Frame) (s : State) (Q : Option Value → Heap → List Loc → Prop) (kc ks : Nat) (A : State) : Prop :=
  ∃ s₂ o, Steps p.tables e below A s₂ ∧ s₂.status = .running ∧ Ended s₂ below o ∧ ∃ v L, o = .returned v ∧ Q v s₂.heap L ∧ FrameEnd s o s₂ L kc ks
theorem OW.st (h : ∀ t, Steps p.tables e below B t → Steps p.tables e below A t) (k : OW p e below s Q kc ks B) : OW p e below s Q kc ks A := by
  obtain ⟨a, o, h1, h2⟩ := k; exact ⟨a, o, h _ h1, h2⟩
theorem OW.tr (h : Steps p.tables e below A B) (k : OW p e below s Q kc ks B) : OW p e below s Q kc ks A := by
  obtain ⟨a, o, h1, h2⟩ := k; exact ⟨a, o, h.trans h1, h2⟩
theorem OW.ret (X : Stand p l e R s m args below meth c T locs cells slots) (hx : p.tables.exec = Jvm.exec) (hlk : meth.locks = false) {pc : Nat} {Ls : Array Slot} {w : Value} {t : FieldType} {i : Instr} {rest : List Value} (hret : meth.sig.returnType = some t) (hn : narrow t w = w)
    (hi : (i = .ireturn ∧ (t = .int ∨ t = .boolean ∨ t = .byte ∨ t = .char ∨ t = .short) ∧ ∃ z, w = .int z) ∨ (i = .lreturn ∧ t = .long ∧ ∃ z, w = .long z) ∨ (i = .dreturn ∧ t = .double ∧ ∃ z, w = .double z) ∨ (i = .freturn ∧ t = .float ∧ ∃ z, w = .float z) ∨ (i = .areturn ∧ t.isReference = true ∧ w.isRef = true))
    (hd : decode c.code pc = .ok (i, 1)) {h : Heap} (eT : T.heap = h) (hc : cells ≤ kc) (hs : slots ≤ ks) (q : Q (some w) h locs) : OW p e below s Q kc ks (T.setTop (mkF m pc Ls (w :: rest))) := by
  obtain ⟨fs, hr, hrun, hended, hW, hsame⟩ := X.leave (v := some w) (fun h => by rw [hret] at h; cases h) hlk
  subst eT
  exact ⟨_, _, retOut X hx hret hn hi hd hr, hrun, hended, _, _, rfl, q, ⟨_, rfl⟩, hW, hsame.mono hc hs⟩
theorem OW.retV (X : Stand p l e R s m args below meth c T locs cells slots) (hx : p.tables.exec = Jvm.exec) (hlk : meth.locks = false) {pc : Nat} {Ls : Array Slot} (hret : meth.sig.returnType = none)
    (hd : decode c.code pc = .ok (.return_, 1)) {h : Heap} (eT : T.heap = h) (hc : cells ≤ kc) (hs : slots ≤ ks) (q : Q none h locs) : OW p e below s Q kc ks (T.setTop (mkF m pc Ls [])) := by
  obtain ⟨fs, hr, hrun, hended, hW, hsame⟩ := X.leave (v := none) (fun _ => rfl) hlk
  subst eT
  exact ⟨_, _, X.returnOut hx hret hd hr, hrun, hended, _, _, rfl, q, ⟨_, rfl⟩, hW, hsame.mono hc hs⟩
/-- the same for a walk that may intern: its Stand is over 's.setVm vm0' -/
def OWW (p : Program) (e : Env) (below : List Frame) (s : State) (Q : Option Value → Heap → List Loc → Prop) (kc ks : Nat) (A : State) : Prop :=
  ∃ s₂ o, Steps p.tables e below A s₂ ∧ s₂.status = .running ∧ Ended s₂ below o ∧ ∃ v L, o = .returned v ∧ Q v s₂.heap L ∧ ReturnedEndW s o s₂ L kc ks
theorem OWW.st (h : ∀ t, Steps p.tables e below B t → Steps p.tables e below A t) (k : OWW p e below s Q kc ks B) : OWW p e below s Q kc ks A := by
  obtain ⟨a, o, h1, h2⟩ := k; exact ⟨a, o, h _ h1, h2⟩
theorem OWW.tr (h : Steps p.tables e below A B) (k : OWW p e below s Q kc ks B) : OWW p e below s Q kc ks A := by
  obtain ⟨a, o, h1, h2⟩ := k; exact ⟨a, o, h.trans h1, h2⟩
theorem OWW.ret {vm0 : Vm} {k0 : Nat} (X : Stand p l e R (s.setVm vm0) m args below meth c T locs cells slots) {h : Heap} (hS : s.Since vm0 k0) (hk : k0 ≤ h.size) (hx : p.tables.exec = Jvm.exec) (hlk : meth.locks = false) {pc : Nat} {Ls : Array Slot} {w : Value} {t : FieldType} {i : Instr} {rest : List Value} (hret : meth.sig.returnType = some t) (hn : narrow t w = w)
    (hi : (i = .ireturn ∧ (t = .int ∨ t = .boolean ∨ t = .byte ∨ t = .char ∨ t = .short) ∧ ∃ z, w = .int z) ∨ (i = .lreturn ∧ t = .long ∧ ∃ z, w = .long z) ∨ (i = .dreturn ∧ t = .double ∧ ∃ z, w = .double z) ∨ (i = .freturn ∧ t = .float ∧ ∃ z, w = .float z) ∨ (i = .areturn ∧ t.isReference = true ∧ w.isRef = true))
    (hd : decode c.code pc = .ok (i, 1)) (eT : T.heap = h) (hc : cells ≤ kc) (hs : slots ≤ ks) (q : Q (some w) h locs) : OWW p e below s Q kc ks (T.setTop (mkF m pc Ls (w :: rest))) := by
  obtain ⟨fs, hr, hrun, hended, hW, hsame⟩ := X.leave (v := some w) (fun h => by rw [hret] at h; cases h) hlk
  subst eT
  obtain ⟨g1, g2, g3⟩ := hS.ended (U := T.setFrames fs) hW hk hsame
  exact ⟨_, _, retOut X hx hret hn hi hd hr, hrun, hended, _, _, rfl, q, ⟨_, rfl⟩, g1, g2, g3.mono hc hs⟩
theorem OWW.retV {vm0 : Vm} {k0 : Nat} (X : Stand p l e R (s.setVm vm0) m args below meth c T locs cells slots) {h : Heap} (hS : s.Since vm0 k0) (hk : k0 ≤ h.size) (hx : p.tables.exec = Jvm.exec) (hlk : meth.locks = false) {pc : Nat} {Ls : Array Slot} (hret : meth.sig.returnType = none)
    (hd : decode c.code pc = .ok (.return_, 1)) (eT : T.heap = h) (hc : cells ≤ kc) (hs : slots ≤ ks) (q : Q none h locs) : OWW p e below s Q kc ks (T.setTop (mkF m pc Ls [])) := by
  obtain ⟨fs, hr, hrun, hended, hW, hsame⟩ := X.leave (v := none) (fun _ => rfl) hlk
  subst eT
  obtain ⟨g1, g2, g3⟩ := hS.ended (U := T.setFrames fs) hW hk hsame
  exact ⟨_, _, X.returnOut hx hret hd hr, hrun, hended, _, _, rfl, q, ⟨_, rfl⟩, g1, g2, g3.mono hc hs⟩
end OwnKit
section OwnWords
variable {args : Array Value} {first s : State} {o : Option Outcome} {idx : List Nat} {t : Term}
theorem own_eq_int {k : Int32} (h : (Jvm.Cond.eq t (.int k)).value args first o s idx = some true) : t.eval args first o idx s = some (.int k) := by
  obtain ⟨x, y, h1, h2, k1, k2⟩ := cmp_v (Or.inl h)
  rw [Term.int_eval] at h2
  cases h2
  obtain ⟨z, rfl⟩ := k2
  rw [h1, gotT (Cond.eq_ints h1 (Term.int_eval k)) h]
theorem own_eq_ref {u : Term} {a : Addr} (h : (Jvm.Cond.eq t u).value args first o s idx = some true) (hu : u.eval args first o idx s = some (.ref a)) : t.eval args first o idx s = some (.ref a) := by
  obtain ⟨x, y, h1, h2, k1, k2⟩ := cmp_v (Or.inl h)
  cases hu.symm.trans h2
  have q := gotT (eq_R h1 hu k2.2 rfl) h
  rw [h1, q]
theorem own_eq_dbl {n : Int64} {b : UInt64} (hb : Jvm.Unary.bitsD.apply (.long n) = some (.double b)) (h : (Jvm.Cond.eq t (.op1 .bitsD (.long n))).value args first o s idx = some true) : t.eval args first o idx s = some (.double b) := by
  obtain ⟨x, y, h1, h2, k1, k2⟩ := cmp_v (Or.inl h)
  rw [op1_f (long_at n), hb] at h2
  cases h2
  obtain ⟨z, rfl⟩ := k2
  have h3 : (Term.op1 Jvm.Unary.bitsD (.long n)).eval args first o idx s = some (.double b) := by rw [op1_f (long_at n), hb]
  simp only [Cond.value, h1, h3, Option.some.injEq, decide_eq_true_eq] at h
  rw [h1, h]
theorem own_arr {ty : FieldType} {a : Addr} {z : Int32} (ev : t.eval args s none [] s = some (.ref a)) (ha : (Jvm.Cond.arrayOf t ty).value args s none s [] = some true) (hl : (Term.length t).eval args s none [] s = some (.int z)) :
    ∃ cl : Cell, Arr s s.heap a cl ty ∧ cl.slots.size < 2 ^ 31 ∧ cl.slots.size.toInt32 = z ∧ ∀ j : Int32, ¬ j < 0 → ∀ v, (Term.elem t (.int j)).eval args s none [] s = some v → cl.slots[j.toNatClampNeg]? = some v := by
  obtain ⟨cl, A⟩ := Arr.start ev ha
  have hat := A.fin (Vm.Alike.refl _)
  have hlt : cl.slots.size < 2 ^ 31 := by
    refine Decidable.byContradiction fun q => ?_
    simp [Term.eval, ev, hat, q] at hl
  refine ⟨cl, A, hlt, ?_, fun j hj v hv => ?_⟩
  · rw [len_f ev hat hlt] at hl; exact Value.int.inj (Option.some.inj hl)
  · rw [elem_f ev (Term.int_eval j) hat hj] at hv; exact hv
end OwnWords
theorem own_oldle {Z : State} {n0 : Nat} {h : Heap} (X : Old Z n0 h) : n0 ≤ h.size := X.1 ▸ X.2.1
theorem own_cat {v : Value} (h : v.isRef = true) : v.category = 1 := by cases v <;> first | rfl | simp [Value.isRef] at h
theorem own_nar {v : Value} {t : FieldType} (h : v.isRef = true) (ht : t.isReference = true) : narrow t v = v := by cases t <;> first | (cases ht; done) | (cases v <;> first | rfl | simp [Value.isRef] at h)
theorem own_fit {v : Value} {t : FieldType} (h : v.isRef = true) (ht : t.isReference = true) : fits t v = true := by cases t <;> first | (cases ht; done) | (cases v <;> first | rfl | simp [Value.isRef] at h)

theorem own_nz {r : Int32} (h : r = 0 ∨ r = 1) : narrow .boolean (.int r) = .int r := by rcases h with rfl | rfl <;> rfl
theorem own_fz {r : Int32} (h : r = 0 ∨ r = 1) : fits .boolean (.int r) = true := by rcases h with rfl | rfl <;> rfl
theorem w_0 {a0 : Array Value} {Z : State} (hw : ∀ d ∈ tables_1, d.before a0 Z = true) : (Jvm.Cond.constant "com/example/retrace/retrace/clickmodel/PriorEstimatePinLaw" (7 : Nat) (2147483647 : Int32)).before a0 Z = true := hw _ (List.mem_of_getElem? (i := 0) rfl)
theorem w_1 {a0 : Array Value} {Z : State} (hw : ∀ d ∈ tables_1, d.before a0 Z = true) : (Jvm.Cond.constant "com/example/retrace/retrace/clickmodel/PriorEstimatePinLaw" (8 : Nat) (1048575 : Int32)).before a0 Z = true := hw _ (List.mem_of_getElem? (i := 1) rfl)
theorem w_2 {a0 : Array Value} {Z : State} (hw : ∀ d ∈ tables_1, d.before a0 Z = true) : (Jvm.Cond.constantDouble "com/example/retrace/retrace/clickmodel/PriorEstimatePinLaw" (9 : Nat) (4616189618054758400 : UInt64)).before a0 Z = true := hw _ (List.mem_of_getElem? (i := 2) rfl)
theorem w_3 {a0 : Array Value} {Z : State} (hw : ∀ d ∈ tables_1, d.before a0 Z = true) : (Jvm.Cond.fieldLink "com/example/retrace/retrace/clickmodel/PriorEstimatePinLaw" (11 : Nat) "com/example/retrace/retrace/clickmodel/Prior" "UNIFORM" "Lcom/example/retrace/retrace/clickmodel/Prior;").before a0 Z = true := hw _ (List.mem_of_getElem? (i := 3) rfl)
theorem w_4 {a0 : Array Value} {Z : State} (hw : ∀ d ∈ tables_1, d.before a0 Z = true) : (Jvm.Cond.initialized "com/example/retrace/retrace/clickmodel/Prior").before a0 Z = true := hw _ (List.mem_of_getElem? (i := 4) rfl)
theorem w_5 {a0 : Array Value} {Z : State} (hw : ∀ d ∈ tables_1, d.before a0 Z = true) : (Jvm.Cond.laysStatic "com/example/retrace/retrace/clickmodel/Prior" "UNIFORM" "Lcom/example/retrace/retrace/clickmodel/Prior;").before a0 Z = true := hw _ (List.mem_of_getElem? (i := 5) rfl)
theorem w_6 {a0 : Array Value} {Z : State} (hw : ∀ d ∈ tables_1, d.before a0 Z = true) : (Jvm.Cond.constantDouble "com/example/retrace/retrace/clickmodel/PriorEstimatePinLaw" (17 : Nat) (4611686018427387904 : UInt64)).before a0 Z = true := hw _ (List.mem_of_getElem? (i := 6) rfl)
theorem w_7 {a0 : Array Value} {Z : State} (hw : ∀ d ∈ tables_1, d.before a0 Z = true) : (Jvm.Cond.methodLink "com/example/retrace/retrace/clickmodel/PriorEstimatePinLaw" (25 : Nat) ({ cls := "com/example/retrace/retrace/clickmodel/Prior", name := "estimate", desc := "(DD)D" } : Jvm.MethodName)).before a0 Z = true := hw _ (List.mem_of_getElem? (i := 7) rfl)
theorem w_8 {a0 : Array Value} {Z : State} (hw : ∀ d ∈ tables_1, d.before a0 Z = true) : (Jvm.Cond.declares ({ cls := "com/example/retrace/retrace/clickmodel/Prior", name := "estimate", desc := "(DD)D" } : Jvm.MethodName)).before a0 Z = true := hw _ (List.mem_of_getElem? (i := 8) rfl)
theorem w_9 {a0 : Array Value} {Z : State} (hw : ∀ d ∈ tables_1, d.before a0 Z = true) : (Jvm.Cond.instanceMethod ({ cls := "com/example/retrace/retrace/clickmodel/Prior", name := "estimate", desc := "(DD)D" } : Jvm.MethodName)).before a0 Z = true := hw _ (List.mem_of_getElem? (i := 9) rfl)
theorem w_10 {a0 : Array Value} {Z : State} (hw : ∀ d ∈ tables_1, d.before a0 Z = true) : (Jvm.Cond.selects "com/example/retrace/retrace/clickmodel/Prior" ({ cls := "com/example/retrace/retrace/clickmodel/Prior", name := "estimate", desc := "(DD)D" } : Jvm.MethodName) ({ cls := "com/example/retrace/retrace/clickmodel/Prior", name := "estimate", desc := "(DD)D" } : Jvm.MethodName)).before a0 Z = true := hw _ (List.mem_of_getElem? (i := 10) rfl)
theorem w_11 {a0 : Array Value} {Z : State} (hw : ∀ d ∈ tables_1, d.before a0 Z = true) : (Jvm.Cond.code ({ cls := "com/example/retrace/retrace/clickmodel/Prior", name := "estimate", desc := "(DD)D" } : Jvm.MethodName) prog_51_method_5_code (5 : Nat) (Option.some Jvm.ClassFile.FieldType.double)).before a0 Z = true := hw _ (List.mem_of_getElem? (i := 11) rfl)
theorem w_12 {a0 : Array Value} {Z : State} (hw : ∀ d ∈ tables_1, d.before a0 Z = true) : (Jvm.Cond.fieldLink "com/example/retrace/retrace/clickmodel/Prior" (32 : Nat) "com/example/retrace/retrace/clickmodel/Prior" "pseudoSuccesses" "D").before a0 Z = true := hw _ (List.mem_of_getElem? (i := 12) rfl)
theorem w_14 {a0 : Array Value} {Z : State} (hw : ∀ d ∈ tables_1, d.before a0 Z = true) : (Jvm.Cond.fieldLink "com/example/retrace/retrace/clickmodel/Prior" (36 : Nat) "com/example/retrace/retrace/clickmodel/Prior" "pseudoTrials" "D").before a0 Z = true := hw _ (List.mem_of_getElem? (i := 14) rfl)
theorem w_16 {a0 : Array Value} {Z : State} (hw : ∀ d ∈ tables_1, d.before a0 Z = true) : (Jvm.Cond.fieldLink "com/example/retrace/retrace/clickmodel/PriorEstimatePinLaw" (19 : Nat) "com/example/retrace/retrace/clickmodel/Prior" "POOLED" "Lcom/example/retrace/retrace/clickmodel/Prior;").before a0 Z = true := hw _ (List.mem_of_getElem? (i := 16) rfl)
theorem w_17 {a0 : Array Value} {Z : State} (hw : ∀ d ∈ tables_1, d.before a0 Z = true) : (Jvm.Cond.laysStatic "com/example/retrace/retrace/clickmodel/Prior" "POOLED" "Lcom/example/retrace/retrace/clickmodel/Prior;").before a0 Z = true := hw _ (List.mem_of_getElem? (i := 17) rfl)
theorem w_18 {a0 : Array Value} {Z : State} (hw : ∀ d ∈ tables_1, d.before a0 Z = true) : (Jvm.Cond.fieldLink "com/example/retrace/retrace/clickmodel/PriorEstimatePinLaw" (22 : Nat) "com/example/retrace/retrace/clickmodel/Prior" "NONE" "Lcom/example/retrace/retrace/clickmodel/Prior;").before a0 Z = true := hw _ (List.mem_of_getElem? (i := 18) rfl)
theorem w_19 {a0 : Array Value} {Z : State} (hw : ∀ d ∈ tables_1, d.before a0 Z = true) : (Jvm.Cond.laysStatic "com/example/retrace/retrace/clickmodel/Prior" "NONE" "Lcom/example/retrace/retrace/clickmodel/Prior;").before a0 Z = true := hw _ (List.mem_of_getElem? (i := 19) rfl)
theorem d1_0 : decode prog_51_method_5_code 0 = .ok (.dload_n 1, 1) := by decide +kernel
theorem d1_1 : decode prog_51_method_5_code 1 = .ok (.aload_n 0, 1) := by decide +kernel
theorem d1_2 : decode prog_51_method_5_code 2 = .ok (.getfield 32, 3) := by decide +kernel
theorem d1_5 : decode prog_51_method_5_code 5 = .ok (.dadd, 1) := by decide +kernel
theorem d1_6 : decode prog_51_method_5_code 6 = .ok (.dload_n 3, 1) := by decide +kernel
theorem d1_7 : decode prog_51_method_5_code 7 = .ok (.aload_n 0, 1) := by decide +kernel
theorem d1_8 : decode prog_51_method_5_code 8 = .ok (.getfield 36, 3) := by decide +kernel
theorem d1_11 : decode prog_51_method_5_code 11 = .ok (.dadd, 1) := by decide +kernel
theorem d1_12 : decode prog_51_method_5_code 12 = .ok (.ddiv, 1) := by decide +kernel
theorem d1_13 : decode prog_51_method_5_code 13 = .ok (.dreturn, 1) := by decide +kernel
theorem pn_0 : plainName "com/example/retrace/retrace/clickmodel/Prior" = true := by first | (simp [plainName, overriddenIn]; done) | decide +kernel
theorem pn_1 : plainName "com/example/retrace/retrace/clickmodel/PriorEstimatePinLaw" = true := by first | (simp [plainName, overriddenIn]; done) | decide +kernel
theorem pd_0 : parseMethodDescriptor "(DD)D" = some ⟨[.double, .double], some .double⟩ := by decide +kernel
def OwnS (Z : State) (a_UNIFORM : Addr) (a_POOLED : Addr) (a_NONE : Addr) : Prop := (Sta Z Z.heap "com/example/retrace/retrace/clickmodel/Prior" "UNIFORM" "Lcom/example/retrace/retrace/clickmodel/Prior;" (.ref a_UNIFORM)) ∧ (Exa Z Z.heap a_UNIFORM "com/example/retrace/retrace/clickmodel/Prior") ∧ (Sta Z Z.heap "com/example/retrace/retrace/clickmodel/Prior" "POOLED" "Lcom/example/retrace/retrace/clickmodel/Prior;" (.ref a_POOLED)) ∧ (Exa Z Z.heap a_POOLED "com/example/retrace/retrace/clickmodel/Prior") ∧ (Sta Z Z.heap "com/example/retrace/retrace/clickmodel/Prior" "NONE" "Lcom/example/retrace/retrace/clickmodel/Prior;" (.ref a_NONE)) ∧ (Exa Z Z.heap a_NONE "com/example/retrace/retrace/clickmodel/Prior") ∧ (Fld Z Z.heap a_UNIFORM "com/example/retrace/retrace/clickmodel/Prior" "pseudoSuccesses" "D" (.double (4607182418800017408 : UInt64))) ∧ (Fld Z Z.heap a_UNIFORM "com/example/retrace/retrace/clickmodel/Prior" "pseudoTrials" "D" (.double (4611686018427387904 : UInt64))) ∧ (Fld Z Z.heap a_POOLED "com/example/retrace/retrace/clickmodel/Prior" "pseudoSuccesses" "D" (.double (4607182418800017408 : UInt64))) ∧ (Fld Z Z.heap a_POOLED "com/example/retrace/retrace/clickmodel/Prior" "pseudoTrials" "D" (.double (4611686018427387904 : UInt64))) ∧ (Fld Z Z.heap a_NONE "com/example/retrace/retrace/clickmodel/Prior" "pseudoSuccesses" "D" (.double (0 : UInt64))) ∧ (Fld Z Z.heap a_NONE "com/example/retrace/retrace/clickmodel/Prior" "pseudoTrials" "D" (.double (0 : UInt64)))
section OwnFloats
open Jvm.FP Jvm.Free.Fl Jvm.FP.Core
/-- a finite double that isn't below nought, and no -0.0 -/
def PosF (x : UInt64) : Prop := ∃ c q, Core.val64 x = .fin false c q
theorem PosF.fin {x : UInt64} (h : PosF x) : Fin64 x := by obtain ⟨c, q, h⟩ := h; exact fin64_core.mpr ⟨_, _, _, h⟩
theorem PosF.of {x : UInt64} {A B : Nat} {e : Int} (hf : Fin64 x) (h : Core.val64 x = roundRatio b64 false A B e) : PosF x := by
  obtain ⟨s, c, q, hv⟩ := fin64_core.mp hf
  have hs : s = false := by
    have := sgn_roundRatio b64 false A B e
    rw [← h, hv] at this
    exact this
  exact ⟨c, q, by rw [hv, hs]⟩
theorem PosF.z {x : UInt64} (h : PosF x) : 0 ≤ zval b64 (Core.val64 x) := by
  obtain ⟨c, q, h⟩ := h
  rw [h]
  show (0 : Int) ≤ signed false _
  simp [signed]
theorem PosF.i2d {a : Int32} (h : 0 ≤ a.toInt) : PosF (FP.i2d a) := by
  rw [i2d_w]
  obtain ⟨c, q, hv⟩ := Core.l2d_shape a.toInt64
  refine ⟨c, q, ?_⟩
  have h2 : decide (a.toInt64.toInt < 0) = false := by rw [c_i2l]; simpa using h
  rw [h2] at hv
  exact hv
theorem PosF.add {x y : UInt64} (hx : PosF x) (hy : PosF y) (hf : Fin64 (FP.dadd x y)) : PosF (FP.dadd x y) := by
  obtain ⟨c, q, hx⟩ := hx
  obtain ⟨d, r, hy⟩ := hy
  refine PosF.of hf ?_ (A := (sumUnits false c q false d r (min q r)).natAbs) (B := 1) (e := min q r)
  rw [val64_dadd, hx, hy]
  have hn : 0 ≤ sumUnits false c q false d r (min q r) := by
    unfold sumUnits
    simp only [signed, Bool.false_eq_true, if_false]
    omega
  have hs : sumSign false false (sumUnits false c q false d r (min q r)) = false := by
    unfold sumSign
    split
    · rfl
    · simpa using hn
  simp only [exactSum, hs]
  rfl
theorem PosF.add_ge {x y : UInt64} (hx : PosF x) (hy : PosF y) : zval b64 (Core.val64 y) ≤ zval b64 (Core.val64 (FP.dadd x y)) := by
  have h0 := hx.z
  have hx' := fin64_core.mp hx.fin
  have hy' := fin64_core.mp hy.fin
  rw [val64_dadd]
  exact sum_ge good_b64 hx' hy' (val64_fits x) (val64_fits y) (val64_fits y) (by obtain ⟨s, c, q, e⟩ := hy'; rw [e]; exact Datum.noConfusion) (by omega)
theorem PosF.div {x y : UInt64} (hx : PosF x) (hy : PosF y) (hz : zval b64 (Core.val64 y) ≠ 0) (hf : Fin64 (FP.ddiv x y)) : PosF (FP.ddiv x y) := by
  obtain ⟨c, q, hx⟩ := hx
  obtain ⟨d, r, hy⟩ := hy
  have hd : d ≠ 0 := fun e => hz (by rw [hy, e]; show signed false (0 * _) = 0; simp [signed])
  refine PosF.of hf ?_ (A := c) (B := d) (e := q - r)
  rw [val64_ddiv, hx, hy]
  simp only [quotient, if_neg hd]
  rfl
theorem own_ddiv_nn {x y : UInt64} (hx : PosF x) (hy : PosF y) (h : zval b64 (Core.val64 x) ≠ 0 ∨ zval b64 (Core.val64 y) ≠ 0) : NoNaN64 (FP.ddiv x y) := by
  obtain ⟨c, q, hx⟩ := hx
  obtain ⟨d, r, hy⟩ := hy
  refine val64_no.mpr ?_
  rw [val64_ddiv, hx, hy]
  simp only [quotient]
  split
  · rename_i hd
    split
    · rename_i hc
      exfalso
      rcases h with h | h
      · exact h (by rw [hx, hc]; show signed false (0 * _) = 0; simp [signed])
      · exact h (by rw [hy, hd]; show signed false (0 * _) = 0; simp [signed])
    · exact Datum.noConfusion
  · exact roundRatio_ne_nan _ _ _ _ _
theorem PosF.noNegZero {x : UInt64} (h : PosF x) : x ≠ dzeroNeg := fun e => by
  obtain ⟨c, q, h⟩ := h
  rw [e, val64_dzeroNeg] at h
  cases h
theorem PosF.add0 {x : UInt64} (h : PosF x) : FP.dadd x 0 = x := Core.dadd_zero (val64_no.mp h.fin.noNaN) h.noNegZero
theorem own_pos4 : PosF 4616189618054758400 := ⟨2 ^ 52, -50, by decide +kernel⟩
theorem own_big4 : Big64 1025 4616189618054758400 := by unfold Big64; decide +kernel
theorem own_nz4 : zval b64 (Core.val64 4616189618054758400) ≠ 0 := by decide +kernel
theorem own_div4_fin (a : Int32) : Mag64 1055 (FP.ddiv (FP.i2d a) 4616189618054758400) := RoadKit.ddiv_mag (K := 1056) (L := 1025) (Jvm.Free.Fl.i2d_mag a) own_big4 (by decide) (by decide)
theorem own_div4_pos {a : Int32} (h : 0 ≤ a.toInt) : PosF (FP.ddiv (FP.i2d a) 4616189618054758400) := (PosF.i2d h).div own_pos4 own_nz4 ((own_div4_fin a).fin (by decide))
/-- a quarter of a whole number other than 0 isn't 0 -/
theorem own_div4_nz {a : Int32} (h : 0 ≤ a.toInt) (hz : ¬ a = 0) : zval b64 (Core.val64 (FP.ddiv (FP.i2d a) 4616189618054758400)) ≠ 0 := by
  have hb : Big64 1023 (FP.l2d a.toInt64) := RoadKit.l2d_big fun q => hz (by rw [← Int32.toInt_inj]; rw [← c_i2l, q]; decide)
  rw [← i2d_w] at hb
  obtain ⟨c, q, hx⟩ := PosF.i2d h
  have h1 : zmag b64 (Core.val64 (FP.i2d a)) = unitsOf b64 ((FP.i2d a).toNat % 2 ^ 63) := zmag_bits (by rw [hx]; exact Datum.noConfusion)
  have h2 : unitsOf b64 (1023 * b64.tails) ≤ unitsOf b64 ((FP.i2d a).toNat % 2 ^ 63) := unitsOf_le_iff.mpr hb.1
  rw [← h1, unitsOf_start (by decide), hx] at h2
  have hq : b64.qmin ≤ q := by have := (val64_fits (FP.i2d a)); rw [hx] at this; exact this.2.1
  have e4 : Core.val64 4616189618054758400 = .fin false (2 ^ 52) (-50) := by decide +kernel
  have h3 : Core.val64 (FP.ddiv (FP.i2d a) 4616189618054758400) = roundRatio b64 false c (2 ^ 52) (q + 50) := by
    rw [val64_ddiv, hx, e4]
    show (if (2 ^ 52 : Nat) = 0 then (if c = 0 then Datum.nan else .inf (false != false)) else roundRatio b64 (false != false) c (2 ^ 52) (q - -50)) = _
    rw [if_neg (by decide), show q - -50 = q + 50 by omega]
    rfl
  have hV : Core.fits b64 (Datum.fin false 1 b64.qmin) := by unfold Core.fits; decide +kernel
  have h4 := zmag_roundRatio_ge (f := b64) good_b64 (s := false) (A := c) (B := 2 ^ 52) (e := q + 50) (e0 := b64.qmin) (V := .fin false 1 b64.qmin) (by decide) hV (Int.le_refl _) (by omega) (by
    show inUnits 1 b64.qmin b64.qmin * 2 ^ (b64.qmin - b64.qmin).toNat * 2 ^ 52 ≤ inUnits c (q + 50) b64.qmin
    have e1 : inUnits 1 b64.qmin b64.qmin * 2 ^ (b64.qmin - b64.qmin).toNat * 2 ^ 52 = 2 ^ 52 := by decide +kernel
    have e2 : inUnits c (q + 50) b64.qmin = inUnits c q b64.qmin * 2 ^ 50 := by
      unfold inUnits
      rw [show (q + 50 - b64.qmin).toNat = (q - b64.qmin).toNat + 50 by omega, Nat.pow_add, Nat.mul_assoc]
    rw [e1, e2]
    have e3 : (4 : Nat) ≤ b64.tails * 2 ^ (1023 - 1) := by decide +kernel
    have e5 : 4 ≤ inUnits c q b64.qmin := Nat.le_trans e3 h2
    have e6 := Nat.mul_le_mul_right (2 ^ 50) e5
    exact Nat.le_trans (by decide) e6)
  rw [← h3] at h4
  have h5 : zmag b64 (.fin false 1 b64.qmin) = 1 := by decide +kernel
  rw [h5] at h4
  intro h6
  have h7 := (signed_eq_zero _ _).mp (show signed _ _ = 0 from h6)
  omega
end OwnFloats

theorem own_mod3 (y : Int32) : (y &&& 2147483647) % 3 = 0 ∨ (y &&& 2147483647) % 3 = 1 ∨ (y &&& 2147483647) % 3 = 2 := by
  have h1 := (c_and y 2147483647 (by decide)).1
  have h2 := (c_irem (y &&& 2147483647) 3 3 (by decide)).1 h1
  have h3 : 0 ≤ ((y &&& 2147483647) % 3).toInt ∧ ((y &&& 2147483647) % 3).toInt < 3 := by rw [h2]; omega
  generalize (y &&& 2147483647) % 3 = k at h3
  have h4 : k.toInt = 0 ∨ k.toInt = 1 ∨ k.toInt = 2 := by omega
  rcases h4 with h | h | h
  · exact Or.inl (Int32.toInt_inj.mp h)
  · exact Or.inr (Or.inl (Int32.toInt_inj.mp h))
  · exact Or.inr (Or.inr (Int32.toInt_inj.mp h))
section OwnFl
open Jvm.FP Jvm.Free.Fl Jvm.FP.Core
theorem own_p1 : PosF 4607182418800017408 := ⟨2 ^ 52, -52, by decide +kernel⟩
theorem own_p2 : PosF 4611686018427387904 := ⟨2 ^ 52, -51, by decide +kernel⟩
theorem own_sum1 {a : Int32} (h : 0 ≤ a.toInt) : PosF (FP.dadd (FP.ddiv (FP.i2d a) 4616189618054758400) 4607182418800017408) :=
  (own_div4_pos h).add own_p1 ((Jvm.Free.Fl.dadd_mag (K := 1055) (own_div4_fin a) (by unfold Mag64; decide +kernel) (by decide)).fin (by decide))
theorem own_sum2 {a : Int32} (h : 0 ≤ a.toInt) : PosF (FP.dadd (FP.ddiv (FP.i2d a) 4616189618054758400) 4611686018427387904) :=
  (own_div4_pos h).add own_p2 ((Jvm.Free.Fl.dadd_mag (K := 1055) (own_div4_fin a) (by unfold Mag64; decide +kernel) (by decide)).fin (by decide))
theorem own_sum2_nz {a : Int32} (h : 0 ≤ a.toInt) : zval b64 (Core.val64 (FP.dadd (FP.ddiv (FP.i2d a) 4616189618054758400) 4611686018427387904)) ≠ 0 := by
  have h1 := (own_div4_pos h).add_ge own_p2
  have h2 : 0 < zval b64 (Core.val64 4611686018427387904) := by decide +kernel
  omega
theorem own_and0 (y : Int32) : 0 ≤ (y &&& 1048575).toInt := (c_and y 1048575 (by decide)).1
end OwnFl
theorem ef_ES (m : MethodId) (x0 : Addr) (x1 : UInt64) (x2 : UInt64) : entryFrame m #[(.ref x0), (.double x1), (.double x2)] 5 = mkF m 0 #[.val (.ref x0), .val (.double x1), .second, .val (.double x2), .second] [] := by first | (simp [entryFrame, mkF, argsToLocals, Value.category]; done) | rfl
def QES (Z : State) (a : Addr) (y1 : UInt64) (y2 : UInt64) (d1 : UInt64) (d2 : UInt64) (h0 : Heap) (n0 : Nat) (v : Option Value) (h : Heap) (L : List Loc) : Prop := v = some (.double (FP.ddiv (FP.dadd y1 d1) (FP.dadd y2 d2))) ∧ Fr n0 L ∧ h = h0
set_option maxRecDepth 65536 in
set_option maxHeartbeats 40000000 in
theorem rmES (l : Launch) (Z : State) (a0 : Array Value) (hw : ∀ d ∈ tables_1, d.before a0 Z = true) (ws : List Jvm.Cond) (a : Addr) (y1 : UInt64) (y2 : UInt64) (d1 : UInt64) (d2 : UInt64) (h0 : Heap) (n0 : Nat) (O0 : Old Z n0 h0) (FA : Fld Z h0 a "com/example/retrace/retrace/clickmodel/Prior" "pseudoSuccesses" "D" (.double d1)) (FB : Fld Z h0 a "com/example/retrace/retrace/clickmodel/Prior" "pseudoTrials" "D" (.double d2)) (hn1 : Jvm.Free.Fl.NoNaN64 (FP.dadd y1 d1)) (hn2 : Jvm.Free.Fl.NoNaN64 (FP.dadd y2 d2)) (hn3 : Jvm.Free.Fl.NoNaN64 (FP.ddiv (FP.dadd y1 d1) (FP.dadd y2 d2))) :
    MetFree l (⟨"com/example/retrace/retrace/clickmodel/Prior", "estimate", "(DD)D"⟩ : MethodName) (head1 (Jvm.Cond.code (⟨"com/example/retrace/retrace/clickmodel/Prior", "estimate", "(DD)D"⟩ : MethodName) prog_51_method_5_code 5 (some .double) :: ws) ({ frames := 0, cells := 0, slots := 0, locals := 0 } : Room)) (fun aa_ UU_ => aa_ = #[(.ref a), (.double y1), (.double y2)] ∧ Z.Warmed39 UU_.vm ∧ UU_.heap = h0) (fun _ _ _ _ _ => True) (fun _ UU_ oo_ UV_ => ∃ vv_ LL_, oo_ = .returned vv_ ∧ QES Z a y1 y2 d1 d2 h0 n0 vv_ UV_.heap LL_ ∧ FrameEnd UU_ oo_ UV_ LL_ ({ frames := 0, cells := 0, slots := 0, locals := 0 } : Room).cells ({ frames := 0, cells := 0, slots := 0, locals := 0 } : Room).slots) := by
  refine MetFree.of_bodySF (plainFor_of_name pn_0) hisR ?_
  intro p e s m args below meth c s₁ Bd hml0 hP hK
  obtain ⟨rfl, hZ, hh⟩ := hP
  have hx := Bd.exec
  have hby := Bd.bytes
  have hlk := BodyLoose.notSynchronized Bd
  have hml : c.maxLocals = 5 := hml0
  have hown : s.vm.findClass "com/example/retrace/retrace/clickmodel/Prior" = some m.cls := findClass_of_methodNamed Bd.named
  have hnm := (name_of_methodNamed Bd.named Bd.method).1
  have X0 : Stand p l e ({ frames := 0, cells := 0, slots := 0, locals := 0 } : Room) s m #[(.ref a), (.double y1), (.double y2)] below meth c s₁ [] 0 0 := Stand.of_body Bd
  have e0 : s₁.heap = h0 := by rw [← hh, Bd.state]; rfl
  have N0 := Fr.nil n0
  suffices hOW : OW p e below s (QES Z a y1 y2 d1 d2 h0 n0) 0 0 (s₁.setTop (mkF m 0 #[.val (.ref a), .val (.double y1), .second, .val (.double y2), .second] [])) by
    obtain ⟨oq1_, oq2_, oq3_, oq4_⟩ := hOW
    exact ⟨oq1_, oq2_, castTop (ef_ES m a y1 y2) oq3_, oq4_⟩
  refine OW.st (B := s₁.setTop (mkF m 1 #[.val (.ref a), .val (.double y1), .second, .val (.double y2), .second] [(.double y1)])) (fun _ kk_ => XS.dloadN X0.here hx rfl (hb hby d1_0) rfl kk_) ?_
  refine OW.st (B := s₁.setTop (mkF m 2 #[.val (.ref a), .val (.double y1), .second, .val (.double y2), .second] [(.ref a), (.double y1)])) (fun _ kk_ => XS.aloadN X0.here hx rfl (hb hby d1_1) rfl rfl kk_) ?_
  obtain ⟨T17, X17, e17, st17⟩ := getF X0 hx hZ hown (host := "") (Or.inl (w_12 hw)) Via.refl e0 FA (g := (mkF m 2 #[.val (.ref a), .val (.double y1), .second, .val (.double y2), .second] [(.ref a), (.double y1)])) rfl rfl (hb hby d1_2)
  refine OW.st (B := T17.setTop (mkF m 5 #[.val (.ref a), .val (.double y1), .second, .val (.double y2), .second] [(.double d1), (.double y1)])) (st17) ?_
  refine OW.st (B := T17.setTop (mkF m 6 #[.val (.ref a), .val (.double y1), .second, .val (.double y2), .second] [(.double (FP.dadd y1 d1))])) (fun _ kk_ => XS.daddS X17.here hx rfl (hb hby d1_5) rfl hn1 rfl kk_) ?_
  refine OW.st (B := T17.setTop (mkF m 7 #[.val (.ref a), .val (.double y1), .second, .val (.double y2), .second] [(.double y2), (.double (FP.dadd y1 d1))])) (fun _ kk_ => XS.dloadN X17.here hx rfl (hb hby d1_6) rfl kk_) ?_
  refine OW.st (B := T17.setTop (mkF m 8 #[.val (.ref a), .val (.double y1), .second, .val (.double y2), .second] [(.ref a), (.double y2), (.double (FP.dadd y1 d1))])) (fun _ kk_ => XS.aloadN X17.here hx rfl (hb hby d1_7) rfl rfl kk_) ?_
  obtain ⟨T18, X18, e18, st18⟩ := getF X17 hx hZ hown (host := "") (Or.inl (w_14 hw)) Via.refl e17 FB (g := (mkF m 8 #[.val (.ref a), .val (.double y1), .second, .val (.double y2), .second] [(.ref a), (.double y2), (.double (FP.dadd y1 d1))])) rfl rfl (hb hby d1_8)
  refine OW.st (B := T18.setTop (mkF m 11 #[.val (.ref a), .val (.double y1), .second, .val (.double y2), .second] [(.double d2), (.double y2), (.double (FP.dadd y1 d1))])) (st18) ?_
  refine OW.st (B := T18.setTop (mkF m 12 #[.val (.ref a), .val (.double y1), .second, .val (.double y2), .second] [(.double (FP.dadd y2 d2)), (.double (FP.dadd y1 d1))])) (fun _ kk_ => XS.daddS X18.here hx rfl (hb hby d1_11) rfl hn2 rfl kk_) ?_
  refine OW.st (B := T18.setTop (mkF m 13 #[.val (.ref a), .val (.double y1), .second, .val (.double y2), .second] [(.double (FP.ddiv (FP.dadd y1 d1) (FP.dadd y2 d2)))])) (fun _ kk_ => XS.ddivS X18.here hx rfl (hb hby d1_12) rfl hn3 rfl kk_) ?_
  exact OW.ret X18 hx hlk (i := .dreturn) Bd.returns rfl (Or.inr (Or.inr (Or.inl ⟨rfl, rfl, _, rfl⟩))) (hb hby d1_13) e18 (by decide) (by decide) ⟨rfl, N0, rfl⟩
theorem ef_0 (m : MethodId) (x0 : Int32) (x1 : Int32) (x2 : Int32) : entryFrame m #[(.int x0), (.int x1), (.int x2)] maxLocals = mkF m 0 #[.val (.int x0), .val (.int x1), .val (.int x2), .unset, .unset, .unset, .unset, .unset, .unset, .unset, .unset, .unset, .unset] [] := by first | (simp [entryFrame, mkF, argsToLocals, Value.category, maxLocals]; done) | rfl
def Q0 (Z : State) (n1 : Int32) (n2 : Int32) (n3 : Int32) (a_UNIFORM : Addr) (a_POOLED : Addr) (a_NONE : Addr) (h0 : Heap) (n0 : Nat) (v : Option Value) (h : Heap) (L : List Loc) : Prop := v = some (.int 1) ∧ Fr n0 L
set_option maxRecDepth 65536 in
set_option maxHeartbeats 40000000 in
theorem rm0 (l : Launch) (Z : State) (a0 : Array Value) (hw : ∀ d ∈ tables_1, d.before a0 Z = true) (ws : List Jvm.Cond) (n1 : Int32) (n2 : Int32) (n3 : Int32) (a_UNIFORM : Addr) (a_POOLED : Addr) (a_NONE : Addr) (h0 : Heap) (n0 : Nat) (O0 : Old Z n0 h0) (hS : OwnS Z a_UNIFORM a_POOLED a_NONE) :
    MetFree l x (head1 (Jvm.Cond.code x code maxLocals ret :: ws) room_1) (fun aa_ UU_ => aa_ = #[(.int n1), (.int n2), (.int n3)] ∧ Z.Warmed39 UU_.vm ∧ UU_.heap = h0) (fun _ _ _ _ _ => True) (fun _ UU_ oo_ UV_ => ∃ vv_ LL_, oo_ = .returned vv_ ∧ Q0 Z n1 n2 n3 a_UNIFORM a_POOLED a_NONE h0 n0 vv_ UV_.heap LL_ ∧ FrameEnd UU_ oo_ UV_ LL_ 0 0) := by
  refine MetFree.of_bodySF (plainFor_of_name pn_1) hisR ?_
  intro p e s m args below meth c s₁ Bd hml0 hP hK
  obtain ⟨rfl, hZ, hh⟩ := hP
  have hx := Bd.exec
  have hby := Bd.bytes
  have hlk := BodyLoose.notSynchronized Bd
  have hml : c.maxLocals = 13 := hml0
  have hown : s.vm.findClass "com/example/retrace/retrace/clickmodel/PriorEstimatePinLaw" = some m.cls := findClass_of_methodNamed Bd.named
  have hnm := (name_of_methodNamed Bd.named Bd.method).1
  have X0 : Stand p l e room_1 s m #[(.int n1), (.int n2), (.int n3)] below meth c s₁ [] 0 0 := Stand.of_body Bd
  have e0 : s₁.heap = h0 := by rw [← hh, Bd.state]; rfl
  have N0 := Fr.nil n0
  suffices hOW : OW p e below s (Q0 Z n1 n2 n3 a_UNIFORM a_POOLED a_NONE h0 n0) 0 0 (s₁.setTop (mkF m 0 #[.val (.int n1), .val (.int n2), .val (.int n3), .unset, .unset, .unset, .unset, .unset, .unset, .unset, .unset, .unset, .unset] [])) by
    obtain ⟨oq1_, oq2_, oq3_, oq4_⟩ := hOW
    exact ⟨oq1_, oq2_, castTop (ef_0 m n1 n2 n3) oq3_, oq4_⟩
  have hS' := hS
  obtain ⟨Sa_UNIFORM, Ea_UNIFORM, Sa_POOLED, Ea_POOLED, Sa_NONE, Ea_NONE, Fa_UNIFORM_pseudoSuccesses, Fa_UNIFORM_pseudoTrials, Fa_POOLED_pseudoSuccesses, Fa_POOLED_pseudoTrials, Fa_NONE_pseudoSuccesses, Fa_NONE_pseudoTrials⟩ := hS'
  refine OW.st (B := s₁.setTop (mkF m 1 #[.val (.int n1), .val (.int n2), .val (.int n3), .unset, .unset, .unset, .unset, .unset, .unset, .unset, .unset, .unset, .unset] [(.int n1)])) (fun _ kk_ => XS.iloadN X0.here hx rfl (hb hby at_0) rfl kk_) ?_
  refine OW.st (B := s₁.setTop (mkF m 3 #[.val (.int n1), .val (.int n2), .val (.int n3), .unset, .unset, .unset, .unset, .unset, .unset, .unset, .unset, .unset, .unset] [(.int (2147483647 : Int32)), (.int n1)])) (X0.ldcInt hx hown (mvT hZ (w_0 hw)) (g := (mkF m 1 #[.val (.int n1), .val (.int n2), .val (.int n3), .unset, .unset, .unset, .unset, .unset, .unset, .unset, .unset, .unset, .unset] [(.int n1)])) rfl (hb hby at_1)) ?_
  refine OW.st (B := s₁.setTop (mkF m 4 #[.val (.int n1), .val (.int n2), .val (.int n3), .unset, .unset, .unset, .unset, .unset, .unset, .unset, .unset, .unset, .unset] [(.int (n1 &&& (2147483647 : Int32)))])) (fun _ kk_ => XS.iand X0.here hx rfl (hb hby at_3) rfl kk_) ?_
  refine OW.st (B := s₁.setTop (mkF m 5 #[.val (.int n1), .val (.int n2), .val (.int n3), .unset, .unset, .unset, .unset, .unset, .unset, .unset, .unset, .unset, .unset] [(.int (3 : Int32)), (.int (n1 &&& (2147483647 : Int32)))])) (fun _ kk_ => XS.iconst X0.here hx rfl (hb hby at_4) kk_) ?_
  refine OW.st (B := s₁.setTop (mkF m 6 #[.val (.int n1), .val (.int n2), .val (.int n3), .unset, .unset, .unset, .unset, .unset, .unset, .unset, .unset, .unset, .unset] [(.int ((n1 &&& (2147483647 : Int32)) % (3 : Int32)))])) (fun _ kk_ => iremM X0 hx rfl (hb hby at_5) rfl (by decide) kk_) ?_
  suffices J : ∀ k : Int32, (k = 0 ∨ k = 1 ∨ k = 2) → OW p e below s (Q0 Z n1 n2 n3 a_UNIFORM a_POOLED a_NONE h0 n0) 0 0 (s₁.setTop (mkF m 6 #[.val (.int n1), .val (.int n2), .val (.int n3), .unset, .unset, .unset, .unset, .unset, .unset, .unset, .unset, .unset, .unset] [(.int k)])) from J _ (own_mod3 n1)
  intro k hk
  refine OW.st (B := s₁.setTop (mkF m 7 #[.val (.int n1), .val (.int n2), .val (.int n3), .val (.int k), .unset, .unset, .unset, .unset, .unset, .unset, .unset, .unset, .unset] [])) (fun _ kk_ => XS.istoreN X0.here hx rfl (hb hby at_6) rfl (l' := #[.val (.int n1), .val (.int n2), .val (.int n3), .val (.int k), .unset, .unset, .unset, .unset, .unset, .unset, .unset, .unset, .unset]) rfl kk_) ?_
  refine OW.st (B := s₁.setTop (mkF m 8 #[.val (.int n1), .val (.int n2), .val (.int n3), .val (.int k), .unset, .unset, .unset, .unset, .unset, .unset, .unset, .unset, .unset] [(.int n2)])) (fun _ kk_ => XS.iloadN X0.here hx rfl (hb hby at_7) rfl kk_) ?_
  refine OW.st (B := s₁.setTop (mkF m 10 #[.val (.int n1), .val (.int n2), .val (.int n3), .val (.int k), .unset, .unset, .unset, .unset, .unset, .unset, .unset, .unset, .unset] [(.int (1048575 : Int32)), (.int n2)])) (X0.ldcInt hx hown (mvT hZ (w_1 hw)) (g := (mkF m 8 #[.val (.int n1), .val (.int n2), .val (.int n3), .val (.int k), .unset, .unset, .unset, .unset, .unset, .unset, .unset, .unset, .unset] [(.int n2)])) rfl (hb hby at_8)) ?_
  refine OW.st (B := s₁.setTop (mkF m 11 #[.val (.int n1), .val (.int n2), .val (.int n3), .val (.int k), .unset, .unset, .unset, .unset, .unset, .unset, .unset, .unset, .unset] [(.int (n2 &&& (1048575 : Int32)))])) (fun _ kk_ => XS.iand X0.here hx rfl (hb hby at_10) rfl kk_) ?_
  suffices J : ∀ si : Int32, (0 ≤ si.toInt) → OW p e below s (Q0 Z n1 n2 n3 a_UNIFORM a_POOLED a_NONE h0 n0) 0 0 (s₁.setTop (mkF m 11 #[.val (.int n1), .val (.int n2), .val (.int n3), .val (.int k), .unset, .unset, .unset, .unset, .unset, .unset, .unset, .unset, .unset] [(.int si)])) from J _ (own_and0 n2)
  intro si hsi
  refine OW.st (B := s₁.setTop (mkF m 13 #[.val (.int n1), .val (.int n2), .val (.int n3), .val (.int k), .val (.int si), .unset, .unset, .unset, .unset, .unset, .unset, .unset, .unset] [])) (fun _ kk_ => XS.istore X0.here hx rfl (hb hby at_11) rfl (l' := #[.val (.int n1), .val (.int n2), .val (.int n3), .val (.int k), .val (.int si), .unset, .unset, .unset, .unset, .unset, .unset, .unset, .unset]) rfl kk_) ?_
  refine OW.st (B := s₁.setTop (mkF m 14 #[.val (.int n1), .val (.int n2), .val (.int n3), .val (.int k), .val (.int si), .unset, .unset, .unset, .unset, .unset, .unset, .unset, .unset] [(.int n3)])) (fun _ kk_ => XS.iloadN X0.here hx rfl (hb hby at_13) rfl kk_) ?_
  refine OW.st (B := s₁.setTop (mkF m 16 #[.val (.int n1), .val (.int n2), .val (.int n3), .val (.int k), .val (.int si), .unset, .unset, .unset, .unset, .unset, .unset, .unset, .unset] [(.int (1048575 : Int32)), (.int n3)])) (X0.ldcInt hx hown (mvT hZ (w_1 hw)) (g := (mkF m 14 #[.val (.int n1), .val (.int n2), .val (.int n3), .val (.int k), .val (.int si), .unset, .unset, .unset, .unset, .unset, .unset, .unset, .unset] [(.int n3)])) rfl (hb hby at_14)) ?_
  refine OW.st (B := s₁.setTop (mkF m 17 #[.val (.int n1), .val (.int n2), .val (.int n3), .val (.int k), .val (.int si), .unset, .unset, .unset, .unset, .unset, .unset, .unset, .unset] [(.int (n3 &&& (1048575 : Int32)))])) (fun _ kk_ => XS.iand X0.here hx rfl (hb hby at_16) rfl kk_) ?_
  suffices J : ∀ ti : Int32, (0 ≤ ti.toInt) → OW p e below s (Q0 Z n1 n2 n3 a_UNIFORM a_POOLED a_NONE h0 n0) 0 0 (s₁.setTop (mkF m 17 #[.val (.int n1), .val (.int n2), .val (.int n3), .val (.int k), .val (.int si), .unset, .unset, .unset, .unset, .unset, .unset, .unset, .unset] [(.int ti)])) from J _ (own_and0 n3)
  intro ti hti
  refine OW.st (B := s₁.setTop (mkF m 19 #[.val (.int n1), .val (.int n2), .val (.int n3), .val (.int k), .val (.int si), .val (.int ti), .unset, .unset, .unset, .unset, .unset, .unset, .unset] [])) (fun _ kk_ => XS.istore X0.here hx rfl (hb hby at_17) rfl (l' := #[.val (.int n1), .val (.int n2), .val (.int n3), .val (.int k), .val (.int si), .val (.int ti), .unset, .unset, .unset, .unset, .unset, .unset, .unset]) rfl kk_) ?_
  refine OW.st (B := s₁.setTop (mkF m 21 #[.val (.int n1), .val (.int n2), .val (.int n3), .val (.int k), .val (.int si), .val (.int ti), .unset, .unset, .unset, .unset, .unset, .unset, .unset] [(.int si)])) (fun _ kk_ => XS.iload X0.here hx rfl (hb hby at_19) rfl kk_) ?_
  refine OW.st (B := s₁.setTop (mkF m 22 #[.val (.int n1), .val (.int n2), .val (.int n3), .val (.int k), .val (.int si), .val (.int ti), .unset, .unset, .unset, .unset, .unset, .unset, .unset] [(.double (FP.i2d si))])) (fun _ kk_ => XS.i2dS X0.here hx rfl (hb hby at_21) rfl rfl kk_) ?_
  refine OW.st (B := s₁.setTop (mkF m 25 #[.val (.int n1), .val (.int n2), .val (.int n3), .val (.int k), .val (.int si), .val (.int ti), .unset, .unset, .unset, .unset, .unset, .unset, .unset] [(.double (4616189618054758400 : UInt64)), (.double (FP.i2d si))])) (X0.ldc2DoubleC hx hown (mvT hZ (w_2 hw)) (g := (mkF m 22 #[.val (.int n1), .val (.int n2), .val (.int n3), .val (.int k), .val (.int si), .val (.int ti), .unset, .unset, .unset, .unset, .unset, .unset, .unset] [(.double (FP.i2d si))])) rfl (hb hby at_22)) ?_
  refine OW.st (B := s₁.setTop (mkF m 26 #[.val (.int n1), .val (.int n2), .val (.int n3), .val (.int k), .val (.int si), .val (.int ti), .unset, .unset, .unset, .unset, .unset, .unset, .unset] [(.double (FP.ddiv (FP.i2d si) (4616189618054758400 : UInt64)))])) (fun _ kk_ => XS.ddivS X0.here hx rfl (hb hby at_25) rfl (own_div4_pos hsi).fin.noNaN rfl kk_) ?_
  refine OW.st (B := s₁.setTop (mkF m 28 #[.val (.int n1), .val (.int n2), .val (.int n3), .val (.int k), .val (.int si), .val (.int ti), .val (.double (FP.ddiv (FP.i2d si) (4616189618054758400 : UInt64))), .second, .unset, .unset, .unset, .unset, .unset] [])) (fun _ kk_ => XS.dstore X0.here hx rfl (hb hby at_26) rfl (l' := #[.val (.int n1), .val (.int n2), .val (.int n3), .val (.int k), .val (.int si), .val (.int ti), .val (.double (FP.ddiv (FP.i2d si) (4616189618054758400 : UInt64))), .second, .unset, .unset, .unset, .unset, .unset]) rfl kk_) ?_
  refine OW.st (B := s₁.setTop (mkF m 30 #[.val (.int n1), .val (.int n2), .val (.int n3), .val (.int k), .val (.int si), .val (.int ti), .val (.double (FP.ddiv (FP.i2d si) (4616189618054758400 : UInt64))), .second, .unset, .unset, .unset, .unset, .unset] [(.int ti)])) (fun _ kk_ => XS.iload X0.here hx rfl (hb hby at_28) rfl kk_) ?_
  refine OW.st (B := s₁.setTop (mkF m 31 #[.val (.int n1), .val (.int n2), .val (.int n3), .val (.int k), .val (.int si), .val (.int ti), .val (.double (FP.ddiv (FP.i2d si) (4616189618054758400 : UInt64))), .second, .unset, .unset, .unset, .unset, .unset] [(.double (FP.i2d ti))])) (fun _ kk_ => XS.i2dS X0.here hx rfl (hb hby at_30) rfl rfl kk_) ?_
  refine OW.st (B := s₁.setTop (mkF m 34 #[.val (.int n1), .val (.int n2), .val (.int n3), .val (.int k), .val (.int si), .val (.int ti), .val (.double (FP.ddiv (FP.i2d si) (4616189618054758400 : UInt64))), .second, .unset, .unset, .unset, .unset, .unset] [(.double (4616189618054758400 : UInt64)), (.double (FP.i2d ti))])) (X0.ldc2DoubleC hx hown (mvT hZ (w_2 hw)) (g := (mkF m 31 #[.val (.int n1), .val (.int n2), .val (.int n3), .val (.int k), .val (.int si), .val (.int ti), .val (.double (FP.ddiv (FP.i2d si) (4616189618054758400 : UInt64))), .second, .unset, .unset, .unset, .unset, .unset] [(.double (FP.i2d ti))])) rfl (hb hby at_31)) ?_
  refine OW.st (B := s₁.setTop (mkF m 35 #[.val (.int n1), .val (.int n2), .val (.int n3), .val (.int k), .val (.int si), .val (.int ti), .val (.double (FP.ddiv (FP.i2d si) (4616189618054758400 : UInt64))), .second, .unset, .unset, .unset, .unset, .unset] [(.double (FP.ddiv (FP.i2d ti) (4616189618054758400 : UInt64)))])) (fun _ kk_ => XS.ddivS X0.here hx rfl (hb hby at_34) rfl (own_div4_pos hti).fin.noNaN rfl kk_) ?_
  refine OW.st (B := s₁.setTop (mkF m 37 #[.val (.int n1), .val (.int n2), .val (.int n3), .val (.int k), .val (.int si), .val (.int ti), .val (.double (FP.ddiv (FP.i2d si) (4616189618054758400 : UInt64))), .second, .val (.double (FP.ddiv (FP.i2d ti) (4616189618054758400 : UInt64))), .second, .unset, .unset, .unset] [])) (fun _ kk_ => XS.dstore X0.here hx rfl (hb hby at_35) rfl (l' := #[.val (.int n1), .val (.int n2), .val (.int n3), .val (.int k), .val (.int si), .val (.int ti), .val (.double (FP.ddiv (FP.i2d si) (4616189618054758400 : UInt64))), .second, .val (.double (FP.ddiv (FP.i2d ti) (4616189618054758400 : UInt64))), .second, .unset, .unset, .unset]) rfl kk_) ?_
  refine OW.st (B := s₁.setTop (mkF m 38 #[.val (.int n1), .val (.int n2), .val (.int n3), .val (.int k), .val (.int si), .val (.int ti), .val (.double (FP.ddiv (FP.i2d si) (4616189618054758400 : UInt64))), .second, .val (.double (FP.ddiv (FP.i2d ti) (4616189618054758400 : UInt64))), .second, .unset, .unset, .unset] [(.int k)])) (fun _ kk_ => XS.iloadN X0.here hx rfl (hb hby at_37) rfl kk_) ?_
  rcases hk with rfl | rfl | rfl
  · refine OW.st (B := s₁.setTop (mkF m 41 #[.val (.int n1), .val (.int n2), .val (.int n3), .val (.int (0 : Int32)), .val (.int si), .val (.int ti), .val (.double (FP.ddiv (FP.i2d si) (4616189618054758400 : UInt64))), .second, .val (.double (FP.ddiv (FP.i2d ti) (4616189618054758400 : UInt64))), .second, .unset, .unset, .unset] [])) (fun _ kk_ => XS.ifNo X0.here hx rfl (hb hby at_38) rfl ((if0 _ _).trans (teq (by decide)).2) kk_) ?_
    obtain ⟨T19, X19, e19, st19⟩ := getS2 X0 hx hZ hown (host := "") (Or.inl (w_3 hw)) Via.refl e0 (Sa_UNIFORM.ext O0.2) (g := (mkF m 41 #[.val (.int n1), .val (.int n2), .val (.int n3), .val (.int (0 : Int32)), .val (.int si), .val (.int ti), .val (.double (FP.ddiv (FP.i2d si) (4616189618054758400 : UInt64))), .second, .val (.double (FP.ddiv (FP.i2d ti) (4616189618054758400 : UInt64))), .second, .unset, .unset, .unset] [])) rfl (hb hby at_41)
    refine OW.st (B := T19.setTop (mkF m 44 #[.val (.int n1), .val (.int n2), .val (.int n3), .val (.int (0 : Int32)), .val (.int si), .val (.int ti), .val (.double (FP.ddiv (FP.i2d si) (4616189618054758400 : UInt64))), .second, .val (.double (FP.ddiv (FP.i2d ti) (4616189618054758400 : UInt64))), .second, .unset, .unset, .unset] [(.ref a_UNIFORM)])) (st19) ?_
    refine OW.st (B := T19.setTop (mkF m 46 #[.val (.int n1), .val (.int n2), .val (.int n3), .val (.int (0 : Int32)), .val (.int si), .val (.int ti), .val (.double (FP.ddiv (FP.i2d si) (4616189618054758400 : UInt64))), .second, .val (.double (FP.ddiv (FP.i2d ti) (4616189618054758400 : UInt64))), .second, .val (.ref a_UNIFORM), .unset, .unset] [])) (fun _ kk_ => XS.astore X19.here hx rfl (hb hby at_44) rfl rfl (l' := #[.val (.int n1), .val (.int n2), .val (.int n3), .val (.int (0 : Int32)), .val (.int si), .val (.int ti), .val (.double (FP.ddiv (FP.i2d si) (4616189618054758400 : UInt64))), .second, .val (.double (FP.ddiv (FP.i2d ti) (4616189618054758400 : UInt64))), .second, .val (.ref a_UNIFORM), .unset, .unset]) rfl kk_) ?_
    refine OW.st (B := T19.setTop (mkF m 48 #[.val (.int n1), .val (.int n2), .val (.int n3), .val (.int (0 : Int32)), .val (.int si), .val (.int ti), .val (.double (FP.ddiv (FP.i2d si) (4616189618054758400 : UInt64))), .second, .val (.double (FP.ddiv (FP.i2d ti) (4616189618054758400 : UInt64))), .second, .val (.ref a_UNIFORM), .unset, .unset] [(.double (FP.ddiv (FP.i2d si) (4616189618054758400 : UInt64)))])) (fun _ kk_ => XS.dload X19.here hx rfl (hb hby at_46) rfl kk_) ?_
    refine OW.st (B := T19.setTop (mkF m 49 #[.val (.int n1), .val (.int n2), .val (.int n3), .val (.int (0 : Int32)), .val (.int si), .val (.int ti), .val (.double (FP.ddiv (FP.i2d si) (4616189618054758400 : UInt64))), .second, .val (.double (FP.ddiv (FP.i2d ti) (4616189618054758400 : UInt64))), .second, .val (.ref a_UNIFORM), .unset, .unset] [(.double (4607182418800017408 : UInt64)), (.double (FP.ddiv (FP.i2d si) (4616189618054758400 : UInt64)))])) (fun _ kk_ => XS.dconst1 X19.here hx rfl (hb hby at_48) rfl kk_) ?_
    refine OW.st (B := T19.setTop (mkF m 50 #[.val (.int n1), .val (.int n2), .val (.int n3), .val (.int (0 : Int32)), .val (.int si), .val (.int ti), .val (.double (FP.ddiv (FP.i2d si) (4616189618054758400 : UInt64))), .second, .val (.double (FP.ddiv (FP.i2d ti) (4616189618054758400 : UInt64))), .second, .val (.ref a_UNIFORM), .unset, .unset] [(.double (FP.dadd (FP.ddiv (FP.i2d si) (4616189618054758400 : UInt64)) (4607182418800017408 : UInt64)))])) (fun _ kk_ => XS.daddS X19.here hx rfl (hb hby at_49) rfl (own_sum1 hsi).fin.noNaN rfl kk_) ?_
    refine OW.st (B := T19.setTop (mkF m 52 #[.val (.int n1), .val (.int n2), .val (.int n3), .val (.int (0 : Int32)), .val (.int si), .val (.int ti), .val (.double (FP.ddiv (FP.i2d si) (4616189618054758400 : UInt64))), .second, .val (.double (FP.ddiv (FP.i2d ti) (4616189618054758400 : UInt64))), .second, .val (.ref a_UNIFORM), .unset, .unset] [(.double (FP.ddiv (FP.i2d ti) (4616189618054758400 : UInt64))), (.double (FP.dadd (FP.ddiv (FP.i2d si) (4616189618054758400 : UInt64)) (4607182418800017408 : UInt64)))])) (fun _ kk_ => XS.dload X19.here hx rfl (hb hby at_50) rfl kk_) ?_
    refine OW.st (B := T19.setTop (mkF m 55 #[.val (.int n1), .val (.int n2), .val (.int n3), .val (.int (0 : Int32)), .val (.int si), .val (.int ti), .val (.double (FP.ddiv (FP.i2d si) (4616189618054758400 : UInt64))), .second, .val (.double (FP.ddiv (FP.i2d ti) (4616189618054758400 : UInt64))), .second, .val (.ref a_UNIFORM), .unset, .unset] [(.double (4611686018427387904 : UInt64)), (.double (FP.ddiv (FP.i2d ti) (4616189618054758400 : UInt64))), (.double (FP.dadd (FP.ddiv (FP.i2d si) (4616189618054758400 : UInt64)) (4607182418800017408 : UInt64)))])) (X19.ldc2DoubleC hx hown (mvT hZ (w_6 hw)) (g := (mkF m 52 #[.val (.int n1), .val (.int n2), .val (.int n3), .val (.int (0 : Int32)), .val (.int si), .val (.int ti), .val (.double (FP.ddiv (FP.i2d si) (4616189618054758400 : UInt64))), .second, .val (.double (FP.ddiv (FP.i2d ti) (4616189618054758400 : UInt64))), .second, .val (.ref a_UNIFORM), .unset, .unset] [(.double (FP.ddiv (FP.i2d ti) (4616189618054758400 : UInt64))), (.double (FP.dadd (FP.ddiv (FP.i2d si) (4616189618054758400 : UInt64)) (4607182418800017408 : UInt64)))])) rfl (hb hby at_52)) ?_
    refine OW.st (B := T19.setTop (mkF m 56 #[.val (.int n1), .val (.int n2), .val (.int n3), .val (.int (0 : Int32)), .val (.int si), .val (.int ti), .val (.double (FP.ddiv (FP.i2d si) (4616189618054758400 : UInt64))), .second, .val (.double (FP.ddiv (FP.i2d ti) (4616189618054758400 : UInt64))), .second, .val (.ref a_UNIFORM), .unset, .unset] [(.double (FP.dadd (FP.ddiv (FP.i2d ti) (4616189618054758400 : UInt64)) (4611686018427387904 : UInt64))), (.double (FP.dadd (FP.ddiv (FP.i2d si) (4616189618054758400 : UInt64)) (4607182418800017408 : UInt64)))])) (fun _ kk_ => XS.daddS X19.here hx rfl (hb hby at_55) rfl (own_sum2 hti).fin.noNaN rfl kk_) ?_
    refine OW.st (B := T19.setTop (mkF m 57 #[.val (.int n1), .val (.int n2), .val (.int n3), .val (.int (0 : Int32)), .val (.int si), .val (.int ti), .val (.double (FP.ddiv (FP.i2d si) (4616189618054758400 : UInt64))), .second, .val (.double (FP.ddiv (FP.i2d ti) (4616189618054758400 : UInt64))), .second, .val (.ref a_UNIFORM), .unset, .unset] [(.double (FP.ddiv (FP.dadd (FP.ddiv (FP.i2d si) (4616189618054758400 : UInt64)) (4607182418800017408 : UInt64)) (FP.dadd (FP.ddiv (FP.i2d ti) (4616189618054758400 : UInt64)) (4611686018427387904 : UInt64))))])) (fun _ kk_ => XS.ddivS X19.here hx rfl (hb hby at_56) rfl (own_ddiv_nn (own_sum1 hsi) (own_sum2 hti) (Or.inr (own_sum2_nz hti))) rfl kk_) ?_
    refine OW.st (B := T19.setTop (mkF m 59 #[.val (.int n1), .val (.int n2), .val (.int n3), .val (.int (0 : Int32)), .val (.int si), .val (.int ti), .val (.double (FP.ddiv (FP.i2d si) (4616189618054758400 : UInt64))), .second, .val (.double (FP.ddiv (FP.i2d ti) (4616189618054758400 : UInt64))), .second, .val (.ref a_UNIFORM), .val (.double (FP.ddiv (FP.dadd (FP.ddiv (FP.i2d si) (4616189618054758400 : UInt64)) (4607182418800017408 : UInt64)) (FP.dadd (FP.ddiv (FP.i2d ti) (4616189618054758400 : UInt64)) (4611686018427387904 : UInt64)))), .second] [])) (fun _ kk_ => XS.dstore X19.here hx rfl (hb hby at_57) rfl (l' := #[.val (.int n1), .val (.int n2), .val (.int n3), .val (.int (0 : Int32)), .val (.int si), .val (.int ti), .val (.double (FP.ddiv (FP.i2d si) (4616189618054758400 : UInt64))), .second, .val (.double (FP.ddiv (FP.i2d ti) (4616189618054758400 : UInt64))), .second, .val (.ref a_UNIFORM), .val (.double (FP.ddiv (FP.dadd (FP.ddiv (FP.i2d si) (4616189618054758400 : UInt64)) (4607182418800017408 : UInt64)) (FP.dadd (FP.ddiv (FP.i2d ti) (4616189618054758400 : UInt64)) (4611686018427387904 : UInt64)))), .second]) rfl kk_) ?_
    refine OW.st (B := T19.setTop (mkF m 112 #[.val (.int n1), .val (.int n2), .val (.int n3), .val (.int (0 : Int32)), .val (.int si), .val (.int ti), .val (.double (FP.ddiv (FP.i2d si) (4616189618054758400 : UInt64))), .second, .val (.double (FP.ddiv (FP.i2d ti) (4616189618054758400 : UInt64))), .second, .val (.ref a_UNIFORM), .val (.double (FP.ddiv (FP.dadd (FP.ddiv (FP.i2d si) (4616189618054758400 : UInt64)) (4607182418800017408 : UInt64)) (FP.dadd (FP.ddiv (FP.i2d ti) (4616189618054758400 : UInt64)) (4611686018427387904 : UInt64)))), .second] [])) (fun _ kk_ => XS.goto X19.here hx rfl (pc0 := 59) (pc' := 112) rfl (hb hby at_59) (by decide) (by decide) kk_) ?_
    refine OW.st (B := T19.setTop (mkF m 114 #[.val (.int n1), .val (.int n2), .val (.int n3), .val (.int (0 : Int32)), .val (.int si), .val (.int ti), .val (.double (FP.ddiv (FP.i2d si) (4616189618054758400 : UInt64))), .second, .val (.double (FP.ddiv (FP.i2d ti) (4616189618054758400 : UInt64))), .second, .val (.ref a_UNIFORM), .val (.double (FP.ddiv (FP.dadd (FP.ddiv (FP.i2d si) (4616189618054758400 : UInt64)) (4607182418800017408 : UInt64)) (FP.dadd (FP.ddiv (FP.i2d ti) (4616189618054758400 : UInt64)) (4611686018427387904 : UInt64)))), .second] [(.ref a_UNIFORM)])) (fun _ kk_ => XS.aload X19.here hx rfl (hb hby at_112) rfl rfl kk_) ?_
    refine OW.st (B := T19.setTop (mkF m 116 #[.val (.int n1), .val (.int n2), .val (.int n3), .val (.int (0 : Int32)), .val (.int si), .val (.int ti), .val (.double (FP.ddiv (FP.i2d si) (4616189618054758400 : UInt64))), .second, .val (.double (FP.ddiv (FP.i2d ti) (4616189618054758400 : UInt64))), .second, .val (.ref a_UNIFORM), .val (.double (FP.ddiv (FP.dadd (FP.ddiv (FP.i2d si) (4616189618054758400 : UInt64)) (4607182418800017408 : UInt64)) (FP.dadd (FP.ddiv (FP.i2d ti) (4616189618054758400 : UInt64)) (4611686018427387904 : UInt64)))), .second] [(.double (FP.ddiv (FP.i2d si) (4616189618054758400 : UInt64))), (.ref a_UNIFORM)])) (fun _ kk_ => XS.dload X19.here hx rfl (hb hby at_114) rfl kk_) ?_
    refine OW.st (B := T19.setTop (mkF m 118 #[.val (.int n1), .val (.int n2), .val (.int n3), .val (.int (0 : Int32)), .val (.int si), .val (.int ti), .val (.double (FP.ddiv (FP.i2d si) (4616189618054758400 : UInt64))), .second, .val (.double (FP.ddiv (FP.i2d ti) (4616189618054758400 : UInt64))), .second, .val (.ref a_UNIFORM), .val (.double (FP.ddiv (FP.dadd (FP.ddiv (FP.i2d si) (4616189618054758400 : UInt64)) (4607182418800017408 : UInt64)) (FP.dadd (FP.ddiv (FP.i2d ti) (4616189618054758400 : UInt64)) (4611686018427387904 : UInt64)))), .second] [(.double (FP.ddiv (FP.i2d ti) (4616189618054758400 : UInt64))), (.double (FP.ddiv (FP.i2d si) (4616189618054758400 : UInt64))), (.ref a_UNIFORM)])) (fun _ kk_ => XS.dload X19.here hx rfl (hb hby at_116) rfl kk_) ?_
    obtain ⟨cq20, kq20, q20a, q20b, q20c⟩ := isOf hZ e19 (Ea_UNIFORM.ext O0.2)
    obtain ⟨_, _, ⟨T20, L20, k20, n20⟩, -, X20, ⟨Lc20, hQ20, l20, y20, z20⟩, st20⟩ := X19.virtualBack hx (y := (⟨"com/example/retrace/retrace/clickmodel/Prior", "estimate", "(DD)D"⟩ : MethodName)) (z := (⟨"com/example/retrace/retrace/clickmodel/Prior", "estimate", "(DD)D"⟩ : MethodName)) hown (mvT hZ (w_7 hw)) (mvT hZ (w_8 hw)) (notFace_of_selects (args := #[]) (mvT hZ (w_10 hw))) (mvT hZ (w_10 hw)) (mvT hZ (w_9 hw)) (by decide) (backOf (W := 0) (rmES l Z a0 hw [] a_UNIFORM (FP.ddiv (FP.i2d si) (4616189618054758400 : UInt64)) (FP.ddiv (FP.i2d ti) (4616189618054758400 : UInt64)) (4607182418800017408 : UInt64) (4611686018427387904 : UInt64) h0 n0 O0 (Fa_UNIFORM_pseudoSuccesses.ext O0.2) (Fa_UNIFORM_pseudoTrials.ext O0.2) (own_sum1 hsi).fin.noNaN (own_sum2 hti).fin.noNaN (own_ddiv_nn (own_sum1 hsi) (own_sum2 hti) (Or.inr (own_sum2_nz hti)))) hZ (w_11 hw) (w_4 hw) (by decide) (by decide)) q20a q20c (g := (mkF m 118 #[.val (.int n1), .val (.int n2), .val (.int n3), .val (.int (0 : Int32)), .val (.int si), .val (.int ti), .val (.double (FP.ddiv (FP.i2d si) (4616189618054758400 : UInt64))), .second, .val (.double (FP.ddiv (FP.i2d ti) (4616189618054758400 : UInt64))), .second, .val (.ref a_UNIFORM), .val (.double (FP.ddiv (FP.dadd (FP.ddiv (FP.i2d si) (4616189618054758400 : UInt64)) (4607182418800017408 : UInt64)) (FP.dadd (FP.ddiv (FP.i2d ti) (4616189618054758400 : UInt64)) (4611686018427387904 : UInt64)))), .second] [(.double (FP.ddiv (FP.i2d ti) (4616189618054758400 : UInt64))), (.double (FP.ddiv (FP.i2d si) (4616189618054758400 : UInt64))), (.ref a_UNIFORM)])) rfl (by rw [hml]; rfl) (Steps.refl _) (argsL := [(.double (FP.ddiv (FP.i2d si) (4616189618054758400 : UInt64))), (.double (FP.ddiv (FP.i2d ti) (4616189618054758400 : UInt64)))]) (rest := []) (lenOf pd_0 rfl) rfl (by show 2 * 0 + _ ≤ _; exact Nat.le_of_eq rfl) (hb hby at_118) (fun _ _ => ⟨rfl, e19, (by decide : 0 + 0 ≤ _), (by decide : 0 + 0 ≤ _)⟩)
    dsimp only [Pt.U, Pt.locs, Pt.cells, Pt.slots] at X20 l20 y20 z20 st20 hQ20
    subst l20 y20 z20
    obtain ⟨rfl, Nq20, e20⟩ := hQ20
    have N20 := Fr.app N0 Nq20
    refine OW.tr (B := T20.setTop (mkF m 121 #[.val (.int n1), .val (.int n2), .val (.int n3), .val (.int (0 : Int32)), .val (.int si), .val (.int ti), .val (.double (FP.ddiv (FP.i2d si) (4616189618054758400 : UInt64))), .second, .val (.double (FP.ddiv (FP.i2d ti) (4616189618054758400 : UInt64))), .second, .val (.ref a_UNIFORM), .val (.double (FP.ddiv (FP.dadd (FP.ddiv (FP.i2d si) (4616189618054758400 : UInt64)) (4607182418800017408 : UInt64)) (FP.dadd (FP.ddiv (FP.i2d ti) (4616189618054758400 : UInt64)) (4611686018427387904 : UInt64)))), .second] [(.double (FP.ddiv (FP.dadd (FP.ddiv (FP.i2d si) (4616189618054758400 : UInt64)) (4607182418800017408 : UInt64)) (FP.dadd (FP.ddiv (FP.i2d ti) (4616189618054758400 : UInt64)) (4611686018427387904 : UInt64))))])) (st20) ?_
    refine OW.st (B := T20.setTop (mkF m 123 #[.val (.int n1), .val (.int n2), .val (.int n3), .val (.int (0 : Int32)), .val (.int si), .val (.int ti), .val (.double (FP.ddiv (FP.i2d si) (4616189618054758400 : UInt64))), .second, .val (.double (FP.ddiv (FP.i2d ti) (4616189618054758400 : UInt64))), .second, .val (.ref a_UNIFORM), .val (.double (FP.ddiv (FP.dadd (FP.ddiv (FP.i2d si) (4616189618054758400 : UInt64)) (4607182418800017408 : UInt64)) (FP.dadd (FP.ddiv (FP.i2d ti) (4616189618054758400 : UInt64)) (4611686018427387904 : UInt64)))), .second] [(.double (FP.ddiv (FP.dadd (FP.ddiv (FP.i2d si) (4616189618054758400 : UInt64)) (4607182418800017408 : UInt64)) (FP.dadd (FP.ddiv (FP.i2d ti) (4616189618054758400 : UInt64)) (4611686018427387904 : UInt64)))), (.double (FP.ddiv (FP.dadd (FP.ddiv (FP.i2d si) (4616189618054758400 : UInt64)) (4607182418800017408 : UInt64)) (FP.dadd (FP.ddiv (FP.i2d ti) (4616189618054758400 : UInt64)) (4611686018427387904 : UInt64))))])) (fun _ kk_ => XS.dload X20.here hx rfl (hb hby at_121) rfl kk_) ?_
    refine OW.st (B := T20.setTop (mkF m 124 #[.val (.int n1), .val (.int n2), .val (.int n3), .val (.int (0 : Int32)), .val (.int si), .val (.int ti), .val (.double (FP.ddiv (FP.i2d si) (4616189618054758400 : UInt64))), .second, .val (.double (FP.ddiv (FP.i2d ti) (4616189618054758400 : UInt64))), .second, .val (.ref a_UNIFORM), .val (.double (FP.ddiv (FP.dadd (FP.ddiv (FP.i2d si) (4616189618054758400 : UInt64)) (4607182418800017408 : UInt64)) (FP.dadd (FP.ddiv (FP.i2d ti) (4616189618054758400 : UInt64)) (4611686018427387904 : UInt64)))), .second] [(.int (cmpValue (FP.dcmp (FP.ddiv (FP.dadd (FP.ddiv (FP.i2d si) (4616189618054758400 : UInt64)) (4607182418800017408 : UInt64)) (FP.dadd (FP.ddiv (FP.i2d ti) (4616189618054758400 : UInt64)) (4611686018427387904 : UInt64))) (FP.ddiv (FP.dadd (FP.ddiv (FP.i2d si) (4616189618054758400 : UInt64)) (4607182418800017408 : UInt64)) (FP.dadd (FP.ddiv (FP.i2d ti) (4616189618054758400 : UInt64)) (4611686018427387904 : UInt64)))) .l))])) (fun _ kk_ => XS.dcmpS X20.here hx rfl (hb hby at_123) rfl rfl kk_) ?_
    refine OW.st (B := T20.setTop (mkF m 127 #[.val (.int n1), .val (.int n2), .val (.int n3), .val (.int (0 : Int32)), .val (.int si), .val (.int ti), .val (.double (FP.ddiv (FP.i2d si) (4616189618054758400 : UInt64))), .second, .val (.double (FP.ddiv (FP.i2d ti) (4616189618054758400 : UInt64))), .second, .val (.ref a_UNIFORM), .val (.double (FP.ddiv (FP.dadd (FP.ddiv (FP.i2d si) (4616189618054758400 : UInt64)) (4607182418800017408 : UInt64)) (FP.dadd (FP.ddiv (FP.i2d ti) (4616189618054758400 : UInt64)) (4611686018427387904 : UInt64)))), .second] [])) (fun _ kk_ => XS.ifNo X20.here hx rfl (hb hby at_124) rfl ((if0 _ _).trans (teq (dcmpV_self (own_ddiv_nn (own_sum1 hsi) (own_sum2 hti) (Or.inr (own_sum2_nz hti))) .l)).2) kk_) ?_
    refine OW.st (B := T20.setTop (mkF m 128 #[.val (.int n1), .val (.int n2), .val (.int n3), .val (.int (0 : Int32)), .val (.int si), .val (.int ti), .val (.double (FP.ddiv (FP.i2d si) (4616189618054758400 : UInt64))), .second, .val (.double (FP.ddiv (FP.i2d ti) (4616189618054758400 : UInt64))), .second, .val (.ref a_UNIFORM), .val (.double (FP.ddiv (FP.dadd (FP.ddiv (FP.i2d si) (4616189618054758400 : UInt64)) (4607182418800017408 : UInt64)) (FP.dadd (FP.ddiv (FP.i2d ti) (4616189618054758400 : UInt64)) (4611686018427387904 : UInt64)))), .second] [(.int (1 : Int32))])) (fun _ kk_ => XS.iconst X20.here hx rfl (hb hby at_127) kk_) ?_
    refine OW.st (B := T20.setTop (mkF m 132 #[.val (.int n1), .val (.int n2), .val (.int n3), .val (.int (0 : Int32)), .val (.int si), .val (.int ti), .val (.double (FP.ddiv (FP.i2d si) (4616189618054758400 : UInt64))), .second, .val (.double (FP.ddiv (FP.i2d ti) (4616189618054758400 : UInt64))), .second, .val (.ref a_UNIFORM), .val (.double (FP.ddiv (FP.dadd (FP.ddiv (FP.i2d si) (4616189618054758400 : UInt64)) (4607182418800017408 : UInt64)) (FP.dadd (FP.ddiv (FP.i2d ti) (4616189618054758400 : UInt64)) (4611686018427387904 : UInt64)))), .second] [(.int (1 : Int32))])) (fun _ kk_ => XS.goto X20.here hx rfl (pc0 := 128) (pc' := 132) rfl (hb hby at_128) (by decide) (by decide) kk_) ?_
    exact OW.ret X20 hx hlk (i := .ireturn) Bd.returns rfl (Or.inl ⟨rfl, Or.inr (Or.inl rfl), _, rfl⟩) (hb hby at_132) e20 (by decide) (by decide) ⟨rfl, N20⟩
  · refine OW.st (B := s₁.setTop (mkF m 62 #[.val (.int n1), .val (.int n2), .val (.int n3), .val (.int (1 : Int32)), .val (.int si), .val (.int ti), .val (.double (FP.ddiv (FP.i2d si) (4616189618054758400 : UInt64))), .second, .val (.double (FP.ddiv (FP.i2d ti) (4616189618054758400 : UInt64))), .second, .unset, .unset, .unset] [])) (fun _ kk_ => XS.ifYes X0.here hx rfl (pc0 := 38) (pc' := 62) rfl (hb hby at_38) rfl ((if0 _ _).trans (feq (by decide)).2) (by decide) (by decide) kk_) ?_
    refine OW.st (B := s₁.setTop (mkF m 63 #[.val (.int n1), .val (.int n2), .val (.int n3), .val (.int (1 : Int32)), .val (.int si), .val (.int ti), .val (.double (FP.ddiv (FP.i2d si) (4616189618054758400 : UInt64))), .second, .val (.double (FP.ddiv (FP.i2d ti) (4616189618054758400 : UInt64))), .second, .unset, .unset, .unset] [(.int (1 : Int32))])) (fun _ kk_ => XS.iloadN X0.here hx rfl (hb hby at_62) rfl kk_) ?_
    refine OW.st (B := s₁.setTop (mkF m 64 #[.val (.int n1), .val (.int n2), .val (.int n3), .val (.int (1 : Int32)), .val (.int si), .val (.int ti), .val (.double (FP.ddiv (FP.i2d si) (4616189618054758400 : UInt64))), .second, .val (.double (FP.ddiv (FP.i2d ti) (4616189618054758400 : UInt64))), .second, .unset, .unset, .unset] [(.int (1 : Int32)), (.int (1 : Int32))])) (fun _ kk_ => XS.iconst X0.here hx rfl (hb hby at_63) kk_) ?_
    refine OW.st (B := s₁.setTop (mkF m 67 #[.val (.int n1), .val (.int n2), .val (.int n3), .val (.int (1 : Int32)), .val (.int si), .val (.int ti), .val (.double (FP.ddiv (FP.i2d si) (4616189618054758400 : UInt64))), .second, .val (.double (FP.ddiv (FP.i2d ti) (4616189618054758400 : UInt64))), .second, .unset, .unset, .unset] [])) (fun _ kk_ => XS.icmpNo X0.here hx rfl (hb hby at_64) rfl (teq (by decide)).2 kk_) ?_
    obtain ⟨T21, X21, e21, st21⟩ := getS2 X0 hx hZ hown (host := "") (Or.inl (w_16 hw)) Via.refl e0 (Sa_POOLED.ext O0.2) (g := (mkF m 67 #[.val (.int n1), .val (.int n2), .val (.int n3), .val (.int (1 : Int32)), .val (.int si), .val (.int ti), .val (.double (FP.ddiv (FP.i2d si) (4616189618054758400 : UInt64))), .second, .val (.double (FP.ddiv (FP.i2d ti) (4616189618054758400 : UInt64))), .second, .unset, .unset, .unset] [])) rfl (hb hby at_67)
    refine OW.st (B := T21.setTop (mkF m 70 #[.val (.int n1), .val (.int n2), .val (.int n3), .val (.int (1 : Int32)), .val (.int si), .val (.int ti), .val (.double (FP.ddiv (FP.i2d si) (4616189618054758400 : UInt64))), .second, .val (.double (FP.ddiv (FP.i2d ti) (4616189618054758400 : UInt64))), .second, .unset, .unset, .unset] [(.ref a_POOLED)])) (st21) ?_
    refine OW.st (B := T21.setTop (mkF m 72 #[.val (.int n1), .val (.int n2), .val (.int n3), .val (.int (1 : Int32)), .val (.int si), .val (.int ti), .val (.double (FP.ddiv (FP.i2d si) (4616189618054758400 : UInt64))), .second, .val (.double (FP.ddiv (FP.i2d ti) (4616189618054758400 : UInt64))), .second, .val (.ref a_POOLED), .unset, .unset] [])) (fun _ kk_ => XS.astore X21.here hx rfl (hb hby at_70) rfl rfl (l' := #[.val (.int n1), .val (.int n2), .val (.int n3), .val (.int (1 : Int32)), .val (.int si), .val (.int ti), .val (.double (FP.ddiv (FP.i2d si) (4616189618054758400 : UInt64))), .second, .val (.double (FP.ddiv (FP.i2d ti) (4616189618054758400 : UInt64))), .second, .val (.ref a_POOLED), .unset, .unset]) rfl kk_) ?_
    refine OW.st (B := T21.setTop (mkF m 74 #[.val (.int n1), .val (.int n2), .val (.int n3), .val (.int (1 : Int32)), .val (.int si), .val (.int ti), .val (.double (FP.ddiv (FP.i2d si) (4616189618054758400 : UInt64))), .second, .val (.double (FP.ddiv (FP.i2d ti) (4616189618054758400 : UInt64))), .second, .val (.ref a_POOLED), .unset, .unset] [(.double (FP.ddiv (FP.i2d si) (4616189618054758400 : UInt64)))])) (fun _ kk_ => XS.dload X21.here hx rfl (hb hby at_72) rfl kk_) ?_
    refine OW.st (B := T21.setTop (mkF m 75 #[.val (.int n1), .val (.int n2), .val (.int n3), .val (.int (1 : Int32)), .val (.int si), .val (.int ti), .val (.double (FP.ddiv (FP.i2d si) (4616189618054758400 : UInt64))), .second, .val (.double (FP.ddiv (FP.i2d ti) (4616189618054758400 : UInt64))), .second, .val (.ref a_POOLED), .unset, .unset] [(.double (4607182418800017408 : UInt64)), (.double (FP.ddiv (FP.i2d si) (4616189618054758400 : UInt64)))])) (fun _ kk_ => XS.dconst1 X21.here hx rfl (hb hby at_74) rfl kk_) ?_
    refine OW.st (B := T21.setTop (mkF m 76 #[.val (.int n1), .val (.int n2), .val (.int n3), .val (.int (1 : Int32)), .val (.int si), .val (.int ti), .val (.double (FP.ddiv (FP.i2d si) (4616189618054758400 : UInt64))), .second, .val (.double (FP.ddiv (FP.i2d ti) (4616189618054758400 : UInt64))), .second, .val (.ref a_POOLED), .unset, .unset] [(.double (FP.dadd (FP.ddiv (FP.i2d si) (4616189618054758400 : UInt64)) (4607182418800017408 : UInt64)))])) (fun _ kk_ => XS.daddS X21.here hx rfl (hb hby at_75) rfl (own_sum1 hsi).fin.noNaN rfl kk_) ?_
    refine OW.st (B := T21.setTop (mkF m 78 #[.val (.int n1), .val (.int n2), .val (.int n3), .val (.int (1 : Int32)), .val (.int si), .val (.int ti), .val (.double (FP.ddiv (FP.i2d si) (4616189618054758400 : UInt64))), .second, .val (.double (FP.ddiv (FP.i2d ti) (4616189618054758400 : UInt64))), .second, .val (.ref a_POOLED), .unset, .unset] [(.double (FP.ddiv (FP.i2d ti) (4616189618054758400 : UInt64))), (.double (FP.dadd (FP.ddiv (FP.i2d si) (4616189618054758400 : UInt64)) (4607182418800017408 : UInt64)))])) (fun _ kk_ => XS.dload X21.here hx rfl (hb hby at_76) rfl kk_) ?_
    refine OW.st (B := T21.setTop (mkF m 81 #[.val (.int n1), .val (.int n2), .val (.int n3), .val (.int (1 : Int32)), .val (.int si), .val (.int ti), .val (.double (FP.ddiv (FP.i2d si) (4616189618054758400 : UInt64))), .second, .val (.double (FP.ddiv (FP.i2d ti) (4616189618054758400 : UInt64))), .second, .val (.ref a_POOLED), .unset, .unset] [(.double (4611686018427387904 : UInt64)), (.double (FP.ddiv (FP.i2d ti) (4616189618054758400 : UInt64))), (.double (FP.dadd (FP.ddiv (FP.i2d si) (4616189618054758400 : UInt64)) (4607182418800017408 : UInt64)))])) (X21.ldc2DoubleC hx hown (mvT hZ (w_6 hw)) (g := (mkF m 78 #[.val (.int n1), .val (.int n2), .val (.int n3), .val (.int (1 : Int32)), .val (.int si), .val (.int ti), .val (.double (FP.ddiv (FP.i2d si) (4616189618054758400 : UInt64))), .second, .val (.double (FP.ddiv (FP.i2d ti) (4616189618054758400 : UInt64))), .second, .val (.ref a_POOLED), .unset, .unset] [(.double (FP.ddiv (FP.i2d ti) (4616189618054758400 : UInt64))), (.double (FP.dadd (FP.ddiv (FP.i2d si) (4616189618054758400 : UInt64)) (4607182418800017408 : UInt64)))])) rfl (hb hby at_78)) ?_
    refine OW.st (B := T21.setTop (mkF m 82 #[.val (.int n1), .val (.int n2), .val (.int n3), .val (.int (1 : Int32)), .val (.int si), .val (.int ti), .val (.double (FP.ddiv (FP.i2d si) (4616189618054758400 : UInt64))), .second, .val (.double (FP.ddiv (FP.i2d ti) (4616189618054758400 : UInt64))), .second, .val (.ref a_POOLED), .unset, .unset] [(.double (FP.dadd (FP.ddiv (FP.i2d ti) (4616189618054758400 : UInt64)) (4611686018427387904 : UInt64))), (.double (FP.dadd (FP.ddiv (FP.i2d si) (4616189618054758400 : UInt64)) (4607182418800017408 : UInt64)))])) (fun _ kk_ => XS.daddS X21.here hx rfl (hb hby at_81) rfl (own_sum2 hti).fin.noNaN rfl kk_) ?_
    refine OW.st (B := T21.setTop (mkF m 83 #[.val (.int n1), .val (.int n2), .val (.int n3), .val (.int (1 : Int32)), .val (.int si), .val (.int ti), .val (.double (FP.ddiv (FP.i2d si) (4616189618054758400 : UInt64))), .second, .val (.double (FP.ddiv (FP.i2d ti) (4616189618054758400 : UInt64))), .second, .val (.ref a_POOLED), .unset, .unset] [(.double (FP.ddiv (FP.dadd (FP.ddiv (FP.i2d si) (4616189618054758400 : UInt64)) (4607182418800017408 : UInt64)) (FP.dadd (FP.ddiv (FP.i2d ti) (4616189618054758400 : UInt64)) (4611686018427387904 : UInt64))))])) (fun _ kk_ => XS.ddivS X21.here hx rfl (hb hby at_82) rfl (own_ddiv_nn (own_sum1 hsi) (own_sum2 hti) (Or.inr (own_sum2_nz hti))) rfl kk_) ?_
    refine OW.st (B := T21.setTop (mkF m 85 #[.val (.int n1), .val (.int n2), .val (.int n3), .val (.int (1 : Int32)), .val (.int si), .val (.int ti), .val (.double (FP.ddiv (FP.i2d si) (4616189618054758400 : UInt64))), .second, .val (.double (FP.ddiv (FP.i2d ti) (4616189618054758400 : UInt64))), .second, .val (.ref a_POOLED), .val (.double (FP.ddiv (FP.dadd (FP.ddiv (FP.i2d si) (4616189618054758400 : UInt64)) (4607182418800017408 : UInt64)) (FP.dadd (FP.ddiv (FP.i2d ti) (4616189618054758400 : UInt64)) (4611686018427387904 : UInt64)))), .second] [])) (fun _ kk_ => XS.dstore X21.here hx rfl (hb hby at_83) rfl (l' := #[.val (.int n1), .val (.int n2), .val (.int n3), .val (.int (1 : Int32)), .val (.int si), .val (.int ti), .val (.double (FP.ddiv (FP.i2d si) (4616189618054758400 : UInt64))), .second, .val (.double (FP.ddiv (FP.i2d ti) (4616189618054758400 : UInt64))), .second, .val (.ref a_POOLED), .val (.double (FP.ddiv (FP.dadd (FP.ddiv (FP.i2d si) (4616189618054758400 : UInt64)) (4607182418800017408 : UInt64)) (FP.dadd (FP.ddiv (FP.i2d ti) (4616189618054758400 : UInt64)) (4611686018427387904 : UInt64)))), .second]) rfl kk_) ?_
    refine OW.st (B := T21.setTop (mkF m 112 #[.val (.int n1), .val (.int n2), .val (.int n3), .val (.int (1 : Int32)), .val (.int si), .val (.int ti), .val (.double (FP.ddiv (FP.i2d si) (4616189618054758400 : UInt64))), .second, .val (.double (FP.ddiv (FP.i2d ti) (4616189618054758400 : UInt64))), .second, .val (.ref a_POOLED), .val (.double (FP.ddiv (FP.dadd (FP.ddiv (FP.i2d si) (4616189618054758400 : UInt64)) (4607182418800017408 : UInt64)) (FP.dadd (FP.ddiv (FP.i2d ti) (4616189618054758400 : UInt64)) (4611686018427387904 : UInt64)))), .second] [])) (fun _ kk_ => XS.goto X21.here hx rfl (pc0 := 85) (pc' := 112) rfl (hb hby at_85) (by decide) (by decide) kk_) ?_
    refine OW.st (B := T21.setTop (mkF m 114 #[.val (.int n1), .val (.int n2), .val (.int n3), .val (.int (1 : Int32)), .val (.int si), .val (.int ti), .val (.double (FP.ddiv (FP.i2d si) (4616189618054758400 : UInt64))), .second, .val (.double (FP.ddiv (FP.i2d ti) (4616189618054758400 : UInt64))), .second, .val (.ref a_POOLED), .val (.double (FP.ddiv (FP.dadd (FP.ddiv (FP.i2d si) (4616189618054758400 : UInt64)) (4607182418800017408 : UInt64)) (FP.dadd (FP.ddiv (FP.i2d ti) (4616189618054758400 : UInt64)) (4611686018427387904 : UInt64)))), .second] [(.ref a_POOLED)])) (fun _ kk_ => XS.aload X21.here hx rfl (hb hby at_112) rfl rfl kk_) ?_
    refine OW.st (B := T21.setTop (mkF m 116 #[.val (.int n1), .val (.int n2), .val (.int n3), .val (.int (1 : Int32)), .val (.int si), .val (.int ti), .val (.double (FP.ddiv (FP.i2d si) (4616189618054758400 : UInt64))), .second, .val (.double (FP.ddiv (FP.i2d ti) (4616189618054758400 : UInt64))), .second, .val (.ref a_POOLED), .val (.double (FP.ddiv (FP.dadd (FP.ddiv (FP.i2d si) (4616189618054758400 : UInt64)) (4607182418800017408 : UInt64)) (FP.dadd (FP.ddiv (FP.i2d ti) (4616189618054758400 : UInt64)) (4611686018427387904 : UInt64)))), .second] [(.double (FP.ddiv (FP.i2d si) (4616189618054758400 : UInt64))), (.ref a_POOLED)])) (fun _ kk_ => XS.dload X21.here hx rfl (hb hby at_114) rfl kk_) ?_
    refine OW.st (B := T21.setTop (mkF m 118 #[.val (.int n1), .val (.int n2), .val (.int n3), .val (.int (1 : Int32)), .val (.int si), .val (.int ti), .val (.double (FP.ddiv (FP.i2d si) (4616189618054758400 : UInt64))), .second, .val (.double (FP.ddiv (FP.i2d ti) (4616189618054758400 : UInt64))), .second, .val (.ref a_POOLED), .val (.double (FP.ddiv (FP.dadd (FP.ddiv (FP.i2d si) (4616189618054758400 : UInt64)) (4607182418800017408 : UInt64)) (FP.dadd (FP.ddiv (FP.i2d ti) (4616189618054758400 : UInt64)) (4611686018427387904 : UInt64)))), .second] [(.double (FP.ddiv (FP.i2d ti) (4616189618054758400 : UInt64))), (.double (FP.ddiv (FP.i2d si) (4616189618054758400 : UInt64))), (.ref a_POOLED)])) (fun _ kk_ => XS.dload X21.here hx rfl (hb hby at_116) rfl kk_) ?_
    obtain ⟨cq22, kq22, q22a, q22b, q22c⟩ := isOf hZ e21 (Ea_POOLED.ext O0.2)
    obtain ⟨_, _, ⟨T22, L22, k22, n22⟩, -, X22, ⟨Lc22, hQ22, l22, y22, z22⟩, st22⟩ := X21.virtualBack hx (y := (⟨"com/example/retrace/retrace/clickmodel/Prior", "estimate", "(DD)D"⟩ : MethodName)) (z := (⟨"com/example/retrace/retrace/clickmodel/Prior", "estimate", "(DD)D"⟩ : MethodName)) hown (mvT hZ (w_7 hw)) (mvT hZ (w_8 hw)) (notFace_of_selects (args := #[]) (mvT hZ (w_10 hw))) (mvT hZ (w_10 hw)) (mvT hZ (w_9 hw)) (by decide) (backOf (W := 0) (rmES l Z a0 hw [] a_POOLED (FP.ddiv (FP.i2d si) (4616189618054758400 : UInt64)) (FP.ddiv (FP.i2d ti) (4616189618054758400 : UInt64)) (4607182418800017408 : UInt64) (4611686018427387904 : UInt64) h0 n0 O0 (Fa_POOLED_pseudoSuccesses.ext O0.2) (Fa_POOLED_pseudoTrials.ext O0.2) (own_sum1 hsi).fin.noNaN (own_sum2 hti).fin.noNaN (own_ddiv_nn (own_sum1 hsi) (own_sum2 hti) (Or.inr (own_sum2_nz hti)))) hZ (w_11 hw) (w_4 hw) (by decide) (by decide)) q22a q22c (g := (mkF m 118 #[.val (.int n1), .val (.int n2), .val (.int n3), .val (.int (1 : Int32)), .val (.int si), .val (.int ti), .val (.double (FP.ddiv (FP.i2d si) (4616189618054758400 : UInt64))), .second, .val (.double (FP.ddiv (FP.i2d ti) (4616189618054758400 : UInt64))), .second, .val (.ref a_POOLED), .val (.double (FP.ddiv (FP.dadd (FP.ddiv (FP.i2d si) (4616189618054758400 : UInt64)) (4607182418800017408 : UInt64)) (FP.dadd (FP.ddiv (FP.i2d ti) (4616189618054758400 : UInt64)) (4611686018427387904 : UInt64)))), .second] [(.double (FP.ddiv (FP.i2d ti) (4616189618054758400 : UInt64))), (.double (FP.ddiv (FP.i2d si) (4616189618054758400 : UInt64))), (.ref a_POOLED)])) rfl (by rw [hml]; rfl) (Steps.refl _) (argsL := [(.double (FP.ddiv (FP.i2d si) (4616189618054758400 : UInt64))), (.double (FP.ddiv (FP.i2d ti) (4616189618054758400 : UInt64)))]) (rest := []) (lenOf pd_0 rfl) rfl (by show 2 * 0 + _ ≤ _; exact Nat.le_of_eq rfl) (hb hby at_118) (fun _ _ => ⟨rfl, e21, (by decide : 0 + 0 ≤ _), (by decide : 0 + 0 ≤ _)⟩)
    dsimp only [Pt.U, Pt.locs, Pt.cells, Pt.slots] at X22 l22 y22 z22 st22 hQ22
    subst l22 y22 z22
    obtain ⟨rfl, Nq22, e22⟩ := hQ22
    have N22 := Fr.app N0 Nq22
    refine OW.tr (B := T22.setTop (mkF m 121 #[.val (.int n1), .val (.int n2), .val (.int n3), .val (.int (1 : Int32)), .val (.int si), .val (.int ti), .val (.double (FP.ddiv (FP.i2d si) (4616189618054758400 : UInt64))), .second, .val (.double (FP.ddiv (FP.i2d ti) (4616189618054758400 : UInt64))), .second, .val (.ref a_POOLED), .val (.double (FP.ddiv (FP.dadd (FP.ddiv (FP.i2d si) (4616189618054758400 : UInt64)) (4607182418800017408 : UInt64)) (FP.dadd (FP.ddiv (FP.i2d ti) (4616189618054758400 : UInt64)) (4611686018427387904 : UInt64)))), .second] [(.double (FP.ddiv (FP.dadd (FP.ddiv (FP.i2d si) (4616189618054758400 : UInt64)) (4607182418800017408 : UInt64)) (FP.dadd (FP.ddiv (FP.i2d ti) (4616189618054758400 : UInt64)) (4611686018427387904 : UInt64))))])) (st22) ?_
    refine OW.st (B := T22.setTop (mkF m 123 #[.val (.int n1), .val (.int n2), .val (.int n3), .val (.int (1 : Int32)), .val (.int si), .val (.int ti), .val (.double (FP.ddiv (FP.i2d si) (4616189618054758400 : UInt64))), .second, .val (.double (FP.ddiv (FP.i2d ti) (4616189618054758400 : UInt64))), .second, .val (.ref a_POOLED), .val (.double (FP.ddiv (FP.dadd (FP.ddiv (FP.i2d si) (4616189618054758400 : UInt64)) (4607182418800017408 : UInt64)) (FP.dadd (FP.ddiv (FP.i2d ti) (4616189618054758400 : UInt64)) (4611686018427387904 : UInt64)))), .second] [(.double (FP.ddiv (FP.dadd (FP.ddiv (FP.i2d si) (4616189618054758400 : UInt64)) (4607182418800017408 : UInt64)) (FP.dadd (FP.ddiv (FP.i2d ti) (4616189618054758400 : UInt64)) (4611686018427387904 : UInt64)))), (.double (FP.ddiv (FP.dadd (FP.ddiv (FP.i2d si) (4616189618054758400 : UInt64)) (4607182418800017408 : UInt64)) (FP.dadd (FP.ddiv (FP.i2d ti) (4616189618054758400 : UInt64)) (4611686018427387904 : UInt64))))])) (fun _ kk_ => XS.dload X22.here hx rfl (hb hby at_121) rfl kk_) ?_
    refine OW.st (B := T22.setTop (mkF m 124 #[.val (.int n1), .val (.int n2), .val (.int n3), .val (.int (1 : Int32)), .val (.int si), .val (.int ti), .val (.double (FP.ddiv (FP.i2d si) (4616189618054758400 : UInt64))), .second, .val (.double (FP.ddiv (FP.i2d ti) (4616189618054758400 : UInt64))), .second, .val (.ref a_POOLED), .val (.double (FP.ddiv (FP.dadd (FP.ddiv (FP.i2d si) (4616189618054758400 : UInt64)) (4607182418800017408 : UInt64)) (FP.dadd (FP.ddiv (FP.i2d ti) (4616189618054758400 : UInt64)) (4611686018427387904 : UInt64)))), .second] [(.int (cmpValue (FP.dcmp (FP.ddiv (FP.dadd (FP.ddiv (FP.i2d si) (4616189618054758400 : UInt64)) (4607182418800017408 : UInt64)) (FP.dadd (FP.ddiv (FP.i2d ti) (4616189618054758400 : UInt64)) (4611686018427387904 : UInt64))) (FP.ddiv (FP.dadd (FP.ddiv (FP.i2d si) (4616189618054758400 : UInt64)) (4607182418800017408 : UInt64)) (FP.dadd (FP.ddiv (FP.i2d ti) (4616189618054758400 : UInt64)) (4611686018427387904 : UInt64)))) .l))])) (fun _ kk_ => XS.dcmpS X22.here hx rfl (hb hby at_123) rfl rfl kk_) ?_
    refine OW.st (B := T22.setTop (mkF m 127 #[.val (.int n1), .val (.int n2), .val (.int n3), .val (.int (1 : Int32)), .val (.int si), .val (.int ti), .val (.double (FP.ddiv (FP.i2d si) (4616189618054758400 : UInt64))), .second, .val (.double (FP.ddiv (FP.i2d ti) (4616189618054758400 : UInt64))), .second, .val (.ref a_POOLED), .val (.double (FP.ddiv (FP.dadd (FP.ddiv (FP.i2d si) (4616189618054758400 : UInt64)) (4607182418800017408 : UInt64)) (FP.dadd (FP.ddiv (FP.i2d ti) (4616189618054758400 : UInt64)) (4611686018427387904 : UInt64)))), .second] [])) (fun _ kk_ => XS.ifNo X22.here hx rfl (hb hby at_124) rfl ((if0 _ _).trans (teq (dcmpV_self (own_ddiv_nn (own_sum1 hsi) (own_sum2 hti) (Or.inr (own_sum2_nz hti))) .l)).2) kk_) ?_
    refine OW.st (B := T22.setTop (mkF m 128 #[.val (.int n1), .val (.int n2), .val (.int n3), .val (.int (1 : Int32)), .val (.int si), .val (.int ti), .val (.double (FP.ddiv (FP.i2d si) (4616189618054758400 : UInt64))), .second, .val (.double (FP.ddiv (FP.i2d ti) (4616189618054758400 : UInt64))), .second, .val (.ref a_POOLED), .val (.double (FP.ddiv (FP.dadd (FP.ddiv (FP.i2d si) (4616189618054758400 : UInt64)) (4607182418800017408 : UInt64)) (FP.dadd (FP.ddiv (FP.i2d ti) (4616189618054758400 : UInt64)) (4611686018427387904 : UInt64)))), .second] [(.int (1 : Int32))])) (fun _ kk_ => XS.iconst X22.here hx rfl (hb hby at_127) kk_) ?_
    refine OW.st (B := T22.setTop (mkF m 132 #[.val (.int n1), .val (.int n2), .val (.int n3), .val (.int (1 : Int32)), .val (.int si), .val (.int ti), .val (.double (FP.ddiv (FP.i2d si) (4616189618054758400 : UInt64))), .second, .val (.double (FP.ddiv (FP.i2d ti) (4616189618054758400 : UInt64))), .second, .val (.ref a_POOLED), .val (.double (FP.ddiv (FP.dadd (FP.ddiv (FP.i2d si) (4616189618054758400 : UInt64)) (4607182418800017408 : UInt64)) (FP.dadd (FP.ddiv (FP.i2d ti) (4616189618054758400 : UInt64)) (4611686018427387904 : UInt64)))), .second] [(.int (1 : Int32))])) (fun _ kk_ => XS.goto X22.here hx rfl (pc0 := 128) (pc' := 132) rfl (hb hby at_128) (by decide) (by decide) kk_) ?_
    exact OW.ret X22 hx hlk (i := .ireturn) Bd.returns rfl (Or.inl ⟨rfl, Or.inr (Or.inl rfl), _, rfl⟩) (hb hby at_132) e22 (by decide) (by decide) ⟨rfl, N22⟩
  · refine OW.st (B := s₁.setTop (mkF m 62 #[.val (.int n1), .val (.int n2), .val (.int n3), .val (.int (2 : Int32)), .val (.int si), .val (.int ti), .val (.double (FP.ddiv (FP.i2d si) (4616189618054758400 : UInt64))), .second, .val (.double (FP.ddiv (FP.i2d ti) (4616189618054758400 : UInt64))), .second, .unset, .unset, .unset] [])) (fun _ kk_ => XS.ifYes X0.here hx rfl (pc0 := 38) (pc' := 62) rfl (hb hby at_38) rfl ((if0 _ _).trans (feq (by decide)).2) (by decide) (by decide) kk_) ?_
    refine OW.st (B := s₁.setTop (mkF m 63 #[.val (.int n1), .val (.int n2), .val (.int n3), .val (.int (2 : Int32)), .val (.int si), .val (.int ti), .val (.double (FP.ddiv (FP.i2d si) (4616189618054758400 : UInt64))), .second, .val (.double (FP.ddiv (FP.i2d ti) (4616189618054758400 : UInt64))), .second, .unset, .unset, .unset] [(.int (2 : Int32))])) (fun _ kk_ => XS.iloadN X0.here hx rfl (hb hby at_62) rfl kk_) ?_
    refine OW.st (B := s₁.setTop (mkF m 64 #[.val (.int n1), .val (.int n2), .val (.int n3), .val (.int (2 : Int32)), .val (.int si), .val (.int ti), .val (.double (FP.ddiv (FP.i2d si) (4616189618054758400 : UInt64))), .second, .val (.double (FP.ddiv (FP.i2d ti) (4616189618054758400 : UInt64))), .second, .unset, .unset, .unset] [(.int (1 : Int32)), (.int (2 : Int32))])) (fun _ kk_ => XS.iconst X0.here hx rfl (hb hby at_63) kk_) ?_
    refine OW.st (B := s₁.setTop (mkF m 88 #[.val (.int n1), .val (.int n2), .val (.int n3), .val (.int (2 : Int32)), .val (.int si), .val (.int ti), .val (.double (FP.ddiv (FP.i2d si) (4616189618054758400 : UInt64))), .second, .val (.double (FP.ddiv (FP.i2d ti) (4616189618054758400 : UInt64))), .second, .unset, .unset, .unset] [])) (fun _ kk_ => XS.icmpYes X0.here hx rfl (pc0 := 64) (pc' := 88) rfl (hb hby at_64) rfl (feq (by decide)).2 (by decide) (by decide) kk_) ?_
    refine OW.st (B := s₁.setTop (mkF m 90 #[.val (.int n1), .val (.int n2), .val (.int n3), .val (.int (2 : Int32)), .val (.int si), .val (.int ti), .val (.double (FP.ddiv (FP.i2d si) (4616189618054758400 : UInt64))), .second, .val (.double (FP.ddiv (FP.i2d ti) (4616189618054758400 : UInt64))), .second, .unset, .unset, .unset] [(.int si)])) (fun _ kk_ => XS.iload X0.here hx rfl (hb hby at_88) rfl kk_) ?_
    by_cases hc23 : si = (0 : Int32)
    · refine OW.st (B := s₁.setTop (mkF m 93 #[.val (.int n1), .val (.int n2), .val (.int n3), .val (.int (2 : Int32)), .val (.int si), .val (.int ti), .val (.double (FP.ddiv (FP.i2d si) (4616189618054758400 : UInt64))), .second, .val (.double (FP.ddiv (FP.i2d ti) (4616189618054758400 : UInt64))), .second, .unset, .unset, .unset] [])) (fun _ kk_ => XS.ifNo X0.here hx rfl (hb hby at_90) rfl ((if0 _ _).trans (teq hc23).2) kk_) ?_
      refine OW.st (B := s₁.setTop (mkF m 95 #[.val (.int n1), .val (.int n2), .val (.int n3), .val (.int (2 : Int32)), .val (.int si), .val (.int ti), .val (.double (FP.ddiv (FP.i2d si) (4616189618054758400 : UInt64))), .second, .val (.double (FP.ddiv (FP.i2d ti) (4616189618054758400 : UInt64))), .second, .unset, .unset, .unset] [(.int ti)])) (fun _ kk_ => XS.iload X0.here hx rfl (hb hby at_93) rfl kk_) ?_
      by_cases hc24 : ti = (0 : Int32)
      · refine OW.st (B := s₁.setTop (mkF m 98 #[.val (.int n1), .val (.int n2), .val (.int n3), .val (.int (2 : Int32)), .val (.int si), .val (.int ti), .val (.double (FP.ddiv (FP.i2d si) (4616189618054758400 : UInt64))), .second, .val (.double (FP.ddiv (FP.i2d ti) (4616189618054758400 : UInt64))), .second, .unset, .unset, .unset] [])) (fun _ kk_ => XS.ifNo X0.here hx rfl (hb hby at_95) rfl ((if0 _ _).trans (teq hc24).2) kk_) ?_
        refine OW.st (B := s₁.setTop (mkF m 99 #[.val (.int n1), .val (.int n2), .val (.int n3), .val (.int (2 : Int32)), .val (.int si), .val (.int ti), .val (.double (FP.ddiv (FP.i2d si) (4616189618054758400 : UInt64))), .second, .val (.double (FP.ddiv (FP.i2d ti) (4616189618054758400 : UInt64))), .second, .unset, .unset, .unset] [(.int (1 : Int32))])) (fun _ kk_ => XS.iconst X0.here hx rfl (hb hby at_98) kk_) ?_
        exact OW.ret X0 hx hlk (i := .ireturn) Bd.returns rfl (Or.inl ⟨rfl, Or.inr (Or.inl rfl), _, rfl⟩) (hb hby at_99) e0 (by decide) (by decide) ⟨rfl, N0⟩
      · refine OW.st (B := s₁.setTop (mkF m 100 #[.val (.int n1), .val (.int n2), .val (.int n3), .val (.int (2 : Int32)), .val (.int si), .val (.int ti), .val (.double (FP.ddiv (FP.i2d si) (4616189618054758400 : UInt64))), .second, .val (.double (FP.ddiv (FP.i2d ti) (4616189618054758400 : UInt64))), .second, .unset, .unset, .unset] [])) (fun _ kk_ => XS.ifYes X0.here hx rfl (pc0 := 95) (pc' := 100) rfl (hb hby at_95) rfl ((if0 _ _).trans (feq hc24).2) (by decide) (by decide) kk_) ?_
        obtain ⟨T25, X25, e25, st25⟩ := getS2 X0 hx hZ hown (host := "") (Or.inl (w_18 hw)) Via.refl e0 (Sa_NONE.ext O0.2) (g := (mkF m 100 #[.val (.int n1), .val (.int n2), .val (.int n3), .val (.int (2 : Int32)), .val (.int si), .val (.int ti), .val (.double (FP.ddiv (FP.i2d si) (4616189618054758400 : UInt64))), .second, .val (.double (FP.ddiv (FP.i2d ti) (4616189618054758400 : UInt64))), .second, .unset, .unset, .unset] [])) rfl (hb hby at_100)
        refine OW.st (B := T25.setTop (mkF m 103 #[.val (.int n1), .val (.int n2), .val (.int n3), .val (.int (2 : Int32)), .val (.int si), .val (.int ti), .val (.double (FP.ddiv (FP.i2d si) (4616189618054758400 : UInt64))), .second, .val (.double (FP.ddiv (FP.i2d ti) (4616189618054758400 : UInt64))), .second, .unset, .unset, .unset] [(.ref a_NONE)])) (st25) ?_
        refine OW.st (B := T25.setTop (mkF m 105 #[.val (.int n1), .val (.int n2), .val (.int n3), .val (.int (2 : Int32)), .val (.int si), .val (.int ti), .val (.double (FP.ddiv (FP.i2d si) (4616189618054758400 : UInt64))), .second, .val (.double (FP.ddiv (FP.i2d ti) (4616189618054758400 : UInt64))), .second, .val (.ref a_NONE), .unset, .unset] [])) (fun _ kk_ => XS.astore X25.here hx rfl (hb hby at_103) rfl rfl (l' := #[.val (.int n1), .val (.int n2), .val (.int n3), .val (.int (2 : Int32)), .val (.int si), .val (.int ti), .val (.double (FP.ddiv (FP.i2d si) (4616189618054758400 : UInt64))), .second, .val (.double (FP.ddiv (FP.i2d ti) (4616189618054758400 : UInt64))), .second, .val (.ref a_NONE), .unset, .unset]) rfl kk_) ?_
        refine OW.st (B := T25.setTop (mkF m 107 #[.val (.int n1), .val (.int n2), .val (.int n3), .val (.int (2 : Int32)), .val (.int si), .val (.int ti), .val (.double (FP.ddiv (FP.i2d si) (4616189618054758400 : UInt64))), .second, .val (.double (FP.ddiv (FP.i2d ti) (4616189618054758400 : UInt64))), .second, .val (.ref a_NONE), .unset, .unset] [(.double (FP.ddiv (FP.i2d si) (4616189618054758400 : UInt64)))])) (fun _ kk_ => XS.dload X25.here hx rfl (hb hby at_105) rfl kk_) ?_
        refine OW.st (B := T25.setTop (mkF m 109 #[.val (.int n1), .val (.int n2), .val (.int n3), .val (.int (2 : Int32)), .val (.int si), .val (.int ti), .val (.double (FP.ddiv (FP.i2d si) (4616189618054758400 : UInt64))), .second, .val (.double (FP.ddiv (FP.i2d ti) (4616189618054758400 : UInt64))), .second, .val (.ref a_NONE), .unset, .unset] [(.double (FP.ddiv (FP.i2d ti) (4616189618054758400 : UInt64))), (.double (FP.ddiv (FP.i2d si) (4616189618054758400 : UInt64)))])) (fun _ kk_ => XS.dload X25.here hx rfl (hb hby at_107) rfl kk_) ?_
        refine OW.st (B := T25.setTop (mkF m 110 #[.val (.int n1), .val (.int n2), .val (.int n3), .val (.int (2 : Int32)), .val (.int si), .val (.int ti), .val (.double (FP.ddiv (FP.i2d si) (4616189618054758400 : UInt64))), .second, .val (.double (FP.ddiv (FP.i2d ti) (4616189618054758400 : UInt64))), .second, .val (.ref a_NONE), .unset, .unset] [(.double (FP.ddiv (FP.ddiv (FP.i2d si) (4616189618054758400 : UInt64)) (FP.ddiv (FP.i2d ti) (4616189618054758400 : UInt64))))])) (fun _ kk_ => XS.ddivS X25.here hx rfl (hb hby at_109) rfl (own_ddiv_nn (own_div4_pos hsi) (own_div4_pos hti) (Or.inr (own_div4_nz hti hc24))) rfl kk_) ?_
        refine OW.st (B := T25.setTop (mkF m 112 #[.val (.int n1), .val (.int n2), .val (.int n3), .val (.int (2 : Int32)), .val (.int si), .val (.int ti), .val (.double (FP.ddiv (FP.i2d si) (4616189618054758400 : UInt64))), .second, .val (.double (FP.ddiv (FP.i2d ti) (4616189618054758400 : UInt64))), .second, .val (.ref a_NONE), .val (.double (FP.ddiv (FP.ddiv (FP.i2d si) (4616189618054758400 : UInt64)) (FP.ddiv (FP.i2d ti) (4616189618054758400 : UInt64)))), .second] [])) (fun _ kk_ => XS.dstore X25.here hx rfl (hb hby at_110) rfl (l' := #[.val (.int n1), .val (.int n2), .val (.int n3), .val (.int (2 : Int32)), .val (.int si), .val (.int ti), .val (.double (FP.ddiv (FP.i2d si) (4616189618054758400 : UInt64))), .second, .val (.double (FP.ddiv (FP.i2d ti) (4616189618054758400 : UInt64))), .second, .val (.ref a_NONE), .val (.double (FP.ddiv (FP.ddiv (FP.i2d si) (4616189618054758400 : UInt64)) (FP.ddiv (FP.i2d ti) (4616189618054758400 : UInt64)))), .second]) rfl kk_) ?_
        refine OW.st (B := T25.setTop (mkF m 114 #[.val (.int n1), .val (.int n2), .val (.int n3), .val (.int (2 : Int32)), .val (.int si), .val (.int ti), .val (.double (FP.ddiv (FP.i2d si) (4616189618054758400 : UInt64))), .second, .val (.double (FP.ddiv (FP.i2d ti) (4616189618054758400 : UInt64))), .second, .val (.ref a_NONE), .val (.double (FP.ddiv (FP.ddiv (FP.i2d si) (4616189618054758400 : UInt64)) (FP.ddiv (FP.i2d ti) (4616189618054758400 : UInt64)))), .second] [(.ref a_NONE)])) (fun _ kk_ => XS.aload X25.here hx rfl (hb hby at_112) rfl rfl kk_) ?_
        refine OW.st (B := T25.setTop (mkF m 116 #[.val (.int n1), .val (.int n2), .val (.int n3), .val (.int (2 : Int32)), .val (.int si), .val (.int ti), .val (.double (FP.ddiv (FP.i2d si) (4616189618054758400 : UInt64))), .second, .val (.double (FP.ddiv (FP.i2d ti) (4616189618054758400 : UInt64))), .second, .val (.ref a_NONE), .val (.double (FP.ddiv (FP.ddiv (FP.i2d si) (4616189618054758400 : UInt64)) (FP.ddiv (FP.i2d ti) (4616189618054758400 : UInt64)))), .second] [(.double (FP.ddiv (FP.i2d si) (4616189618054758400 : UInt64))), (.ref a_NONE)])) (fun _ kk_ => XS.dload X25.here hx rfl (hb hby at_114) rfl kk_) ?_
        refine OW.st (B := T25.setTop (mkF m 118 #[.val (.int n1), .val (.int n2), .val (.int n3), .val (.int (2 : Int32)), .val (.int si), .val (.int ti), .val (.double (FP.ddiv (FP.i2d si) (4616189618054758400 : UInt64))), .second, .val (.double (FP.ddiv (FP.i2d ti) (4616189618054758400 : UInt64))), .second, .val (.ref a_NONE), .val (.double (FP.ddiv (FP.ddiv (FP.i2d si) (4616189618054758400 : UInt64)) (FP.ddiv (FP.i2d ti) (4616189618054758400 : UInt64)))), .second] [(.double (FP.ddiv (FP.i2d ti) (4616189618054758400 : UInt64))), (.double (FP.ddiv (FP.i2d si) (4616189618054758400 : UInt64))), (.ref a_NONE)])) (fun _ kk_ => XS.dload X25.here hx rfl (hb hby at_116) rfl kk_) ?_
        obtain ⟨cq26, kq26, q26a, q26b, q26c⟩ := isOf hZ e25 (Ea_NONE.ext O0.2)
        obtain ⟨_, _, ⟨T26, L26, k26, n26⟩, -, X26, ⟨Lc26, hQ26, l26, y26, z26⟩, st26⟩ := X25.virtualBack hx (y := (⟨"com/example/retrace/retrace/clickmodel/Prior", "estimate", "(DD)D"⟩ : MethodName)) (z := (⟨"com/example/retrace/retrace/clickmodel/Prior", "estimate", "(DD)D"⟩ : MethodName)) hown (mvT hZ (w_7 hw)) (mvT hZ (w_8 hw)) (notFace_of_selects (args := #[]) (mvT hZ (w_10 hw))) (mvT hZ (w_10 hw)) (mvT hZ (w_9 hw)) (by decide) (backOf (W := 0) (rmES l Z a0 hw [] a_NONE (FP.ddiv (FP.i2d si) (4616189618054758400 : UInt64)) (FP.ddiv (FP.i2d ti) (4616189618054758400 : UInt64)) (0 : UInt64) (0 : UInt64) h0 n0 O0 (Fa_NONE_pseudoSuccesses.ext O0.2) (Fa_NONE_pseudoTrials.ext O0.2) (by rw [(own_div4_pos hsi).add0]; exact (own_div4_pos hsi).fin.noNaN) (by rw [(own_div4_pos hti).add0]; exact (own_div4_pos hti).fin.noNaN) (by rw [(own_div4_pos hsi).add0, (own_div4_pos hti).add0]; exact (own_ddiv_nn (own_div4_pos hsi) (own_div4_pos hti) (Or.inr (own_div4_nz hti hc24))))) hZ (w_11 hw) (w_4 hw) (by decide) (by decide)) q26a q26c (g := (mkF m 118 #[.val (.int n1), .val (.int n2), .val (.int n3), .val (.int (2 : Int32)), .val (.int si), .val (.int ti), .val (.double (FP.ddiv (FP.i2d si) (4616189618054758400 : UInt64))), .second, .val (.double (FP.ddiv (FP.i2d ti) (4616189618054758400 : UInt64))), .second, .val (.ref a_NONE), .val (.double (FP.ddiv (FP.ddiv (FP.i2d si) (4616189618054758400 : UInt64)) (FP.ddiv (FP.i2d ti) (4616189618054758400 : UInt64)))), .second] [(.double (FP.ddiv (FP.i2d ti) (4616189618054758400 : UInt64))), (.double (FP.ddiv (FP.i2d si) (4616189618054758400 : UInt64))), (.ref a_NONE)])) rfl (by rw [hml]; rfl) (Steps.refl _) (argsL := [(.double (FP.ddiv (FP.i2d si) (4616189618054758400 : UInt64))), (.double (FP.ddiv (FP.i2d ti) (4616189618054758400 : UInt64)))]) (rest := []) (lenOf pd_0 rfl) rfl (by show 2 * 0 + _ ≤ _; exact Nat.le_of_eq rfl) (hb hby at_118) (fun _ _ => ⟨rfl, e25, (by decide : 0 + 0 ≤ _), (by decide : 0 + 0 ≤ _)⟩)
        dsimp only [Pt.U, Pt.locs, Pt.cells, Pt.slots] at X26 l26 y26 z26 st26 hQ26
        subst l26 y26 z26
        obtain ⟨rfl, Nq26, e26⟩ := hQ26
        have N26 := Fr.app N0 Nq26
        refine OW.tr (B := T26.setTop (mkF m 121 #[.val (.int n1), .val (.int n2), .val (.int n3), .val (.int (2 : Int32)), .val (.int si), .val (.int ti), .val (.double (FP.ddiv (FP.i2d si) (4616189618054758400 : UInt64))), .second, .val (.double (FP.ddiv (FP.i2d ti) (4616189618054758400 : UInt64))), .second, .val (.ref a_NONE), .val (.double (FP.ddiv (FP.ddiv (FP.i2d si) (4616189618054758400 : UInt64)) (FP.ddiv (FP.i2d ti) (4616189618054758400 : UInt64)))), .second] [(.double (FP.ddiv (FP.dadd (FP.ddiv (FP.i2d si) (4616189618054758400 : UInt64)) (0 : UInt64)) (FP.dadd (FP.ddiv (FP.i2d ti) (4616189618054758400 : UInt64)) (0 : UInt64))))])) (st26) ?_
        refine OW.st (B := T26.setTop (mkF m 123 #[.val (.int n1), .val (.int n2), .val (.int n3), .val (.int (2 : Int32)), .val (.int si), .val (.int ti), .val (.double (FP.ddiv (FP.i2d si) (4616189618054758400 : UInt64))), .second, .val (.double (FP.ddiv (FP.i2d ti) (4616189618054758400 : UInt64))), .second, .val (.ref a_NONE), .val (.double (FP.ddiv (FP.ddiv (FP.i2d si) (4616189618054758400 : UInt64)) (FP.ddiv (FP.i2d ti) (4616189618054758400 : UInt64)))), .second] [(.double (FP.ddiv (FP.ddiv (FP.i2d si) (4616189618054758400 : UInt64)) (FP.ddiv (FP.i2d ti) (4616189618054758400 : UInt64)))), (.double (FP.ddiv (FP.dadd (FP.ddiv (FP.i2d si) (4616189618054758400 : UInt64)) (0 : UInt64)) (FP.dadd (FP.ddiv (FP.i2d ti) (4616189618054758400 : UInt64)) (0 : UInt64))))])) (fun _ kk_ => XS.dload X26.here hx rfl (hb hby at_121) rfl kk_) ?_
        refine OW.st (B := T26.setTop (mkF m 124 #[.val (.int n1), .val (.int n2), .val (.int n3), .val (.int (2 : Int32)), .val (.int si), .val (.int ti), .val (.double (FP.ddiv (FP.i2d si) (4616189618054758400 : UInt64))), .second, .val (.double (FP.ddiv (FP.i2d ti) (4616189618054758400 : UInt64))), .second, .val (.ref a_NONE), .val (.double (FP.ddiv (FP.ddiv (FP.i2d si) (4616189618054758400 : UInt64)) (FP.ddiv (FP.i2d ti) (4616189618054758400 : UInt64)))), .second] [(.int (cmpValue (FP.dcmp (FP.ddiv (FP.dadd (FP.ddiv (FP.i2d si) (4616189618054758400 : UInt64)) (0 : UInt64)) (FP.dadd (FP.ddiv (FP.i2d ti) (4616189618054758400 : UInt64)) (0 : UInt64))) (FP.ddiv (FP.ddiv (FP.i2d si) (4616189618054758400 : UInt64)) (FP.ddiv (FP.i2d ti) (4616189618054758400 : UInt64)))) .l))])) (fun _ kk_ => XS.dcmpS X26.here hx rfl (hb hby at_123) rfl rfl kk_) ?_
        refine OW.st (B := T26.setTop (mkF m 127 #[.val (.int n1), .val (.int n2), .val (.int n3), .val (.int (2 : Int32)), .val (.int si), .val (.int ti), .val (.double (FP.ddiv (FP.i2d si) (4616189618054758400 : UInt64))), .second, .val (.double (FP.ddiv (FP.i2d ti) (4616189618054758400 : UInt64))), .second, .val (.ref a_NONE), .val (.double (FP.ddiv (FP.ddiv (FP.i2d si) (4616189618054758400 : UInt64)) (FP.ddiv (FP.i2d ti) (4616189618054758400 : UInt64)))), .second] [])) (fun _ kk_ => XS.ifNo X26.here hx rfl (hb hby at_124) rfl ((if0 _ _).trans (teq (by rw [(own_div4_pos hsi).add0, (own_div4_pos hti).add0]; exact dcmpV_self (own_ddiv_nn (own_div4_pos hsi) (own_div4_pos hti) (Or.inr (own_div4_nz hti hc24))) .l)).2) kk_) ?_
        refine OW.st (B := T26.setTop (mkF m 128 #[.val (.int n1), .val (.int n2), .val (.int n3), .val (.int (2 : Int32)), .val (.int si), .val (.int ti), .val (.double (FP.ddiv (FP.i2d si) (4616189618054758400 : UInt64))), .second, .val (.double (FP.ddiv (FP.i2d ti) (4616189618054758400 : UInt64))), .second, .val (.ref a_NONE), .val (.double (FP.ddiv (FP.ddiv (FP.i2d si) (4616189618054758400 : UInt64)) (FP.ddiv (FP.i2d ti) (4616189618054758400 : UInt64)))), .second] [(.int (1 : Int32))])) (fun _ kk_ => XS.iconst X26.here hx rfl (hb hby at_127) kk_) ?_
        refine OW.st (B := T26.setTop (mkF m 132 #[.val (.int n1), .val (.int n2), .val (.int n3), .val (.int (2 : Int32)), .val (.int si), .val (.int ti), .val (.double (FP.ddiv (FP.i2d si) (4616189618054758400 : UInt64))), .second, .val (.double (FP.ddiv (FP.i2d ti) (4616189618054758400 : UInt64))), .second, .val (.ref a_NONE), .val (.double (FP.ddiv (FP.ddiv (FP.i2d si) (4616189618054758400 : UInt64)) (FP.ddiv (FP.i2d ti) (4616189618054758400 : UInt64)))), .second] [(.int (1 : Int32))])) (fun _ kk_ => XS.goto X26.here hx rfl (pc0 := 128) (pc' := 132) rfl (hb hby at_128) (by decide) (by decide) kk_) ?_
        exact OW.ret X26 hx hlk (i := .ireturn) Bd.returns rfl (Or.inl ⟨rfl, Or.inr (Or.inl rfl), _, rfl⟩) (hb hby at_132) e26 (by decide) (by decide) ⟨rfl, N26⟩
    · refine OW.st (B := s₁.setTop (mkF m 100 #[.val (.int n1), .val (.int n2), .val (.int n3), .val (.int (2 : Int32)), .val (.int si), .val (.int ti), .val (.double (FP.ddiv (FP.i2d si) (4616189618054758400 : UInt64))), .second, .val (.double (FP.ddiv (FP.i2d ti) (4616189618054758400 : UInt64))), .second, .unset, .unset, .unset] [])) (fun _ kk_ => XS.ifYes X0.here hx rfl (pc0 := 90) (pc' := 100) rfl (hb hby at_90) rfl ((if0 _ _).trans (feq hc23).2) (by decide) (by decide) kk_) ?_
      obtain ⟨T27, X27, e27, st27⟩ := getS2 X0 hx hZ hown (host := "") (Or.inl (w_18 hw)) Via.refl e0 (Sa_NONE.ext O0.2) (g := (mkF m 100 #[.val (.int n1), .val (.int n2), .val (.int n3), .val (.int (2 : Int32)), .val (.int si), .val (.int ti), .val (.double (FP.ddiv (FP.i2d si) (4616189618054758400 : UInt64))), .second, .val (.double (FP.ddiv (FP.i2d ti) (4616189618054758400 : UInt64))), .second, .unset, .unset, .unset] [])) rfl (hb hby at_100)
      refine OW.st (B := T27.setTop (mkF m 103 #[.val (.int n1), .val (.int n2), .val (.int n3), .val (.int (2 : Int32)), .val (.int si), .val (.int ti), .val (.double (FP.ddiv (FP.i2d si) (4616189618054758400 : UInt64))), .second, .val (.double (FP.ddiv (FP.i2d ti) (4616189618054758400 : UInt64))), .second, .unset, .unset, .unset] [(.ref a_NONE)])) (st27) ?_
      refine OW.st (B := T27.setTop (mkF m 105 #[.val (.int n1), .val (.int n2), .val (.int n3), .val (.int (2 : Int32)), .val (.int si), .val (.int ti), .val (.double (FP.ddiv (FP.i2d si) (4616189618054758400 : UInt64))), .second, .val (.double (FP.ddiv (FP.i2d ti) (4616189618054758400 : UInt64))), .second, .val (.ref a_NONE), .unset, .unset] [])) (fun _ kk_ => XS.astore X27.here hx rfl (hb hby at_103) rfl rfl (l' := #[.val (.int n1), .val (.int n2), .val (.int n3), .val (.int (2 : Int32)), .val (.int si), .val (.int ti), .val (.double (FP.ddiv (FP.i2d si) (4616189618054758400 : UInt64))), .second, .val (.double (FP.ddiv (FP.i2d ti) (4616189618054758400 : UInt64))), .second, .val (.ref a_NONE), .unset, .unset]) rfl kk_) ?_
      refine OW.st (B := T27.setTop (mkF m 107 #[.val (.int n1), .val (.int n2), .val (.int n3), .val (.int (2 : Int32)), .val (.int si), .val (.int ti), .val (.double (FP.ddiv (FP.i2d si) (4616189618054758400 : UInt64))), .second, .val (.double (FP.ddiv (FP.i2d ti) (4616189618054758400 : UInt64))), .second, .val (.ref a_NONE), .unset, .unset] [(.double (FP.ddiv (FP.i2d si) (4616189618054758400 : UInt64)))])) (fun _ kk_ => XS.dload X27.here hx rfl (hb hby at_105) rfl kk_) ?_
      refine OW.st (B := T27.setTop (mkF m 109 #[.val (.int n1), .val (.int n2), .val (.int n3), .val (.int (2 : Int32)), .val (.int si), .val (.int ti), .val (.double (FP.ddiv (FP.i2d si) (4616189618054758400 : UInt64))), .second, .val (.double (FP.ddiv (FP.i2d ti) (4616189618054758400 : UInt64))), .second, .val (.ref a_NONE), .unset, .unset] [(.double (FP.ddiv (FP.i2d ti) (4616189618054758400 : UInt64))), (.double (FP.ddiv (FP.i2d si) (4616189618054758400 : UInt64)))])) (fun _ kk_ => XS.dload X27.here hx rfl (hb hby at_107) rfl kk_) ?_
      refine OW.st (B := T27.setTop (mkF m 110 #[.val (.int n1), .val (.int n2), .val (.int n3), .val (.int (2 : Int32)), .val (.int si), .val (.int ti), .val (.double (FP.ddiv (FP.i2d si) (4616189618054758400 : UInt64))), .second, .val (.double (FP.ddiv (FP.i2d ti) (4616189618054758400 : UInt64))), .second, .val (.ref a_NONE), .unset, .unset] [(.double (FP.ddiv (FP.ddiv (FP.i2d si) (4616189618054758400 : UInt64)) (FP.ddiv (FP.i2d ti) (4616189618054758400 : UInt64))))])) (fun _ kk_ => XS.ddivS X27.here hx rfl (hb hby at_109) rfl (own_ddiv_nn (own_div4_pos hsi) (own_div4_pos hti) (Or.inl (own_div4_nz hsi hc23))) rfl kk_) ?_
      refine OW.st (B := T27.setTop (mkF m 112 #[.val (.int n1), .val (.int n2), .val (.int n3), .val (.int (2 : Int32)), .val (.int si), .val (.int ti), .val (.double (FP.ddiv (FP.i2d si) (4616189618054758400 : UInt64))), .second, .val (.double (FP.ddiv (FP.i2d ti) (4616189618054758400 : UInt64))), .second, .val (.ref a_NONE), .val (.double (FP.ddiv (FP.ddiv (FP.i2d si) (4616189618054758400 : UInt64)) (FP.ddiv (FP.i2d ti) (4616189618054758400 : UInt64)))), .second] [])) (fun _ kk_ => XS.dstore X27.here hx rfl (hb hby at_110) rfl (l' := #[.val (.int n1), .val (.int n2), .val (.int n3), .val (.int (2 : Int32)), .val (.int si), .val (.int ti), .val (.double (FP.ddiv (FP.i2d si) (4616189618054758400 : UInt64))), .second, .val (.double (FP.ddiv (FP.i2d ti) (4616189618054758400 : UInt64))), .second, .val (.ref a_NONE), .val (.double (FP.ddiv (FP.ddiv (FP.i2d si) (4616189618054758400 : UInt64)) (FP.ddiv (FP.i2d ti) (4616189618054758400 : UInt64)))), .second]) rfl kk_) ?_
      refine OW.st (B := T27.setTop (mkF m 114 #[.val (.int n1), .val (.int n2), .val (.int n3), .val (.int (2 : Int32)), .val (.int si), .val (.int ti), .val (.double (FP.ddiv (FP.i2d si) (4616189618054758400 : UInt64))), .second, .val (.double (FP.ddiv (FP.i2d ti) (4616189618054758400 : UInt64))), .second, .val (.ref a_NONE), .val (.double (FP.ddiv (FP.ddiv (FP.i2d si) (4616189618054758400 : UInt64)) (FP.ddiv (FP.i2d ti) (4616189618054758400 : UInt64)))), .second] [(.ref a_NONE)])) (fun _ kk_ => XS.aload X27.here hx rfl (hb hby at_112) rfl rfl kk_) ?_
      refine OW.st (B := T27.setTop (mkF m 116 #[.val (.int n1), .val (.int n2), .val (.int n3), .val (.int (2 : Int32)), .val (.int si), .val (.int ti), .val (.double (FP.ddiv (FP.i2d si) (4616189618054758400 : UInt64))), .second, .val (.double (FP.ddiv (FP.i2d ti) (4616189618054758400 : UInt64))), .second, .val (.ref a_NONE), .val (.double (FP.ddiv (FP.ddiv (FP.i2d si) (4616189618054758400 : UInt64)) (FP.ddiv (FP.i2d ti) (4616189618054758400 : UInt64)))), .second] [(.double (FP.ddiv (FP.i2d si) (4616189618054758400 : UInt64))), (.ref a_NONE)])) (fun _ kk_ => XS.dload X27.here hx rfl (hb hby at_114) rfl kk_) ?_
      refine OW.st (B := T27.setTop (mkF m 118 #[.val (.int n1), .val (.int n2), .val (.int n3), .val (.int (2 : Int32)), .val (.int si), .val (.int ti), .val (.double (FP.ddiv (FP.i2d si) (4616189618054758400 : UInt64))), .second, .val (.double (FP.ddiv (FP.i2d ti) (4616189618054758400 : UInt64))), .second, .val (.ref a_NONE), .val (.double (FP.ddiv (FP.ddiv (FP.i2d si) (4616189618054758400 : UInt64)) (FP.ddiv (FP.i2d ti) (4616189618054758400 : UInt64)))), .second] [(.double (FP.ddiv (FP.i2d ti) (4616189618054758400 : UInt64))), (.double (FP.ddiv (FP.i2d si) (4616189618054758400 : UInt64))), (.ref a_NONE)])) (fun _ kk_ => XS.dload X27.here hx rfl (hb hby at_116) rfl kk_) ?_
      obtain ⟨cq28, kq28, q28a, q28b, q28c⟩ := isOf hZ e27 (Ea_NONE.ext O0.2)
      obtain ⟨_, _, ⟨T28, L28, k28, n28⟩, -, X28, ⟨Lc28, hQ28, l28, y28, z28⟩, st28⟩ := X27.virtualBack hx (y := (⟨"com/example/retrace/retrace/clickmodel/Prior", "estimate", "(DD)D"⟩ : MethodName)) (z := (⟨"com/example/retrace/retrace/clickmodel/Prior", "estimate", "(DD)D"⟩ : MethodName)) hown (mvT hZ (w_7 hw)) (mvT hZ (w_8 hw)) (notFace_of_selects (args := #[]) (mvT hZ (w_10 hw))) (mvT hZ (w_10 hw)) (mvT hZ (w_9 hw)) (by decide) (backOf (W := 0) (rmES l Z a0 hw [] a_NONE (FP.ddiv (FP.i2d si) (4616189618054758400 : UInt64)) (FP.ddiv (FP.i2d ti) (4616189618054758400 : UInt64)) (0 : UInt64) (0 : UInt64) h0 n0 O0 (Fa_NONE_pseudoSuccesses.ext O0.2) (Fa_NONE_pseudoTrials.ext O0.2) (by rw [(own_div4_pos hsi).add0]; exact (own_div4_pos hsi).fin.noNaN) (by rw [(own_div4_pos hti).add0]; exact (own_div4_pos hti).fin.noNaN) (by rw [(own_div4_pos hsi).add0, (own_div4_pos hti).add0]; exact (own_ddiv_nn (own_div4_pos hsi) (own_div4_pos hti) (Or.inl (own_div4_nz hsi hc23))))) hZ (w_11 hw) (w_4 hw) (by decide) (by decide)) q28a q28c (g := (mkF m 118 #[.val (.int n1), .val (.int n2), .val (.int n3), .val (.int (2 : Int32)), .val (.int si), .val (.int ti), .val (.double (FP.ddiv (FP.i2d si) (4616189618054758400 : UInt64))), .second, .val (.double (FP.ddiv (FP.i2d ti) (4616189618054758400 : UInt64))), .second, .val (.ref a_NONE), .val (.double (FP.ddiv (FP.ddiv (FP.i2d si) (4616189618054758400 : UInt64)) (FP.ddiv (FP.i2d ti) (4616189618054758400 : UInt64)))), .second] [(.double (FP.ddiv (FP.i2d ti) (4616189618054758400 : UInt64))), (.double (FP.ddiv (FP.i2d si) (4616189618054758400 : UInt64))), (.ref a_NONE)])) rfl (by rw [hml]; rfl) (Steps.refl _) (argsL := [(.double (FP.ddiv (FP.i2d si) (4616189618054758400 : UInt64))), (.double (FP.ddiv (FP.i2d ti) (4616189618054758400 : UInt64)))]) (rest := []) (lenOf pd_0 rfl) rfl (by show 2 * 0 + _ ≤ _; exact Nat.le_of_eq rfl) (hb hby at_118) (fun _ _ => ⟨rfl, e27, (by decide : 0 + 0 ≤ _), (by decide : 0 + 0 ≤ _)⟩)
      dsimp only [Pt.U, Pt.locs, Pt.cells, Pt.slots] at X28 l28 y28 z28 st28 hQ28
      subst l28 y28 z28
      obtain ⟨rfl, Nq28, e28⟩ := hQ28
      have N28 := Fr.app N0 Nq28
      refine OW.tr (B := T28.setTop (mkF m 121 #[.val (.int n1), .val (.int n2), .val (.int n3), .val (.int (2 : Int32)), .val (.int si), .val (.int ti), .val (.double (FP.ddiv (FP.i2d si) (4616189618054758400 : UInt64))), .second, .val (.double (FP.ddiv (FP.i2d ti) (4616189618054758400 : UInt64))), .second, .val (.ref a_NONE), .val (.double (FP.ddiv (FP.ddiv (FP.i2d si) (4616189618054758400 : UInt64)) (FP.ddiv (FP.i2d ti) (4616189618054758400 : UInt64)))), .second] [(.double (FP.ddiv (FP.dadd (FP.ddiv (FP.i2d si) (4616189618054758400 : UInt64)) (0 : UInt64)) (FP.dadd (FP.ddiv (FP.i2d ti) (4616189618054758400 : UInt64)) (0 : UInt64))))])) (st28) ?_
      refine OW.st (B := T28.setTop (mkF m 123 #[.val (.int n1), .val (.int n2), .val (.int n3), .val (.int (2 : Int32)), .val (.int si), .val (.int ti), .val (.double (FP.ddiv (FP.i2d si) (4616189618054758400 : UInt64))), .second, .val (.double (FP.ddiv (FP.i2d ti) (4616189618054758400 : UInt64))), .second, .val (.ref a_NONE), .val (.double (FP.ddiv (FP.ddiv (FP.i2d si) (4616189618054758400 : UInt64)) (FP.ddiv (FP.i2d ti) (4616189618054758400 : UInt64)))), .second] [(.double (FP.ddiv (FP.ddiv (FP.i2d si) (4616189618054758400 : UInt64)) (FP.ddiv (FP.i2d ti) (4616189618054758400 : UInt64)))), (.double (FP.ddiv (FP.dadd (FP.ddiv (FP.i2d si) (4616189618054758400 : UInt64)) (0 : UInt64)) (FP.dadd (FP.ddiv (FP.i2d ti) (4616189618054758400 : UInt64)) (0 : UInt64))))])) (fun _ kk_ => XS.dload X28.here hx rfl (hb hby at_121) rfl kk_) ?_
      refine OW.st (B := T28.setTop (mkF m 124 #[.val (.int n1), .val (.int n2), .val (.int n3), .val (.int (2 : Int32)), .val (.int si), .val (.int ti), .val (.double (FP.ddiv (FP.i2d si) (4616189618054758400 : UInt64))), .second, .val (.double (FP.ddiv (FP.i2d ti) (4616189618054758400 : UInt64))), .second, .val (.ref a_NONE), .val (.double (FP.ddiv (FP.ddiv (FP.i2d si) (4616189618054758400 : UInt64)) (FP.ddiv (FP.i2d ti) (4616189618054758400 : UInt64)))), .second] [(.int (cmpValue (FP.dcmp (FP.ddiv (FP.dadd (FP.ddiv (FP.i2d si) (4616189618054758400 : UInt64)) (0 : UInt64)) (FP.dadd (FP.ddiv (FP.i2d ti) (4616189618054758400 : UInt64)) (0 : UInt64))) (FP.ddiv (FP.ddiv (FP.i2d si) (4616189618054758400 : UInt64)) (FP.ddiv (FP.i2d ti) (4616189618054758400 : UInt64)))) .l))])) (fun _ kk_ => XS.dcmpS X28.here hx rfl (hb hby at_123) rfl rfl kk_) ?_
      refine OW.st (B := T28.setTop (mkF m 127 #[.val (.int n1), .val (.int n2), .val (.int n3), .val (.int (2 : Int32)), .val (.int si), .val (.int ti), .val (.double (FP.ddiv (FP.i2d si) (4616189618054758400 : UInt64))), .second, .val (.double (FP.ddiv (FP.i2d ti) (4616189618054758400 : UInt64))), .second, .val (.ref a_NONE), .val (.double (FP.ddiv (FP.ddiv (FP.i2d si) (4616189618054758400 : UInt64)) (FP.ddiv (FP.i2d ti) (4616189618054758400 : UInt64)))), .second] [])) (fun _ kk_ => XS.ifNo X28.here hx rfl (hb hby at_124) rfl ((if0 _ _).trans (teq (by rw [(own_div4_pos hsi).add0, (own_div4_pos hti).add0]; exact dcmpV_self (own_ddiv_nn (own_div4_pos hsi) (own_div4_pos hti) (Or.inl (own_div4_nz hsi hc23))) .l)).2) kk_) ?_
      refine OW.st (B := T28.setTop (mkF m 128 #[.val (.int n1), .val (.int n2), .val (.int n3), .val (.int (2 : Int32)), .val (.int si), .val (.int ti), .val (.double (FP.ddiv (FP.i2d si) (4616189618054758400 : UInt64))), .second, .val (.double (FP.ddiv (FP.i2d ti) (4616189618054758400 : UInt64))), .second, .val (.ref a_NONE), .val (.double (FP.ddiv (FP.ddiv (FP.i2d si) (4616189618054758400 : UInt64)) (FP.ddiv (FP.i2d ti) (4616189618054758400 : UInt64)))), .second] [(.int (1 : Int32))])) (fun _ kk_ => XS.iconst X28.here hx rfl (hb hby at_127) kk_) ?_
      refine OW.st (B := T28.setTop (mkF m 132 #[.val (.int n1), .val (.int n2), .val (.int n3), .val (.int (2 : Int32)), .val (.int si), .val (.int ti), .val (.double (FP.ddiv (FP.i2d si) (4616189618054758400 : UInt64))), .second, .val (.double (FP.ddiv (FP.i2d ti) (4616189618054758400 : UInt64))), .second, .val (.ref a_NONE), .val (.double (FP.ddiv (FP.ddiv (FP.i2d si) (4616189618054758400 : UInt64)) (FP.ddiv (FP.i2d ti) (4616189618054758400 : UInt64)))), .second] [(.int (1 : Int32))])) (fun _ kk_ => XS.goto X28.here hx rfl (pc0 := 128) (pc' := 132) rfl (hb hby at_128) (by decide) (by decide) kk_) ?_
      exact OW.ret X28 hx hlk (i := .ireturn) Bd.returns rfl (Or.inl ⟨rfl, Or.inr (Or.inl rfl), _, rfl⟩) (hb hby at_132) e28 (by decide) (by decide) ⟨rfl, N28⟩
set_option maxRecDepth 65536 in
set_option maxHeartbeats 40000000 in
theorem comes_1 {Post : Tables → Env → Array Value → State → Outcome → State → Prop} (hpost : ∀ tb e args s v u, (limb_1_1.after args s (.returned v) u = true ∧ limb_1_2.after args s (.returned v) u = true ∧ True) → FrameEnd s (.returned v) u (Jvm.fieldLocs frame_1_writes args s ++ Jvm.arrayLocs frame_1_arrays args s ++ Jvm.staticLocs frame_1_statics s) 0 0 → Post tb e args s (.returned v) u) :
    ArmFor flags0 classFile x code maxLocals ret World_1 tables_1 room_1 Calls_1 rest_1 Pre_1 Post := by
  intro l hfl _ _ p e ha hc hk s m args below hf hA hF happ hP
  obtain ⟨hcalls, hrest, hpre⟩ := hP
  obtain ⟨-, -, -, hnamed, -, -, -, hat⟩ := (Spec.applies_iff hf).mp happ
  obtain ⟨hg, hn⟩ := and_e (Cond.before_iff.mp (show (Jvm.Cond.and given_1 narrow_1).before args s = true from hpre))
  obtain ⟨k29, k30⟩ := and_e hg
  obtain ⟨k31, k32⟩ := and_e k30
  obtain ⟨k33, k34⟩ := and_e k32
  obtain ⟨w0, w1, w2, rfl⟩ : ∃ w0 w1 w2 : Value, args = #[w0, w1, w2] := by
    have hs : args.size = 3 := by simpa [Cond.value, given_1] using k29
    obtain ⟨L⟩ := args
    match L, hs with
    | [w0, w1, w2], _ => exact ⟨w0, w1, w2, rfl⟩
  have hw := fun d (hd : d ∈ tables_1) => atoms_spec (ws := Jvm.Cond.code x code maxLocals ret :: tables_1) hat d (List.mem_cons_of_mem _ hd)
  have hfit : Fit s := fun {y c} hc i hi => by
    obtain ⟨ha, rfl⟩ := Array.getElem?_eq_some_iff.mp hc
    have q := List.all_eq_true.mp ((Array.all_eq_true_iff_forall_mem.mp hF) _ (Array.getElem_mem ha)) i (List.mem_range.mpr hi)
    simpa [Array.getElem?_eq_getElem hi] using q
  obtain ⟨i0, ei0⟩ := is_v k31
  obtain rfl : w0 = (.int i0) := Option.some.inj ei0
  obtain ⟨i1, ei1⟩ := is_v k33
  obtain rfl : w1 = (.int i1) := Option.some.inj ei1
  obtain ⟨i2, ei2⟩ := is_v k34
  obtain rfl : w2 = (.int i2) := Option.some.inj ei2
  obtain ⟨k1, k2⟩ := and_e hn
  obtain ⟨k3, k4⟩ := and_e k2
  obtain ⟨k5, k6⟩ := and_e k4
  obtain ⟨k7, k8⟩ := and_e k6
  obtain ⟨k9, k10⟩ := and_e k8
  obtain ⟨k11, k12⟩ := and_e k10
  obtain ⟨k13, k14⟩ := and_e k12
  obtain ⟨k15, k16⟩ := and_e k14
  obtain ⟨a_UNIFORM, eva_UNIFORM⟩ := exa_v k1
  obtain ⟨a_POOLED, eva_POOLED⟩ := exa_v k7
  obtain ⟨a_NONE, eva_NONE⟩ := exa_v k13
  have hS : OwnS s a_UNIFORM a_POOLED a_NONE := ⟨Sta.start eva_UNIFORM (Or.inr ⟨(w_4 hw), (w_5 hw)⟩), Exa.start eva_UNIFORM k1, Sta.start eva_POOLED (Or.inr ⟨(w_4 hw), (w_17 hw)⟩), Exa.start eva_POOLED k7, Sta.start eva_NONE (Or.inr ⟨(w_4 hw), (w_19 hw)⟩), Exa.start eva_NONE k13, Fld.start ((fld_at eva_UNIFORM).symm.trans (own_eq_dbl rfl k3)), Fld.start ((fld_at eva_UNIFORM).symm.trans (own_eq_dbl rfl k5)), Fld.start ((fld_at eva_POOLED).symm.trans (own_eq_dbl rfl k9)), Fld.start ((fld_at eva_POOLED).symm.trans (own_eq_dbl rfl k11)), Fld.start ((fld_at eva_NONE).symm.trans (own_eq_dbl rfl k15)), Fld.start ((fld_at eva_NONE).symm.trans (own_eq_dbl rfl k16))⟩
  obtain ⟨n, o, h1, h2, h3, _, L, rfl, ⟨rfl, N⟩, hq⟩ := rm0 l s _ hw tables_1 i0 i1 i2 a_UNIFORM a_POOLED a_NONE s.heap s.heap.size (Old.start s) hS p e ha hc hk s m _ below hf ((Spec.applies_iff_loose hf).mp happ).1 ⟨rfl, State.Warmed39.refl s, rfl⟩ trivial
  refine ⟨n, _, h1, h2, h3, hpost _ _ _ _ _ _ ⟨Cond.after_iff.mpr rfl, Cond.after_iff.mpr (eq_i res_at (Term.int_eval (1)) rfl), trivial⟩ ⟨hq.1, hq.2.1, (hq.2.2.sift fun y hy => Or.inr (N y hy)).mono (by decide) (by decide)⟩⟩
theorem main_1_1 : Claimed_1_1 := comes_1 fun _ _ _ _ _ _ h hF => ⟨h.1, hF⟩
theorem main_1_2 : Claimed_1_2 := comes_1 fun _ _ _ _ _ _ h hF => ⟨h.2.1, hF⟩
end Jvm.Pilot.@@N@@
namespace Jvm.Pilot.@@N@@
open Jvm Jvm.ClassFile Sem Op Lib Jvm.Free Jvm.Stand Jvm.Pilot.@@N@@.Jvm.D
/-! MADE BY PROGRAM (witnessworld.py) out of the Statement's table words and the real class files: 12 classes; the members and pool entries that the words name. The judged class is class 1, her method 1. -/
namespace start1
open Jvm.ClassFile
def u (s : String) : CpInfo := .utf8 (stringToUtf16 s)
/-- a pool by its gaps: so many unusable entries, then the entry; so many at the end -/
def gap : Nat → List CpInfo → List CpInfo
  | 0, r => r
  | n + 1, r => .unusable :: gap n r
def poolList (es : List (Nat × CpInfo)) (last : Nat) : List CpInfo := es.foldr (fun e r => gap e.1 (e.2 :: r)) (gap last [])
def pool (es : List (Nat × CpInfo)) (last : Nat) : Array CpInfo := ⟨poolList es last⟩
def fileOf (pool : Array CpInfo) (this : Nat) (attrs : Array Attribute := #[]) (ms : Array MethodInfo := #[]) (fl : Nat := 33) (sup : Nat := 0) (ifs : Array Nat := #[]) (fds : Array FieldInfo := #[]) : ClassFile where
  minorVersion := 0
  majorVersion := 65
  constantPool := pool
  accessFlags := fl
  thisClass := this
  superClass := sup
  interfaces := ifs
  fields := fds
  methods := ms
  attributes := attrs
def plain (name : String) (sup : Option ClassId) : Class where
  name := name
  kind := .ordinary
  loader := none
  accessFlags := 33
  super := sup
  interfaces := #[]
  cf := none
  fields := #[]
  methods := #[]
  instanceTypes := #[]
  staticTypes := #[]
  resolved := #[]
  callSites := []
  init := .initialized
  statics := none
  mirror := none

def pool0 : Array CpInfo := pool [(5, u "<init>"), (0, u "()V"), (1, .class_ 10), (1, u "java/lang/Object")] 113

def k0m0 : Method := { name := "<init>", desc := "()V", sig := { parameters := [], returnType := none }, accessFlags := 1, code := none }
/-- java/lang/Object -/
def k0 : Class := { plain "java/lang/Object" none with
  accessFlags := 33
  interfaces := #[]
  cf := some (fileOf pool0 8 #[] #[{ accessFlags := 1, nameIndex := 5, descriptorIndex := 6, attributes := #[] }] 33 0 #[] #[])
  fields := #[]
  methods := #[k0m0]
  instanceTypes := #[]
  staticTypes := #[]
  resolved := Array.replicate 124 none
  statics := none }

def pool1 : Array CpInfo := pool [(2, .class_ 4), (1, u "java/lang/Object"), (0, u "<init>"), (0, u "()V"), (0, .integer 2147483647), (0, .integer 1048575), (0, .double 4616189618054758400), (1, .fieldref 12 13), (0, .class_ 14), (0, .nameAndType 15 16), (0, u "com/example/retrace/retrace/clickmodel/Prior"), (0, u "UNIFORM"), (0, u "Lcom/example/retrace/retrace/clickmodel/Prior;"), (0, .double 4611686018427387904), (1, .fieldref 12 20), (0, .nameAndType 21 16), (0, u "POOLED"), (0, .fieldref 12 23), (0, .nameAndType 24 16), (0, u "NONE"), (0, .methodref 12 26), (0, .nameAndType 27 28), (0, u "estimate"), (0, u "(DD)D"), (0, .class_ 30), (0, u "com/example/retrace/retrace/clickmodel/PriorEstimatePinLaw"), (2, u "law"), (0, u "(III)Z")] 3

def k1m0 : Method := { name := "<init>", desc := "()V", sig := { parameters := [], returnType := none }, accessFlags := 1, code := none }
def k1c1 : Code := { maxStack := 6, maxLocals := 13, code := code, exceptionTable := #[], attributes := #[] }
def k1m1 : Method := { name := "law", desc := "(III)Z", sig := { parameters := [.int, .int, .int], returnType := some .boolean }, accessFlags := 9, code := some k1c1 }
/-- com/example/retrace/retrace/clickmodel/PriorEstimatePinLaw -/
def k1 : Class := { plain "com/example/retrace/retrace/clickmodel/PriorEstimatePinLaw" (some 0) with
  accessFlags := 49
  interfaces := #[]
  cf := some (fileOf pool1 29 #[] #[{ accessFlags := 1, nameIndex := 5, descriptorIndex := 6, attributes := #[] }, { accessFlags := 9, nameIndex := 33, descriptorIndex := 34, attributes := #[] }] 49 2 #[] #[])
  fields := #[]
  methods := #[k1m0, k1m1]
  instanceTypes := #[]
  staticTypes := #[]
  resolved := Array.replicate 38 none
  statics := none }

def pool2 : Array CpInfo := pool [(1, .class_ 2), (0, u "java/lang/constant/Constable"), (0, .class_ 4), (0, u "java/lang/Object")] 6

/-- java/lang/constant/Constable -/
def k2 : Class := { plain "java/lang/constant/Constable" (some 0) with
  accessFlags := 1537
  interfaces := #[]
  cf := some (fileOf pool2 1 #[] #[] 1537 3 #[] #[])
  fields := #[]
  methods := #[]
  instanceTypes := #[]
  staticTypes := #[]
  resolved := Array.replicate 11 none
  statics := none }

def pool3 : Array CpInfo := pool [(1, .class_ 2), (0, u "java/lang/Comparable"), (0, .class_ 4), (0, u "java/lang/Object")] 7

/-- java/lang/Comparable -/
def k3 : Class := { plain "java/lang/Comparable" (some 0) with
  accessFlags := 1537
  interfaces := #[]
  cf := some (fileOf pool3 1 #[] #[] 1537 3 #[] #[])
  fields := #[]
  methods := #[]
  instanceTypes := #[]
  staticTypes := #[]
  resolved := Array.replicate 12 none
  statics := none }

def pool4 : Array CpInfo := pool [(1, .class_ 2), (0, u "java/io/Serializable"), (0, .class_ 4), (0, u "java/lang/Object")] 2

/-- java/io/Serializable -/
def k4 : Class := { plain "java/io/Serializable" (some 0) with
  accessFlags := 1537
  interfaces := #[]
  cf := some (fileOf pool4 1 #[] #[] 1537 3 #[] #[])
  fields := #[]
  methods := #[]
  instanceTypes := #[]
  staticTypes := #[]
  resolved := Array.replicate 7 none
  statics := none }

def pool5 : Array CpInfo := pool [(2, .class_ 4), (1, u "java/lang/Enum"), (0, u "name"), (0, u "Ljava/lang/String;"), (2, u "ordinal"), (0, u "I"), (1, .class_ 14), (1, u "java/lang/Object"), (4, u "hash"), (86, .class_ 108), (1, u "java/lang/Enum$EnumDesc"), (2, .class_ 112), (0, u "java/lang/constant/Constable"), (0, .class_ 114), (0, u "java/lang/Comparable"), (0, .class_ 116), (0, u "java/io/Serializable")] 87

/-- java/lang/Enum -/
def k5 : Class := { plain "java/lang/Enum" (some 0) with
  accessFlags := 1057
  interfaces := #[2, 3, 4]
  cf := some (fileOf pool5 2 #[.nestMembers #[106]] #[] 1057 12 #[111, 113, 115] #[{ accessFlags := 18, nameIndex := 5, descriptorIndex := 6, attributes := #[] }, { accessFlags := 18, nameIndex := 9, descriptorIndex := 10, attributes := #[] }, { accessFlags := 2, nameIndex := 19, descriptorIndex := 10, attributes := #[] }])
  fields := #[{ name := "name", type := (.object "java/lang/String"), accessFlags := 18, slot := 0, constantValue := 0 }, { name := "ordinal", type := .int, accessFlags := 18, slot := 1, constantValue := 0 }, { name := "hash", type := .int, accessFlags := 2, slot := 2, constantValue := 0 }]
  methods := #[]
  instanceTypes := #[(.object "java/lang/String"), .int, .int]
  staticTypes := #[]
  resolved := Array.replicate 204 none
  statics := none }

def pool6 : Array CpInfo := pool [(1, .class_ 2), (0, u "com/example/retrace/retrace/clickmodel/Prior"), (2, u "UNIFORM"), (0, u "Lcom/example/retrace/retrace/clickmodel/Prior;"), (2, u "POOLED"), (2, u "NONE"), (2, u "$VALUES"), (0, u "[Lcom/example/retrace/retrace/clickmodel/Prior;"), (6, .class_ 25), (1, u "java/lang/Enum"), (6, .fieldref 1 33), (0, .nameAndType 34 35), (0, u "pseudoSuccesses"), (0, u "D"), (0, .fieldref 1 37), (0, .nameAndType 38 35), (0, u "pseudoTrials"), (2, u "pooled"), (0, u "Z"), (30, u "estimate"), (0, u "(DD)D")] 58

def k6c0 : Code := { maxStack := 6, maxLocals := 5, code := prog_51_method_5_code, exceptionTable := #[], attributes := #[] }
def k6m0 : Method := { name := "estimate", desc := "(DD)D", sig := { parameters := [.double, .double], returnType := some .double }, accessFlags := 1, code := some k6c0 }
/-- com/example/retrace/retrace/clickmodel/Prior -/
def k6 : Class := { plain "com/example/retrace/retrace/clickmodel/Prior" (some 5) with
  accessFlags := 16433
  interfaces := #[]
  cf := some (fileOf pool6 1 #[] #[{ accessFlags := 1, nameIndex := 73, descriptorIndex := 74, attributes := #[] }] 16433 23 #[] #[{ accessFlags := 16409, nameIndex := 5, descriptorIndex := 6, attributes := #[] }, { accessFlags := 16409, nameIndex := 9, descriptorIndex := 6, attributes := #[] }, { accessFlags := 16409, nameIndex := 12, descriptorIndex := 6, attributes := #[] }, { accessFlags := 18, nameIndex := 34, descriptorIndex := 35, attributes := #[] }, { accessFlags := 18, nameIndex := 38, descriptorIndex := 35, attributes := #[] }, { accessFlags := 18, nameIndex := 41, descriptorIndex := 42, attributes := #[] }, { accessFlags := 4122, nameIndex := 15, descriptorIndex := 16, attributes := #[] }])
  fields := #[{ name := "UNIFORM", type := (.object "com/example/retrace/retrace/clickmodel/Prior"), accessFlags := 16409, slot := 0, constantValue := 0 }, { name := "POOLED", type := (.object "com/example/retrace/retrace/clickmodel/Prior"), accessFlags := 16409, slot := 1, constantValue := 0 }, { name := "NONE", type := (.object "com/example/retrace/retrace/clickmodel/Prior"), accessFlags := 16409, slot := 2, constantValue := 0 }, { name := "pseudoSuccesses", type := .double, accessFlags := 18, slot := 3, constantValue := 0 }, { name := "pseudoTrials", type := .double, accessFlags := 18, slot := 4, constantValue := 0 }, { name := "pooled", type := .boolean, accessFlags := 18, slot := 5, constantValue := 0 }, { name := "$VALUES", type := (.array (.object "com/example/retrace/retrace/clickmodel/Prior")), accessFlags := 4122, slot := 3, constantValue := 0 }]
  methods := #[k6m0]
  instanceTypes := #[(.object "java/lang/String"), .int, .int, .double, .double, .boolean]
  staticTypes := #[(.object "com/example/retrace/retrace/clickmodel/Prior"), (.object "com/example/retrace/retrace/clickmodel/Prior"), (.object "com/example/retrace/retrace/clickmodel/Prior"), (.array (.object "com/example/retrace/retrace/clickmodel/Prior"))]
  resolved := Array.replicate 133 none
  statics := some 0 }

def pool7 : Array CpInfo := pool [(1, u "java/lang/Cloneable"), (0, .class_ 1), (0, u "java/lang/Object"), (0, .class_ 3)] 3

/-- java/lang/Cloneable -/
def k7 : Class := { plain "java/lang/Cloneable" (some 0) with
  accessFlags := 1537
  interfaces := #[]
  cf := some (fileOf pool7 2 #[] #[] 1537 4 #[] #[])
  fields := #[]
  methods := #[]
  instanceTypes := #[]
  staticTypes := #[]
  resolved := Array.replicate 8 none
  statics := none }

/-- the primitive byte -/
def k8 : Class := { plain "byte" none with kind := .primitive 'B', accessFlags := 0x411 }
/-- [B -/
def k9 : Class := { plain "[B" (some 0) with kind := .array 8 .byte, interfaces := #[7, 4], accessFlags := 1041 }

/-- the primitive int -/
def k10 : Class := { plain "int" none with kind := .primitive 'I', accessFlags := 0x411 }
/-- [I -/
def k11 : Class := { plain "[I" (some 0) with kind := .array 10 .int, interfaces := #[7, 4], accessFlags := 1041 }

def heap : Heap := #[{ cls := 6, slots := #[.ref 1, .ref 2, .ref 3, .null], vm := .statics 6 },
  { cls := 6, slots := #[.null, .int 0, .int 0, .double 4607182418800017408, .double 4611686018427387904, .int 0], vm := .none },
  { cls := 6, slots := #[.null, .int 0, .int 0, .double 4607182418800017408, .double 4611686018427387904, .int 0], vm := .none },
  { cls := 6, slots := #[.null, .int 0, .int 0, .double 0, .double 0, .int 0], vm := .none }]
def classes : Array Class := #[k0, k1, k2, k3, k4, k5, k6, k7, k8, k9, k10, k11]
def interned : List (Array UInt16 × Addr) := []
def slotsUsed : Nat := 22
def theMethod : MethodId := ⟨1, 1⟩
def args0 : Array Value := #[.int 5, .int 7, .int 9]
def aboutOver (below : List Frame) : State where
  vm := { classes := classes, interned := interned.toArray }
  heap := heap
  slotsUsed := slotsUsed
  threads := #[{ frames := .invoking theMethod args0 :: below }]
def below0 : List Frame := [.native { method := ⟨0, 0⟩, args := #[] }]
def about1 : State := aboutOver below0
def p0 : Program := .bare "" "" ""
def e0 : Env := launch0.env 0 0 0
theorem w_frames : about1.frames = Frame.invoking theMethod args0 :: below0 := rfl
set_option maxRecDepth 65536 in
theorem w_args : argsFit about1.vm theMethod args0 = true := by decide +kernel
set_option maxRecDepth 65536 in
theorem w_heap : heapFits about1 = true := by decide +kernel
set_option maxRecDepth 65536 in
theorem w_runnable : about1.curStatus? = some .runnable := by decide +kernel
set_option maxRecDepth 65536 in
theorem w_alone : about1.alone = true := by decide +kernel
set_option maxRecDepth 65536 in
theorem w_named : about1.methodNamed? x = some theMethod := by decide +kernel
set_option maxRecDepth 65536 in
theorem w_hears : about1.hears theMethod below0 = true := by decide +kernel
set_option maxRecDepth 65536 in
theorem w_ripe : about1.ripe theMethod args0 below0 = true := by decide +kernel
theorem w_running : about1.status = .running := rfl
set_option maxRecDepth 65536 in
theorem w_room : about1.hasRoom e0.platform room_1 = true :=
  launch0.hasRoom_least _ room_1 (by decide +kernel) (by decide +kernel) (by decide +kernel) (by decide +kernel) (by decide +kernel) (by decide +kernel)
theorem allAtoms_all (ts : List Jvm.Cond) (a : Array Jvm.Value) (st : Jvm.State) : (allAtoms ts).before a st = ts.all (fun c => c.before a st) := by
  induction ts with
  | nil => rfl
  | cons c t ih =>
    show (Jvm.Cond.and c (allAtoms t)).before a st = _
    rw [Jvm.Cond.before_and, ih, List.all_cons]
def words1 : List Jvm.Cond := Jvm.Cond.code x code maxLocals ret :: tables_1
/-- a 'code' word, met by the world's own term for the bytes: nothing is compared byte by byte -/
theorem code_word {y : MethodName} {bytes : ByteArray} {mx : Nat} {rt : Option FieldType} {a : Array Value} {s : State} {m : MethodId} {meth : Method} {c : Code} (h1 : s.methodNamed? y = some m) (h2 : s.vm.method? m = some meth) (h3 : meth.code = some c) (h4 : c.code = bytes)
    (h5 : (c.maxLocals == mx && c.exceptionTable.isEmpty && decide (c.maxStack ≤ mostOperands) && decide (meth.sig.returnType = rt) && !meth.locks && decide (parseMethodDescriptor y.desc = some meth.sig)) = true) : (Jvm.Cond.code y bytes mx rt).before a s = true := by
  simp only [Bool.and_eq_true, beq_iff_eq, Bool.not_eq_true', decide_eq_true_eq] at h5
  obtain ⟨⟨⟨⟨⟨g1, g2⟩, g3⟩, g4⟩, g5⟩, g6⟩ := h5
  simp [Cond.before, Cond.holds, Cond.value, h1, h2, h3, h4, g1, g2, g3, g4, g5, g6]
def isCode : Jvm.Cond → Bool
  | .code _ _ _ _ => true
  | _ => false
theorem all_split {L : List Jvm.Cond} {P : Jvm.Cond → Bool} (h1 : L.all (fun c => isCode c || P c) = true) (h2 : ∀ c ∈ L.filter isCode, P c = true) : L.all P = true := by
  refine List.all_eq_true.mpr fun c hc => ?_
  have h := List.all_eq_true.mp h1 c hc
  rcases Bool.eq_false_or_eq_true (isCode c) with hi | hi
  · exact h2 c (List.mem_filter.mpr ⟨hc, hi⟩)
  · simpa [hi] using h
set_option maxRecDepth 65536 in
theorem w_c0 : (Jvm.Cond.code x code maxLocals ret).before args0 about1 = true := code_word (m := ⟨1, 1⟩) (meth := k1m1) (c := k1c1) (by decide +kernel) rfl rfl rfl (by decide +kernel)
set_option maxRecDepth 65536 in
theorem w_c1 : (Jvm.Cond.code ({ cls := "com/example/retrace/retrace/clickmodel/Prior", name := "estimate", desc := "(DD)D" } : Jvm.MethodName) prog_51_method_5_code (5 : Nat) (Option.some Jvm.ClassFile.FieldType.double)).before args0 about1 = true := code_word (m := ⟨6, 0⟩) (meth := k6m0) (c := k6c0) (by decide +kernel) rfl rfl rfl (by decide +kernel)
def codes1 : List Jvm.Cond := [Jvm.Cond.code x code maxLocals ret, Jvm.Cond.code ({ cls := "com/example/retrace/retrace/clickmodel/Prior", name := "estimate", desc := "(DD)D" } : Jvm.MethodName) prog_51_method_5_code (5 : Nat) (Option.some Jvm.ClassFile.FieldType.double)]
set_option maxRecDepth 65536 in
theorem codes_eq : words1.filter isCode = codes1 := rfl
theorem w_codes : ∀ c ∈ words1.filter isCode, c.before args0 about1 = true := by
  rw [codes_eq]
  intro c hc
  simp only [codes1, List.mem_cons, List.not_mem_nil, or_false] at hc
  rcases hc with rfl | rfl
  · exact w_c0
  · exact w_c1
set_option maxRecDepth 65536 in
theorem w_t1 : words1.all (fun c => isCode c || c.before args0 about1) = true := by decide +kernel
theorem w_tables : (allAtoms (Jvm.Cond.code x code maxLocals ret :: tables_1)).before args0 about1 = true := by
  rw [allAtoms_all]
  show words1.all (fun c => c.before args0 about1) = true
  refine all_split ?_ w_codes
  rw [w_t1]
set_option maxRecDepth 65536 in
theorem w_case : (Jvm.Cond.and given_1 narrow_1).before args0 about1 = true := by decide +kernel
theorem w_applies : (headSpec (Jvm.Cond.code x code maxLocals ret :: tables_1) room_1).applies x e0.platform about1 = true :=
  (Spec.applies_iff w_frames).mpr ⟨w_running, w_runnable, w_alone, w_named, w_hears, w_ripe, w_room, w_tables⟩
theorem atStart : AtStart classFile x code maxLocals ret World_1 tables_1 room_1 Calls_1 rest_1 Pre_1 launch0 p0 e0 about1 theMethod args0 below0 :=
  ⟨lists_1, trivial, launch0.admits_env _ _ _, launch0.least_env, fairChoices_fair.cas, fairChoices_fair.clock, w_frames, w_args, w_heap, w_applies, trivial, trivial, w_case⟩
end start1
theorem witness_1 : WitnessClaimed_1 := ⟨start1.p0, start1.e0, start1.about1, start1.theMethod, start1.args0, start1.below0, start1.atStart⟩
end Jvm.Pilot.@@N@@
