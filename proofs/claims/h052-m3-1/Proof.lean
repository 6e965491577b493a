import JvmDerived
import JvmDerived.Pilot.@@N@@Statement
import JvmDerived.Pilot.@@N@@Code
set_option linter.unusedVariables false
set_option linter.unusedSimpArgs false
namespace Jvm.Pilot.@@N@@
open Jvm Jvm.ClassFile Sem Op Lib Jvm.Free Jvm.Stand Jvm.LawKit Jvm.RoadKit Bundle Jvm.Pilot.@@N@@.Jvm.D
section OwnKit
variable {p : Program} {l : Launch} {e : Env} {R : Room} {s : State} {m : MethodId} {args : Array Value} {below : List Frame} {meth : Method} {c : Code} {T : State} {locs : List Loc} {cells slots kc ks : Nat} {Q : Option Value → Heap → List Loc → Prop} {A B : State}
/-- the rest of a walk: from the state A the run comes to a return that Q describes -/
def OW (p : Program) (e : Env) (below : List Frame) (s : State) (Q : Option Value → Heap → List Loc → Prop) (kc ks : Nat) (A : State) : Prop :=
  ∃ s₂ o, Steps p.tables e below A s₂ ∧ s₂.status = .running ∧ Ended s₂ below o ∧ ∃ v L, o = .returned v ∧ Q v s₂.heap L ∧ FrameEnd s o s₂ L kc ks
theorem OW.st (h : ∀ t, Steps p.tables e below B t → Steps p.tables e below A t) (k : OW p e below s Q kc ks B) : OW p e below s Q kc ks A := by
  obtain ⟨a, o, h1, h2⟩ := k; exact ⟨a, o, h _ h1, h2⟩
theorem OW.tr (h : Steps p.tables e below A B) (k : OW p e below s Q kc ks B) : OW p e below s Q kc ks A := by
  obtain ⟨a, o, h1, h2⟩ := k; exact ⟨a, o, h.trans h1, h2⟩
theorem OW.ret (X : Stand p l e R s m args below meth c T locs cells slots) (hx : p.tables.exec = Jvm.exec) (hlk : meth.locks = false) {pc : Nat} {Ls : Array Slot} {w : Value} {t : FieldType} {i : Instr} {rest : List Value} (hret : meth.sig.returnType = some t) (hn : narrow t w = w)
    (hi : (i = .ireturn ∧ (t = .int ∨ t = .boolean ∨ t = .byte ∨ t = .char ∨ t = .short) ∧ ∃ z, w = .int z) ∨ (i = .lreturn ∧ t = .long ∧ ∃ z, w = .long z) ∨ (i = .dreturn ∧ t = .double ∧ ∃ z, w = .double z) ∨ (i = .freturn ∧ t = .float ∧ ∃ z, w = .float z) ∨ (i = .areturn ∧ t.isReference = true ∧ w.isRef = true))
    (hd : decode c.code pc = .ok (i, 1)) {h : Heap} (eT : T.heap = h) (hc : cells ≤ kc) (hs : slots ≤ ks) (q : Q (some w) h locs) : OW p e below s Q kc ks (T.setTop (mkF m pc Ls (w :: rest))) := by
  obtain ⟨fs, hr, hrun, hended, hW, hsame⟩ := X.leave (v := some w) (fun h => by rw [hret] at h; cases h) hlk
  subst eT
  exact ⟨_, _, retOut X hx hret hn hi hd hr, hrun, hended, _, _, rfl, q, ⟨_, rfl⟩, hW, hsame.mono hc hs⟩
theorem OW.retV (X : Stand p l e R s m args below meth c T locs cells slots) (hx : p.tables.exec = Jvm.exec) (hlk : meth.locks = false) {pc : Nat} {Ls : Array Slot} (hret : meth.sig.returnType = none)
    (hd : decode c.code pc = .ok (.return_, 1)) {h : Heap} (eT : T.heap = h) (hc : cells ≤ kc) (hs : slots ≤ ks) (q : Q none h locs) : OW p e below s Q kc ks (T.setTop (mkF m pc Ls [])) := by
  obtain ⟨fs, hr, hrun, hended, hW, hsame⟩ := X.leave (v := none) (fun _ => rfl) hlk
  subst eT
  exact ⟨_, _, X.returnOut hx hret hd hr, hrun, hended, _, _, rfl, q, ⟨_, rfl⟩, hW, hsame.mono hc hs⟩
/-- the same for a walk that may intern: its Stand is over 's.setVm vm0' -/
def OWW (p : Program) (e : Env) (below : List Frame) (s : State) (Q : Option Value → Heap → List Loc → Prop) (kc ks : Nat) (A : State) : Prop :=
  ∃ s₂ o, Steps p.tables e below A s₂ ∧ s₂.status = .running ∧ Ended s₂ below o ∧ ∃ v L, o = .returned v ∧ Q v s₂.heap L ∧ ReturnedEndW s o s₂ L kc ks
theorem OWW.st (h : ∀ t, Steps p.tables e below B t → Steps p.tables e below A t) (k : OWW p e below s Q kc ks B) : OWW p e below s Q kc ks A := by
  obtain ⟨a, o, h1, h2⟩ := k; exact ⟨a, o, h _ h1, h2⟩
theorem OWW.tr (h : Steps p.tables e below A B) (k : OWW p e below s Q kc ks B) : OWW p e below s Q kc ks A := by
  obtain ⟨a, o, h1, h2⟩ := k; exact ⟨a, o, h.trans h1, h2⟩
theorem OWW.ret {vm0 : Vm} {k0 : Nat} (X : Stand p l e R (s.setVm vm0) m args below meth c T locs cells slots) {h : Heap} (hS : s.Since vm0 k0) (hk : k0 ≤ h.size) (hx : p.tables.exec = Jvm.exec) (hlk : meth.locks = false) {pc : Nat} {Ls : Array Slot} {w : Value} {t : FieldType} {i : Instr} {rest : List Value} (hret : meth.sig.returnType = some t) (hn : narrow t w = w)
    (hi : (i = .ireturn ∧ (t = .int ∨ t = .boolean ∨ t = .byte ∨ t = .char ∨ t = .short) ∧ ∃ z, w = .int z) ∨ (i = .lreturn ∧ t = .long ∧ ∃ z, w = .long z) ∨ (i = .dreturn ∧ t = .double ∧ ∃ z, w = .double z) ∨ (i = .freturn ∧ t = .float ∧ ∃ z, w = .float z) ∨ (i = .areturn ∧ t.isReference = true ∧ w.isRef = true))
    (hd : decode c.code pc = .ok (i, 1)) (eT : T.heap = h) (hc : cells ≤ kc) (hs : slots ≤ ks) (q : Q (some w) h locs) : OWW p e below s Q kc ks (T.setTop (mkF m pc Ls (w :: rest))) := by
  obtain ⟨fs, hr, hrun, hended, hW, hsame⟩ := X.leave (v := some w) (fun h => by rw [hret] at h; cases h) hlk
  subst eT
  obtain ⟨g1, g2, g3⟩ := hS.ended (U := T.setFrames fs) hW hk hsame
  exact ⟨_, _, retOut X hx hret hn hi hd hr, hrun, hended, _, _, rfl, q, ⟨_, rfl⟩, g1, g2, g3.mono hc hs⟩
theorem OWW.retV {vm0 : Vm} {k0 : Nat} (X : Stand p l e R (s.setVm vm0) m args below meth c T locs cells slots) {h : Heap} (hS : s.Since vm0 k0) (hk : k0 ≤ h.size) (hx : p.tables.exec = Jvm.exec) (hlk : meth.locks = false) {pc : Nat} {Ls : Array Slot} (hret : meth.sig.returnType = none)
    (hd : decode c.code pc = .ok (.return_, 1)) (eT : T.heap = h) (hc : cells ≤ kc) (hs : slots ≤ ks) (q : Q none h locs) : OWW p e below s Q kc ks (T.setTop (mkF m pc Ls [])) := by
  obtain ⟨fs, hr, hrun, hended, hW, hsame⟩ := X.leave (v := none) (fun _ => rfl) hlk
  subst eT
  obtain ⟨g1, g2, g3⟩ := hS.ended (U := T.setFrames fs) hW hk hsame
  exact ⟨_, _, X.returnOut hx hret hd hr, hrun, hended, _, _, rfl, q, ⟨_, rfl⟩, g1, g2, g3.mono hc hs⟩
end OwnKit
section OwnWords
variable {args : Array Value} {first s : State} {o : Option Outcome} {idx : List Nat} {t : Term}
theorem own_eq_int {k : Int32} (h : (Jvm.Cond.eq t (.int k)).value args first o s idx = some true) : t.eval args first o idx s = some (.int k) := by
  obtain ⟨x, y, h1, h2, k1, k2⟩ := cmp_v (Or.inl h)
  rw [Term.int_eval] at h2
  cases h2
  obtain ⟨z, rfl⟩ := k2
  rw [h1, gotT (Cond.eq_ints h1 (Term.int_eval k)) h]
theorem own_eq_ref {u : Term} {a : Addr} (h : (Jvm.Cond.eq t u).value args first o s idx = some true) (hu : u.eval args first o idx s = some (.ref a)) : t.eval args first o idx s = some (.ref a) := by
  obtain ⟨x, y, h1, h2, k1, k2⟩ := cmp_v (Or.inl h)
  cases hu.symm.trans h2
  have q := gotT (eq_R h1 hu k2.2 rfl) h
  rw [h1, q]
theorem own_eq_dbl {n : Int64} {b : UInt64} (hb : Jvm.Unary.bitsD.apply (.long n) = some (.double b)) (h : (Jvm.Cond.eq t (.op1 .bitsD (.long n))).value args first o s idx = some true) : t.eval args first o idx s = some (.double b) := by
  obtain ⟨x, y, h1, h2, k1, k2⟩ := cmp_v (Or.inl h)
  rw [op1_f (long_at n), hb] at h2
  cases h2
  obtain ⟨z, rfl⟩ := k2
  have h3 : (Term.op1 Jvm.Unary.bitsD (.long n)).eval args first o idx s = some (.double b) := by rw [op1_f (long_at n), hb]
  simp only [Cond.value, h1, h3, Option.some.injEq, decide_eq_true_eq] at h
  rw [h1, h]
theorem own_arr {ty : FieldType} {a : Addr} {z : Int32} (ev : t.eval args s none [] s = some (.ref a)) (ha : (Jvm.Cond.arrayOf t ty).value args s none s [] = some true) (hl : (Term.length t).eval args s none [] s = some (.int z)) :
    ∃ cl : Cell, Arr s s.heap a cl ty ∧ cl.slots.size < 2 ^ 31 ∧ cl.slots.size.toInt32 = z ∧ ∀ j : Int32, ¬ j < 0 → ∀ v, (Term.elem t (.int j)).eval args s none [] s = some v → cl.slots[j.toNatClampNeg]? = some v := by
  obtain ⟨cl, A⟩ := Arr.start ev ha
  have hat := A.fin (Vm.Alike.refl _)
  have hlt : cl.slots.size < 2 ^ 31 := by
    refine Decidable.byContradiction fun q => ?_
    simp [Term.eval, ev, hat, q] at hl
  refine ⟨cl, A, hlt, ?_, fun j hj v hv => ?_⟩
  · rw [len_f ev hat hlt] at hl; exact Value.int.inj (Option.some.inj hl)
  · rw [elem_f ev (Term.int_eval j) hat hj] at hv; exact hv
end OwnWords
theorem own_oldle {Z : State} {n0 : Nat} {h : Heap} (X : Old Z n0 h) : n0 ≤ h.size := X.1 ▸ X.2.1
theorem own_cat {v : Value} (h : v.isRef = true) : v.category = 1 := by cases v <;> first | rfl | simp [Value.isRef] at h
theorem own_nar {v : Value} {t : FieldType} (h : v.isRef = true) (ht : t.isReference = true) : narrow t v = v := by cases t <;> first | (cases ht; done) | (cases v <;> first | rfl | simp [Value.isRef] at h)
theorem own_fit {v : Value} {t : FieldType} (h : v.isRef = true) (ht : t.isReference = true) : fits t v = true := by cases t <;> first | (cases ht; done) | (cases v <;> first | rfl | simp [Value.isRef] at h)

theorem own_nz {r : Int32} (h : r = 0 ∨ r = 1) : narrow .boolean (.int r) = .int r := by rcases h with rfl | rfl <;> rfl
theorem own_fz {r : Int32} (h : r = 0 ∨ r = 1) : fits .boolean (.int r) = true := by rcases h with rfl | rfl <;> rfl
theorem own_catI (z : Int32) : (Value.int z).category = 1 := rfl
theorem own_catJ (z : Int64) : (Value.long z).category = 2 := rfl
theorem own_catD (z : UInt64) : (Value.double z).category = 2 := rfl
theorem own_catR (z : Addr) : (Value.ref z).category = 1 := rfl
theorem own_catN : (Value.null).category = 1 := rfl
section OwnHeld
open Jvm.Free.SB Jvm.Free.SBG
variable {p : Program} {l : Launch} {e : Env} {R : Room} {s : State} {m : MethodId} {args : Array Value} {below : List Frame} {meth : Method} {c : Code} {T : State} {locs : List Loc} {cells slots kc ks : Nat} {Q : Option Value → Heap → List Loc → Prop} {A B : State} {Z : State} {EL : List (String × Nat)} {h0 : Heap} {a0 : Array Value}
/-- the rest of a walk that may intern, and keeps what is held of the String constants EL -/
def OWH (Z : State) (EL : List (String × Nat)) (h0 : Heap) (p : Program) (e : Env) (below : List Frame) (s : State) (Q : Option Value → Heap → List Loc → Prop) (kc ks : Nat) (A : State) : Prop :=
  ∃ s₂ o, Steps p.tables e below A s₂ ∧ s₂.status = .running ∧ Ended s₂ below o ∧ ∃ v L, o = .returned v ∧ Q v s₂.heap L ∧ CHr Z EL s.vm h0 s₂.vm s₂.heap ∧ ReturnedEndW s o s₂ L kc ks
theorem OWH.st (h : ∀ t, Steps p.tables e below B t → Steps p.tables e below A t) (k : OWH Z EL h0 p e below s Q kc ks B) : OWH Z EL h0 p e below s Q kc ks A := by
  obtain ⟨a, o, h1, h2⟩ := k; exact ⟨a, o, h _ h1, h2⟩
theorem OWH.tr (h : Steps p.tables e below A B) (k : OWH Z EL h0 p e below s Q kc ks B) : OWH Z EL h0 p e below s Q kc ks A := by
  obtain ⟨a, o, h1, h2⟩ := k; exact ⟨a, o, h.trans h1, h2⟩
theorem OWH.ret {vm0 : Vm} {k0 : Nat} (X : Stand p l e R (s.setVm vm0) m args below meth c T locs cells slots) {h : Heap} (hS : s.Since vm0 k0) (hk : k0 ≤ h.size) (hx : p.tables.exec = Jvm.exec) (hlk : meth.locks = false) (CR : CHr Z EL s.vm h0 vm0 h) (hZ : Z.Warmed39 vm0) (hEL : EW Z a0 EL) {pc : Nat} {Ls : Array Slot} {w : Value} {t : FieldType} {i : Instr} {rest : List Value} (hret : meth.sig.returnType = some t) (hn : narrow t w = w)
    (hi : (i = .ireturn ∧ (t = .int ∨ t = .boolean ∨ t = .byte ∨ t = .char ∨ t = .short) ∧ ∃ z, w = .int z) ∨ (i = .lreturn ∧ t = .long ∧ ∃ z, w = .long z) ∨ (i = .dreturn ∧ t = .double ∧ ∃ z, w = .double z) ∨ (i = .freturn ∧ t = .float ∧ ∃ z, w = .float z) ∨ (i = .areturn ∧ t.isReference = true ∧ w.isRef = true))
    (hd : decode c.code pc = .ok (i, 1)) (eT : T.heap = h) (hc : cells ≤ kc) (hs : slots ≤ ks) (q : Q (some w) h locs) : OWH Z EL h0 p e below s Q kc ks (T.setTop (mkF m pc Ls (w :: rest))) := by
  obtain ⟨fs, hr, hrun, hended, hW, hsame⟩ := X.leave (v := some w) (fun h => by rw [hret] at h; cases h) hlk
  subst eT
  have CA := CHv.at X hZ hEL CR.1
  obtain ⟨g1, g2, g3⟩ := hS.ended (U := T.setFrames fs) hW hk hsame
  exact ⟨_, _, retOut X hx hret hn hi hd hr, hrun, hended, _, _, rfl, q, CR.trans CA, ⟨_, rfl⟩, g1, g2, g3.mono hc hs⟩
theorem OWH.retV {vm0 : Vm} {k0 : Nat} (X : Stand p l e R (s.setVm vm0) m args below meth c T locs cells slots) {h : Heap} (hS : s.Since vm0 k0) (hk : k0 ≤ h.size) (hx : p.tables.exec = Jvm.exec) (hlk : meth.locks = false) (CR : CHr Z EL s.vm h0 vm0 h) (hZ : Z.Warmed39 vm0) (hEL : EW Z a0 EL) {pc : Nat} {Ls : Array Slot} (hret : meth.sig.returnType = none)
    (hd : decode c.code pc = .ok (.return_, 1)) (eT : T.heap = h) (hc : cells ≤ kc) (hs : slots ≤ ks) (q : Q none h locs) : OWH Z EL h0 p e below s Q kc ks (T.setTop (mkF m pc Ls [])) := by
  obtain ⟨fs, hr, hrun, hended, hW, hsame⟩ := X.leave (v := none) (fun _ => rfl) hlk
  subst eT
  have CA := CHv.at X hZ hEL CR.1
  obtain ⟨g1, g2, g3⟩ := hS.ended (U := T.setFrames fs) hW hk hsame
  exact ⟨_, _, X.returnOut hx hret hd hr, hrun, hended, _, _, rfl, q, CR.trans CA, ⟨_, rfl⟩, g1, g2, g3.mono hc hs⟩
/-- a String whose value isn't set yet is none of the booked ones -/
theorem own_safeS {vm : Vm} {h : Heap} {x : Addr} (hal : Z.vm.Alike vm) (E : Exa Z h x "java/lang/String") (F : Fld Z h x "java/lang/String" "value" "[B" .null) : Safe Z EL vm h x := fun Bx => by
  obtain ⟨q0, -, u, a, -, q, -, S, rfl | rfl⟩ := Bx
  · obtain ⟨cS, ⟨⟨s1, s2, s3, ⟨cv, kv, iv, s4, s4'⟩, -, s6, -, s8, -⟩, -⟩, -⟩ := S
    obtain ⟨cell, cf, k, i, f, e1, e2, e3, e4, e5, e6, e7⟩ := F
    cases (show h[q.sa]? = some q.sC from s1).symm.trans e1
    obtain ⟨kv', z4⟩ := ff_back (U := Wst Z vm h) hal s4
    have z5 := z4.symm.trans e2
    simp only [Option.some.injEq, Prod.mk.injEq] at z5
    rw [← z5.2.2.2, s8] at e7
    cases e7
  · obtain ⟨cell, k, e1, e2, e3, -, -⟩ := E
    cases (show h[q.sd]? = some q.SA from S.hd).symm.trans e1
    obtain ⟨cS, -, -, f, -⟩ := S
    have f' : vm.findClass "[B" = some q.SA.cls := f
    rw [hal.findClass] at f'
    obtain ⟨k1, q1, q2⟩ := Vm.findClass_spec f'
    obtain ⟨k2, q3, q4⟩ := Vm.findClass_spec e2
    cases q1.symm.trans q3
    exact absurd (q2.symm.trans q4) (by decide)
theorem own_neTy {h : Heap} {a b : Addr} {k1 k2 : ClassId} {t1 t2 : FieldType} {z1 z2 : Int32} {v1 v2 : List Value} {d1 d2 : Value} (A : Arv Z h a k1 t1 z1 v1 d1) (B : Arv Z h b k2 t2 z2 v2 d2) (ht : t1 ≠ t2) : a ≠ b := fun q => by
  subst q
  obtain ⟨c1, ⟨e1, ⟨-, ka, ha, ca, na⟩, -⟩, -⟩ := A
  obtain ⟨c2, ⟨e2, ⟨-, kb, hb, cb, nb⟩, -⟩, -⟩ := B
  cases e1.symm.trans e2
  cases ha.symm.trans hb
  have := na.symm.trans nb
  injection this with _ e
  exact ht e
end OwnHeld
theorem w_0 {a0 : Array Value} {Z : State} (hw : ∀ d ∈ tables_1, d.before a0 Z = true) : (Jvm.Cond.constant "com/example/filter_to_where/filtertowhere/tree/LimitsRelationshipStepsPinLaw" (9 : Nat) (2147483647 : Int32)).before a0 Z = true := hw _ (List.mem_of_getElem? (i := 0) rfl)
theorem w_1 {a0 : Array Value} {Z : State} (hw : ∀ d ∈ tables_1, d.before a0 Z = true) : (Jvm.Cond.methodLink "com/example/filter_to_where/filtertowhere/tree/LimitsRelationshipStepsPinLaw" (10 : Nat) ({ cls := "com/example/filter_to_where/filtertowhere/tree/LimitsRelationshipStepsPinLaw", name := "pick", desc := "(JIII)C" } : Jvm.MethodName)).before a0 Z = true := hw _ (List.mem_of_getElem? (i := 1) rfl)
theorem w_2 {a0 : Array Value} {Z : State} (hw : ∀ d ∈ tables_1, d.before a0 Z = true) : (Jvm.Cond.static ({ cls := "com/example/filter_to_where/filtertowhere/tree/LimitsRelationshipStepsPinLaw", name := "pick", desc := "(JIII)C" } : Jvm.MethodName)).before a0 Z = true := hw _ (List.mem_of_getElem? (i := 2) rfl)
theorem w_3 {a0 : Array Value} {Z : State} (hw : ∀ d ∈ tables_1, d.before a0 Z = true) : (Jvm.Cond.initialized "com/example/filter_to_where/filtertowhere/tree/LimitsRelationshipStepsPinLaw").before a0 Z = true := hw _ (List.mem_of_getElem? (i := 3) rfl)
theorem w_4 {a0 : Array Value} {Z : State} (hw : ∀ d ∈ tables_1, d.before a0 Z = true) : (Jvm.Cond.code ({ cls := "com/example/filter_to_where/filtertowhere/tree/LimitsRelationshipStepsPinLaw", name := "pick", desc := "(JIII)C" } : Jvm.MethodName) method_2_code (5 : Nat) (Option.some Jvm.ClassFile.FieldType.char)).before a0 Z = true := hw _ (List.mem_of_getElem? (i := 4) rfl)
theorem w_5 {a0 : Array Value} {Z : State} (hw : ∀ d ∈ tables_1, d.before a0 Z = true) : (Jvm.Cond.constantLong "com/example/filter_to_where/filtertowhere/tree/LimitsRelationshipStepsPinLaw" (7 : Nat) (65535 : Int64)).before a0 Z = true := hw _ (List.mem_of_getElem? (i := 5) rfl)
theorem w_6 {a0 : Array Value} {Z : State} (hw : ∀ d ∈ tables_1, d.before a0 Z = true) : (Jvm.Cond.arrayClass Jvm.ClassFile.FieldType.char).before a0 Z = true := hw _ (List.mem_of_getElem? (i := 6) rfl)
theorem w_7 {a0 : Array Value} {Z : State} (hw : ∀ d ∈ tables_1, d.before a0 Z = true) : (Jvm.Cond.classLink "com/example/filter_to_where/filtertowhere/tree/LimitsRelationshipStepsPinLaw" (16 : Nat) "java/lang/String").before a0 Z = true := hw _ (List.mem_of_getElem? (i := 7) rfl)
theorem w_8 {a0 : Array Value} {Z : State} (hw : ∀ d ∈ tables_1, d.before a0 Z = true) : (Jvm.Cond.instantiable "java/lang/String" (4 : Nat)).before a0 Z = true := hw _ (List.mem_of_getElem? (i := 8) rfl)
theorem w_9 {a0 : Array Value} {Z : State} (hw : ∀ d ∈ tables_1, d.before a0 Z = true) : (Jvm.Cond.initialized "java/lang/String").before a0 Z = true := hw _ (List.mem_of_getElem? (i := 9) rfl)
theorem w_10 {a0 : Array Value} {Z : State} (hw : ∀ d ∈ tables_1, d.before a0 Z = true) : (Jvm.Cond.methodLink "com/example/filter_to_where/filtertowhere/tree/LimitsRelationshipStepsPinLaw" (18 : Nat) ({ cls := "java/lang/String", name := "<init>", desc := "([C)V" } : Jvm.MethodName)).before a0 Z = true := hw _ (List.mem_of_getElem? (i := 10) rfl)
theorem w_11 {a0 : Array Value} {Z : State} (hw : ∀ d ∈ tables_1, d.before a0 Z = true) : (Jvm.Cond.instanceMethod ({ cls := "java/lang/String", name := "<init>", desc := "([C)V" } : Jvm.MethodName)).before a0 Z = true := hw _ (List.mem_of_getElem? (i := 11) rfl)
theorem w_12 {a0 : Array Value} {Z : State} (hw : ∀ d ∈ tables_1, d.before a0 Z = true) : (Jvm.Cond.code ({ cls := "java/lang/String", name := "<init>", desc := "([C)V" } : Jvm.MethodName) jdk_42_method_3_code (2 : Nat) (Option.none : Option Jvm.ClassFile.FieldType)).before a0 Z = true := hw _ (List.mem_of_getElem? (i := 12) rfl)
theorem w_13 {a0 : Array Value} {Z : State} (hw : ∀ d ∈ tables_1, d.before a0 Z = true) : (Jvm.Cond.methodLink "java/lang/String" (27 : Nat) ({ cls := "java/lang/String", name := "<init>", desc := "([CIILjava/lang/Void;)V" } : Jvm.MethodName)).before a0 Z = true := hw _ (List.mem_of_getElem? (i := 13) rfl)
theorem w_14 {a0 : Array Value} {Z : State} (hw : ∀ d ∈ tables_1, d.before a0 Z = true) : (Jvm.Cond.instanceMethod ({ cls := "java/lang/String", name := "<init>", desc := "([CIILjava/lang/Void;)V" } : Jvm.MethodName)).before a0 Z = true := hw _ (List.mem_of_getElem? (i := 14) rfl)
theorem w_16 {a0 : Array Value} {Z : State} (hw : ∀ d ∈ tables_1, d.before a0 Z = true) : (Jvm.Cond.code ({ cls := "java/lang/String", name := "<init>", desc := "([CIILjava/lang/Void;)V" } : Jvm.MethodName) jdk_42_method_149_code (6 : Nat) (Option.none : Option Jvm.ClassFile.FieldType)).before a0 Z = true := hw _ (List.mem_of_getElem? (i := 16) rfl)
theorem w_17 {a0 : Array Value} {Z : State} (hw : ∀ d ∈ tables_1, d.before a0 Z = true) : (Jvm.Cond.methodLink "java/lang/String" (1 : Nat) ({ cls := "java/lang/Object", name := "<init>", desc := "()V" } : Jvm.MethodName)).before a0 Z = true := hw _ (List.mem_of_getElem? (i := 17) rfl)
theorem w_18 {a0 : Array Value} {Z : State} (hw : ∀ d ∈ tables_1, d.before a0 Z = true) : (Jvm.Cond.instanceMethod ({ cls := "java/lang/Object", name := "<init>", desc := "()V" } : Jvm.MethodName)).before a0 Z = true := hw _ (List.mem_of_getElem? (i := 18) rfl)
theorem w_19 {a0 : Array Value} {Z : State} (hw : ∀ d ∈ tables_1, d.before a0 Z = true) : (Jvm.Cond.code ({ cls := "java/lang/Object", name := "<init>", desc := "()V" } : Jvm.MethodName) object_method_1_code (1 : Nat) (Option.none : Option Jvm.ClassFile.FieldType)).before a0 Z = true := hw _ (List.mem_of_getElem? (i := 19) rfl)
theorem w_20 {a0 : Array Value} {Z : State} (hw : ∀ d ∈ tables_1, d.before a0 Z = true) : (Jvm.Cond.stringLink "java/lang/String" (7 : Nat) "").before a0 Z = true := hw _ (List.mem_of_getElem? (i := 20) rfl)
theorem w_21 {a0 : Array Value} {Z : State} (hw : ∀ d ∈ tables_1, d.before a0 Z = true) : (Jvm.Cond.arrayClass Jvm.ClassFile.FieldType.byte).before a0 Z = true := hw _ (List.mem_of_getElem? (i := 21) rfl)
theorem w_22 {a0 : Array Value} {Z : State} (hw : ∀ d ∈ tables_1, d.before a0 Z = true) : (Jvm.Cond.laysFinal "java/lang/String" "java/lang/String" "value" "[B").before a0 Z = true := hw _ (List.mem_of_getElem? (i := 22) rfl)
theorem w_23 {a0 : Array Value} {Z : State} (hw : ∀ d ∈ tables_1, d.before a0 Z = true) : (Jvm.Cond.laysFinal "java/lang/String" "java/lang/String" "coder" "B").before a0 Z = true := hw _ (List.mem_of_getElem? (i := 23) rfl)
theorem w_24 {a0 : Array Value} {Z : State} (hw : ∀ d ∈ tables_1, d.before a0 Z = true) : (Jvm.Cond.soleField "java/lang/String" "value").before a0 Z = true := hw _ (List.mem_of_getElem? (i := 24) rfl)
theorem w_25 {a0 : Array Value} {Z : State} (hw : ∀ d ∈ tables_1, d.before a0 Z = true) : (Jvm.Cond.soleField "java/lang/String" "coder").before a0 Z = true := hw _ (List.mem_of_getElem? (i := 25) rfl)
theorem w_26 {a0 : Array Value} {Z : State} (hw : ∀ d ∈ tables_1, d.before a0 Z = true) : (Jvm.Cond.fieldLink "java/lang/String" (9 : Nat) "java/lang/String" "value" "[B").before a0 Z = true := hw _ (List.mem_of_getElem? (i := 26) rfl)
theorem w_27 {a0 : Array Value} {Z : State} (hw : ∀ d ∈ tables_1, d.before a0 Z = true) : (Jvm.Cond.fieldLink "java/lang/String" (15 : Nat) "java/lang/String" "coder" "B").before a0 Z = true := hw _ (List.mem_of_getElem? (i := 27) rfl)
theorem w_28 {a0 : Array Value} {Z : State} (hw : ∀ d ∈ tables_1, d.before a0 Z = true) : (Jvm.Cond.methodLink "com/example/filter_to_where/filtertowhere/tree/LimitsRelationshipStepsPinLaw" (21 : Nat) ({ cls := "com/example/filter_to_where/filtertowhere/tree/LimitsRelationshipStepsPinLaw", name := "dot", desc := "(CII)I" } : Jvm.MethodName)).before a0 Z = true := hw _ (List.mem_of_getElem? (i := 28) rfl)
theorem w_29 {a0 : Array Value} {Z : State} (hw : ∀ d ∈ tables_1, d.before a0 Z = true) : (Jvm.Cond.static ({ cls := "com/example/filter_to_where/filtertowhere/tree/LimitsRelationshipStepsPinLaw", name := "dot", desc := "(CII)I" } : Jvm.MethodName)).before a0 Z = true := hw _ (List.mem_of_getElem? (i := 29) rfl)
theorem w_30 {a0 : Array Value} {Z : State} (hw : ∀ d ∈ tables_1, d.before a0 Z = true) : (Jvm.Cond.code ({ cls := "com/example/filter_to_where/filtertowhere/tree/LimitsRelationshipStepsPinLaw", name := "dot", desc := "(CII)I" } : Jvm.MethodName) method_3_code (3 : Nat) (Option.some Jvm.ClassFile.FieldType.int)).before a0 Z = true := hw _ (List.mem_of_getElem? (i := 30) rfl)
theorem w_31 {a0 : Array Value} {Z : State} (hw : ∀ d ∈ tables_1, d.before a0 Z = true) : (Jvm.Cond.methodLink "com/example/filter_to_where/filtertowhere/tree/LimitsRelationshipStepsPinLaw" (25 : Nat) ({ cls := "com/example/filter_to_where/filtertowhere/tree/Limits", name := "relationshipSteps", desc := "(Ljava/lang/String;)I" } : Jvm.MethodName)).before a0 Z = true := hw _ (List.mem_of_getElem? (i := 31) rfl)
theorem w_32 {a0 : Array Value} {Z : State} (hw : ∀ d ∈ tables_1, d.before a0 Z = true) : (Jvm.Cond.static ({ cls := "com/example/filter_to_where/filtertowhere/tree/Limits", name := "relationshipSteps", desc := "(Ljava/lang/String;)I" } : Jvm.MethodName)).before a0 Z = true := hw _ (List.mem_of_getElem? (i := 32) rfl)
theorem w_33 {a0 : Array Value} {Z : State} (hw : ∀ d ∈ tables_1, d.before a0 Z = true) : (Jvm.Cond.initialized "com/example/filter_to_where/filtertowhere/tree/Limits").before a0 Z = true := hw _ (List.mem_of_getElem? (i := 33) rfl)
theorem w_34 {a0 : Array Value} {Z : State} (hw : ∀ d ∈ tables_1, d.before a0 Z = true) : (Jvm.Cond.code ({ cls := "com/example/filter_to_where/filtertowhere/tree/Limits", name := "relationshipSteps", desc := "(Ljava/lang/String;)I" } : Jvm.MethodName) prog_52_method_2_code (3 : Nat) (Option.some Jvm.ClassFile.FieldType.int)).before a0 Z = true := hw _ (List.mem_of_getElem? (i := 34) rfl)
theorem w_35 {a0 : Array Value} {Z : State} (hw : ∀ d ∈ tables_1, d.before a0 Z = true) : (Jvm.Cond.methodLink "com/example/filter_to_where/filtertowhere/tree/Limits" (51 : Nat) ({ cls := "java/lang/String", name := "indexOf", desc := "(I)I" } : Jvm.MethodName)).before a0 Z = true := hw _ (List.mem_of_getElem? (i := 35) rfl)
theorem w_36 {a0 : Array Value} {Z : State} (hw : ∀ d ∈ tables_1, d.before a0 Z = true) : (Jvm.Cond.declares ({ cls := "java/lang/String", name := "indexOf", desc := "(I)I" } : Jvm.MethodName)).before a0 Z = true := hw _ (List.mem_of_getElem? (i := 36) rfl)
theorem w_37 {a0 : Array Value} {Z : State} (hw : ∀ d ∈ tables_1, d.before a0 Z = true) : (Jvm.Cond.instanceMethod ({ cls := "java/lang/String", name := "indexOf", desc := "(I)I" } : Jvm.MethodName)).before a0 Z = true := hw _ (List.mem_of_getElem? (i := 37) rfl)
theorem w_38 {a0 : Array Value} {Z : State} (hw : ∀ d ∈ tables_1, d.before a0 Z = true) : (Jvm.Cond.selects "java/lang/String" ({ cls := "java/lang/String", name := "indexOf", desc := "(I)I" } : Jvm.MethodName) ({ cls := "java/lang/String", name := "indexOf", desc := "(I)I" } : Jvm.MethodName)).before a0 Z = true := hw _ (List.mem_of_getElem? (i := 38) rfl)
theorem w_39 {a0 : Array Value} {Z : State} (hw : ∀ d ∈ tables_1, d.before a0 Z = true) : (Jvm.Cond.code ({ cls := "java/lang/String", name := "indexOf", desc := "(I)I" } : Jvm.MethodName) jdk_42_method_79_code (2 : Nat) (Option.some Jvm.ClassFile.FieldType.int)).before a0 Z = true := hw _ (List.mem_of_getElem? (i := 39) rfl)
theorem w_40 {a0 : Array Value} {Z : State} (hw : ∀ d ∈ tables_1, d.before a0 Z = true) : (Jvm.Cond.methodLink "java/lang/String" (633 : Nat) ({ cls := "java/lang/String", name := "indexOf", desc := "(II)I" } : Jvm.MethodName)).before a0 Z = true := hw _ (List.mem_of_getElem? (i := 40) rfl)
theorem w_41 {a0 : Array Value} {Z : State} (hw : ∀ d ∈ tables_1, d.before a0 Z = true) : (Jvm.Cond.declares ({ cls := "java/lang/String", name := "indexOf", desc := "(II)I" } : Jvm.MethodName)).before a0 Z = true := hw _ (List.mem_of_getElem? (i := 41) rfl)
theorem w_42 {a0 : Array Value} {Z : State} (hw : ∀ d ∈ tables_1, d.before a0 Z = true) : (Jvm.Cond.instanceMethod ({ cls := "java/lang/String", name := "indexOf", desc := "(II)I" } : Jvm.MethodName)).before a0 Z = true := hw _ (List.mem_of_getElem? (i := 42) rfl)
theorem w_43 {a0 : Array Value} {Z : State} (hw : ∀ d ∈ tables_1, d.before a0 Z = true) : (Jvm.Cond.selects "java/lang/String" ({ cls := "java/lang/String", name := "indexOf", desc := "(II)I" } : Jvm.MethodName) ({ cls := "java/lang/String", name := "indexOf", desc := "(II)I" } : Jvm.MethodName)).before a0 Z = true := hw _ (List.mem_of_getElem? (i := 43) rfl)
theorem w_44 {a0 : Array Value} {Z : State} (hw : ∀ d ∈ tables_1, d.before a0 Z = true) : (Jvm.Cond.code ({ cls := "java/lang/String", name := "indexOf", desc := "(II)I" } : Jvm.MethodName) jdk_42_method_80_code (3 : Nat) (Option.some Jvm.ClassFile.FieldType.int)).before a0 Z = true := hw _ (List.mem_of_getElem? (i := 44) rfl)
theorem w_45 {a0 : Array Value} {Z : State} (hw : ∀ d ∈ tables_1, d.before a0 Z = true) : (Jvm.Cond.methodLink "java/lang/String" (492 : Nat) ({ cls := "java/lang/String", name := "isLatin1", desc := "()Z" } : Jvm.MethodName)).before a0 Z = true := hw _ (List.mem_of_getElem? (i := 45) rfl)
theorem w_46 {a0 : Array Value} {Z : State} (hw : ∀ d ∈ tables_1, d.before a0 Z = true) : (Jvm.Cond.declares ({ cls := "java/lang/String", name := "isLatin1", desc := "()Z" } : Jvm.MethodName)).before a0 Z = true := hw _ (List.mem_of_getElem? (i := 46) rfl)
theorem w_47 {a0 : Array Value} {Z : State} (hw : ∀ d ∈ tables_1, d.before a0 Z = true) : (Jvm.Cond.instanceMethod ({ cls := "java/lang/String", name := "isLatin1", desc := "()Z" } : Jvm.MethodName)).before a0 Z = true := hw _ (List.mem_of_getElem? (i := 47) rfl)
theorem w_48 {a0 : Array Value} {Z : State} (hw : ∀ d ∈ tables_1, d.before a0 Z = true) : (Jvm.Cond.selects "java/lang/String" ({ cls := "java/lang/String", name := "isLatin1", desc := "()Z" } : Jvm.MethodName) ({ cls := "java/lang/String", name := "isLatin1", desc := "()Z" } : Jvm.MethodName)).before a0 Z = true := hw _ (List.mem_of_getElem? (i := 48) rfl)
theorem w_49 {a0 : Array Value} {Z : State} (hw : ∀ d ∈ tables_1, d.before a0 Z = true) : (Jvm.Cond.code ({ cls := "java/lang/String", name := "isLatin1", desc := "()Z" } : Jvm.MethodName) jdk_42_method_154_code (1 : Nat) (Option.some Jvm.ClassFile.FieldType.boolean)).before a0 Z = true := hw _ (List.mem_of_getElem? (i := 49) rfl)
theorem w_50 {a0 : Array Value} {Z : State} (hw : ∀ d ∈ tables_1, d.before a0 Z = true) : (Jvm.Cond.fieldLink "java/lang/String" (38 : Nat) "java/lang/String" "COMPACT_STRINGS" "Z").before a0 Z = true := hw _ (List.mem_of_getElem? (i := 50) rfl)
theorem w_51 {a0 : Array Value} {Z : State} (hw : ∀ d ∈ tables_1, d.before a0 Z = true) : (Jvm.Cond.methodLink "java/lang/String" (505 : Nat) ({ cls := "java/lang/String", name := "length", desc := "()I" } : Jvm.MethodName)).before a0 Z = true := hw _ (List.mem_of_getElem? (i := 51) rfl)
theorem w_52 {a0 : Array Value} {Z : State} (hw : ∀ d ∈ tables_1, d.before a0 Z = true) : (Jvm.Cond.declares ({ cls := "java/lang/String", name := "length", desc := "()I" } : Jvm.MethodName)).before a0 Z = true := hw _ (List.mem_of_getElem? (i := 52) rfl)
theorem w_53 {a0 : Array Value} {Z : State} (hw : ∀ d ∈ tables_1, d.before a0 Z = true) : (Jvm.Cond.instanceMethod ({ cls := "java/lang/String", name := "length", desc := "()I" } : Jvm.MethodName)).before a0 Z = true := hw _ (List.mem_of_getElem? (i := 53) rfl)
theorem w_54 {a0 : Array Value} {Z : State} (hw : ∀ d ∈ tables_1, d.before a0 Z = true) : (Jvm.Cond.selects "java/lang/String" ({ cls := "java/lang/String", name := "length", desc := "()I" } : Jvm.MethodName) ({ cls := "java/lang/String", name := "length", desc := "()I" } : Jvm.MethodName)).before a0 Z = true := hw _ (List.mem_of_getElem? (i := 54) rfl)
theorem w_55 {a0 : Array Value} {Z : State} (hw : ∀ d ∈ tables_1, d.before a0 Z = true) : (Jvm.Cond.code ({ cls := "java/lang/String", name := "length", desc := "()I" } : Jvm.MethodName) jdk_42_method_54_code (1 : Nat) (Option.some Jvm.ClassFile.FieldType.int)).before a0 Z = true := hw _ (List.mem_of_getElem? (i := 55) rfl)
theorem w_56 {a0 : Array Value} {Z : State} (hw : ∀ d ∈ tables_1, d.before a0 Z = true) : (Jvm.Cond.methodLink "java/lang/String" (335 : Nat) ({ cls := "java/lang/String", name := "coder", desc := "()B" } : Jvm.MethodName)).before a0 Z = true := hw _ (List.mem_of_getElem? (i := 56) rfl)
theorem w_57 {a0 : Array Value} {Z : State} (hw : ∀ d ∈ tables_1, d.before a0 Z = true) : (Jvm.Cond.declares ({ cls := "java/lang/String", name := "coder", desc := "()B" } : Jvm.MethodName)).before a0 Z = true := hw _ (List.mem_of_getElem? (i := 57) rfl)
theorem w_58 {a0 : Array Value} {Z : State} (hw : ∀ d ∈ tables_1, d.before a0 Z = true) : (Jvm.Cond.instanceMethod ({ cls := "java/lang/String", name := "coder", desc := "()B" } : Jvm.MethodName)).before a0 Z = true := hw _ (List.mem_of_getElem? (i := 58) rfl)
theorem w_59 {a0 : Array Value} {Z : State} (hw : ∀ d ∈ tables_1, d.before a0 Z = true) : (Jvm.Cond.selects "java/lang/String" ({ cls := "java/lang/String", name := "coder", desc := "()B" } : Jvm.MethodName) ({ cls := "java/lang/String", name := "coder", desc := "()B" } : Jvm.MethodName)).before a0 Z = true := hw _ (List.mem_of_getElem? (i := 59) rfl)
theorem w_60 {a0 : Array Value} {Z : State} (hw : ∀ d ∈ tables_1, d.before a0 Z = true) : (Jvm.Cond.code ({ cls := "java/lang/String", name := "coder", desc := "()B" } : Jvm.MethodName) jdk_42_method_152_code (1 : Nat) (Option.some Jvm.ClassFile.FieldType.byte)).before a0 Z = true := hw _ (List.mem_of_getElem? (i := 60) rfl)
theorem w_61 {a0 : Array Value} {Z : State} (hw : ∀ d ∈ tables_1, d.before a0 Z = true) : (Jvm.Cond.methodLink "java/lang/String" (637 : Nat) ({ cls := "java/lang/StringLatin1", name := "indexOf", desc := "([BIII)I" } : Jvm.MethodName)).before a0 Z = true := hw _ (List.mem_of_getElem? (i := 61) rfl)
theorem w_62 {a0 : Array Value} {Z : State} (hw : ∀ d ∈ tables_1, d.before a0 Z = true) : (Jvm.Cond.static ({ cls := "java/lang/StringLatin1", name := "indexOf", desc := "([BIII)I" } : Jvm.MethodName)).before a0 Z = true := hw _ (List.mem_of_getElem? (i := 62) rfl)
theorem w_63 {a0 : Array Value} {Z : State} (hw : ∀ d ∈ tables_1, d.before a0 Z = true) : (Jvm.Cond.initialized "java/lang/StringLatin1").before a0 Z = true := hw _ (List.mem_of_getElem? (i := 63) rfl)
theorem w_64 {a0 : Array Value} {Z : State} (hw : ∀ d ∈ tables_1, d.before a0 Z = true) : (Jvm.Cond.code ({ cls := "java/lang/StringLatin1", name := "indexOf", desc := "([BIII)I" } : Jvm.MethodName) jdk_43_method_22_code (4 : Nat) (Option.some Jvm.ClassFile.FieldType.int)).before a0 Z = true := hw _ (List.mem_of_getElem? (i := 64) rfl)
theorem w_65 {a0 : Array Value} {Z : State} (hw : ∀ d ∈ tables_1, d.before a0 Z = true) : (Jvm.Cond.methodLink "java/lang/StringLatin1" (88 : Nat) ({ cls := "java/lang/StringLatin1", name := "canEncode", desc := "(I)Z" } : Jvm.MethodName)).before a0 Z = true := hw _ (List.mem_of_getElem? (i := 65) rfl)
theorem w_66 {a0 : Array Value} {Z : State} (hw : ∀ d ∈ tables_1, d.before a0 Z = true) : (Jvm.Cond.static ({ cls := "java/lang/StringLatin1", name := "canEncode", desc := "(I)Z" } : Jvm.MethodName)).before a0 Z = true := hw _ (List.mem_of_getElem? (i := 66) rfl)
theorem w_67 {a0 : Array Value} {Z : State} (hw : ∀ d ∈ tables_1, d.before a0 Z = true) : (Jvm.Cond.code ({ cls := "java/lang/StringLatin1", name := "canEncode", desc := "(I)Z" } : Jvm.MethodName) jdk_43_method_4_code (1 : Nat) (Option.some Jvm.ClassFile.FieldType.boolean)).before a0 Z = true := hw _ (List.mem_of_getElem? (i := 67) rfl)
theorem w_68 {a0 : Array Value} {Z : State} (hw : ∀ d ∈ tables_1, d.before a0 Z = true) : (Jvm.Cond.methodLink "java/lang/StringLatin1" (92 : Nat) ({ cls := "java/lang/Math", name := "max", desc := "(II)I" } : Jvm.MethodName)).before a0 Z = true := hw _ (List.mem_of_getElem? (i := 68) rfl)
theorem w_69 {a0 : Array Value} {Z : State} (hw : ∀ d ∈ tables_1, d.before a0 Z = true) : (Jvm.Cond.static ({ cls := "java/lang/Math", name := "max", desc := "(II)I" } : Jvm.MethodName)).before a0 Z = true := hw _ (List.mem_of_getElem? (i := 69) rfl)
theorem w_70 {a0 : Array Value} {Z : State} (hw : ∀ d ∈ tables_1, d.before a0 Z = true) : (Jvm.Cond.initialized "java/lang/Math").before a0 Z = true := hw _ (List.mem_of_getElem? (i := 70) rfl)
theorem w_71 {a0 : Array Value} {Z : State} (hw : ∀ d ∈ tables_1, d.before a0 Z = true) : (Jvm.Cond.code ({ cls := "java/lang/Math", name := "max", desc := "(II)I" } : Jvm.MethodName) jdk_29_method_65_code (2 : Nat) (Option.some Jvm.ClassFile.FieldType.int)).before a0 Z = true := hw _ (List.mem_of_getElem? (i := 71) rfl)
theorem w_72 {a0 : Array Value} {Z : State} (hw : ∀ d ∈ tables_1, d.before a0 Z = true) : (Jvm.Cond.methodLink "java/lang/StringLatin1" (38 : Nat) ({ cls := "java/lang/Math", name := "min", desc := "(II)I" } : Jvm.MethodName)).before a0 Z = true := hw _ (List.mem_of_getElem? (i := 72) rfl)
theorem w_73 {a0 : Array Value} {Z : State} (hw : ∀ d ∈ tables_1, d.before a0 Z = true) : (Jvm.Cond.static ({ cls := "java/lang/Math", name := "min", desc := "(II)I" } : Jvm.MethodName)).before a0 Z = true := hw _ (List.mem_of_getElem? (i := 73) rfl)
theorem w_74 {a0 : Array Value} {Z : State} (hw : ∀ d ∈ tables_1, d.before a0 Z = true) : (Jvm.Cond.code ({ cls := "java/lang/Math", name := "min", desc := "(II)I" } : Jvm.MethodName) jdk_29_method_69_code (2 : Nat) (Option.some Jvm.ClassFile.FieldType.int)).before a0 Z = true := hw _ (List.mem_of_getElem? (i := 74) rfl)
theorem w_75 {a0 : Array Value} {Z : State} (hw : ∀ d ∈ tables_1, d.before a0 Z = true) : (Jvm.Cond.methodLink "java/lang/String" (177 : Nat) ({ cls := "java/lang/StringUTF16", name := "compress", desc := "([CII)[B" } : Jvm.MethodName)).before a0 Z = true := hw _ (List.mem_of_getElem? (i := 75) rfl)
theorem w_76 {a0 : Array Value} {Z : State} (hw : ∀ d ∈ tables_1, d.before a0 Z = true) : (Jvm.Cond.static ({ cls := "java/lang/StringUTF16", name := "compress", desc := "([CII)[B" } : Jvm.MethodName)).before a0 Z = true := hw _ (List.mem_of_getElem? (i := 76) rfl)
theorem w_77 {a0 : Array Value} {Z : State} (hw : ∀ d ∈ tables_1, d.before a0 Z = true) : (Jvm.Cond.initialized "java/lang/StringUTF16").before a0 Z = true := hw _ (List.mem_of_getElem? (i := 77) rfl)
theorem w_78 {a0 : Array Value} {Z : State} (hw : ∀ d ∈ tables_1, d.before a0 Z = true) : (Jvm.Cond.code ({ cls := "java/lang/StringUTF16", name := "compress", desc := "([CII)[B" } : Jvm.MethodName) jdk_52_method_16_code (6 : Nat) (Option.some (Jvm.ClassFile.FieldType.array Jvm.ClassFile.FieldType.byte))).before a0 Z = true := hw _ (List.mem_of_getElem? (i := 78) rfl)
theorem w_79 {a0 : Array Value} {Z : State} (hw : ∀ d ∈ tables_1, d.before a0 Z = true) : (Jvm.Cond.methodLink "java/lang/StringUTF16" (115 : Nat) ({ cls := "java/lang/StringUTF16", name := "compress", desc := "([CI[BII)I" } : Jvm.MethodName)).before a0 Z = true := hw _ (List.mem_of_getElem? (i := 79) rfl)
theorem w_80 {a0 : Array Value} {Z : State} (hw : ∀ d ∈ tables_1, d.before a0 Z = true) : (Jvm.Cond.static ({ cls := "java/lang/StringUTF16", name := "compress", desc := "([CI[BII)I" } : Jvm.MethodName)).before a0 Z = true := hw _ (List.mem_of_getElem? (i := 80) rfl)
theorem w_81 {a0 : Array Value} {Z : State} (hw : ∀ d ∈ tables_1, d.before a0 Z = true) : (Jvm.Cond.code ({ cls := "java/lang/StringUTF16", name := "compress", desc := "([CI[BII)I" } : Jvm.MethodName) jdk_52_method_21_code (7 : Nat) (Option.some Jvm.ClassFile.FieldType.int)).before a0 Z = true := hw _ (List.mem_of_getElem? (i := 81) rfl)
theorem w_82 {a0 : Array Value} {Z : State} (hw : ∀ d ∈ tables_1, d.before a0 Z = true) : (Jvm.Cond.methodLink "java/lang/String" (47 : Nat) ({ cls := "java/lang/StringUTF16", name := "coderFromArrayLen", desc := "([BI)B" } : Jvm.MethodName)).before a0 Z = true := hw _ (List.mem_of_getElem? (i := 82) rfl)
theorem w_83 {a0 : Array Value} {Z : State} (hw : ∀ d ∈ tables_1, d.before a0 Z = true) : (Jvm.Cond.static ({ cls := "java/lang/StringUTF16", name := "coderFromArrayLen", desc := "([BI)B" } : Jvm.MethodName)).before a0 Z = true := hw _ (List.mem_of_getElem? (i := 83) rfl)
theorem w_84 {a0 : Array Value} {Z : State} (hw : ∀ d ∈ tables_1, d.before a0 Z = true) : (Jvm.Cond.code ({ cls := "java/lang/StringUTF16", name := "coderFromArrayLen", desc := "([BI)B" } : Jvm.MethodName) jdk_52_method_15_code (2 : Nat) (Option.some Jvm.ClassFile.FieldType.byte)).before a0 Z = true := hw _ (List.mem_of_getElem? (i := 84) rfl)
theorem w_85 {a0 : Array Value} {Z : State} (hw : ∀ d ∈ tables_1, d.before a0 Z = true) : (Jvm.Cond.methodLink "java/lang/StringLatin1" (95 : Nat) ({ cls := "java/lang/StringLatin1", name := "indexOfChar", desc := "([BIII)I" } : Jvm.MethodName)).before a0 Z = true := hw _ (List.mem_of_getElem? (i := 85) rfl)
theorem w_86 {a0 : Array Value} {Z : State} (hw : ∀ d ∈ tables_1, d.before a0 Z = true) : (Jvm.Cond.static ({ cls := "java/lang/StringLatin1", name := "indexOfChar", desc := "([BIII)I" } : Jvm.MethodName)).before a0 Z = true := hw _ (List.mem_of_getElem? (i := 86) rfl)
theorem w_87 {a0 : Array Value} {Z : State} (hw : ∀ d ∈ tables_1, d.before a0 Z = true) : (Jvm.Cond.code ({ cls := "java/lang/StringLatin1", name := "indexOfChar", desc := "([BIII)I" } : Jvm.MethodName) jdk_43_method_23_code (6 : Nat) (Option.some Jvm.ClassFile.FieldType.int)).before a0 Z = true := hw _ (List.mem_of_getElem? (i := 87) rfl)
theorem w_88 {a0 : Array Value} {Z : State} (hw : ∀ d ∈ tables_1, d.before a0 Z = true) : (Jvm.Cond.methodLink "com/example/filter_to_where/filtertowhere/tree/Limits" (57 : Nat) ({ cls := "java/lang/String", name := "indexOf", desc := "(II)I" } : Jvm.MethodName)).before a0 Z = true := hw _ (List.mem_of_getElem? (i := 88) rfl)
theorem w_89 {a0 : Array Value} {Z : State} (hw : ∀ d ∈ tables_1, d.before a0 Z = true) : (Jvm.Cond.methodLink "java/lang/StringUTF16" (119 : Nat) ({ cls := "java/lang/StringUTF16", name := "toBytes", desc := "([CII)[B" } : Jvm.MethodName)).before a0 Z = true := hw _ (List.mem_of_getElem? (i := 89) rfl)
theorem w_90 {a0 : Array Value} {Z : State} (hw : ∀ d ∈ tables_1, d.before a0 Z = true) : (Jvm.Cond.static ({ cls := "java/lang/StringUTF16", name := "toBytes", desc := "([CII)[B" } : Jvm.MethodName)).before a0 Z = true := hw _ (List.mem_of_getElem? (i := 90) rfl)
theorem w_91 {a0 : Array Value} {Z : State} (hw : ∀ d ∈ tables_1, d.before a0 Z = true) : (Jvm.Cond.code ({ cls := "java/lang/StringUTF16", name := "toBytes", desc := "([CII)[B" } : Jvm.MethodName) jdk_52_method_14_code (5 : Nat) (Option.some (Jvm.ClassFile.FieldType.array Jvm.ClassFile.FieldType.byte))).before a0 Z = true := hw _ (List.mem_of_getElem? (i := 91) rfl)
theorem w_92 {a0 : Array Value} {Z : State} (hw : ∀ d ∈ tables_1, d.before a0 Z = true) : (Jvm.Cond.methodLink "java/lang/StringUTF16" (107 : Nat) ({ cls := "java/lang/StringUTF16", name := "newBytesFor", desc := "(I)[B" } : Jvm.MethodName)).before a0 Z = true := hw _ (List.mem_of_getElem? (i := 92) rfl)
theorem w_93 {a0 : Array Value} {Z : State} (hw : ∀ d ∈ tables_1, d.before a0 Z = true) : (Jvm.Cond.static ({ cls := "java/lang/StringUTF16", name := "newBytesFor", desc := "(I)[B" } : Jvm.MethodName)).before a0 Z = true := hw _ (List.mem_of_getElem? (i := 93) rfl)
theorem w_94 {a0 : Array Value} {Z : State} (hw : ∀ d ∈ tables_1, d.before a0 Z = true) : (Jvm.Cond.code ({ cls := "java/lang/StringUTF16", name := "newBytesFor", desc := "(I)[B" } : Jvm.MethodName) jdk_52_method_2_code (1 : Nat) (Option.some (Jvm.ClassFile.FieldType.array Jvm.ClassFile.FieldType.byte))).before a0 Z = true := hw _ (List.mem_of_getElem? (i := 94) rfl)
theorem w_95 {a0 : Array Value} {Z : State} (hw : ∀ d ∈ tables_1, d.before a0 Z = true) : (Jvm.Cond.methodLink "java/lang/StringUTF16" (11 : Nat) ({ cls := "java/lang/StringUTF16", name := "newBytesLength", desc := "(I)I" } : Jvm.MethodName)).before a0 Z = true := hw _ (List.mem_of_getElem? (i := 95) rfl)
theorem w_96 {a0 : Array Value} {Z : State} (hw : ∀ d ∈ tables_1, d.before a0 Z = true) : (Jvm.Cond.static ({ cls := "java/lang/StringUTF16", name := "newBytesLength", desc := "(I)I" } : Jvm.MethodName)).before a0 Z = true := hw _ (List.mem_of_getElem? (i := 96) rfl)
theorem w_97 {a0 : Array Value} {Z : State} (hw : ∀ d ∈ tables_1, d.before a0 Z = true) : (Jvm.Cond.code ({ cls := "java/lang/StringUTF16", name := "newBytesLength", desc := "(I)I" } : Jvm.MethodName) jdk_52_method_3_code (1 : Nat) (Option.some Jvm.ClassFile.FieldType.int)).before a0 Z = true := hw _ (List.mem_of_getElem? (i := 97) rfl)
theorem w_98 {a0 : Array Value} {Z : State} (hw : ∀ d ∈ tables_1, d.before a0 Z = true) : (Jvm.Cond.constant "java/lang/StringUTF16" (20 : Nat) (1073741823 : Int32)).before a0 Z = true := hw _ (List.mem_of_getElem? (i := 98) rfl)
theorem w_99 {a0 : Array Value} {Z : State} (hw : ∀ d ∈ tables_1, d.before a0 Z = true) : (Jvm.Cond.methodLink "java/lang/StringUTF16" (111 : Nat) ({ cls := "java/lang/StringUTF16", name := "putChar", desc := "([BII)V" } : Jvm.MethodName)).before a0 Z = true := hw _ (List.mem_of_getElem? (i := 99) rfl)
theorem w_100 {a0 : Array Value} {Z : State} (hw : ∀ d ∈ tables_1, d.before a0 Z = true) : (Jvm.Cond.static ({ cls := "java/lang/StringUTF16", name := "putChar", desc := "([BII)V" } : Jvm.MethodName)).before a0 Z = true := hw _ (List.mem_of_getElem? (i := 100) rfl)
theorem w_101 {a0 : Array Value} {Z : State} (hw : ∀ d ∈ tables_1, d.before a0 Z = true) : (Jvm.Cond.code ({ cls := "java/lang/StringUTF16", name := "putChar", desc := "([BII)V" } : Jvm.MethodName) jdk_52_method_4_code (3 : Nat) (Option.none : Option Jvm.ClassFile.FieldType)).before a0 Z = true := hw _ (List.mem_of_getElem? (i := 101) rfl)
theorem w_102 {a0 : Array Value} {Z : State} (hw : ∀ d ∈ tables_1, d.before a0 Z = true) : (Jvm.Cond.fieldLink "java/lang/StringUTF16" (44 : Nat) "java/lang/StringUTF16" "$assertionsDisabled" "Z").before a0 Z = true := hw _ (List.mem_of_getElem? (i := 102) rfl)
theorem w_103 {a0 : Array Value} {Z : State} (hw : ∀ d ∈ tables_1, d.before a0 Z = true) : (Jvm.Cond.fieldLink "java/lang/StringUTF16" (59 : Nat) "java/lang/StringUTF16" "HI_BYTE_SHIFT" "I").before a0 Z = true := hw _ (List.mem_of_getElem? (i := 103) rfl)
theorem w_104 {a0 : Array Value} {Z : State} (hw : ∀ d ∈ tables_1, d.before a0 Z = true) : (Jvm.Cond.fieldLink "java/lang/StringUTF16" (63 : Nat) "java/lang/StringUTF16" "LO_BYTE_SHIFT" "I").before a0 Z = true := hw _ (List.mem_of_getElem? (i := 104) rfl)
theorem w_105 {a0 : Array Value} {Z : State} (hw : ∀ d ∈ tables_1, d.before a0 Z = true) : (Jvm.Cond.methodLink "java/lang/StringUTF16" (71 : Nat) ({ cls := "java/lang/StringUTF16", name := "getChar", desc := "([BI)C" } : Jvm.MethodName)).before a0 Z = true := hw _ (List.mem_of_getElem? (i := 105) rfl)
theorem w_106 {a0 : Array Value} {Z : State} (hw : ∀ d ∈ tables_1, d.before a0 Z = true) : (Jvm.Cond.static ({ cls := "java/lang/StringUTF16", name := "getChar", desc := "([BI)C" } : Jvm.MethodName)).before a0 Z = true := hw _ (List.mem_of_getElem? (i := 106) rfl)
theorem w_107 {a0 : Array Value} {Z : State} (hw : ∀ d ∈ tables_1, d.before a0 Z = true) : (Jvm.Cond.code ({ cls := "java/lang/StringUTF16", name := "getChar", desc := "([BI)C" } : Jvm.MethodName) jdk_52_method_5_code (2 : Nat) (Option.some Jvm.ClassFile.FieldType.char)).before a0 Z = true := hw _ (List.mem_of_getElem? (i := 107) rfl)
theorem w_108 {a0 : Array Value} {Z : State} (hw : ∀ d ∈ tables_1, d.before a0 Z = true) : (Jvm.Cond.methodLink "java/lang/String" (640 : Nat) ({ cls := "java/lang/StringUTF16", name := "indexOf", desc := "([BIII)I" } : Jvm.MethodName)).before a0 Z = true := hw _ (List.mem_of_getElem? (i := 108) rfl)
theorem w_109 {a0 : Array Value} {Z : State} (hw : ∀ d ∈ tables_1, d.before a0 Z = true) : (Jvm.Cond.static ({ cls := "java/lang/StringUTF16", name := "indexOf", desc := "([BIII)I" } : Jvm.MethodName)).before a0 Z = true := hw _ (List.mem_of_getElem? (i := 109) rfl)
theorem w_110 {a0 : Array Value} {Z : State} (hw : ∀ d ∈ tables_1, d.before a0 Z = true) : (Jvm.Cond.code ({ cls := "java/lang/StringUTF16", name := "indexOf", desc := "([BIII)I" } : Jvm.MethodName) jdk_52_method_40_code (4 : Nat) (Option.some Jvm.ClassFile.FieldType.int)).before a0 Z = true := hw _ (List.mem_of_getElem? (i := 110) rfl)
theorem w_111 {a0 : Array Value} {Z : State} (hw : ∀ d ∈ tables_1, d.before a0 Z = true) : (Jvm.Cond.methodLink "java/lang/StringUTF16" (224 : Nat) ({ cls := "java/lang/Math", name := "max", desc := "(II)I" } : Jvm.MethodName)).before a0 Z = true := hw _ (List.mem_of_getElem? (i := 111) rfl)
theorem w_112 {a0 : Array Value} {Z : State} (hw : ∀ d ∈ tables_1, d.before a0 Z = true) : (Jvm.Cond.methodLink "java/lang/StringUTF16" (183 : Nat) ({ cls := "java/lang/Math", name := "min", desc := "(II)I" } : Jvm.MethodName)).before a0 Z = true := hw _ (List.mem_of_getElem? (i := 112) rfl)
theorem w_113 {a0 : Array Value} {Z : State} (hw : ∀ d ∈ tables_1, d.before a0 Z = true) : (Jvm.Cond.constant "java/lang/StringUTF16" (227 : Nat) (65536 : Int32)).before a0 Z = true := hw _ (List.mem_of_getElem? (i := 113) rfl)
theorem w_114 {a0 : Array Value} {Z : State} (hw : ∀ d ∈ tables_1, d.before a0 Z = true) : (Jvm.Cond.methodLink "java/lang/StringUTF16" (228 : Nat) ({ cls := "java/lang/StringUTF16", name := "indexOfChar", desc := "([BIII)I" } : Jvm.MethodName)).before a0 Z = true := hw _ (List.mem_of_getElem? (i := 114) rfl)
theorem w_115 {a0 : Array Value} {Z : State} (hw : ∀ d ∈ tables_1, d.before a0 Z = true) : (Jvm.Cond.static ({ cls := "java/lang/StringUTF16", name := "indexOfChar", desc := "([BIII)I" } : Jvm.MethodName)).before a0 Z = true := hw _ (List.mem_of_getElem? (i := 115) rfl)
theorem w_116 {a0 : Array Value} {Z : State} (hw : ∀ d ∈ tables_1, d.before a0 Z = true) : (Jvm.Cond.code ({ cls := "java/lang/StringUTF16", name := "indexOfChar", desc := "([BIII)I" } : Jvm.MethodName) jdk_52_method_47_code (4 : Nat) (Option.some Jvm.ClassFile.FieldType.int)).before a0 Z = true := hw _ (List.mem_of_getElem? (i := 116) rfl)
theorem w_117 {a0 : Array Value} {Z : State} (hw : ∀ d ∈ tables_1, d.before a0 Z = true) : (Jvm.Cond.methodLink "java/lang/StringUTF16" (96 : Nat) ({ cls := "java/lang/StringUTF16", name := "checkBoundsBeginEnd", desc := "(II[B)V" } : Jvm.MethodName)).before a0 Z = true := hw _ (List.mem_of_getElem? (i := 117) rfl)
theorem w_118 {a0 : Array Value} {Z : State} (hw : ∀ d ∈ tables_1, d.before a0 Z = true) : (Jvm.Cond.static ({ cls := "java/lang/StringUTF16", name := "checkBoundsBeginEnd", desc := "(II[B)V" } : Jvm.MethodName)).before a0 Z = true := hw _ (List.mem_of_getElem? (i := 118) rfl)
theorem w_119 {a0 : Array Value} {Z : State} (hw : ∀ d ∈ tables_1, d.before a0 Z = true) : (Jvm.Cond.code ({ cls := "java/lang/StringUTF16", name := "checkBoundsBeginEnd", desc := "(II[B)V" } : Jvm.MethodName) jdk_52_method_93_code (3 : Nat) (Option.none : Option Jvm.ClassFile.FieldType)).before a0 Z = true := hw _ (List.mem_of_getElem? (i := 119) rfl)
theorem w_120 {a0 : Array Value} {Z : State} (hw : ∀ d ∈ tables_1, d.before a0 Z = true) : (Jvm.Cond.methodLink "java/lang/StringUTF16" (48 : Nat) ({ cls := "java/lang/StringUTF16", name := "length", desc := "([B)I" } : Jvm.MethodName)).before a0 Z = true := hw _ (List.mem_of_getElem? (i := 120) rfl)
theorem w_121 {a0 : Array Value} {Z : State} (hw : ∀ d ∈ tables_1, d.before a0 Z = true) : (Jvm.Cond.static ({ cls := "java/lang/StringUTF16", name := "length", desc := "([B)I" } : Jvm.MethodName)).before a0 Z = true := hw _ (List.mem_of_getElem? (i := 121) rfl)
theorem w_122 {a0 : Array Value} {Z : State} (hw : ∀ d ∈ tables_1, d.before a0 Z = true) : (Jvm.Cond.code ({ cls := "java/lang/StringUTF16", name := "length", desc := "([B)I" } : Jvm.MethodName) jdk_52_method_6_code (1 : Nat) (Option.some Jvm.ClassFile.FieldType.int)).before a0 Z = true := hw _ (List.mem_of_getElem? (i := 122) rfl)
theorem w_123 {a0 : Array Value} {Z : State} (hw : ∀ d ∈ tables_1, d.before a0 Z = true) : (Jvm.Cond.methodLink "java/lang/StringUTF16" (241 : Nat) ({ cls := "java/lang/String", name := "checkBoundsBeginEnd", desc := "(III)V" } : Jvm.MethodName)).before a0 Z = true := hw _ (List.mem_of_getElem? (i := 123) rfl)
theorem w_124 {a0 : Array Value} {Z : State} (hw : ∀ d ∈ tables_1, d.before a0 Z = true) : (Jvm.Cond.static ({ cls := "java/lang/String", name := "checkBoundsBeginEnd", desc := "(III)V" } : Jvm.MethodName)).before a0 Z = true := hw _ (List.mem_of_getElem? (i := 124) rfl)
theorem w_125 {a0 : Array Value} {Z : State} (hw : ∀ d ∈ tables_1, d.before a0 Z = true) : (Jvm.Cond.code ({ cls := "java/lang/String", name := "checkBoundsBeginEnd", desc := "(III)V" } : Jvm.MethodName) jdk_42_method_158_code (3 : Nat) (Option.none : Option Jvm.ClassFile.FieldType)).before a0 Z = true := hw _ (List.mem_of_getElem? (i := 125) rfl)
theorem w_126 {a0 : Array Value} {Z : State} (hw : ∀ d ∈ tables_1, d.before a0 Z = true) : (Jvm.Cond.fieldLink "java/lang/String" (1053 : Nat) "jdk/internal/util/Preconditions" "SIOOBE_FORMATTER" "Ljava/util/function/BiFunction;").before a0 Z = true := hw _ (List.mem_of_getElem? (i := 126) rfl)
theorem w_127 {a0 : Array Value} {Z : State} (hw : ∀ d ∈ tables_1, d.before a0 Z = true) : (Jvm.Cond.initialized "jdk/internal/util/Preconditions").before a0 Z = true := hw _ (List.mem_of_getElem? (i := 127) rfl)
theorem w_128 {a0 : Array Value} {Z : State} (hw : ∀ d ∈ tables_1, d.before a0 Z = true) : (Jvm.Cond.methodLink "java/lang/String" (1062 : Nat) ({ cls := "jdk/internal/util/Preconditions", name := "checkFromToIndex", desc := "(IIILjava/util/function/BiFunction;)I" } : Jvm.MethodName)).before a0 Z = true := hw _ (List.mem_of_getElem? (i := 128) rfl)
theorem w_129 {a0 : Array Value} {Z : State} (hw : ∀ d ∈ tables_1, d.before a0 Z = true) : (Jvm.Cond.static ({ cls := "jdk/internal/util/Preconditions", name := "checkFromToIndex", desc := "(IIILjava/util/function/BiFunction;)I" } : Jvm.MethodName)).before a0 Z = true := hw _ (List.mem_of_getElem? (i := 129) rfl)
theorem w_130 {a0 : Array Value} {Z : State} (hw : ∀ d ∈ tables_1, d.before a0 Z = true) : (Jvm.Cond.code ({ cls := "jdk/internal/util/Preconditions", name := "checkFromToIndex", desc := "(IIILjava/util/function/BiFunction;)I" } : Jvm.MethodName) jdk_41_method_12_code (4 : Nat) (Option.some Jvm.ClassFile.FieldType.int)).before a0 Z = true := hw _ (List.mem_of_getElem? (i := 130) rfl)
theorem w_131 {a0 : Array Value} {Z : State} (hw : ∀ d ∈ tables_1, d.before a0 Z = true) : (Jvm.Cond.methodLink "java/lang/StringUTF16" (244 : Nat) ({ cls := "java/lang/StringUTF16", name := "indexOfCharUnsafe", desc := "([BIII)I" } : Jvm.MethodName)).before a0 Z = true := hw _ (List.mem_of_getElem? (i := 131) rfl)
theorem w_132 {a0 : Array Value} {Z : State} (hw : ∀ d ∈ tables_1, d.before a0 Z = true) : (Jvm.Cond.static ({ cls := "java/lang/StringUTF16", name := "indexOfCharUnsafe", desc := "([BIII)I" } : Jvm.MethodName)).before a0 Z = true := hw _ (List.mem_of_getElem? (i := 132) rfl)
theorem w_133 {a0 : Array Value} {Z : State} (hw : ∀ d ∈ tables_1, d.before a0 Z = true) : (Jvm.Cond.code ({ cls := "java/lang/StringUTF16", name := "indexOfCharUnsafe", desc := "([BIII)I" } : Jvm.MethodName) jdk_52_method_48_code (5 : Nat) (Option.some Jvm.ClassFile.FieldType.int)).before a0 Z = true := hw _ (List.mem_of_getElem? (i := 133) rfl)
theorem d1_0 : decode method_2_code 0 = .ok (.iload_n 3, 1) := by decide +kernel
theorem d1_1 : decode method_2_code 1 = .ok (.iload 4, 2) := by decide +kernel
theorem d1_3 : decode method_2_code 3 = .ok (.iushr, 1) := by decide +kernel
theorem d1_4 : decode method_2_code 4 = .ok (.iconst 1, 1) := by decide +kernel
theorem d1_5 : decode method_2_code 5 = .ok (.iand, 1) := by decide +kernel
theorem d1_6 : decode method_2_code 6 = .ok (.ifCond .eq 6, 3) := by decide +kernel
theorem d1_9 : decode method_2_code 9 = .ok (.bipush 46, 2) := by decide +kernel
theorem d1_11 : decode method_2_code 11 = .ok (.ireturn, 1) := by decide +kernel
theorem d1_12 : decode method_2_code 12 = .ok (.lload_n 0, 1) := by decide +kernel
theorem d1_13 : decode method_2_code 13 = .ok (.iload_n 2, 1) := by decide +kernel
theorem d1_14 : decode method_2_code 14 = .ok (.lushr, 1) := by decide +kernel
theorem d1_15 : decode method_2_code 15 = .ok (.ldc2_w 7, 3) := by decide +kernel
theorem d1_18 : decode method_2_code 18 = .ok (.land, 1) := by decide +kernel
theorem d1_19 : decode method_2_code 19 = .ok (.l2i, 1) := by decide +kernel
theorem d1_20 : decode method_2_code 20 = .ok (.i2c, 1) := by decide +kernel
theorem d1_21 : decode method_2_code 21 = .ok (.ireturn, 1) := by decide +kernel
theorem d2_0 : decode jdk_42_method_3_code 0 = .ok (.aload_n 0, 1) := by decide +kernel
theorem d2_1 : decode jdk_42_method_3_code 1 = .ok (.aload_n 1, 1) := by decide +kernel
theorem d2_2 : decode jdk_42_method_3_code 2 = .ok (.iconst 0, 1) := by decide +kernel
theorem d2_3 : decode jdk_42_method_3_code 3 = .ok (.aload_n 1, 1) := by decide +kernel
theorem d2_4 : decode jdk_42_method_3_code 4 = .ok (.arraylength, 1) := by decide +kernel
theorem d2_5 : decode jdk_42_method_3_code 5 = .ok (.aconst_null, 1) := by decide +kernel
theorem d2_6 : decode jdk_42_method_3_code 6 = .ok (.invokespecial 27, 3) := by decide +kernel
theorem d2_9 : decode jdk_42_method_3_code 9 = .ok (.return_, 1) := by decide +kernel
theorem d3_0 : decode jdk_42_method_149_code 0 = .ok (.aload_n 0, 1) := by decide +kernel
theorem d3_1 : decode jdk_42_method_149_code 1 = .ok (.invokespecial 1, 3) := by decide +kernel
theorem d3_4 : decode jdk_42_method_149_code 4 = .ok (.iload_n 3, 1) := by decide +kernel
theorem d3_5 : decode jdk_42_method_149_code 5 = .ok (.ifCond .ne 22, 3) := by decide +kernel
theorem d3_8 : decode jdk_42_method_149_code 8 = .ok (.aload_n 0, 1) := by decide +kernel
theorem d3_9 : decode jdk_42_method_149_code 9 = .ok (.ldc 7, 2) := by decide +kernel
theorem d3_11 : decode jdk_42_method_149_code 11 = .ok (.getfield 9, 3) := by decide +kernel
theorem d3_14 : decode jdk_42_method_149_code 14 = .ok (.putfield 9, 3) := by decide +kernel
theorem d3_17 : decode jdk_42_method_149_code 17 = .ok (.aload_n 0, 1) := by decide +kernel
theorem d3_18 : decode jdk_42_method_149_code 18 = .ok (.ldc 7, 2) := by decide +kernel
theorem d3_20 : decode jdk_42_method_149_code 20 = .ok (.getfield 15, 3) := by decide +kernel
theorem d3_23 : decode jdk_42_method_149_code 23 = .ok (.putfield 15, 3) := by decide +kernel
theorem d3_26 : decode jdk_42_method_149_code 26 = .ok (.return_, 1) := by decide +kernel
theorem d3_27 : decode jdk_42_method_149_code 27 = .ok (.getstatic 38, 3) := by decide +kernel
theorem d3_30 : decode jdk_42_method_149_code 30 = .ok (.ifCond .eq 28, 3) := by decide +kernel
theorem d3_33 : decode jdk_42_method_149_code 33 = .ok (.aload_n 1, 1) := by decide +kernel
theorem d3_34 : decode jdk_42_method_149_code 34 = .ok (.iload_n 2, 1) := by decide +kernel
theorem d3_35 : decode jdk_42_method_149_code 35 = .ok (.iload_n 3, 1) := by decide +kernel
theorem d3_36 : decode jdk_42_method_149_code 36 = .ok (.invokestatic 177, 3) := by decide +kernel
theorem d3_39 : decode jdk_42_method_149_code 39 = .ok (.astore 5, 2) := by decide +kernel
theorem d3_41 : decode jdk_42_method_149_code 41 = .ok (.aload_n 0, 1) := by decide +kernel
theorem d3_42 : decode jdk_42_method_149_code 42 = .ok (.aload 5, 2) := by decide +kernel
theorem d3_44 : decode jdk_42_method_149_code 44 = .ok (.iload_n 3, 1) := by decide +kernel
theorem d3_45 : decode jdk_42_method_149_code 45 = .ok (.invokestatic 47, 3) := by decide +kernel
theorem d3_48 : decode jdk_42_method_149_code 48 = .ok (.putfield 15, 3) := by decide +kernel
theorem d3_51 : decode jdk_42_method_149_code 51 = .ok (.aload_n 0, 1) := by decide +kernel
theorem d3_52 : decode jdk_42_method_149_code 52 = .ok (.aload 5, 2) := by decide +kernel
theorem d3_54 : decode jdk_42_method_149_code 54 = .ok (.putfield 9, 3) := by decide +kernel
theorem d3_57 : decode jdk_42_method_149_code 57 = .ok (.return_, 1) := by decide +kernel
theorem d5_0 : decode method_3_code 0 = .ok (.iload_n 1, 1) := by decide +kernel
theorem d5_1 : decode method_3_code 1 = .ok (.iload_n 2, 1) := by decide +kernel
theorem d5_2 : decode method_3_code 2 = .ok (.if_icmp .ge 11, 3) := by decide +kernel
theorem d5_5 : decode method_3_code 5 = .ok (.iload_n 0, 1) := by decide +kernel
theorem d5_6 : decode method_3_code 6 = .ok (.bipush 46, 2) := by decide +kernel
theorem d5_8 : decode method_3_code 8 = .ok (.if_icmp .ne 5, 3) := by decide +kernel
theorem d5_11 : decode method_3_code 11 = .ok (.iconst 1, 1) := by decide +kernel
theorem d5_12 : decode method_3_code 12 = .ok (.ireturn, 1) := by decide +kernel
theorem d5_13 : decode method_3_code 13 = .ok (.iconst 0, 1) := by decide +kernel
theorem d5_14 : decode method_3_code 14 = .ok (.ireturn, 1) := by decide +kernel
theorem d6_0 : decode prog_52_method_2_code 0 = .ok (.iconst 0, 1) := by decide +kernel
theorem d6_1 : decode prog_52_method_2_code 1 = .ok (.istore_n 1, 1) := by decide +kernel
theorem d6_2 : decode prog_52_method_2_code 2 = .ok (.aload_n 0, 1) := by decide +kernel
theorem d6_3 : decode prog_52_method_2_code 3 = .ok (.bipush 46, 2) := by decide +kernel
theorem d6_5 : decode prog_52_method_2_code 5 = .ok (.invokevirtual 51, 3) := by decide +kernel
theorem d6_8 : decode prog_52_method_2_code 8 = .ok (.istore_n 2, 1) := by decide +kernel
theorem d6_9 : decode prog_52_method_2_code 9 = .ok (.iload_n 2, 1) := by decide +kernel
theorem d6_10 : decode prog_52_method_2_code 10 = .ok (.ifCond .lt 19, 3) := by decide +kernel
theorem d6_13 : decode prog_52_method_2_code 13 = .ok (.iinc 1 1, 3) := by decide +kernel
theorem d6_16 : decode prog_52_method_2_code 16 = .ok (.aload_n 0, 1) := by decide +kernel
theorem d6_17 : decode prog_52_method_2_code 17 = .ok (.bipush 46, 2) := by decide +kernel
theorem d6_19 : decode prog_52_method_2_code 19 = .ok (.iload_n 2, 1) := by decide +kernel
theorem d6_20 : decode prog_52_method_2_code 20 = .ok (.iconst 1, 1) := by decide +kernel
theorem d6_21 : decode prog_52_method_2_code 21 = .ok (.iadd, 1) := by decide +kernel
theorem d6_22 : decode prog_52_method_2_code 22 = .ok (.invokevirtual 57, 3) := by decide +kernel
theorem d6_25 : decode prog_52_method_2_code 25 = .ok (.istore_n 2, 1) := by decide +kernel
theorem d6_26 : decode prog_52_method_2_code 26 = .ok (.goto (-17), 3) := by decide +kernel
theorem d6_29 : decode prog_52_method_2_code 29 = .ok (.iload_n 1, 1) := by decide +kernel
theorem d6_30 : decode prog_52_method_2_code 30 = .ok (.ireturn, 1) := by decide +kernel
theorem d7_0 : decode jdk_42_method_79_code 0 = .ok (.aload_n 0, 1) := by decide +kernel
theorem d7_1 : decode jdk_42_method_79_code 1 = .ok (.iload_n 1, 1) := by decide +kernel
theorem d7_2 : decode jdk_42_method_79_code 2 = .ok (.iconst 0, 1) := by decide +kernel
theorem d7_3 : decode jdk_42_method_79_code 3 = .ok (.invokevirtual 633, 3) := by decide +kernel
theorem d7_6 : decode jdk_42_method_79_code 6 = .ok (.ireturn, 1) := by decide +kernel
theorem d8_0 : decode jdk_42_method_80_code 0 = .ok (.aload_n 0, 1) := by decide +kernel
theorem d8_1 : decode jdk_42_method_80_code 1 = .ok (.invokevirtual 492, 3) := by decide +kernel
theorem d8_4 : decode jdk_42_method_80_code 4 = .ok (.ifCond .eq 19, 3) := by decide +kernel
theorem d8_7 : decode jdk_42_method_80_code 7 = .ok (.aload_n 0, 1) := by decide +kernel
theorem d8_8 : decode jdk_42_method_80_code 8 = .ok (.getfield 9, 3) := by decide +kernel
theorem d8_11 : decode jdk_42_method_80_code 11 = .ok (.iload_n 1, 1) := by decide +kernel
theorem d8_12 : decode jdk_42_method_80_code 12 = .ok (.iload_n 2, 1) := by decide +kernel
theorem d8_13 : decode jdk_42_method_80_code 13 = .ok (.aload_n 0, 1) := by decide +kernel
theorem d8_14 : decode jdk_42_method_80_code 14 = .ok (.invokevirtual 505, 3) := by decide +kernel
theorem d8_17 : decode jdk_42_method_80_code 17 = .ok (.invokestatic 637, 3) := by decide +kernel
theorem d8_20 : decode jdk_42_method_80_code 20 = .ok (.goto 16, 3) := by decide +kernel
theorem d8_23 : decode jdk_42_method_80_code 23 = .ok (.aload_n 0, 1) := by decide +kernel
theorem d8_24 : decode jdk_42_method_80_code 24 = .ok (.getfield 9, 3) := by decide +kernel
theorem d8_27 : decode jdk_42_method_80_code 27 = .ok (.iload_n 1, 1) := by decide +kernel
theorem d8_28 : decode jdk_42_method_80_code 28 = .ok (.iload_n 2, 1) := by decide +kernel
theorem d8_29 : decode jdk_42_method_80_code 29 = .ok (.aload_n 0, 1) := by decide +kernel
theorem d8_30 : decode jdk_42_method_80_code 30 = .ok (.invokevirtual 505, 3) := by decide +kernel
theorem d8_33 : decode jdk_42_method_80_code 33 = .ok (.invokestatic 640, 3) := by decide +kernel
theorem d8_36 : decode jdk_42_method_80_code 36 = .ok (.ireturn, 1) := by decide +kernel
theorem d9_0 : decode jdk_42_method_154_code 0 = .ok (.getstatic 38, 3) := by decide +kernel
theorem d9_3 : decode jdk_42_method_154_code 3 = .ok (.ifCond .eq 14, 3) := by decide +kernel
theorem d9_6 : decode jdk_42_method_154_code 6 = .ok (.aload_n 0, 1) := by decide +kernel
theorem d9_7 : decode jdk_42_method_154_code 7 = .ok (.getfield 15, 3) := by decide +kernel
theorem d9_10 : decode jdk_42_method_154_code 10 = .ok (.ifCond .ne 7, 3) := by decide +kernel
theorem d9_13 : decode jdk_42_method_154_code 13 = .ok (.iconst 1, 1) := by decide +kernel
theorem d9_14 : decode jdk_42_method_154_code 14 = .ok (.goto 4, 3) := by decide +kernel
theorem d9_17 : decode jdk_42_method_154_code 17 = .ok (.iconst 0, 1) := by decide +kernel
theorem d9_18 : decode jdk_42_method_154_code 18 = .ok (.ireturn, 1) := by decide +kernel
theorem d10_0 : decode jdk_42_method_54_code 0 = .ok (.aload_n 0, 1) := by decide +kernel
theorem d10_1 : decode jdk_42_method_54_code 1 = .ok (.getfield 9, 3) := by decide +kernel
theorem d10_4 : decode jdk_42_method_54_code 4 = .ok (.arraylength, 1) := by decide +kernel
theorem d10_5 : decode jdk_42_method_54_code 5 = .ok (.aload_n 0, 1) := by decide +kernel
theorem d10_6 : decode jdk_42_method_54_code 6 = .ok (.invokevirtual 335, 3) := by decide +kernel
theorem d10_9 : decode jdk_42_method_54_code 9 = .ok (.ishr, 1) := by decide +kernel
theorem d10_10 : decode jdk_42_method_54_code 10 = .ok (.ireturn, 1) := by decide +kernel
theorem d11_0 : decode jdk_42_method_152_code 0 = .ok (.getstatic 38, 3) := by decide +kernel
theorem d11_3 : decode jdk_42_method_152_code 3 = .ok (.ifCond .eq 10, 3) := by decide +kernel
theorem d11_6 : decode jdk_42_method_152_code 6 = .ok (.aload_n 0, 1) := by decide +kernel
theorem d11_7 : decode jdk_42_method_152_code 7 = .ok (.getfield 15, 3) := by decide +kernel
theorem d11_10 : decode jdk_42_method_152_code 10 = .ok (.goto 4, 3) := by decide +kernel
theorem d11_14 : decode jdk_42_method_152_code 14 = .ok (.ireturn, 1) := by decide +kernel
theorem d12_0 : decode jdk_43_method_22_code 0 = .ok (.iload_n 1, 1) := by decide +kernel
theorem d12_1 : decode jdk_43_method_22_code 1 = .ok (.invokestatic 88, 3) := by decide +kernel
theorem d12_4 : decode jdk_43_method_22_code 4 = .ok (.ifCond .ne 5, 3) := by decide +kernel
theorem d12_9 : decode jdk_43_method_22_code 9 = .ok (.iload_n 2, 1) := by decide +kernel
theorem d12_10 : decode jdk_43_method_22_code 10 = .ok (.iconst 0, 1) := by decide +kernel
theorem d12_11 : decode jdk_43_method_22_code 11 = .ok (.invokestatic 92, 3) := by decide +kernel
theorem d12_14 : decode jdk_43_method_22_code 14 = .ok (.istore_n 2, 1) := by decide +kernel
theorem d12_15 : decode jdk_43_method_22_code 15 = .ok (.iload_n 3, 1) := by decide +kernel
theorem d12_16 : decode jdk_43_method_22_code 16 = .ok (.aload_n 0, 1) := by decide +kernel
theorem d12_17 : decode jdk_43_method_22_code 17 = .ok (.arraylength, 1) := by decide +kernel
theorem d12_18 : decode jdk_43_method_22_code 18 = .ok (.invokestatic 38, 3) := by decide +kernel
theorem d12_21 : decode jdk_43_method_22_code 21 = .ok (.istore_n 3, 1) := by decide +kernel
theorem d12_22 : decode jdk_43_method_22_code 22 = .ok (.iload_n 2, 1) := by decide +kernel
theorem d12_23 : decode jdk_43_method_22_code 23 = .ok (.iload_n 3, 1) := by decide +kernel
theorem d12_24 : decode jdk_43_method_22_code 24 = .ok (.if_icmp .lt 5, 3) := by decide +kernel
theorem d12_27 : decode jdk_43_method_22_code 27 = .ok (.iconst (-1), 1) := by decide +kernel
theorem d12_28 : decode jdk_43_method_22_code 28 = .ok (.ireturn, 1) := by decide +kernel
theorem d12_29 : decode jdk_43_method_22_code 29 = .ok (.aload_n 0, 1) := by decide +kernel
theorem d12_30 : decode jdk_43_method_22_code 30 = .ok (.iload_n 1, 1) := by decide +kernel
theorem d12_31 : decode jdk_43_method_22_code 31 = .ok (.iload_n 2, 1) := by decide +kernel
theorem d12_32 : decode jdk_43_method_22_code 32 = .ok (.iload_n 3, 1) := by decide +kernel
theorem d12_33 : decode jdk_43_method_22_code 33 = .ok (.invokestatic 95, 3) := by decide +kernel
theorem d12_36 : decode jdk_43_method_22_code 36 = .ok (.ireturn, 1) := by decide +kernel
theorem d13_0 : decode jdk_43_method_4_code 0 = .ok (.iload_n 0, 1) := by decide +kernel
theorem d13_1 : decode jdk_43_method_4_code 1 = .ok (.ifCond .lt 14, 3) := by decide +kernel
theorem d13_4 : decode jdk_43_method_4_code 4 = .ok (.iload_n 0, 1) := by decide +kernel
theorem d13_5 : decode jdk_43_method_4_code 5 = .ok (.sipush 255, 3) := by decide +kernel
theorem d13_8 : decode jdk_43_method_4_code 8 = .ok (.if_icmp .gt 7, 3) := by decide +kernel
theorem d13_11 : decode jdk_43_method_4_code 11 = .ok (.iconst 1, 1) := by decide +kernel
theorem d13_12 : decode jdk_43_method_4_code 12 = .ok (.goto 4, 3) := by decide +kernel
theorem d13_16 : decode jdk_43_method_4_code 16 = .ok (.ireturn, 1) := by decide +kernel
theorem d14_0 : decode jdk_29_method_65_code 0 = .ok (.iload_n 0, 1) := by decide +kernel
theorem d14_1 : decode jdk_29_method_65_code 1 = .ok (.iload_n 1, 1) := by decide +kernel
theorem d14_2 : decode jdk_29_method_65_code 2 = .ok (.if_icmp .lt 7, 3) := by decide +kernel
theorem d14_5 : decode jdk_29_method_65_code 5 = .ok (.iload_n 0, 1) := by decide +kernel
theorem d14_6 : decode jdk_29_method_65_code 6 = .ok (.goto 4, 3) := by decide +kernel
theorem d14_10 : decode jdk_29_method_65_code 10 = .ok (.ireturn, 1) := by decide +kernel
theorem d15_0 : decode jdk_29_method_69_code 0 = .ok (.iload_n 0, 1) := by decide +kernel
theorem d15_1 : decode jdk_29_method_69_code 1 = .ok (.iload_n 1, 1) := by decide +kernel
theorem d15_2 : decode jdk_29_method_69_code 2 = .ok (.if_icmp .gt 7, 3) := by decide +kernel
theorem d15_5 : decode jdk_29_method_69_code 5 = .ok (.iload_n 0, 1) := by decide +kernel
theorem d15_6 : decode jdk_29_method_69_code 6 = .ok (.goto 4, 3) := by decide +kernel
theorem d15_10 : decode jdk_29_method_69_code 10 = .ok (.ireturn, 1) := by decide +kernel
theorem d16_0 : decode jdk_52_method_16_code 0 = .ok (.iload_n 2, 1) := by decide +kernel
theorem d16_1 : decode jdk_52_method_16_code 1 = .ok (.newarray .byte, 2) := by decide +kernel
theorem d16_3 : decode jdk_52_method_16_code 3 = .ok (.astore_n 3, 1) := by decide +kernel
theorem d16_4 : decode jdk_52_method_16_code 4 = .ok (.aload_n 0, 1) := by decide +kernel
theorem d16_5 : decode jdk_52_method_16_code 5 = .ok (.iload_n 1, 1) := by decide +kernel
theorem d16_6 : decode jdk_52_method_16_code 6 = .ok (.aload_n 3, 1) := by decide +kernel
theorem d16_7 : decode jdk_52_method_16_code 7 = .ok (.iconst 0, 1) := by decide +kernel
theorem d16_8 : decode jdk_52_method_16_code 8 = .ok (.iload_n 2, 1) := by decide +kernel
theorem d16_9 : decode jdk_52_method_16_code 9 = .ok (.invokestatic 115, 3) := by decide +kernel
theorem d16_12 : decode jdk_52_method_16_code 12 = .ok (.istore 4, 2) := by decide +kernel
theorem d16_14 : decode jdk_52_method_16_code 14 = .ok (.iload 4, 2) := by decide +kernel
theorem d16_16 : decode jdk_52_method_16_code 16 = .ok (.iload_n 2, 1) := by decide +kernel
theorem d16_17 : decode jdk_52_method_16_code 17 = .ok (.if_icmp .eq 40, 3) := by decide +kernel
theorem d16_20 : decode jdk_52_method_16_code 20 = .ok (.aload_n 0, 1) := by decide +kernel
theorem d16_21 : decode jdk_52_method_16_code 21 = .ok (.iload_n 1, 1) := by decide +kernel
theorem d16_22 : decode jdk_52_method_16_code 22 = .ok (.iload_n 2, 1) := by decide +kernel
theorem d16_23 : decode jdk_52_method_16_code 23 = .ok (.invokestatic 119, 3) := by decide +kernel
theorem d16_26 : decode jdk_52_method_16_code 26 = .ok (.astore 5, 2) := by decide +kernel
theorem d16_28 : decode jdk_52_method_16_code 28 = .ok (.aload 5, 2) := by decide +kernel
theorem d16_30 : decode jdk_52_method_16_code 30 = .ok (.iload 4, 2) := by decide +kernel
theorem d16_32 : decode jdk_52_method_16_code 32 = .ok (.invokestatic 71, 3) := by decide +kernel
theorem d16_35 : decode jdk_52_method_16_code 35 = .ok (.sipush 255, 3) := by decide +kernel
theorem d16_38 : decode jdk_52_method_16_code 38 = .ok (.if_icmp .gt 16, 3) := by decide +kernel
theorem d16_54 : decode jdk_52_method_16_code 54 = .ok (.aload 5, 2) := by decide +kernel
theorem d16_56 : decode jdk_52_method_16_code 56 = .ok (.areturn, 1) := by decide +kernel
theorem d16_57 : decode jdk_52_method_16_code 57 = .ok (.aload_n 3, 1) := by decide +kernel
theorem d16_58 : decode jdk_52_method_16_code 58 = .ok (.areturn, 1) := by decide +kernel
theorem d17_0 : decode jdk_52_method_21_code 0 = .ok (.iconst 0, 1) := by decide +kernel
theorem d17_1 : decode jdk_52_method_21_code 1 = .ok (.istore 5, 2) := by decide +kernel
theorem d17_3 : decode jdk_52_method_21_code 3 = .ok (.iload 5, 2) := by decide +kernel
theorem d17_5 : decode jdk_52_method_21_code 5 = .ok (.iload 4, 2) := by decide +kernel
theorem d17_7 : decode jdk_52_method_21_code 7 = .ok (.if_icmp .ge 37, 3) := by decide +kernel
theorem d17_10 : decode jdk_52_method_21_code 10 = .ok (.aload_n 0, 1) := by decide +kernel
theorem d17_11 : decode jdk_52_method_21_code 11 = .ok (.iload_n 1, 1) := by decide +kernel
theorem d17_12 : decode jdk_52_method_21_code 12 = .ok (.caload, 1) := by decide +kernel
theorem d17_13 : decode jdk_52_method_21_code 13 = .ok (.istore 6, 2) := by decide +kernel
theorem d17_15 : decode jdk_52_method_21_code 15 = .ok (.iload 6, 2) := by decide +kernel
theorem d17_17 : decode jdk_52_method_21_code 17 = .ok (.sipush 255, 3) := by decide +kernel
theorem d17_20 : decode jdk_52_method_21_code 20 = .ok (.if_icmp .le 6, 3) := by decide +kernel
theorem d17_23 : decode jdk_52_method_21_code 23 = .ok (.iload 5, 2) := by decide +kernel
theorem d17_25 : decode jdk_52_method_21_code 25 = .ok (.ireturn, 1) := by decide +kernel
theorem d17_26 : decode jdk_52_method_21_code 26 = .ok (.aload_n 2, 1) := by decide +kernel
theorem d17_27 : decode jdk_52_method_21_code 27 = .ok (.iload_n 3, 1) := by decide +kernel
theorem d17_28 : decode jdk_52_method_21_code 28 = .ok (.iload 6, 2) := by decide +kernel
theorem d17_30 : decode jdk_52_method_21_code 30 = .ok (.i2b, 1) := by decide +kernel
theorem d17_31 : decode jdk_52_method_21_code 31 = .ok (.bastore, 1) := by decide +kernel
theorem d17_32 : decode jdk_52_method_21_code 32 = .ok (.iinc 1 1, 3) := by decide +kernel
theorem d17_35 : decode jdk_52_method_21_code 35 = .ok (.iinc 3 1, 3) := by decide +kernel
theorem d17_38 : decode jdk_52_method_21_code 38 = .ok (.iinc 5 1, 3) := by decide +kernel
theorem d17_41 : decode jdk_52_method_21_code 41 = .ok (.goto (-38), 3) := by decide +kernel
theorem d17_44 : decode jdk_52_method_21_code 44 = .ok (.iload 4, 2) := by decide +kernel
theorem d17_46 : decode jdk_52_method_21_code 46 = .ok (.ireturn, 1) := by decide +kernel
theorem d18_0 : decode jdk_52_method_15_code 0 = .ok (.iload_n 1, 1) := by decide +kernel
theorem d18_1 : decode jdk_52_method_15_code 1 = .ok (.aload_n 0, 1) := by decide +kernel
theorem d18_2 : decode jdk_52_method_15_code 2 = .ok (.arraylength, 1) := by decide +kernel
theorem d18_3 : decode jdk_52_method_15_code 3 = .ok (.isub, 1) := by decide +kernel
theorem d18_4 : decode jdk_52_method_15_code 4 = .ok (.bipush 31, 2) := by decide +kernel
theorem d18_6 : decode jdk_52_method_15_code 6 = .ok (.iushr, 1) := by decide +kernel
theorem d18_7 : decode jdk_52_method_15_code 7 = .ok (.i2b, 1) := by decide +kernel
theorem d18_8 : decode jdk_52_method_15_code 8 = .ok (.ireturn, 1) := by decide +kernel
theorem d19_0 : decode jdk_43_method_23_code 0 = .ok (.iload_n 1, 1) := by decide +kernel
theorem d19_1 : decode jdk_43_method_23_code 1 = .ok (.i2b, 1) := by decide +kernel
theorem d19_2 : decode jdk_43_method_23_code 2 = .ok (.istore 4, 2) := by decide +kernel
theorem d19_4 : decode jdk_43_method_23_code 4 = .ok (.iload_n 2, 1) := by decide +kernel
theorem d19_5 : decode jdk_43_method_23_code 5 = .ok (.istore 5, 2) := by decide +kernel
theorem d19_7 : decode jdk_43_method_23_code 7 = .ok (.iload 5, 2) := by decide +kernel
theorem d19_9 : decode jdk_43_method_23_code 9 = .ok (.iload_n 3, 1) := by decide +kernel
theorem d19_10 : decode jdk_43_method_23_code 10 = .ok (.if_icmp .ge 21, 3) := by decide +kernel
theorem d19_13 : decode jdk_43_method_23_code 13 = .ok (.aload_n 0, 1) := by decide +kernel
theorem d19_14 : decode jdk_43_method_23_code 14 = .ok (.iload 5, 2) := by decide +kernel
theorem d19_16 : decode jdk_43_method_23_code 16 = .ok (.baload, 1) := by decide +kernel
theorem d19_17 : decode jdk_43_method_23_code 17 = .ok (.iload 4, 2) := by decide +kernel
theorem d19_19 : decode jdk_43_method_23_code 19 = .ok (.if_icmp .ne 6, 3) := by decide +kernel
theorem d19_22 : decode jdk_43_method_23_code 22 = .ok (.iload 5, 2) := by decide +kernel
theorem d19_24 : decode jdk_43_method_23_code 24 = .ok (.ireturn, 1) := by decide +kernel
theorem d19_25 : decode jdk_43_method_23_code 25 = .ok (.iinc 5 1, 3) := by decide +kernel
theorem d19_28 : decode jdk_43_method_23_code 28 = .ok (.goto (-21), 3) := by decide +kernel
theorem d19_31 : decode jdk_43_method_23_code 31 = .ok (.iconst (-1), 1) := by decide +kernel
theorem d19_32 : decode jdk_43_method_23_code 32 = .ok (.ireturn, 1) := by decide +kernel
theorem d20_0 : decode jdk_52_method_14_code 0 = .ok (.iload_n 2, 1) := by decide +kernel
theorem d20_1 : decode jdk_52_method_14_code 1 = .ok (.invokestatic 107, 3) := by decide +kernel
theorem d20_4 : decode jdk_52_method_14_code 4 = .ok (.astore_n 3, 1) := by decide +kernel
theorem d20_5 : decode jdk_52_method_14_code 5 = .ok (.iconst 0, 1) := by decide +kernel
theorem d20_6 : decode jdk_52_method_14_code 6 = .ok (.istore 4, 2) := by decide +kernel
theorem d20_8 : decode jdk_52_method_14_code 8 = .ok (.iload 4, 2) := by decide +kernel
theorem d20_10 : decode jdk_52_method_14_code 10 = .ok (.iload_n 2, 1) := by decide +kernel
theorem d20_11 : decode jdk_52_method_14_code 11 = .ok (.if_icmp .ge 21, 3) := by decide +kernel
theorem d20_14 : decode jdk_52_method_14_code 14 = .ok (.aload_n 3, 1) := by decide +kernel
theorem d20_15 : decode jdk_52_method_14_code 15 = .ok (.iload 4, 2) := by decide +kernel
theorem d20_17 : decode jdk_52_method_14_code 17 = .ok (.aload_n 0, 1) := by decide +kernel
theorem d20_18 : decode jdk_52_method_14_code 18 = .ok (.iload_n 1, 1) := by decide +kernel
theorem d20_19 : decode jdk_52_method_14_code 19 = .ok (.caload, 1) := by decide +kernel
theorem d20_20 : decode jdk_52_method_14_code 20 = .ok (.invokestatic 111, 3) := by decide +kernel
theorem d20_23 : decode jdk_52_method_14_code 23 = .ok (.iinc 1 1, 3) := by decide +kernel
theorem d20_26 : decode jdk_52_method_14_code 26 = .ok (.iinc 4 1, 3) := by decide +kernel
theorem d20_29 : decode jdk_52_method_14_code 29 = .ok (.goto (-21), 3) := by decide +kernel
theorem d20_32 : decode jdk_52_method_14_code 32 = .ok (.aload_n 3, 1) := by decide +kernel
theorem d20_33 : decode jdk_52_method_14_code 33 = .ok (.areturn, 1) := by decide +kernel
theorem d21_0 : decode jdk_52_method_2_code 0 = .ok (.iload_n 0, 1) := by decide +kernel
theorem d21_1 : decode jdk_52_method_2_code 1 = .ok (.invokestatic 11, 3) := by decide +kernel
theorem d21_4 : decode jdk_52_method_2_code 4 = .ok (.newarray .byte, 2) := by decide +kernel
theorem d21_6 : decode jdk_52_method_2_code 6 = .ok (.areturn, 1) := by decide +kernel
theorem d22_0 : decode jdk_52_method_3_code 0 = .ok (.iload_n 0, 1) := by decide +kernel
theorem d22_1 : decode jdk_52_method_3_code 1 = .ok (.ifCond .ge 11, 3) := by decide +kernel
theorem d22_12 : decode jdk_52_method_3_code 12 = .ok (.iload_n 0, 1) := by decide +kernel
theorem d22_13 : decode jdk_52_method_3_code 13 = .ok (.ldc 20, 2) := by decide +kernel
theorem d22_15 : decode jdk_52_method_3_code 15 = .ok (.if_icmp .lt 40, 3) := by decide +kernel
theorem d22_55 : decode jdk_52_method_3_code 55 = .ok (.iload_n 0, 1) := by decide +kernel
theorem d22_56 : decode jdk_52_method_3_code 56 = .ok (.iconst 1, 1) := by decide +kernel
theorem d22_57 : decode jdk_52_method_3_code 57 = .ok (.ishl, 1) := by decide +kernel
theorem d22_58 : decode jdk_52_method_3_code 58 = .ok (.ireturn, 1) := by decide +kernel
theorem d23_0 : decode jdk_52_method_4_code 0 = .ok (.getstatic 44, 3) := by decide +kernel
theorem d23_3 : decode jdk_52_method_4_code 3 = .ok (.ifCond .ne 25, 3) := by decide +kernel
theorem d23_28 : decode jdk_52_method_4_code 28 = .ok (.iload_n 1, 1) := by decide +kernel
theorem d23_29 : decode jdk_52_method_4_code 29 = .ok (.iconst 1, 1) := by decide +kernel
theorem d23_30 : decode jdk_52_method_4_code 30 = .ok (.ishl, 1) := by decide +kernel
theorem d23_31 : decode jdk_52_method_4_code 31 = .ok (.istore_n 1, 1) := by decide +kernel
theorem d23_32 : decode jdk_52_method_4_code 32 = .ok (.aload_n 0, 1) := by decide +kernel
theorem d23_33 : decode jdk_52_method_4_code 33 = .ok (.iload_n 1, 1) := by decide +kernel
theorem d23_34 : decode jdk_52_method_4_code 34 = .ok (.iinc 1 1, 3) := by decide +kernel
theorem d23_37 : decode jdk_52_method_4_code 37 = .ok (.iload_n 2, 1) := by decide +kernel
theorem d23_38 : decode jdk_52_method_4_code 38 = .ok (.getstatic 59, 3) := by decide +kernel
theorem d23_41 : decode jdk_52_method_4_code 41 = .ok (.ishr, 1) := by decide +kernel
theorem d23_42 : decode jdk_52_method_4_code 42 = .ok (.i2b, 1) := by decide +kernel
theorem d23_43 : decode jdk_52_method_4_code 43 = .ok (.bastore, 1) := by decide +kernel
theorem d23_44 : decode jdk_52_method_4_code 44 = .ok (.aload_n 0, 1) := by decide +kernel
theorem d23_45 : decode jdk_52_method_4_code 45 = .ok (.iload_n 1, 1) := by decide +kernel
theorem d23_46 : decode jdk_52_method_4_code 46 = .ok (.iload_n 2, 1) := by decide +kernel
theorem d23_47 : decode jdk_52_method_4_code 47 = .ok (.getstatic 63, 3) := by decide +kernel
theorem d23_50 : decode jdk_52_method_4_code 50 = .ok (.ishr, 1) := by decide +kernel
theorem d23_51 : decode jdk_52_method_4_code 51 = .ok (.i2b, 1) := by decide +kernel
theorem d23_52 : decode jdk_52_method_4_code 52 = .ok (.bastore, 1) := by decide +kernel
theorem d23_53 : decode jdk_52_method_4_code 53 = .ok (.return_, 1) := by decide +kernel
theorem d24_0 : decode jdk_52_method_5_code 0 = .ok (.getstatic 44, 3) := by decide +kernel
theorem d24_3 : decode jdk_52_method_5_code 3 = .ok (.ifCond .ne 25, 3) := by decide +kernel
theorem d24_28 : decode jdk_52_method_5_code 28 = .ok (.iload_n 1, 1) := by decide +kernel
theorem d24_29 : decode jdk_52_method_5_code 29 = .ok (.iconst 1, 1) := by decide +kernel
theorem d24_30 : decode jdk_52_method_5_code 30 = .ok (.ishl, 1) := by decide +kernel
theorem d24_31 : decode jdk_52_method_5_code 31 = .ok (.istore_n 1, 1) := by decide +kernel
theorem d24_32 : decode jdk_52_method_5_code 32 = .ok (.aload_n 0, 1) := by decide +kernel
theorem d24_33 : decode jdk_52_method_5_code 33 = .ok (.iload_n 1, 1) := by decide +kernel
theorem d24_34 : decode jdk_52_method_5_code 34 = .ok (.iinc 1 1, 3) := by decide +kernel
theorem d24_37 : decode jdk_52_method_5_code 37 = .ok (.baload, 1) := by decide +kernel
theorem d24_38 : decode jdk_52_method_5_code 38 = .ok (.sipush 255, 3) := by decide +kernel
theorem d24_41 : decode jdk_52_method_5_code 41 = .ok (.iand, 1) := by decide +kernel
theorem d24_42 : decode jdk_52_method_5_code 42 = .ok (.getstatic 59, 3) := by decide +kernel
theorem d24_45 : decode jdk_52_method_5_code 45 = .ok (.ishl, 1) := by decide +kernel
theorem d24_46 : decode jdk_52_method_5_code 46 = .ok (.aload_n 0, 1) := by decide +kernel
theorem d24_47 : decode jdk_52_method_5_code 47 = .ok (.iload_n 1, 1) := by decide +kernel
theorem d24_48 : decode jdk_52_method_5_code 48 = .ok (.baload, 1) := by decide +kernel
theorem d24_49 : decode jdk_52_method_5_code 49 = .ok (.sipush 255, 3) := by decide +kernel
theorem d24_52 : decode jdk_52_method_5_code 52 = .ok (.iand, 1) := by decide +kernel
theorem d24_53 : decode jdk_52_method_5_code 53 = .ok (.getstatic 63, 3) := by decide +kernel
theorem d24_56 : decode jdk_52_method_5_code 56 = .ok (.ishl, 1) := by decide +kernel
theorem d24_57 : decode jdk_52_method_5_code 57 = .ok (.ior, 1) := by decide +kernel
theorem d24_58 : decode jdk_52_method_5_code 58 = .ok (.i2c, 1) := by decide +kernel
theorem d24_59 : decode jdk_52_method_5_code 59 = .ok (.ireturn, 1) := by decide +kernel
theorem d25_0 : decode jdk_52_method_40_code 0 = .ok (.iload_n 2, 1) := by decide +kernel
theorem d25_1 : decode jdk_52_method_40_code 1 = .ok (.iconst 0, 1) := by decide +kernel
theorem d25_2 : decode jdk_52_method_40_code 2 = .ok (.invokestatic 224, 3) := by decide +kernel
theorem d25_5 : decode jdk_52_method_40_code 5 = .ok (.istore_n 2, 1) := by decide +kernel
theorem d25_6 : decode jdk_52_method_40_code 6 = .ok (.iload_n 3, 1) := by decide +kernel
theorem d25_7 : decode jdk_52_method_40_code 7 = .ok (.aload_n 0, 1) := by decide +kernel
theorem d25_8 : decode jdk_52_method_40_code 8 = .ok (.arraylength, 1) := by decide +kernel
theorem d25_9 : decode jdk_52_method_40_code 9 = .ok (.iconst 1, 1) := by decide +kernel
theorem d25_10 : decode jdk_52_method_40_code 10 = .ok (.ishr, 1) := by decide +kernel
theorem d25_11 : decode jdk_52_method_40_code 11 = .ok (.invokestatic 183, 3) := by decide +kernel
theorem d25_14 : decode jdk_52_method_40_code 14 = .ok (.istore_n 3, 1) := by decide +kernel
theorem d25_15 : decode jdk_52_method_40_code 15 = .ok (.iload_n 2, 1) := by decide +kernel
theorem d25_16 : decode jdk_52_method_40_code 16 = .ok (.iload_n 3, 1) := by decide +kernel
theorem d25_17 : decode jdk_52_method_40_code 17 = .ok (.if_icmp .lt 5, 3) := by decide +kernel
theorem d25_20 : decode jdk_52_method_40_code 20 = .ok (.iconst (-1), 1) := by decide +kernel
theorem d25_21 : decode jdk_52_method_40_code 21 = .ok (.ireturn, 1) := by decide +kernel
theorem d25_22 : decode jdk_52_method_40_code 22 = .ok (.iload_n 1, 1) := by decide +kernel
theorem d25_23 : decode jdk_52_method_40_code 23 = .ok (.ldc 227, 2) := by decide +kernel
theorem d25_25 : decode jdk_52_method_40_code 25 = .ok (.if_icmp .ge 11, 3) := by decide +kernel
theorem d25_28 : decode jdk_52_method_40_code 28 = .ok (.aload_n 0, 1) := by decide +kernel
theorem d25_29 : decode jdk_52_method_40_code 29 = .ok (.iload_n 1, 1) := by decide +kernel
theorem d25_30 : decode jdk_52_method_40_code 30 = .ok (.iload_n 2, 1) := by decide +kernel
theorem d25_31 : decode jdk_52_method_40_code 31 = .ok (.iload_n 3, 1) := by decide +kernel
theorem d25_32 : decode jdk_52_method_40_code 32 = .ok (.invokestatic 228, 3) := by decide +kernel
theorem d25_35 : decode jdk_52_method_40_code 35 = .ok (.ireturn, 1) := by decide +kernel
theorem d26_0 : decode jdk_52_method_47_code 0 = .ok (.iload_n 2, 1) := by decide +kernel
theorem d26_1 : decode jdk_52_method_47_code 1 = .ok (.iload_n 3, 1) := by decide +kernel
theorem d26_2 : decode jdk_52_method_47_code 2 = .ok (.aload_n 0, 1) := by decide +kernel
theorem d26_3 : decode jdk_52_method_47_code 3 = .ok (.invokestatic 96, 3) := by decide +kernel
theorem d26_6 : decode jdk_52_method_47_code 6 = .ok (.aload_n 0, 1) := by decide +kernel
theorem d26_7 : decode jdk_52_method_47_code 7 = .ok (.iload_n 1, 1) := by decide +kernel
theorem d26_8 : decode jdk_52_method_47_code 8 = .ok (.iload_n 2, 1) := by decide +kernel
theorem d26_9 : decode jdk_52_method_47_code 9 = .ok (.iload_n 3, 1) := by decide +kernel
theorem d26_10 : decode jdk_52_method_47_code 10 = .ok (.invokestatic 244, 3) := by decide +kernel
theorem d26_13 : decode jdk_52_method_47_code 13 = .ok (.ireturn, 1) := by decide +kernel
theorem d27_0 : decode jdk_52_method_93_code 0 = .ok (.iload_n 0, 1) := by decide +kernel
theorem d27_1 : decode jdk_52_method_93_code 1 = .ok (.iload_n 1, 1) := by decide +kernel
theorem d27_2 : decode jdk_52_method_93_code 2 = .ok (.aload_n 2, 1) := by decide +kernel
theorem d27_3 : decode jdk_52_method_93_code 3 = .ok (.invokestatic 48, 3) := by decide +kernel
theorem d27_6 : decode jdk_52_method_93_code 6 = .ok (.invokestatic 241, 3) := by decide +kernel
theorem d27_9 : decode jdk_52_method_93_code 9 = .ok (.return_, 1) := by decide +kernel
theorem d28_0 : decode jdk_52_method_6_code 0 = .ok (.aload_n 0, 1) := by decide +kernel
theorem d28_1 : decode jdk_52_method_6_code 1 = .ok (.arraylength, 1) := by decide +kernel
theorem d28_2 : decode jdk_52_method_6_code 2 = .ok (.iconst 1, 1) := by decide +kernel
theorem d28_3 : decode jdk_52_method_6_code 3 = .ok (.ishr, 1) := by decide +kernel
theorem d28_4 : decode jdk_52_method_6_code 4 = .ok (.ireturn, 1) := by decide +kernel
theorem d29_0 : decode jdk_42_method_158_code 0 = .ok (.iload_n 0, 1) := by decide +kernel
theorem d29_1 : decode jdk_42_method_158_code 1 = .ok (.iload_n 1, 1) := by decide +kernel
theorem d29_2 : decode jdk_42_method_158_code 2 = .ok (.iload_n 2, 1) := by decide +kernel
theorem d29_3 : decode jdk_42_method_158_code 3 = .ok (.getstatic 1053, 3) := by decide +kernel
theorem d29_6 : decode jdk_42_method_158_code 6 = .ok (.invokestatic 1062, 3) := by decide +kernel
theorem d29_9 : decode jdk_42_method_158_code 9 = .ok (.pop, 1) := by decide +kernel
theorem d29_10 : decode jdk_42_method_158_code 10 = .ok (.return_, 1) := by decide +kernel
theorem d30_0 : decode jdk_41_method_12_code 0 = .ok (.iload_n 0, 1) := by decide +kernel
theorem d30_1 : decode jdk_41_method_12_code 1 = .ok (.ifCond .lt 13, 3) := by decide +kernel
theorem d30_4 : decode jdk_41_method_12_code 4 = .ok (.iload_n 0, 1) := by decide +kernel
theorem d30_5 : decode jdk_41_method_12_code 5 = .ok (.iload_n 1, 1) := by decide +kernel
theorem d30_6 : decode jdk_41_method_12_code 6 = .ok (.if_icmp .gt 8, 3) := by decide +kernel
theorem d30_9 : decode jdk_41_method_12_code 9 = .ok (.iload_n 1, 1) := by decide +kernel
theorem d30_10 : decode jdk_41_method_12_code 10 = .ok (.iload_n 2, 1) := by decide +kernel
theorem d30_11 : decode jdk_41_method_12_code 11 = .ok (.if_icmp .le 11, 3) := by decide +kernel
theorem d30_22 : decode jdk_41_method_12_code 22 = .ok (.iload_n 0, 1) := by decide +kernel
theorem d30_23 : decode jdk_41_method_12_code 23 = .ok (.ireturn, 1) := by decide +kernel
theorem d31_0 : decode jdk_52_method_48_code 0 = .ok (.iload_n 2, 1) := by decide +kernel
theorem d31_1 : decode jdk_52_method_48_code 1 = .ok (.istore 4, 2) := by decide +kernel
theorem d31_3 : decode jdk_52_method_48_code 3 = .ok (.iload 4, 2) := by decide +kernel
theorem d31_5 : decode jdk_52_method_48_code 5 = .ok (.iload_n 3, 1) := by decide +kernel
theorem d31_6 : decode jdk_52_method_48_code 6 = .ok (.if_icmp .ge 22, 3) := by decide +kernel
theorem d31_9 : decode jdk_52_method_48_code 9 = .ok (.aload_n 0, 1) := by decide +kernel
theorem d31_10 : decode jdk_52_method_48_code 10 = .ok (.iload 4, 2) := by decide +kernel
theorem d31_12 : decode jdk_52_method_48_code 12 = .ok (.invokestatic 71, 3) := by decide +kernel
theorem d31_15 : decode jdk_52_method_48_code 15 = .ok (.iload_n 1, 1) := by decide +kernel
theorem d31_16 : decode jdk_52_method_48_code 16 = .ok (.if_icmp .ne 6, 3) := by decide +kernel
theorem d31_19 : decode jdk_52_method_48_code 19 = .ok (.iload 4, 2) := by decide +kernel
theorem d31_21 : decode jdk_52_method_48_code 21 = .ok (.ireturn, 1) := by decide +kernel
theorem d31_22 : decode jdk_52_method_48_code 22 = .ok (.iinc 4 1, 3) := by decide +kernel
theorem d31_25 : decode jdk_52_method_48_code 25 = .ok (.goto (-22), 3) := by decide +kernel
theorem d31_28 : decode jdk_52_method_48_code 28 = .ok (.iconst (-1), 1) := by decide +kernel
theorem d31_29 : decode jdk_52_method_48_code 29 = .ok (.ireturn, 1) := by decide +kernel
theorem pn_0 : plainName "java/lang/String" = true := by first | (simp [plainName, overriddenIn]; done) | decide +kernel
theorem pn_1 : plainName "java/lang/StringUTF16" = true := by first | (simp [plainName, overriddenIn]; done) | decide +kernel
theorem pn_2 : plainName "com/example/filter_to_where/filtertowhere/tree/LimitsRelationshipStepsPinLaw" = true := by first | (simp [plainName, overriddenIn]; done) | decide +kernel
theorem pn_3 : plainName "java/lang/StringLatin1" = true := by first | (simp [plainName, overriddenIn]; done) | decide +kernel
theorem pn_4 : plainName "jdk/internal/util/Preconditions" = true := by first | (simp [plainName, overriddenIn]; done) | decide +kernel
theorem pn_5 : plainName "com/example/filter_to_where/filtertowhere/tree/Limits" = true := by first | (simp [plainName, overriddenIn]; done) | decide +kernel
theorem pd_0 : parseMethodDescriptor "([CIILjava/lang/Void;)V" = some ⟨[(.array .char), .int, .int, (.object "java/lang/Void")], none⟩ := by decide +kernel
theorem pd_1 : parseMethodDescriptor "(I)I" = some ⟨[.int], some .int⟩ := by decide +kernel
theorem pd_2 : parseMethodDescriptor "(I)[B" = some ⟨[.int], some (.array .byte)⟩ := by decide +kernel
theorem pd_3 : parseMethodDescriptor "([BII)V" = some ⟨[(.array .byte), .int, .int], none⟩ := by decide +kernel
theorem pd_4 : parseMethodDescriptor "([CI[BII)I" = some ⟨[(.array .char), .int, (.array .byte), .int, .int], some .int⟩ := by decide +kernel
theorem pd_5 : parseMethodDescriptor "([CII)[B" = some ⟨[(.array .char), .int, .int], some (.array .byte)⟩ := by decide +kernel
theorem pd_6 : parseMethodDescriptor "([BI)B" = some ⟨[(.array .byte), .int], some .byte⟩ := by decide +kernel
theorem pd_7 : parseMethodDescriptor "([BI)C" = some ⟨[(.array .byte), .int], some .char⟩ := by decide +kernel
theorem pd_8 : parseMethodDescriptor "()B" = some ⟨[], some .byte⟩ := by decide +kernel
theorem pd_9 : parseMethodDescriptor "(I)Z" = some ⟨[.int], some .boolean⟩ := by decide +kernel
theorem pd_10 : parseMethodDescriptor "(II)I" = some ⟨[.int, .int], some .int⟩ := by decide +kernel
theorem pd_11 : parseMethodDescriptor "([BIII)I" = some ⟨[(.array .byte), .int, .int, .int], some .int⟩ := by decide +kernel
theorem pd_12 : parseMethodDescriptor "(IIILjava/util/function/BiFunction;)I" = some ⟨[.int, .int, .int, (.object "java/util/function/BiFunction")], some .int⟩ := by decide +kernel
theorem pd_13 : parseMethodDescriptor "([B)I" = some ⟨[(.array .byte)], some .int⟩ := by decide +kernel
theorem pd_14 : parseMethodDescriptor "(III)V" = some ⟨[.int, .int, .int], none⟩ := by decide +kernel
theorem pd_15 : parseMethodDescriptor "(II[B)V" = some ⟨[.int, .int, (.array .byte)], none⟩ := by decide +kernel
theorem pd_16 : parseMethodDescriptor "()Z" = some ⟨[], some .boolean⟩ := by decide +kernel
theorem pd_17 : parseMethodDescriptor "()I" = some ⟨[], some .int⟩ := by decide +kernel
theorem pd_18 : parseMethodDescriptor "(JIII)C" = some ⟨[.long, .int, .int, .int], some .char⟩ := by decide +kernel
theorem pd_19 : parseMethodDescriptor "(CII)I" = some ⟨[.char, .int, .int], some .int⟩ := by decide +kernel
theorem pd_20 : parseMethodDescriptor "(Ljava/lang/String;)I" = some ⟨[(.object "java/lang/String")], some .int⟩ := by decide +kernel
theorem pd_21 : parseMethodDescriptor "([C)V" = some ⟨[(.array .char)], none⟩ := by decide +kernel
theorem own_wS {a0 : Array Value} {Z : State} (hw : ∀ d ∈ tables_1, d.before a0 Z = true) : ∀ a ∈ Bundle.stringAtoms, a.before a0 Z = true := fun d hd => by
  simp only [Bundle.stringAtoms, List.mem_cons, List.not_mem_nil, or_false] at hd
  rcases hd with rfl | rfl | rfl | rfl | rfl | rfl | rfl
  · exact (w_9 hw)
  · exact (w_8 hw)
  · exact (w_21 hw)
  · exact (w_22 hw)
  · exact (w_23 hw)
  · exact (w_24 hw)
  · exact (w_25 hw)
theorem own_EW {a0 : Array Value} {Z : State} (hw : ∀ d ∈ tables_1, d.before a0 Z = true) : EW Z a0 consts_1 := EW.cons (w_20 hw) (by decide) (EW.nil)
def OwnS (Z : State) (i_COMPACT_STRINGS : Int32) (v_SIOOBE_FORMATTER : Value) : Prop := (Sta Z Z.heap "java/lang/String" "COMPACT_STRINGS" "Z" (.int i_COMPACT_STRINGS)) ∧ (Sta Z Z.heap "jdk/internal/util/Preconditions" "SIOOBE_FORMATTER" "Ljava/util/function/BiFunction;" v_SIOOBE_FORMATTER) ∧ (v_SIOOBE_FORMATTER.isRef = true) ∧ (Sta Z Z.heap "java/lang/StringUTF16" "$assertionsDisabled" "Z" (.int (1 : Int32))) ∧ (Sta Z Z.heap "java/lang/StringUTF16" "HI_BYTE_SHIFT" "I" (.int (0 : Int32))) ∧ (Sta Z Z.heap "java/lang/StringUTF16" "LO_BYTE_SHIFT" "I" (.int (8 : Int32))) ∧ (¬ (i_COMPACT_STRINGS = (0 : Int32)))
def own_by (c : Int32) : Int32 := nar .byte c.toInt8.toInt32
theorem own_t1 (x : Int32) : nar .byte x = x.toInt8.toInt32 := rfl
theorem own_gcb (u : BitVec 16) : (((((((u.setWidth 32).sshiftRight 0).setWidth 8).signExtend 32) &&& 255#32) <<< 0 ||| (((((u.setWidth 32).sshiftRight 8).setWidth 8).signExtend 32) &&& 255#32) <<< 8).setWidth 16) = u := by
  apply BitVec.eq_of_getLsbD_eq
  intro i hi
  simp [BitVec.getLsbD_setWidth, BitVec.getLsbD_or, BitVec.getLsbD_and, BitVec.getLsbD_signExtend, BitVec.getLsbD_shiftLeft, BitVec.getLsbD_sshiftRight]
  have h : i = 0 ∨ i = 1 ∨ i = 2 ∨ i = 3 ∨ i = 4 ∨ i = 5 ∨ i = 6 ∨ i = 7 ∨ i = 8 ∨ i = 9 ∨ i = 10 ∨ i = 11 ∨ i = 12 ∨ i = 13 ∨ i = 14 ∨ i = 15 := by omega
  rcases h with rfl | rfl | rfl | rfl | rfl | rfl | rfl | rfl | rfl | rfl | rfl | rfl | rfl | rfl | rfl | rfl <;> simp
def own_b0 (c : Int32) : Int32 := nar .byte ((c >>> ((0 : Int32) &&& 31)).toInt8.toInt32)
def own_b1 (c : Int32) : Int32 := nar .byte ((c >>> ((8 : Int32) &&& 31)).toInt8.toInt32)
def own_gv (y z : Int32) : Int32 := ((((y &&& (255 : Int32)) <<< ((0 : Int32) &&& 31)) ||| ((z &&& (255 : Int32)) <<< ((8 : Int32) &&& 31))).toUInt32.toUInt16.toUInt32.toInt32)
theorem own_char {c : Int32} (h : nar .char c = c) : ∃ u : UInt16, c = u.toUInt32.toInt32 := ⟨c.toUInt32.toUInt16, h.symm⟩
theorem own_b0b (u : UInt16) : (own_b0 u.toUInt32.toInt32).toBitVec = ((((u.toBitVec.setWidth 32).sshiftRight 0).setWidth 8).signExtend 32) := by
  unfold own_b0
  rw [own_t1]
  simp [BitVec.signExtend_eq_setWidth_of_le]
theorem own_b1b (u : UInt16) : (own_b1 u.toUInt32.toInt32).toBitVec = ((((u.toBitVec.setWidth 32).sshiftRight 8).setWidth 8).signExtend 32) := by
  unfold own_b1
  rw [own_t1]
  simp [BitVec.signExtend_eq_setWidth_of_le]
theorem own_gc {c : Int32} (h : nar .char c = c) : own_gv (own_b0 c) (own_b1 c) = c := by
  obtain ⟨u, rfl⟩ := own_char h
  apply Int32.toBitVec_inj.mp
  have h1 := own_gcb u.toBitVec
  rw [← own_b0b, ← own_b1b] at h1
  generalize own_b0 u.toUInt32.toInt32 = y at *
  generalize own_b1 u.toUInt32.toInt32 = z at *
  exact congrArg (fun b => b.setWidth 32) h1
theorem own_u16 (u : UInt16) : u.toUInt32.toInt32.toInt = u.toNat := by
  have h := u.toNat_lt
  have h2 : u.toUInt32.toInt32.toInt = (u.toUInt32.toBitVec).toInt := rfl
  rw [h2, BitVec.toInt_eq_toNat_of_lt (by show 2 * u.toUInt32.toNat < _; rw [UInt16.toNat_toUInt32]; omega)]
  show ((u.toUInt32.toNat : Nat) : Int) = _
  rw [UInt16.toNat_toUInt32]
theorem own_ch0 {c : Int32} (h : nar .char c = c) : 0 ≤ c.toInt ∧ c.toInt < 65536 := by
  obtain ⟨u, rfl⟩ := own_char h
  have h := u.toNat_lt
  rw [own_u16]
  omega
theorem own_lcA : ∀ i : Fin 256, (((nar .byte (Int32.ofNat i.val).toInt8.toInt32) &&& (255 : Int32)).toUInt32.toUInt16.toUInt32.toInt32) = Int32.ofNat i.val := by decide +kernel
theorem own_lc {c : Int32} (h : nar .char c = c) (hl : ¬ ((255 : Int32) < c)) : (((nar .byte c.toInt8.toInt32) &&& (255 : Int32)).toUInt32.toUInt16.toUInt32.toInt32) = c := by
  have h0 := (own_ch0 h).1
  rw [Int32.lt_iff_toInt_lt, show (255 : Int32).toInt = 255 by decide] at hl
  have e : c = Int32.ofNat c.toInt.toNat := by
    apply Int32.toInt_inj.mp
    rw [Int32.toInt_ofNat_of_lt (by omega)]
    omega
  rw [e]
  exact own_lcA ⟨c.toInt.toNat, by omega⟩
theorem own_nc (x : Int32) : narrow .char (.int (x.toUInt32.toUInt16.toUInt32.toInt32)) = .int (x.toUInt32.toUInt16.toUInt32.toInt32) := by
  generalize x.toUInt32.toUInt16 = u
  show Value.int (u.toUInt32.toInt32.toUInt32.toUInt16.toUInt32.toInt32) = _
  rw [show u.toUInt32.toInt32.toUInt32.toUInt16 = u by simp]
theorem own_nch (x : Int32) : nar .char (x.toUInt32.toUInt16.toUInt32.toInt32) = (x.toUInt32.toUInt16.toUInt32.toInt32) := Value.int.inj (own_nc x)

section OwnStr
def OwnL (cs : List Int32) : List Value := cs.map fun c => Value.int (own_by c)
def OwnU (cs : List Int32) : List Value := cs.flatMap fun c => [Value.int (own_b0 c), Value.int (own_b1 c)]
def OwnPL (cs : List Int32) (m : Nat) (bs : List Value) : Prop := bs.length = cs.length ∧ ∀ j, j < m → bs[j]? = (cs[j]?).map fun c => Value.int (own_by c)
def OwnPU (cs : List Int32) (m : Nat) (bs : List Value) : Prop := bs.length = 2 * cs.length ∧ ∀ j, j < m → bs[2 * j]? = (cs[j]?).map (fun c => Value.int (own_b0 c)) ∧ bs[2 * j + 1]? = (cs[j]?).map (fun c => Value.int (own_b1 c))
theorem OwnPL.start (cs : List Int32) (d : Value) : OwnPL cs 0 (List.replicate cs.length d) := ⟨by simp, fun j hj => absurd hj (Nat.not_lt_zero _)⟩
theorem OwnPU.start (cs : List Int32) (d : Value) : OwnPU cs 0 (List.replicate (2 * cs.length) d) := ⟨by simp, fun j hj => absurd hj (Nat.not_lt_zero _)⟩
theorem OwnPL.step {cs : List Int32} {m : Nat} {bs : List Value} {c : Int32} (h : OwnPL cs m bs) (hc : cs[m]? = some c) : OwnPL cs (m + 1) (bs.set m (.int (own_by c))) := by
  refine ⟨by simp [h.1], fun j hj => ?_⟩
  have hm : m < cs.length := (List.getElem?_eq_some_iff.mp hc).1
  rw [List.getElem?_set]
  by_cases e : m = j
  · subst e
    rw [if_pos rfl, if_pos (by rw [h.1]; exact hm), hc]
    rfl
  · rw [if_neg e]
    exact h.2 j (by omega)
theorem OwnPU.step {cs : List Int32} {m : Nat} {bs : List Value} {c : Int32} (h : OwnPU cs m bs) (hc : cs[m]? = some c) : OwnPU cs (m + 1) ((bs.set (2 * m) (.int (own_b0 c))).set (2 * m + 1) (.int (own_b1 c))) := by
  refine ⟨by simp [h.1], fun j hj => ?_⟩
  have hm : m < cs.length := (List.getElem?_eq_some_iff.mp hc).1
  have hl := h.1
  by_cases e : m = j
  · subst e
    constructor
    · rw [List.getElem?_set, if_neg (by omega), List.getElem?_set, if_pos rfl, if_pos (by omega), hc]; rfl
    · rw [List.getElem?_set, if_pos rfl, if_pos (by rw [List.length_set]; omega), hc]; rfl
  · have := h.2 j (by omega)
    constructor
    · rw [List.getElem?_set, if_neg (by omega), List.getElem?_set, if_neg (by omega)]; exact this.1
    · rw [List.getElem?_set, if_neg (by omega), List.getElem?_set, if_neg (by omega)]; exact this.2
theorem OwnPL.end {cs : List Int32} {bs : List Value} (h : OwnPL cs cs.length bs) : bs = OwnL cs := by
  apply List.ext_getElem?
  intro j
  unfold OwnL
  rw [List.getElem?_map]
  by_cases hj : j < cs.length
  · exact h.2 j hj
  · rw [List.getElem?_eq_none (by have := h.1; omega), List.getElem?_eq_none (by omega)]; rfl
theorem OwnU.at (cs : List Int32) : ∀ j, (OwnU cs)[2 * j]? = (cs[j]?).map (fun c => Value.int (own_b0 c)) ∧ (OwnU cs)[2 * j + 1]? = (cs[j]?).map (fun c => Value.int (own_b1 c)) := by
  unfold OwnU
  induction cs with
  | nil => intro j; simp
  | cons c cs ih =>
    intro j
    cases j with
    | zero => simp
    | succ j =>
      have := ih j
      simp only [List.flatMap_cons, List.cons_append, List.nil_append]
      rw [show 2 * (j + 1) = 2 * j + 1 + 1 by omega, List.getElem?_cons_succ, List.getElem?_cons_succ, List.getElem?_cons_succ, List.getElem?_cons_succ, List.getElem?_cons_succ]
      exact this
theorem OwnU.len (cs : List Int32) : (OwnU cs).length = 2 * cs.length := by
  unfold OwnU
  induction cs with
  | nil => rfl
  | cons c cs ih => simp only [List.flatMap_cons, List.length_append, ih, List.length_cons, List.length_nil]; omega
theorem OwnPU.end {cs : List Int32} {bs : List Value} (h : OwnPU cs cs.length bs) : bs = OwnU cs := by
  apply List.ext_getElem?
  intro k
  have hk : k = 2 * (k / 2) ∨ k = 2 * (k / 2) + 1 := by omega
  have hl := OwnU.len cs
  have hl2 := h.1
  by_cases hj : k / 2 < cs.length
  · have a := h.2 _ hj
    have b := OwnU.at cs (k / 2)
    rcases hk with e | e
    · rw [e, a.1, b.1]
    · rw [e, a.2, b.2]
  · rw [List.getElem?_eq_none (by omega), List.getElem?_eq_none (by omega)]
theorem own_getD {bs : List Value} {j : Nat} {v d : Value} (h : bs[j]? = some v) : bs.getD j d = v := by rw [List.getD_eq_getElem?_getD, h]; rfl
theorem own_getC {cs : List Int32} {j : Nat} {c : Int32} {d : Value} (h : cs[j]? = some c) : (cs.map Value.int).getD j d = .int c := own_getD (by rw [List.getElem?_map, h]; rfl)
theorem own_getL {cs : List Int32} {j : Nat} {c : Int32} {d : Value} (h : cs[j]? = some c) : (OwnL cs).getD j d = .int (own_by c) := own_getD (by unfold OwnL; rw [List.getElem?_map, h]; rfl)
theorem own_getU0 {cs : List Int32} {j : Nat} {c : Int32} {d : Value} (h : cs[j]? = some c) : (OwnU cs).getD (2 * j) d = .int (own_b0 c) := own_getD (by rw [(OwnU.at cs j).1, h]; rfl)
theorem own_getU1 {cs : List Int32} {j : Nat} {c : Int32} {d : Value} (h : cs[j]? = some c) : (OwnU cs).getD (2 * j + 1) d = .int (own_b1 c) := own_getD (by rw [(OwnU.at cs j).2, h]; rfl)
theorem own_tn {i : Int32} {m : Nat} (h : i.toInt = (m : Int)) : i.toNatClampNeg = m := by
  show i.toInt.toNat = m
  rw [h]; rfl
theorem own_nneg {i : Int32} {m : Nat} (h : i.toInt = (m : Int)) : ¬ i < 0 := by
  rw [Int32.lt_iff_toInt_lt, h, show (0 : Int32).toInt = 0 by decide]; omega
theorem own_ltI {i j : Int32} {m n : Nat} (h : i.toInt = (m : Int)) (h2 : j.toInt = (n : Int)) (hl : m < n) : i < j := by
  rw [Int32.lt_iff_toInt_lt, h, h2]; omega
theorem own_nltI {i j : Int32} {m n : Nat} (h : i.toInt = (m : Int)) (h2 : j.toInt = (n : Int)) (hl : n ≤ m) : ¬ i < j := by
  rw [Int32.lt_iff_toInt_lt, h, h2]; omega
theorem own_suc {i : Int32} {m : Nat} (h : i.toInt = (m : Int)) (hm : m < 1000000) : (i + (1 : Int32)).toInt = ((m + 1 : Nat) : Int) := by
  rw [Int32.toInt_add, h, show (1 : Int32).toInt = 1 by decide, Int.bmod_eq_of_le (by omega) (by omega)]; rfl
theorem own_dbl0 (i : Int32) : i <<< ((1 : Int32) &&& 31) = i + i := by
  apply Int32.toBitVec_inj.mp
  have e : (i <<< ((1 : Int32) &&& 31)).toBitVec = i.toBitVec <<< (1 : Nat) := rfl
  rw [e, Int32.toBitVec_add]
  apply BitVec.eq_of_toNat_eq
  rw [BitVec.toNat_shiftLeft, BitVec.toNat_add, Nat.shiftLeft_eq]
  congr 1
  omega
theorem own_dbl {i : Int32} {m : Nat} (h : i.toInt = (m : Int)) (hm : m < 1000000) : (i <<< ((1 : Int32) &&& 31)).toInt = ((2 * m : Nat) : Int) := by
  rw [own_dbl0, Int32.toInt_add, h, Int.bmod_eq_of_le (by omega) (by omega)]; omega
theorem own_of {z : Int32} {n : Nat} (h : z.toInt = (n : Int)) (hn : n < 1000000) : z = Int32.ofNat n := by
  apply Int32.toInt_inj.mp
  rw [Int32.toInt_ofNat_of_lt (by omega), h]
theorem own_clA : ∀ n : Fin 33, 0 < n.val → ((((Int32.ofNat n.val) - ((Int32.ofNat n.val) <<< ((1 : Int32) &&& 31))).toUInt32 >>> ((31 : Int32) &&& 31).toUInt32).toInt32).toInt8.toInt32 = 1 := by decide +kernel
theorem own_clU {z : Int32} {n : Nat} (h : z.toInt = (n : Int)) (h0 : 0 < n) (h1 : n < 33) : (((z - (z <<< ((1 : Int32) &&& 31))).toUInt32 >>> ((31 : Int32) &&& 31).toUInt32).toInt32).toInt8.toInt32 = 1 := by
  rw [own_of h (by omega)]
  exact own_clA ⟨n, h1⟩ h0
theorem own_clL (z : Int32) : (((z - z).toUInt32 >>> ((31 : Int32) &&& 31).toUInt32).toInt32).toInt8.toInt32 = 0 := by
  rw [Int32.sub_self]
  decide

def OwnLat (cs : List Int32) : Prop := ∀ c ∈ cs, ¬ ((255 : Int32) < c)
def OwnHi (cs : List Int32) : Prop := ∃ c ∈ cs, (255 : Int32) < c
def OwnChs (cs : List Int32) : Prop := ∀ c ∈ cs, nar .char c = c
theorem OwnLat.nil : OwnLat [] := fun _ h => nomatch h
theorem OwnLat.cons {c : Int32} {cs : List Int32} (h : ¬ ((255 : Int32) < c)) (k : OwnLat cs) : OwnLat (c :: cs) := fun x hx => by
  rcases List.mem_cons.mp hx with rfl | q
  · exact h
  · exact k x q
theorem OwnChs.nil : OwnChs [] := fun _ h => nomatch h
theorem OwnChs.cons {c : Int32} {cs : List Int32} (h : nar .char c = c) (k : OwnChs cs) : OwnChs (c :: cs) := fun x hx => by
  rcases List.mem_cons.mp hx with rfl | q
  · exact h
  · exact k x q
theorem OwnHi.here {c : Int32} {cs : List Int32} (h : (255 : Int32) < c) : OwnHi (c :: cs) := ⟨c, List.mem_cons_self, h⟩
theorem OwnHi.there {c : Int32} {cs : List Int32} (h : OwnHi cs) : OwnHi (c :: cs) := by
  obtain ⟨x, hx, q⟩ := h
  exact ⟨x, List.mem_cons_of_mem _ hx, q⟩
theorem OwnHi.not {cs : List Int32} (h : OwnHi cs) (k : ∀ (j : Nat) (c : Int32), cs[j]? = some c → ¬ ((255 : Int32) < c)) : False := by
  obtain ⟨c, hc, q⟩ := h
  obtain ⟨j, hj⟩ := List.getElem?_of_mem hc
  exact k j c hj q
theorem own_neI {i j : Int32} {m n : Nat} (h : i.toInt = (m : Int)) (h2 : j.toInt = (n : Int)) (hl : m < n) : ¬ i = j := fun q => by
  rw [q, h2] at h
  omega
theorem own_n0 {j : Int32} {n : Nat} (h2 : j.toInt = (n : Int)) (hl : 0 < n) : ¬ j = 0 := fun q => by
  rw [q, show (0 : Int32).toInt = 0 by decide] at h2
  omega
theorem own_hlfA : ∀ n : Fin 33, (((Int32.ofNat (2 * n.val)) >>> ((1 : Int32) &&& 31))).toInt = (n.val : Int) := by decide +kernel
theorem own_half {z : Int32} {n : Nat} (h : z.toInt = ((2 * n : Nat) : Int)) (hn : n < 33) : (z >>> ((1 : Int32) &&& 31)).toInt = (n : Int) := by
  rw [own_of h (by omega)]
  exact own_hlfA ⟨n, hn⟩
theorem own_hlf {i z : Int32} {m n : Nat} (hi : i.toInt = (m : Int)) (h : z.toInt = ((2 * n : Nat) : Int)) (hm : m < n) (hn : n ≤ 10) : i < (z >>> ((1 : Int32) &&& 31)) := own_ltI hi (own_half h (by omega)) hm
theorem own_shr0 (z : Int32) : (z >>> ((0 : Int32) &&& 31)) = z := by
  apply Int32.toInt_inj.mp
  rw [c_ishr z 0 0 (by decide)]
  simp
theorem own_lenL {z : Int32} {n : Nat} (h : z.toInt = ((n : Nat) : Int)) : (z >>> ((0 : Int32) &&& 31)).toInt = (n : Int) := by rw [own_shr0]; exact h
end OwnStr

def OwnSt (Z : State) (h : Heap) (b : Addr) (cs : List Int32) : Prop := Exa Z h b "java/lang/String" ∧ ∃ (ba : Addr) (kb : ClassId) (zb : Int32), Fld Z h b "java/lang/String" "value" "[B" (.ref ba) ∧ ((Fld Z h b "java/lang/String" "coder" "B" (.int (0 : Int32)) ∧ Arv Z h ba kb .byte zb (OwnL cs) (.int (0 : Int32)) ∧ OwnLat cs ∧ zb.toInt = ((cs.length : Nat) : Int)) ∨ (Fld Z h b "java/lang/String" "coder" "B" (.int (1 : Int32)) ∧ Arv Z h ba kb .byte zb (OwnU cs) (.int (0 : Int32)) ∧ OwnHi cs ∧ zb.toInt = ((2 * cs.length : Nat) : Int)))
theorem own_loh (cs : List Int32) : OwnLat cs ∨ OwnHi cs := by
  by_cases h : OwnHi cs
  · exact Or.inr h
  · exact Or.inl fun c hc hl => h ⟨c, hc, hl⟩
section OwnIx
def own_cnt : List Int32 → Int32
  | [] => 0
  | c :: cs => (if c = (46 : Int32) then (1 : Int32) else (0 : Int32)) + own_cnt cs
def OwnIx (cs : List Int32) (a : Nat) (i : Int32) : Prop := (i = (-1 : Int32) ∧ ∀ j : Nat, a ≤ j → cs[j]? ≠ some (46 : Int32)) ∨ ∃ m : Nat, i.toInt = (m : Int) ∧ a ≤ m ∧ cs[m]? = some (46 : Int32) ∧ ∀ j : Nat, a ≤ j → j < m → cs[j]? ≠ some (46 : Int32)
theorem OwnIx.no {cs : List Int32} {a : Nat} (h : ∀ j : Nat, a ≤ j → j < cs.length → cs[j]? ≠ some (46 : Int32)) : OwnIx cs a (-1 : Int32) := Or.inl ⟨rfl, fun j h1 => by
  by_cases h2 : j < cs.length
  · exact h j h1 h2
  · rw [List.getElem?_eq_none (by omega)]; exact nofun⟩
theorem OwnIx.yes {cs : List Int32} {a m : Nat} {i : Int32} (hi : i.toInt = (m : Int)) (ha : a ≤ m) (hc : cs[m]? = some (46 : Int32)) (h : ∀ j : Nat, a ≤ j → j < m → cs[j]? ≠ some (46 : Int32)) : OwnIx cs a i := Or.inr ⟨m, hi, ha, hc, h⟩
theorem own_nos {cs : List Int32} {a m : Nat} {c : Int32} (h : ∀ j : Nat, a ≤ j → j < m → cs[j]? ≠ some (46 : Int32)) (hc : cs[m]? = some c) (hne : c ≠ 46) : ∀ j : Nat, a ≤ j → j < m + 1 → cs[j]? ≠ some (46 : Int32) := fun j h1 h2 => by
  rcases Nat.lt_succ_iff_lt_or_eq.mp h2 with q | rfl
  · exact h j h1 q
  · rw [hc]; exact fun q => hne (Option.some.inj q)
theorem own_by46 {c : Int32} (h : nar .char c = c) (hl : ¬ ((255 : Int32) < c)) (he : own_by c = (((46 : Int32).toInt8.toInt32))) : c = 46 := by
  have q := own_lc h hl
  rw [show nar .byte c.toInt8.toInt32 = (46 : Int32).toInt8.toInt32 from he] at q
  rw [← q]
  decide
theorem own_cnt_at {cs : List Int32} {a : Nat} {c : Int32} (h : cs[a]? = some c) : own_cnt (cs.drop a) = (if c = (46 : Int32) then (1 : Int32) else (0 : Int32)) + own_cnt (cs.drop (a + 1)) := by
  obtain ⟨hl, rfl⟩ := List.getElem?_eq_some_iff.mp h
  rw [List.drop_eq_getElem_cons hl]
  rfl
theorem own_cnt_first {cs : List Int32} : ∀ (d a m : Nat), m = a + d → cs[m]? = some (46 : Int32) → (∀ j : Nat, a ≤ j → j < m → cs[j]? ≠ some (46 : Int32)) → own_cnt (cs.drop a) = 1 + own_cnt (cs.drop (m + 1)) := by
  intro d
  induction d with
  | zero =>
    intro a m e h _
    have e2 : m = a := e
    subst e2
    rw [own_cnt_at h, if_pos rfl]
  | succ d ih =>
    intro a m e h hn
    have hm : m < cs.length := (List.getElem?_eq_some_iff.mp h).1
    obtain ⟨x, hx⟩ : ∃ x, cs[a]? = some x := ⟨_, List.getElem?_eq_getElem (by omega)⟩
    have hne : ¬ x = 46 := fun q => hn a (Nat.le_refl _) (by omega) (by rw [hx, q])
    rw [own_cnt_at hx, if_neg hne, Int32.zero_add]
    exact ih (a + 1) m (by omega) h (fun j h1 h2 => hn j (by omega) h2)
theorem own_cnt_none {cs : List Int32} : ∀ (d a : Nat), cs.length ≤ a + d → (∀ j : Nat, a ≤ j → cs[j]? ≠ some (46 : Int32)) → own_cnt (cs.drop a) = 0 := by
  intro d
  induction d with
  | zero =>
    intro a h _
    rw [List.drop_eq_nil_of_le (by omega)]
    rfl
  | succ d ih =>
    intro a h hn
    by_cases ha : a < cs.length
    · obtain ⟨x, hx⟩ : ∃ x, cs[a]? = some x := ⟨_, List.getElem?_eq_getElem ha⟩
      have hne : ¬ x = 46 := fun q => hn a (Nat.le_refl _) (by rw [hx, q])
      rw [own_cnt_at hx, if_neg hne, Int32.zero_add]
      exact ih (a + 1) (by omega) (fun j h1 => hn j (by omega))
    · rw [List.drop_eq_nil_of_le (by omega)]
      rfl
theorem own_cntE {cs : List Int32} {a : Nat} {acc : Int32} (hc : acc + own_cnt (cs.drop a) = own_cnt cs) (hn : ∀ j : Nat, a ≤ j → cs[j]? ≠ some (46 : Int32)) : acc = own_cnt cs := by
  rw [← hc, own_cnt_none cs.length a (by omega) hn, Int32.add_zero]
theorem own_cntS {cs : List Int32} {a m : Nat} {acc : Int32} (hc : acc + own_cnt (cs.drop a) = own_cnt cs) (ha : a ≤ m) (h : cs[m]? = some (46 : Int32)) (hn : ∀ j : Nat, a ≤ j → j < m → cs[j]? ≠ some (46 : Int32)) : acc + 1 + own_cnt (cs.drop (m + 1)) = own_cnt cs := by
  rw [← hc, own_cnt_first (m - a) a m (by omega) h hn, Int32.add_assoc]
end OwnIx

theorem own_rem9 (y : Int32) : (y &&& 2147483647) % 9 = 0 ∨ (y &&& 2147483647) % 9 = 1 ∨ (y &&& 2147483647) % 9 = 2 ∨ (y &&& 2147483647) % 9 = 3 ∨ (y &&& 2147483647) % 9 = 4 ∨ (y &&& 2147483647) % 9 = 5 ∨ (y &&& 2147483647) % 9 = 6 ∨ (y &&& 2147483647) % 9 = 7 ∨ (y &&& 2147483647) % 9 = 8 := by
  have h1 := (c_and y 2147483647 (by decide)).1
  have h2 := (c_irem (y &&& 2147483647) 9 9 (by decide)).1 h1
  generalize (y &&& 2147483647) % 9 = k at h2 ⊢
  have h4 : k.toInt = 0 ∨ k.toInt = 1 ∨ k.toInt = 2 ∨ k.toInt = 3 ∨ k.toInt = 4 ∨ k.toInt = 5 ∨ k.toInt = 6 ∨ k.toInt = 7 ∨ k.toInt = 8 := by omega
  rcases h4 with h | h | h | h | h | h | h | h | h
  · exact Or.inl (Int32.toInt_inj.mp h)
  · exact Or.inr (Or.inl (Int32.toInt_inj.mp h))
  · exact Or.inr (Or.inr (Or.inl (Int32.toInt_inj.mp h)))
  · exact Or.inr (Or.inr (Or.inr (Or.inl (Int32.toInt_inj.mp h))))
  · exact Or.inr (Or.inr (Or.inr (Or.inr (Or.inl (Int32.toInt_inj.mp h)))))
  · exact Or.inr (Or.inr (Or.inr (Or.inr (Or.inr (Or.inl (Int32.toInt_inj.mp h))))))
  · exact Or.inr (Or.inr (Or.inr (Or.inr (Or.inr (Or.inr (Or.inl (Int32.toInt_inj.mp h)))))))
  · exact Or.inr (Or.inr (Or.inr (Or.inr (Or.inr (Or.inr (Or.inr (Or.inl (Int32.toInt_inj.mp h))))))))
  · exact Or.inr (Or.inr (Or.inr (Or.inr (Or.inr (Or.inr (Or.inr (Or.inr (Int32.toInt_inj.mp h))))))))
def own_dt (u i k : Int32) : Int32 := if i < k then (if u = (46 : Int32) then (1 : Int32) else (0 : Int32)) else (0 : Int32)
theorem own_dt1 (u : Int32) {i k : Int32} (h : i < k) : own_dt u i k = (if u = (46 : Int32) then (1 : Int32) else (0 : Int32)) := if_pos h
theorem own_dt0 (u : Int32) {i k : Int32} (h : ¬ (i < k)) : own_dt u i k = (0 : Int32) := if_neg h
theorem ef_CO0 (m : MethodId) (x0 : Addr) : entryFrame m #[(.ref x0)] 1 = mkF m 0 #[.val (.ref x0)] [] := by first | (simp [entryFrame, mkF, argsToLocals, Value.category]; done) | rfl
def QCO0 (Z : State) (b : Addr) (i_COMPACT_STRINGS : Int32) (v_SIOOBE_FORMATTER : Value) (h0 : Heap) (n0 : Nat) (v : Option Value) (h : Heap) (L : List Loc) : Prop := v = some (.int 0) ∧ Fr n0 L ∧ h = h0
set_option maxRecDepth 65536 in
set_option maxHeartbeats 40000000 in
theorem rmCO0 (l : Launch) (Z : State) (a0 : Array Value) (hw : ∀ d ∈ tables_1, d.before a0 Z = true) (ws : List Jvm.Cond) (b : Addr) (i_COMPACT_STRINGS : Int32) (v_SIOOBE_FORMATTER : Value) (h0 : Heap) (n0 : Nat) (O0 : Old Z n0 h0) (F : Fld Z h0 b "java/lang/String" "coder" "B" (.int (0 : Int32))) (hS : OwnS Z i_COMPACT_STRINGS v_SIOOBE_FORMATTER) :
    MetFree l (⟨"java/lang/String", "coder", "()B"⟩ : MethodName) (head1 (Jvm.Cond.code (⟨"java/lang/String", "coder", "()B"⟩ : MethodName) jdk_42_method_152_code 1 (some .byte) :: ws) ({ frames := 0, cells := 0, slots := 0, locals := 0 } : Room)) (fun aa_ UU_ => aa_ = #[(.ref b)] ∧ Z.Warmed39 UU_.vm ∧ UU_.heap = h0) (fun _ _ _ _ _ => True) (fun _ UU_ oo_ UV_ => ∃ vv_ LL_, oo_ = .returned vv_ ∧ QCO0 Z b i_COMPACT_STRINGS v_SIOOBE_FORMATTER h0 n0 vv_ UV_.heap LL_ ∧ FrameEnd UU_ oo_ UV_ LL_ ({ frames := 0, cells := 0, slots := 0, locals := 0 } : Room).cells ({ frames := 0, cells := 0, slots := 0, locals := 0 } : Room).slots) := by
  refine MetFree.of_bodySF (plainFor_of_name pn_0) hisR ?_
  intro p e s m args below meth c s₁ Bd hml0 hP hK
  obtain ⟨rfl, hZ, hh⟩ := hP
  have hx := Bd.exec
  have hby := Bd.bytes
  have hlk := BodyLoose.notSynchronized Bd
  have hml : c.maxLocals = 1 := hml0
  have hown : s.vm.findClass "java/lang/String" = some m.cls := findClass_of_methodNamed Bd.named
  have hnm := (name_of_methodNamed Bd.named Bd.method).1
  have X0 : Stand p l e ({ frames := 0, cells := 0, slots := 0, locals := 0 } : Room) s m #[(.ref b)] below meth c s₁ [] 0 0 := Stand.of_body Bd
  have e0 : s₁.heap = h0 := by rw [← hh, Bd.state]; rfl
  have N0 := Fr.nil n0
  suffices hOW : OW p e below s (QCO0 Z b i_COMPACT_STRINGS v_SIOOBE_FORMATTER h0 n0) 0 0 (s₁.setTop (mkF m 0 #[.val (.ref b)] [])) by
    obtain ⟨oq1_, oq2_, oq3_, oq4_⟩ := hOW
    exact ⟨oq1_, oq2_, castTop (ef_CO0 m b) oq3_, oq4_⟩
  have hS' := hS
  obtain ⟨Si_COMPACT_STRINGS, Sv_SIOOBE_FORMATTER, Rv_SIOOBE_FORMATTER, S__assertionsDisabled, S_HI_BYTE_SHIFT, S_LO_BYTE_SHIFT, Pi_COMPACT_STRINGS⟩ := hS'
  obtain ⟨T1, X1, e1, st1⟩ := getS2 X0 hx hZ hown (host := "") (Or.inl (w_50 hw)) Via.refl e0 (Si_COMPACT_STRINGS.ext O0.2) (g := (mkF m 0 #[.val (.ref b)] [])) rfl (hb hby d11_0)
  refine OW.st (B := T1.setTop (mkF m 7 #[.val (.ref b)] [(.ref b)])) (fun _ kk_ => st1 _ (XS.ifNo X1.here hx rfl (hb hby d11_3) rfl ((if0 _ _).trans (feq Pi_COMPACT_STRINGS).1) (XS.aloadN X1.here hx rfl (hb hby d11_6) rfl rfl kk_))) ?_
  obtain ⟨T2, X2, e2, st2⟩ := getF X1 hx hZ hown (host := "") (Or.inl (w_27 hw)) Via.refl e1 F (g := (mkF m 7 #[.val (.ref b)] [(.ref b)])) rfl rfl (hb hby d11_7)
  refine OW.st (B := T2.setTop (mkF m 14 #[.val (.ref b)] [(.int (0 : Int32))])) (fun _ kk_ => st2 _ (XS.goto X2.here hx rfl (pc0 := 10) (pc' := 14) rfl (hb hby d11_10) (by decide) (by decide) kk_)) ?_
  exact OW.ret X2 hx hlk (i := .ireturn) Bd.returns rfl (Or.inl ⟨rfl, Or.inr (Or.inr (Or.inl rfl)), _, rfl⟩) (hb hby d11_14) e2 (by decide) (by decide) ⟨rfl, N0, rfl⟩
theorem ef_IL0 (m : MethodId) (x0 : Addr) : entryFrame m #[(.ref x0)] 1 = mkF m 0 #[.val (.ref x0)] [] := by first | (simp [entryFrame, mkF, argsToLocals, Value.category]; done) | rfl
def QIL0 (Z : State) (b : Addr) (i_COMPACT_STRINGS : Int32) (v_SIOOBE_FORMATTER : Value) (h0 : Heap) (n0 : Nat) (v : Option Value) (h : Heap) (L : List Loc) : Prop := v = some (.int 1) ∧ Fr n0 L ∧ h = h0
set_option maxRecDepth 65536 in
set_option maxHeartbeats 40000000 in
theorem rmIL0 (l : Launch) (Z : State) (a0 : Array Value) (hw : ∀ d ∈ tables_1, d.before a0 Z = true) (ws : List Jvm.Cond) (b : Addr) (i_COMPACT_STRINGS : Int32) (v_SIOOBE_FORMATTER : Value) (h0 : Heap) (n0 : Nat) (O0 : Old Z n0 h0) (F : Fld Z h0 b "java/lang/String" "coder" "B" (.int (0 : Int32))) (hS : OwnS Z i_COMPACT_STRINGS v_SIOOBE_FORMATTER) :
    MetFree l (⟨"java/lang/String", "isLatin1", "()Z"⟩ : MethodName) (head1 (Jvm.Cond.code (⟨"java/lang/String", "isLatin1", "()Z"⟩ : MethodName) jdk_42_method_154_code 1 (some .boolean) :: ws) ({ frames := 0, cells := 0, slots := 0, locals := 0 } : Room)) (fun aa_ UU_ => aa_ = #[(.ref b)] ∧ Z.Warmed39 UU_.vm ∧ UU_.heap = h0) (fun _ _ _ _ _ => True) (fun _ UU_ oo_ UV_ => ∃ vv_ LL_, oo_ = .returned vv_ ∧ QIL0 Z b i_COMPACT_STRINGS v_SIOOBE_FORMATTER h0 n0 vv_ UV_.heap LL_ ∧ FrameEnd UU_ oo_ UV_ LL_ ({ frames := 0, cells := 0, slots := 0, locals := 0 } : Room).cells ({ frames := 0, cells := 0, slots := 0, locals := 0 } : Room).slots) := by
  refine MetFree.of_bodySF (plainFor_of_name pn_0) hisR ?_
  intro p e s m args below meth c s₁ Bd hml0 hP hK
  obtain ⟨rfl, hZ, hh⟩ := hP
  have hx := Bd.exec
  have hby := Bd.bytes
  have hlk := BodyLoose.notSynchronized Bd
  have hml : c.maxLocals = 1 := hml0
  have hown : s.vm.findClass "java/lang/String" = some m.cls := findClass_of_methodNamed Bd.named
  have hnm := (name_of_methodNamed Bd.named Bd.method).1
  have X0 : Stand p l e ({ frames := 0, cells := 0, slots := 0, locals := 0 } : Room) s m #[(.ref b)] below meth c s₁ [] 0 0 := Stand.of_body Bd
  have e0 : s₁.heap = h0 := by rw [← hh, Bd.state]; rfl
  have N0 := Fr.nil n0
  suffices hOW : OW p e below s (QIL0 Z b i_COMPACT_STRINGS v_SIOOBE_FORMATTER h0 n0) 0 0 (s₁.setTop (mkF m 0 #[.val (.ref b)] [])) by
    obtain ⟨oq1_, oq2_, oq3_, oq4_⟩ := hOW
    exact ⟨oq1_, oq2_, castTop (ef_IL0 m b) oq3_, oq4_⟩
  have hS' := hS
  obtain ⟨Si_COMPACT_STRINGS, Sv_SIOOBE_FORMATTER, Rv_SIOOBE_FORMATTER, S__assertionsDisabled, S_HI_BYTE_SHIFT, S_LO_BYTE_SHIFT, Pi_COMPACT_STRINGS⟩ := hS'
  obtain ⟨T3, X3, e3, st3⟩ := getS2 X0 hx hZ hown (host := "") (Or.inl (w_50 hw)) Via.refl e0 (Si_COMPACT_STRINGS.ext O0.2) (g := (mkF m 0 #[.val (.ref b)] [])) rfl (hb hby d9_0)
  refine OW.st (B := T3.setTop (mkF m 7 #[.val (.ref b)] [(.ref b)])) (fun _ kk_ => st3 _ (XS.ifNo X3.here hx rfl (hb hby d9_3) rfl ((if0 _ _).trans (feq Pi_COMPACT_STRINGS).1) (XS.aloadN X3.here hx rfl (hb hby d9_6) rfl rfl kk_))) ?_
  obtain ⟨T4, X4, e4, st4⟩ := getF X3 hx hZ hown (host := "") (Or.inl (w_27 hw)) Via.refl e3 F (g := (mkF m 7 #[.val (.ref b)] [(.ref b)])) rfl rfl (hb hby d9_7)
  refine OW.st (B := T4.setTop (mkF m 18 #[.val (.ref b)] [(.int (1 : Int32))])) (fun _ kk_ => st4 _ (XS.ifNo X4.here hx rfl (hb hby d9_10) rfl ((if0 _ _).trans (teq (by decide)).2) (XS.iconst X4.here hx rfl (hb hby d9_13) (XS.goto X4.here hx rfl (pc0 := 14) (pc' := 18) rfl (hb hby d9_14) (by decide) (by decide) kk_)))) ?_
  exact OW.ret X4 hx hlk (i := .ireturn) Bd.returns rfl (Or.inl ⟨rfl, Or.inr (Or.inl rfl), _, rfl⟩) (hb hby d9_18) e4 (by decide) (by decide) ⟨rfl, N0, rfl⟩
theorem ef_CO1 (m : MethodId) (x0 : Addr) : entryFrame m #[(.ref x0)] 1 = mkF m 0 #[.val (.ref x0)] [] := by first | (simp [entryFrame, mkF, argsToLocals, Value.category]; done) | rfl
def QCO1 (Z : State) (b : Addr) (i_COMPACT_STRINGS : Int32) (v_SIOOBE_FORMATTER : Value) (h0 : Heap) (n0 : Nat) (v : Option Value) (h : Heap) (L : List Loc) : Prop := v = some (.int 1) ∧ Fr n0 L ∧ h = h0
set_option maxRecDepth 65536 in
set_option maxHeartbeats 40000000 in
theorem rmCO1 (l : Launch) (Z : State) (a0 : Array Value) (hw : ∀ d ∈ tables_1, d.before a0 Z = true) (ws : List Jvm.Cond) (b : Addr) (i_COMPACT_STRINGS : Int32) (v_SIOOBE_FORMATTER : Value) (h0 : Heap) (n0 : Nat) (O0 : Old Z n0 h0) (F : Fld Z h0 b "java/lang/String" "coder" "B" (.int (1 : Int32))) (hS : OwnS Z i_COMPACT_STRINGS v_SIOOBE_FORMATTER) :
    MetFree l (⟨"java/lang/String", "coder", "()B"⟩ : MethodName) (head1 (Jvm.Cond.code (⟨"java/lang/String", "coder", "()B"⟩ : MethodName) jdk_42_method_152_code 1 (some .byte) :: ws) ({ frames := 0, cells := 0, slots := 0, locals := 0 } : Room)) (fun aa_ UU_ => aa_ = #[(.ref b)] ∧ Z.Warmed39 UU_.vm ∧ UU_.heap = h0) (fun _ _ _ _ _ => True) (fun _ UU_ oo_ UV_ => ∃ vv_ LL_, oo_ = .returned vv_ ∧ QCO1 Z b i_COMPACT_STRINGS v_SIOOBE_FORMATTER h0 n0 vv_ UV_.heap LL_ ∧ FrameEnd UU_ oo_ UV_ LL_ ({ frames := 0, cells := 0, slots := 0, locals := 0 } : Room).cells ({ frames := 0, cells := 0, slots := 0, locals := 0 } : Room).slots) := by
  refine MetFree.of_bodySF (plainFor_of_name pn_0) hisR ?_
  intro p e s m args below meth c s₁ Bd hml0 hP hK
  obtain ⟨rfl, hZ, hh⟩ := hP
  have hx := Bd.exec
  have hby := Bd.bytes
  have hlk := BodyLoose.notSynchronized Bd
  have hml : c.maxLocals = 1 := hml0
  have hown : s.vm.findClass "java/lang/String" = some m.cls := findClass_of_methodNamed Bd.named
  have hnm := (name_of_methodNamed Bd.named Bd.method).1
  have X0 : Stand p l e ({ frames := 0, cells := 0, slots := 0, locals := 0 } : Room) s m #[(.ref b)] below meth c s₁ [] 0 0 := Stand.of_body Bd
  have e0 : s₁.heap = h0 := by rw [← hh, Bd.state]; rfl
  have N0 := Fr.nil n0
  suffices hOW : OW p e below s (QCO1 Z b i_COMPACT_STRINGS v_SIOOBE_FORMATTER h0 n0) 0 0 (s₁.setTop (mkF m 0 #[.val (.ref b)] [])) by
    obtain ⟨oq1_, oq2_, oq3_, oq4_⟩ := hOW
    exact ⟨oq1_, oq2_, castTop (ef_CO1 m b) oq3_, oq4_⟩
  have hS' := hS
  obtain ⟨Si_COMPACT_STRINGS, Sv_SIOOBE_FORMATTER, Rv_SIOOBE_FORMATTER, S__assertionsDisabled, S_HI_BYTE_SHIFT, S_LO_BYTE_SHIFT, Pi_COMPACT_STRINGS⟩ := hS'
  obtain ⟨T5, X5, e5, st5⟩ := getS2 X0 hx hZ hown (host := "") (Or.inl (w_50 hw)) Via.refl e0 (Si_COMPACT_STRINGS.ext O0.2) (g := (mkF m 0 #[.val (.ref b)] [])) rfl (hb hby d11_0)
  refine OW.st (B := T5.setTop (mkF m 7 #[.val (.ref b)] [(.ref b)])) (fun _ kk_ => st5 _ (XS.ifNo X5.here hx rfl (hb hby d11_3) rfl ((if0 _ _).trans (feq Pi_COMPACT_STRINGS).1) (XS.aloadN X5.here hx rfl (hb hby d11_6) rfl rfl kk_))) ?_
  obtain ⟨T6, X6, e6, st6⟩ := getF X5 hx hZ hown (host := "") (Or.inl (w_27 hw)) Via.refl e5 F (g := (mkF m 7 #[.val (.ref b)] [(.ref b)])) rfl rfl (hb hby d11_7)
  refine OW.st (B := T6.setTop (mkF m 14 #[.val (.ref b)] [(.int (1 : Int32))])) (fun _ kk_ => st6 _ (XS.goto X6.here hx rfl (pc0 := 10) (pc' := 14) rfl (hb hby d11_10) (by decide) (by decide) kk_)) ?_
  exact OW.ret X6 hx hlk (i := .ireturn) Bd.returns rfl (Or.inl ⟨rfl, Or.inr (Or.inr (Or.inl rfl)), _, rfl⟩) (hb hby d11_14) e6 (by decide) (by decide) ⟨rfl, N0, rfl⟩
theorem ef_IL1 (m : MethodId) (x0 : Addr) : entryFrame m #[(.ref x0)] 1 = mkF m 0 #[.val (.ref x0)] [] := by first | (simp [entryFrame, mkF, argsToLocals, Value.category]; done) | rfl
def QIL1 (Z : State) (b : Addr) (i_COMPACT_STRINGS : Int32) (v_SIOOBE_FORMATTER : Value) (h0 : Heap) (n0 : Nat) (v : Option Value) (h : Heap) (L : List Loc) : Prop := v = some (.int 0) ∧ Fr n0 L ∧ h = h0
set_option maxRecDepth 65536 in
set_option maxHeartbeats 40000000 in
theorem rmIL1 (l : Launch) (Z : State) (a0 : Array Value) (hw : ∀ d ∈ tables_1, d.before a0 Z = true) (ws : List Jvm.Cond) (b : Addr) (i_COMPACT_STRINGS : Int32) (v_SIOOBE_FORMATTER : Value) (h0 : Heap) (n0 : Nat) (O0 : Old Z n0 h0) (F : Fld Z h0 b "java/lang/String" "coder" "B" (.int (1 : Int32))) (hS : OwnS Z i_COMPACT_STRINGS v_SIOOBE_FORMATTER) :
    MetFree l (⟨"java/lang/String", "isLatin1", "()Z"⟩ : MethodName) (head1 (Jvm.Cond.code (⟨"java/lang/String", "isLatin1", "()Z"⟩ : MethodName) jdk_42_method_154_code 1 (some .boolean) :: ws) ({ frames := 0, cells := 0, slots := 0, locals := 0 } : Room)) (fun aa_ UU_ => aa_ = #[(.ref b)] ∧ Z.Warmed39 UU_.vm ∧ UU_.heap = h0) (fun _ _ _ _ _ => True) (fun _ UU_ oo_ UV_ => ∃ vv_ LL_, oo_ = .returned vv_ ∧ QIL1 Z b i_COMPACT_STRINGS v_SIOOBE_FORMATTER h0 n0 vv_ UV_.heap LL_ ∧ FrameEnd UU_ oo_ UV_ LL_ ({ frames := 0, cells := 0, slots := 0, locals := 0 } : Room).cells ({ frames := 0, cells := 0, slots := 0, locals := 0 } : Room).slots) := by
  refine MetFree.of_bodySF (plainFor_of_name pn_0) hisR ?_
  intro p e s m args below meth c s₁ Bd hml0 hP hK
  obtain ⟨rfl, hZ, hh⟩ := hP
  have hx := Bd.exec
  have hby := Bd.bytes
  have hlk := BodyLoose.notSynchronized Bd
  have hml : c.maxLocals = 1 := hml0
  have hown : s.vm.findClass "java/lang/String" = some m.cls := findClass_of_methodNamed Bd.named
  have hnm := (name_of_methodNamed Bd.named Bd.method).1
  have X0 : Stand p l e ({ frames := 0, cells := 0, slots := 0, locals := 0 } : Room) s m #[(.ref b)] below meth c s₁ [] 0 0 := Stand.of_body Bd
  have e0 : s₁.heap = h0 := by rw [← hh, Bd.state]; rfl
  have N0 := Fr.nil n0
  suffices hOW : OW p e below s (QIL1 Z b i_COMPACT_STRINGS v_SIOOBE_FORMATTER h0 n0) 0 0 (s₁.setTop (mkF m 0 #[.val (.ref b)] [])) by
    obtain ⟨oq1_, oq2_, oq3_, oq4_⟩ := hOW
    exact ⟨oq1_, oq2_, castTop (ef_IL1 m b) oq3_, oq4_⟩
  have hS' := hS
  obtain ⟨Si_COMPACT_STRINGS, Sv_SIOOBE_FORMATTER, Rv_SIOOBE_FORMATTER, S__assertionsDisabled, S_HI_BYTE_SHIFT, S_LO_BYTE_SHIFT, Pi_COMPACT_STRINGS⟩ := hS'
  obtain ⟨T7, X7, e7, st7⟩ := getS2 X0 hx hZ hown (host := "") (Or.inl (w_50 hw)) Via.refl e0 (Si_COMPACT_STRINGS.ext O0.2) (g := (mkF m 0 #[.val (.ref b)] [])) rfl (hb hby d9_0)
  refine OW.st (B := T7.setTop (mkF m 7 #[.val (.ref b)] [(.ref b)])) (fun _ kk_ => st7 _ (XS.ifNo X7.here hx rfl (hb hby d9_3) rfl ((if0 _ _).trans (feq Pi_COMPACT_STRINGS).1) (XS.aloadN X7.here hx rfl (hb hby d9_6) rfl rfl kk_))) ?_
  obtain ⟨T8, X8, e8, st8⟩ := getF X7 hx hZ hown (host := "") (Or.inl (w_27 hw)) Via.refl e7 F (g := (mkF m 7 #[.val (.ref b)] [(.ref b)])) rfl rfl (hb hby d9_7)
  refine OW.st (B := T8.setTop (mkF m 18 #[.val (.ref b)] [(.int (0 : Int32))])) (fun _ kk_ => st8 _ (XS.ifYes X8.here hx rfl (pc0 := 10) (pc' := 17) rfl (hb hby d9_10) rfl ((if0 _ _).trans (feq (by decide)).2) (by decide) (by decide) (XS.iconst X8.here hx rfl (hb hby d9_17) kk_))) ?_
  exact OW.ret X8 hx hlk (i := .ireturn) Bd.returns rfl (Or.inl ⟨rfl, Or.inr (Or.inl rfl), _, rfl⟩) (hb hby d9_18) e8 (by decide) (by decide) ⟨rfl, N0, rfl⟩
theorem ef_S1_0 (m : MethodId) (x0 : Addr) (x1 : Addr) (x2 : Int32) (x3 : Int32) : entryFrame m #[(.ref x0), (.ref x1), (.int x2), (.int x3), .null] 6 = mkF m 0 #[.val (.ref x0), .val (.ref x1), .val (.int x2), .val (.int x3), .val .null, .unset] [] := by first | (simp [entryFrame, mkF, argsToLocals, Value.category]; done) | rfl
def QS1_0 (Z : State) (b : Addr) (ca : Addr) (kc : ClassId) (h0 : Heap) (n0 : Nat) (v : Option Value) (h : Heap) (L : List Loc) : Prop := v = none ∧ Fr n0 L ∧ Keep h0 h [b] ∧ Exa Z h b "java/lang/String" ∧ ∃ (ba : Addr) (kb : ClassId), Fld Z h b "java/lang/String" "coder" "B" (.int (0 : Int32)) ∧ Fld Z h b "java/lang/String" "value" "[B" (.ref ba) ∧ Arv Z h ba kb .byte (0 : Int32) [] (.int (0 : Int32))
set_option maxRecDepth 65536 in
set_option maxHeartbeats 40000000 in
theorem rmS1_0 (l : Launch) (Z : State) (a0 : Array Value) (hw : ∀ d ∈ tables_1, d.before a0 Z = true) (ws : List Jvm.Cond) (b : Addr) (ca : Addr) (kc : ClassId) (h0 : Heap) (n0 : Nat) (O0 : Old Z n0 h0) (E : Exa Z h0 b "java/lang/String") (F1 : Fld Z h0 b "java/lang/String" "value" "[B" .null) (F2 : Fld Z h0 b "java/lang/String" "coder" "B" (.int (0 : Int32))) (g : n0 ≤ b) (V : Arv Z h0 ca kc .char (0 : Int32) [] (.int (0 : Int32))) :
    MetFree l (⟨"java/lang/String", "<init>", "([CIILjava/lang/Void;)V"⟩ : MethodName) (head1 (Jvm.Cond.code (⟨"java/lang/String", "<init>", "([CIILjava/lang/Void;)V"⟩ : MethodName) jdk_42_method_149_code 6 none :: ws) ({ frames := 1, cells := 4, slots := 8, locals := 12 } : Room)) (fun aa_ UU_ => aa_ = #[(.ref b), (.ref ca), (.int (0 : Int32)), (.int (0 : Int32)), .null] ∧ Z.Warmed39 UU_.vm ∧ UU_.heap = h0 ∧ CHv Z consts_1 UU_.vm h0) (fun _ _ _ _ _ => True) (fun _ UU_ oo_ UV_ => ∃ vv_ LL_, oo_ = .returned vv_ ∧ QS1_0 Z b ca kc h0 n0 vv_ UV_.heap LL_ ∧ CHr Z consts_1 UU_.vm UU_.heap UV_.vm UV_.heap ∧ ReturnedEndW UU_ oo_ UV_ LL_ ({ frames := 1, cells := 4, slots := 8, locals := 12 } : Room).cells ({ frames := 1, cells := 4, slots := 8, locals := 12 } : Room).slots) := by
  refine MetFree.of_bodySF (plainFor_of_name pn_0) hisR ?_
  intro p e s m args below meth c s₁ Bd hml0 hP hK
  obtain ⟨rfl, hZ, hh, hCH⟩ := hP
  have hx := Bd.exec
  have hby := Bd.bytes
  have hlk := BodyLoose.notSynchronized Bd
  have hml : c.maxLocals = 6 := hml0
  have hown : s.vm.findClass "java/lang/String" = some m.cls := findClass_of_methodNamed Bd.named
  have hnm := (name_of_methodNamed Bd.named Bd.method).1
  have X0 : Stand p l e ({ frames := 1, cells := 4, slots := 8, locals := 12 } : Room) s m #[(.ref b), (.ref ca), (.int (0 : Int32)), (.int (0 : Int32)), .null] below meth c s₁ [] 0 0 := Stand.of_body Bd
  have e0 : s₁.heap = h0 := by rw [← hh, Bd.state]; rfl
  have N0 := Fr.nil n0
  have hS0 : s.Since s.vm 0 := (State.WarmedH.refl s).since 0
  have hk0 : 0 ≤ h0.size := Nat.zero_le _
  have CR0 : CHr Z consts_1 s.vm h0 s.vm h0 := CHr.refl hCH
  have KC0 : Keep h0 h0 [b] := Keep.refl _ _
  suffices hOW : OWH Z consts_1 h0 p e below s (QS1_0 Z b ca kc h0 n0) 4 8 (s₁.setTop (mkF m 0 #[.val (.ref b), .val (.ref ca), .val (.int (0 : Int32)), .val (.int (0 : Int32)), .val .null, .unset] [])) by
    obtain ⟨oq1_, oq2_, oq3_, oq4_⟩ := hOW
    obtain ⟨oq5_, oq6_, oq7_, oq8_, oq9_, or1_, or2_, or3_⟩ := oq4_
    exact ⟨oq1_, oq2_, castTop (ef_S1_0 m b ca (0 : Int32) (0 : Int32)) oq3_, oq5_, oq6_, oq7_, oq8_, oq9_, or1_, by rw [hh]; exact or2_, or3_⟩
  refine OWH.st (B := s₁.setTop (mkF m 1 #[.val (.ref b), .val (.ref ca), .val (.int (0 : Int32)), .val (.int (0 : Int32)), .val .null, .unset] [(.ref b)])) (fun _ kk_ => XS.aloadN X0.here hx rfl (hb hby d3_0) rfl rfl kk_) ?_
  obtain ⟨T9, X9, e9, st9⟩ := initO X0 hx hZ hown (w_17 hw) (w_18 hw) (w_19 hw) e0 (g := (mkF m 1 #[.val (.ref b), .val (.ref ca), .val (.int (0 : Int32)), .val (.int (0 : Int32)), .val .null, .unset] [(.ref b)])) rfl (by rw [hml]; rfl) rfl (hb hby d3_1) (by decide) (W := 0) (by show 2 * 0 + _ ≤ _; exact Nat.le_of_eq rfl) (by decide)
  refine OWH.st (B := T9.setTop (mkF m 9 #[.val (.ref b), .val (.ref ca), .val (.int (0 : Int32)), .val (.int (0 : Int32)), .val .null, .unset] [(.ref b)])) (fun _ kk_ => st9 _ (XS.iloadN X9.here hx rfl (hb hby d3_4) rfl (XS.ifNo X9.here hx rfl (hb hby d3_5) rfl ((if0 _ _).trans (teq (by decide)).2) (XS.aloadN X9.here hx rfl (hb hby d3_8) rfl rfl kk_)))) ?_
  obtain ⟨a10, T10, h10, k10, lb10, lk10, X10, e10, E10, hS10, hk10, hZ10, hown10, Ea10, Fc10, Fv10, V10, -, -, Cs10, -, hne10, st10⟩ := ldcCH (s := s) (vm0 := s.vm) X9 hx hZ hown (w_20 hw) (own_wS hw) e9 hS0 hk0 (own_EW hw) (List.mem_of_getElem? (i := 0) rfl) CR0.1 (vs := []) (z := (0 : Int32)) ⟨by decide, by decide⟩ (by decide) (by decide) (g := (mkF m 9 #[.val (.ref b), .val (.ref ca), .val (.int (0 : Int32)), .val (.int (0 : Int32)), .val .null, .unset] [(.ref b)])) rfl (hb hby d3_9) (n := 0) (by decide) (by decide) (by decide) (by decide)
  have O10 : Old Z n0 h10 := O0.ext E10
  have CS10 : CHr Z consts_1 s.vm h0 T10.vm h10 := Cs10
  have Sf10_b := CHr.safe CS10 E.lt (own_safeS hZ.alike E F1)
  have CR10 := CHr.trans CR0 CS10
  have KC10 : Keep h0 h10 [b] := KC0.ext E10
  refine OWH.st (B := T10.setTop (mkF m 11 #[.val (.ref b), .val (.ref ca), .val (.int (0 : Int32)), .val (.int (0 : Int32)), .val .null, .unset] [(.ref a10), (.ref b)])) (fun _ kk_ => st10 _ kk_) ?_
  obtain ⟨T11, X11, e11, st11⟩ := getF X10 hx hZ10 hown10 (host := "") (Or.inl (w_26 hw)) Via.refl e10 Fv10 (g := (mkF m 11 #[.val (.ref b), .val (.ref ca), .val (.int (0 : Int32)), .val (.int (0 : Int32)), .val .null, .unset] [(.ref a10), (.ref b)])) rfl rfl (hb hby d3_11)
  refine OWH.st (B := T11.setTop (mkF m 14 #[.val (.ref b), .val (.ref ca), .val (.int (0 : Int32)), .val (.int (0 : Int32)), .val .null, .unset] [(.ref lb10), (.ref b)])) (fun _ kk_ => st11 _ kk_) ?_
  obtain ⟨T12, h12, X12, e12, W12, st12⟩ := putF X11 hx hZ10 hown10 (host := "") (Or.inl (w_26 hw)) Via.refl e11 (F1.ext E10) (E.ext E10) (Or.inr ⟨(w_22 hw), rfl, hnm⟩) (w_8 hw) (ty := (.array .byte)) (by decide) rfl rfl (g := (mkF m 14 #[.val (.ref b), .val (.ref ca), .val (.int (0 : Int32)), .val (.int (0 : Int32)), .val .null, .unset] [(.ref lb10), (.ref b)])) rfl rfl (hb hby d3_14)
  have N12 := Fr.snoc X12 N0 g
  have O12 : Old Z n0 h12 := O10.wr W12 g
  have CS12 : CHr Z consts_1 T10.vm h10 T10.vm h12 := CHr.wr W12 Sf10_b CR10.1
  have Sf12_b := CHr.safe CS12 (E.ext E10).lt Sf10_b
  have CR12 := CHr.trans CR10 CS12
  have KC12 : Keep h0 h12 [b] := KC10.wr W12 (Or.inl (List.mem_of_getElem? (i := 0) rfl))
  have F12 : Fld Z h12 b "java/lang/String" "value" "[B" (.ref lb10) := Fld.same W12 (F1.ext E10)
  refine OWH.st (B := T12.setTop (mkF m 18 #[.val (.ref b), .val (.ref ca), .val (.int (0 : Int32)), .val (.int (0 : Int32)), .val .null, .unset] [(.ref b)])) (fun _ kk_ => st12 _ (XS.aloadN X12.here hx rfl (hb hby d3_17) rfl rfl kk_)) ?_
  obtain ⟨a13, T13, h13, k13, lb13, lk13, X13, e13, E13, hS13, hk13, hZ13, hown13, Ea13, Fc13, Fv13, V13, -, -, Cs13, -, hne13, st13⟩ := ldcCH (s := s) (vm0 := T10.vm) X12 hx hZ10 hown10 (w_20 hw) (own_wS hw) e12 hS10 (Nat.le_trans hk10 (Keep.of_wr W12).1) (own_EW hw) (List.mem_of_getElem? (i := 0) rfl) CR12.1 (vs := []) (z := (0 : Int32)) ⟨by decide, by decide⟩ (by decide) (by decide) (g := (mkF m 18 #[.val (.ref b), .val (.ref ca), .val (.int (0 : Int32)), .val (.int (0 : Int32)), .val .null, .unset] [(.ref b)])) rfl (hb hby d3_18) (n := 0) (by decide) (by decide) (by decide) (by decide)
  have O13 : Old Z n0 h13 := O12.ext E13
  have CS13 : CHr Z consts_1 T10.vm h12 T13.vm h13 := Cs13
  have Sf13_b := CHr.safe CS13 ((E.ext E10).wr W12).lt Sf12_b
  have CR13 := CHr.trans CR12 CS13
  have KC13 : Keep h0 h13 [b] := KC12.ext E13
  refine OWH.st (B := T13.setTop (mkF m 20 #[.val (.ref b), .val (.ref ca), .val (.int (0 : Int32)), .val (.int (0 : Int32)), .val .null, .unset] [(.ref a13), (.ref b)])) (fun _ kk_ => st13 _ kk_) ?_
  obtain ⟨T14, X14, e14, st14⟩ := getF X13 hx hZ13 hown13 (host := "") (Or.inl (w_27 hw)) Via.refl e13 Fc13 (g := (mkF m 20 #[.val (.ref b), .val (.ref ca), .val (.int (0 : Int32)), .val (.int (0 : Int32)), .val .null, .unset] [(.ref a13), (.ref b)])) rfl rfl (hb hby d3_20)
  refine OWH.st (B := T14.setTop (mkF m 23 #[.val (.ref b), .val (.ref ca), .val (.int (0 : Int32)), .val (.int (0 : Int32)), .val .null, .unset] [(.int (0 : Int32)), (.ref b)])) (fun _ kk_ => st14 _ kk_) ?_
  obtain ⟨T15, h15, X15, e15, W15, st15⟩ := putFN X14 hx hZ13 hown13 (w_27 hw) Via.refl e14 (((F2.ext E10).other W12 (Or.inr (slot_ne (Or.inr (w_23 hw)) (Or.inr (w_22 hw)) (by decide) (t := .byte) (t' := (.array .byte)) (by decide) (by decide)))).ext E13) (((E.ext E10).wr W12).ext E13) (Or.inr ⟨(w_23 hw), rfl, hnm⟩) (w_8 hw) (ty := .byte) (v' := (.int (0 : Int32))) (by decide) rfl rfl (g := (mkF m 23 #[.val (.ref b), .val (.ref ca), .val (.int (0 : Int32)), .val (.int (0 : Int32)), .val .null, .unset] [(.int (0 : Int32)), (.ref b)])) rfl rfl (hb hby d3_23)
  have N15 := Fr.snoc X15 N12 g
  have O15 : Old Z n0 h15 := O13.wr W15 g
  have CS15 : CHr Z consts_1 T13.vm h13 T13.vm h15 := CHr.wr W15 Sf13_b CR13.1
  have Sf15_b := CHr.safe CS15 (((E.ext E10).wr W12).ext E13).lt Sf13_b
  have CR15 := CHr.trans CR13 CS15
  have KC15 : Keep h0 h15 [b] := KC13.wr W15 (Or.inl (List.mem_of_getElem? (i := 0) rfl))
  have F15 : Fld Z h15 b "java/lang/String" "coder" "B" (.int (0 : Int32)) := Fld.same W15 (((F2.ext E10).other W12 (Or.inr (slot_ne (Or.inr (w_23 hw)) (Or.inr (w_22 hw)) (by decide) (t := .byte) (t' := (.array .byte)) (by decide) (by decide)))).ext E13)
  refine OWH.st (B := T15.setTop (mkF m 26 #[.val (.ref b), .val (.ref ca), .val (.int (0 : Int32)), .val (.int (0 : Int32)), .val .null, .unset] [])) (fun _ kk_ => st15 _ kk_) ?_
  exact OWH.retV X15 (s := s) (vm0 := T13.vm) hS13 (Nat.le_trans hk13 (Keep.of_wr W15).1) hx hlk CR15 hZ13 (own_EW hw) Bd.returns (hb hby d3_26) e15 (by decide) (by decide) ⟨rfl, N15, KC15, ((((E.ext E10).wr W12).ext E13).wr W15), lb10, lk10, F15, ((F12.ext E13).other W15 (Or.inr (slot_ne (Or.inr (w_22 hw)) (Or.inr (w_23 hw)) (by decide) (t := (.array .byte)) (t' := .byte) (by decide) (by decide)))), (((V10.other W12 (Ne.symm (Exa.neArv (E.ext E10) V10 (w_8 hw)))).ext E13).other W15 (Ne.symm (Exa.neArv (E.ext E10) V10 (w_8 hw))))⟩
theorem ef_S0_0 (m : MethodId) (x0 : Addr) (x1 : Addr) : entryFrame m #[(.ref x0), (.ref x1)] 2 = mkF m 0 #[.val (.ref x0), .val (.ref x1)] [] := by first | (simp [entryFrame, mkF, argsToLocals, Value.category]; done) | rfl
def QS0_0 (Z : State) (b : Addr) (ca : Addr) (kc : ClassId) (h0 : Heap) (n0 : Nat) (v : Option Value) (h : Heap) (L : List Loc) : Prop := v = none ∧ Fr n0 L ∧ Keep h0 h [b] ∧ Exa Z h b "java/lang/String" ∧ ∃ (ba : Addr) (kb : ClassId), Fld Z h b "java/lang/String" "coder" "B" (.int (0 : Int32)) ∧ Fld Z h b "java/lang/String" "value" "[B" (.ref ba) ∧ Arv Z h ba kb .byte (0 : Int32) [] (.int (0 : Int32))
set_option maxRecDepth 65536 in
set_option maxHeartbeats 40000000 in
theorem rmS0_0 (l : Launch) (Z : State) (a0 : Array Value) (hw : ∀ d ∈ tables_1, d.before a0 Z = true) (ws : List Jvm.Cond) (b : Addr) (ca : Addr) (kc : ClassId) (h0 : Heap) (n0 : Nat) (O0 : Old Z n0 h0) (E : Exa Z h0 b "java/lang/String") (F1 : Fld Z h0 b "java/lang/String" "value" "[B" .null) (F2 : Fld Z h0 b "java/lang/String" "coder" "B" (.int (0 : Int32))) (g : n0 ≤ b) (V : Arv Z h0 ca kc .char (0 : Int32) [] (.int (0 : Int32))) :
    MetFree l (⟨"java/lang/String", "<init>", "([C)V"⟩ : MethodName) (head1 (Jvm.Cond.code (⟨"java/lang/String", "<init>", "([C)V"⟩ : MethodName) jdk_42_method_3_code 2 none :: ws) ({ frames := 2, cells := 4, slots := 8, locals := 29 } : Room)) (fun aa_ UU_ => aa_ = #[(.ref b), (.ref ca)] ∧ Z.Warmed39 UU_.vm ∧ UU_.heap = h0 ∧ CHv Z consts_1 UU_.vm h0) (fun _ _ _ _ _ => True) (fun _ UU_ oo_ UV_ => ∃ vv_ LL_, oo_ = .returned vv_ ∧ QS0_0 Z b ca kc h0 n0 vv_ UV_.heap LL_ ∧ CHr Z consts_1 UU_.vm UU_.heap UV_.vm UV_.heap ∧ ReturnedEndW UU_ oo_ UV_ LL_ ({ frames := 2, cells := 4, slots := 8, locals := 29 } : Room).cells ({ frames := 2, cells := 4, slots := 8, locals := 29 } : Room).slots) := by
  refine MetFree.of_bodySF (plainFor_of_name pn_0) hisR ?_
  intro p e s m args below meth c s₁ Bd hml0 hP hK
  obtain ⟨rfl, hZ, hh, hCH⟩ := hP
  have hx := Bd.exec
  have hby := Bd.bytes
  have hlk := BodyLoose.notSynchronized Bd
  have hml : c.maxLocals = 2 := hml0
  have hown : s.vm.findClass "java/lang/String" = some m.cls := findClass_of_methodNamed Bd.named
  have hnm := (name_of_methodNamed Bd.named Bd.method).1
  have X0 : Stand p l e ({ frames := 2, cells := 4, slots := 8, locals := 29 } : Room) s m #[(.ref b), (.ref ca)] below meth c s₁ [] 0 0 := Stand.of_body Bd
  have e0 : s₁.heap = h0 := by rw [← hh, Bd.state]; rfl
  have N0 := Fr.nil n0
  have hS0 : s.Since s.vm 0 := (State.WarmedH.refl s).since 0
  have hk0 : 0 ≤ h0.size := Nat.zero_le _
  have CR0 : CHr Z consts_1 s.vm h0 s.vm h0 := CHr.refl hCH
  have KC0 : Keep h0 h0 [b] := Keep.refl _ _
  suffices hOW : OWH Z consts_1 h0 p e below s (QS0_0 Z b ca kc h0 n0) 4 8 (s₁.setTop (mkF m 0 #[.val (.ref b), .val (.ref ca)] [])) by
    obtain ⟨oq1_, oq2_, oq3_, oq4_⟩ := hOW
    obtain ⟨oq5_, oq6_, oq7_, oq8_, oq9_, or1_, or2_, or3_⟩ := oq4_
    exact ⟨oq1_, oq2_, castTop (ef_S0_0 m b ca) oq3_, oq5_, oq6_, oq7_, oq8_, oq9_, or1_, by rw [hh]; exact or2_, or3_⟩
  refine OWH.st (B := s₁.setTop (mkF m 4 #[.val (.ref b), .val (.ref ca)] [(.ref ca), (.int (0 : Int32)), (.ref ca), (.ref b)])) (fun _ kk_ => XS.aloadN X0.here hx rfl (hb hby d2_0) rfl rfl (XS.aloadN X0.here hx rfl (hb hby d2_1) rfl rfl (XS.iconst X0.here hx rfl (hb hby d2_2) (XS.aloadN X0.here hx rfl (hb hby d2_3) rfl rfl kk_)))) ?_
  obtain ⟨cl16, Ar16, q16, S16, Ng16, Hs16, G16⟩ := id V
  refine OWH.st (X0.arraylength hx (by rw [e0]; exact Ar16.1) (State.isArrayOf_alike hZ.alike Ar16.2.1) (g := (mkF m 4 #[.val (.ref b), .val (.ref ca)] [(.ref ca), (.int (0 : Int32)), (.ref ca), (.ref b)])) rfl rfl (hb hby d2_4)) ?_
  rw [len_of S16 Ng16]
  show OWH Z consts_1 h0 p e below s (QS0_0 Z b ca kc h0 n0) 4 8 (s₁.setTop (mkF m 5 #[.val (.ref b), .val (.ref ca)] [(.int (0 : Int32)), (.int (0 : Int32)), (.ref ca), (.ref b)]))
  refine OWH.st (B := s₁.setTop (mkF m 6 #[.val (.ref b), .val (.ref ca)] [.null, (.int (0 : Int32)), (.int (0 : Int32)), (.ref ca), (.ref b)])) (fun _ kk_ => XS.aconstNull X0.here hx rfl (hb hby d2_5) kk_) ?_
  obtain ⟨_, _, ⟨T17, L17, k17, n17⟩, -, X17, hs17, hsz17, ⟨Lc17, hQ17, l17, y17, z17, CQ17⟩, st17⟩ := X0.specialBackS hx (y := (⟨"java/lang/String", "<init>", "([CIILjava/lang/Void;)V"⟩ : MethodName)) rfl hown (mvT hZ (w_13 hw)) (mvT hZ (w_14 hw)) (mvT hZ (w_16 hw)) (by decide) (backOfSH (W := 0) (rmS1_0 l Z a0 hw [] b ca kc h0 n0 O0 E F1 F2 g V) hZ (w_16 hw) (w_9 hw) (by decide) (by decide) (own_EW hw) CR0.1) (g := (mkF m 6 #[.val (.ref b), .val (.ref ca)] [.null, (.int (0 : Int32)), (.int (0 : Int32)), (.ref ca), (.ref b)])) rfl (by rw [hml]; rfl) (Steps.refl _) (a := b) (argsL := [(.ref ca), (.int (0 : Int32)), (.int (0 : Int32)), .null]) (rest := []) (lenOf pd_0 rfl) rfl (by show 2 * 0 + _ ≤ _; exact Nat.le_of_eq rfl) (hb hby d2_6) (fun _ _ => ⟨rfl, e0, (by decide : 0 + 4 ≤ _), (by decide : 0 + 8 ≤ _)⟩)
  dsimp only [Pt.U, Pt.locs, Pt.cells, Pt.slots] at hs17 hsz17
  have hS17 := foldS hS0 (show _ ≤ s₁.heap.size by rw [e0]; exact hk0) hs17 hsz17
  have hZ17 : Z.Warmed39 (s.setVm T17.vm).vm := State.Warmed39.trans (t := s) hZ hs17.1
  have hown17 : (s.setVm T17.vm).vm.findClass "java/lang/String" = some m.cls := by rw [show (s.setVm T17.vm).vm = T17.vm from rfl, hs17.1.alike.findClass]; exact hown
  dsimp only [Pt.U, Pt.locs, Pt.cells, Pt.slots] at X17 l17 y17 z17 st17 hQ17 CQ17
  subst l17 y17 z17
  obtain ⟨rfl, Nq17, K17, Es17, ba17, kb17, Fc17, Fv17, Vs17⟩ := hQ17
  have N17 := Fr.app N0 Nq17
  have O17 : Old Z n0 T17.heap := O0.keep K17 (allS g all0)
  have CS17 : CHr Z consts_1 s.vm h0 T17.vm T17.heap := CQ17
  have Sf17_b := CHr.safe CS17 E.lt (own_safeS hZ.alike E F1)
  have CR17 := CHr.trans CR0 CS17
  have KC17 : Keep h0 T17.heap [b] := KC0.trans K17 (allS (Or.inl (List.mem_of_getElem? (i := 0) rfl)) all0)
  have hk17 : T17.heap.size ≤ T17.heap.size := Nat.le_of_eq (by rfl)
  refine OWH.tr (B := T17.setTop (mkF m 9 #[.val (.ref b), .val (.ref ca)] [])) (st17) ?_
  exact OWH.retV X17 (s := s) (vm0 := T17.vm) hS17 hk17 hx hlk CR17 hZ17 (own_EW hw) Bd.returns (hb hby d2_9) rfl (by decide) (by decide) ⟨rfl, N17, KC17, (E.keep K17), ba17, kb17, Fc17, Fv17, Vs17⟩
theorem ef_C50 (m : MethodId) (x0 : Addr) (x1 : Int32) (x2 : Addr) (x3 : Int32) (x4 : Int32) : entryFrame m #[(.ref x0), (.int x1), (.ref x2), (.int x3), (.int x4)] 7 = mkF m 0 #[.val (.ref x0), .val (.int x1), .val (.ref x2), .val (.int x3), .val (.int x4), .unset, .unset] [] := by first | (simp [entryFrame, mkF, argsToLocals, Value.category]; done) | rfl
def QC50 (Z : State) (ca : Addr) (kc : ClassId) (ba : Addr) (kb : ClassId) (z : Int32) (cs : List Int32) (h0 : Heap) (n0 : Nat) (v : Option Value) (h : Heap) (L : List Loc) : Prop := v = some (.int z) ∧ Fr n0 L ∧ Keep h0 h [ba] ∧ Arv Z h ba kb .byte z (OwnL cs) (.int (0 : Int32))
set_option maxRecDepth 65536 in
set_option maxHeartbeats 40000000 in
theorem rmC50 (l : Launch) (Z : State) (a0 : Array Value) (hw : ∀ d ∈ tables_1, d.before a0 Z = true) (ws : List Jvm.Cond) (ca : Addr) (kc : ClassId) (ba : Addr) (kb : ClassId) (z : Int32) (cs : List Int32) (h0 : Heap) (n0 : Nat) (O0 : Old Z n0 h0) (V : Arv Z h0 ca kc .char z (cs.map Value.int) (.int (0 : Int32))) (hz : z.toInt = (cs.length : Int)) (hmax : cs.length ≤ 10) (B : Arv Z h0 ba kb .byte z (List.replicate cs.length (.int (0 : Int32))) (.int (0 : Int32))) (gb : n0 ≤ ba) (hne : ca ≠ ba) (hlat : OwnLat cs) :
    MetFree l (⟨"java/lang/StringUTF16", "compress", "([CI[BII)I"⟩ : MethodName) (head1 (Jvm.Cond.code (⟨"java/lang/StringUTF16", "compress", "([CI[BII)I"⟩ : MethodName) jdk_52_method_21_code 7 (some .int) :: ws) ({ frames := 0, cells := 0, slots := 0, locals := 0 } : Room)) (fun aa_ UU_ => aa_ = #[(.ref ca), (.int (0 : Int32)), (.ref ba), (.int (0 : Int32)), (.int z)] ∧ Z.Warmed39 UU_.vm ∧ UU_.heap = h0) (fun _ _ _ _ _ => True) (fun _ UU_ oo_ UV_ => ∃ vv_ LL_, oo_ = .returned vv_ ∧ QC50 Z ca kc ba kb z cs h0 n0 vv_ UV_.heap LL_ ∧ FrameEnd UU_ oo_ UV_ LL_ ({ frames := 0, cells := 0, slots := 0, locals := 0 } : Room).cells ({ frames := 0, cells := 0, slots := 0, locals := 0 } : Room).slots) := by
  refine MetFree.of_bodySF (plainFor_of_name pn_1) hisR ?_
  intro p e s m args below meth c s₁ Bd hml0 hP hK
  obtain ⟨rfl, hZ, hh⟩ := hP
  have hx := Bd.exec
  have hby := Bd.bytes
  have hlk := BodyLoose.notSynchronized Bd
  have hml : c.maxLocals = 7 := hml0
  have hown : s.vm.findClass "java/lang/StringUTF16" = some m.cls := findClass_of_methodNamed Bd.named
  have hnm := (name_of_methodNamed Bd.named Bd.method).1
  have X0 : Stand p l e ({ frames := 0, cells := 0, slots := 0, locals := 0 } : Room) s m #[(.ref ca), (.int (0 : Int32)), (.ref ba), (.int (0 : Int32)), (.int z)] below meth c s₁ [] 0 0 := Stand.of_body Bd
  have e0 : s₁.heap = h0 := by rw [← hh, Bd.state]; rfl
  have N0 := Fr.nil n0
  have KC0 : Keep h0 h0 [ba] := Keep.refl _ _
  suffices hOW : OW p e below s (QC50 Z ca kc ba kb z cs h0 n0) 0 0 (s₁.setTop (mkF m 0 #[.val (.ref ca), .val (.int (0 : Int32)), .val (.ref ba), .val (.int (0 : Int32)), .val (.int z), .unset, .unset] [])) by
    obtain ⟨oq1_, oq2_, oq3_, oq4_⟩ := hOW
    exact ⟨oq1_, oq2_, castTop (ef_C50 m ca (0 : Int32) ba (0 : Int32) z) oq3_, oq4_⟩
  refine OW.st (B := s₁.setTop (mkF m 3 #[.val (.ref ca), .val (.int (0 : Int32)), .val (.ref ba), .val (.int (0 : Int32)), .val (.int z), .val (.int (0 : Int32)), .unset] [])) (fun _ kk_ => XS.iconst X0.here hx rfl (hb hby d17_0) (XS.istore X0.here hx rfl (hb hby d17_1) rfl (l' := #[.val (.ref ca), .val (.int (0 : Int32)), .val (.ref ba), .val (.int (0 : Int32)), .val (.int z), .val (.int (0 : Int32)), .unset]) rfl kk_)) ?_
  have J18 : ∀ (f : Nat) (T18 : State) (L18 : List Loc) (h18 : Heap) (X18 : Stand p l e ({ frames := 0, cells := 0, slots := 0, locals := 0 } : Room) s m #[(.ref ca), (.int (0 : Int32)), (.ref ba), (.int (0 : Int32)), (.int z)] below meth c T18 L18 0 0) (N18 : Fr n0 L18) (e18 : T18.heap = h18) (O18 : Old Z n0 h18) (KC18 : Keep h0 h18 [ba]) (i : Int32) (sl : Slot) (bs : List Value) (mm : Nat), (sl = .unset ∨ ∃ q : Int32, sl = .val (.int q)) → (Arv Z h18 ca kc .char z (cs.map Value.int) (.int (0 : Int32))) → (Arv Z h18 ba kb .byte z bs (.int (0 : Int32))) → (i.toInt = (mm : Int)) → (mm + f = cs.length) → (OwnPL cs mm bs) → (∀ j : Nat, j < mm → ∀ c : Int32, cs[j]? = some c → ¬ ((255 : Int32) < c)) → OW p e below s (QC50 Z ca kc ba kb z cs h0 n0) 0 0 (T18.setTop (mkF m 3 #[.val (.ref ca), .val (.int i), .val (.ref ba), .val (.int i), .val (.int z), .val (.int i), sl] [])) := by
    intro f
    induction f with
    | zero =>
      intro T18 L18 h18 X18 N18 e18 O18 KC18 i sl bs mm hsl Vc Vb hi hm hp hl
      have hmm : mm = cs.length := by omega
      subst hmm
      refine OW.st (B := T18.setTop (mkF m 46 #[.val (.ref ca), .val (.int i), .val (.ref ba), .val (.int i), .val (.int z), .val (.int i), sl] [(.int z)])) (fun _ kk_ => XS.iload X18.here hx rfl (hb hby d17_3) rfl (XS.iload X18.here hx rfl (hb hby d17_5) rfl (XS.icmpYes X18.here hx rfl (pc0 := 7) (pc' := 44) rfl (hb hby d17_7) rfl (flt (own_nltI hi hz (by omega))).2.1 (by decide) (by decide) (XS.iload X18.here hx rfl (hb hby d17_44) rfl kk_)))) ?_
      exact OW.ret X18 hx hlk (i := .ireturn) Bd.returns rfl (Or.inl ⟨rfl, Or.inl rfl, _, rfl⟩) (hb hby d17_46) e18 (by decide) (by decide) ⟨rfl, N18, KC18, hp.end ▸ Vb⟩
    | succ f ih =>
      intro T18 L18 h18 X18 N18 e18 O18 KC18 i sl bs mm hsl Vc Vb hi hm hp hl
      obtain ⟨cc, hcc⟩ : ∃ cc, cs[mm]? = some cc := ⟨_, List.getElem?_eq_getElem (by omega)⟩
      have hcl := hlat cc (List.mem_of_getElem? hcc)
      refine OW.st (B := T18.setTop (mkF m 12 #[.val (.ref ca), .val (.int i), .val (.ref ba), .val (.int i), .val (.int z), .val (.int i), sl] [(.int i), (.ref ca)])) (fun _ kk_ => XS.iload X18.here hx rfl (hb hby d17_3) rfl (XS.iload X18.here hx rfl (hb hby d17_5) rfl (XS.icmpNo X18.here hx rfl (hb hby d17_7) rfl (tlt (own_ltI hi hz (by omega))).2.1 (XS.aloadN X18.here hx rfl (hb hby d17_10) rfl rfl (XS.iloadN X18.here hx rfl (hb hby d17_11) rfl kk_))))) ?_
      obtain ⟨cl19, Ar19, q19, S19, Ng19, Hs19, G19⟩ := id Vc
      have hin19 : ¬ (i < 0 ∨ cl19.slots.size ≤ (i).toNatClampNeg) := inb_of S19 ⟨own_nneg hi, own_ltI hi hz (by omega)⟩
      refine OW.st (B := T18.setTop (mkF m 31 #[.val (.ref ca), .val (.int i), .val (.ref ba), .val (.int i), .val (.int z), .val (.int i), .val (.int cc)] [(.int (cc.toInt8.toInt32)), (.int i), (.ref ba)])) (fun _ kk_ => (X18.caload hx (j := i) (v := (.int cc)) (by rw [e18]; exact Ar19.1) (State.isArrayOf_alike hZ.alike Ar19.2.1) Ar19.2.2 hin19 (Has.at Hs19 hin19 ((congrArg (fun q => (cs.map Value.int).getD q _) (own_tn hi)).trans (own_getC hcc))) (g := (mkF m 12 #[.val (.ref ca), .val (.int i), .val (.ref ba), .val (.int i), .val (.int z), .val (.int i), sl] [(.int i), (.ref ca)])) rfl rfl (hb hby d17_12)) _ (XS.istore X18.here hx rfl (hb hby d17_13) rfl (l' := #[.val (.ref ca), .val (.int i), .val (.ref ba), .val (.int i), .val (.int z), .val (.int i), .val (.int cc)]) (by rcases hsl with rfl | ⟨_, rfl⟩ <;> rfl) (XS.iload X18.here hx rfl (hb hby d17_15) rfl (XS.sipush X18.here hx rfl (hb hby d17_17) (XS.icmpYes X18.here hx rfl (pc0 := 20) (pc' := 26) rfl (hb hby d17_20) rfl (flt hcl).2.2.2 (by decide) (by decide) (XS.aloadN X18.here hx rfl (hb hby d17_26) rfl rfl (XS.iloadN X18.here hx rfl (hb hby d17_27) rfl (XS.iload X18.here hx rfl (hb hby d17_28) rfl (XS.i2b X18.here hx rfl (hb hby d17_30) rfl kk_))))))))) ?_
      obtain ⟨cl20, Ar20, q20, S20, Ng20, Hs20, G20⟩ := id Vb
      have hin20 : ¬ (i < 0 ∨ cl20.slots.size ≤ (i).toNatClampNeg) := inb_of S20 ⟨own_nneg hi, own_ltI hi hz (by omega)⟩
      obtain ⟨T21, h21, X21, e21, W21, st21⟩ := stB X18 hx hZ e18 Ar20 (j := i) hin20 (g := (mkF m 31 #[.val (.ref ca), .val (.int i), .val (.ref ba), .val (.int i), .val (.int z), .val (.int i), .val (.int cc)] [(.int (cc.toInt8.toInt32)), (.int i), (.ref ba)])) rfl rfl (hb hby d17_31)
      have N21 := Fr.snoc X21 N18 gb
      have O21 : Old Z n0 h21 := O18.wr W21 gb
      have KC21 : Keep h0 h21 [ba] := KC18.wr W21 (Or.inl (List.mem_of_getElem? (i := 0) rfl))
      have V21 : Arv Z h21 ba kb .byte z (bs.set mm (.int (nar .byte (cc.toInt8.toInt32)))) (.int (0 : Int32)) := Arv.set Ar20 q20 S20 Ng20 Hs20 G20 (fits_nar_byte _) W21 mm (own_tn hi) (by rw [hp.1]; omega)
      refine OW.st (B := T21.setTop (mkF m 3 #[.val (.ref ca), .val (.int (i + (1 : Int32))), .val (.ref ba), .val (.int (i + (1 : Int32))), .val (.int z), .val (.int (i + (1 : Int32))), .val (.int cc)] [])) (fun _ kk_ => st21 _ (XS.iinc X21.here hx rfl (hb hby d17_32) rfl (l' := #[.val (.ref ca), .val (.int (i + (1 : Int32))), .val (.ref ba), .val (.int i), .val (.int z), .val (.int i), .val (.int cc)]) rfl (XS.iinc X21.here hx rfl (hb hby d17_35) rfl (l' := #[.val (.ref ca), .val (.int (i + (1 : Int32))), .val (.ref ba), .val (.int (i + (1 : Int32))), .val (.int z), .val (.int i), .val (.int cc)]) rfl (XS.iinc X21.here hx rfl (hb hby d17_38) rfl (l' := #[.val (.ref ca), .val (.int (i + (1 : Int32))), .val (.ref ba), .val (.int (i + (1 : Int32))), .val (.int z), .val (.int (i + (1 : Int32))), .val (.int cc)]) rfl (XS.goto X21.here hx rfl (pc0 := 41) (pc' := 3) rfl (hb hby d17_41) (by decide) (by decide) kk_))))) ?_
      exact ih _ _ _ X21 N21 e21 O21 KC21 _ _ _ (mm + 1) (Or.inr ⟨_, rfl⟩) (Vc.other W21 hne) V21 (own_suc hi (by omega)) (by omega) (hp.step hcc) (fun j hj c hc => by rcases Nat.lt_succ_iff_lt_or_eq.mp hj with q | rfl; exact hl j q c hc; rw [hcc] at hc; cases hc; exact hcl)
  exact J18 cs.length _ _ _ X0 N0 e0 O0 KC0 _ _ _ 0 (Or.inl rfl) V B rfl (Nat.zero_add _) (OwnPL.start cs _) (fun j hj => absurd hj (Nat.not_lt_zero _))
theorem ef_C51 (m : MethodId) (x0 : Addr) (x1 : Int32) (x2 : Addr) (x3 : Int32) (x4 : Int32) : entryFrame m #[(.ref x0), (.int x1), (.ref x2), (.int x3), (.int x4)] 7 = mkF m 0 #[.val (.ref x0), .val (.int x1), .val (.ref x2), .val (.int x3), .val (.int x4), .unset, .unset] [] := by first | (simp [entryFrame, mkF, argsToLocals, Value.category]; done) | rfl
def QC51 (Z : State) (ca : Addr) (kc : ClassId) (ba : Addr) (kb : ClassId) (z : Int32) (cs : List Int32) (h0 : Heap) (n0 : Nat) (v : Option Value) (h : Heap) (L : List Loc) : Prop := ∃ (i : Int32) (mm : Nat) (c : Int32), v = some (.int i) ∧ Fr n0 L ∧ Keep h0 h [ba] ∧ i.toInt = (mm : Int) ∧ cs[mm]? = some c ∧ (255 : Int32) < c
set_option maxRecDepth 65536 in
set_option maxHeartbeats 40000000 in
theorem rmC51 (l : Launch) (Z : State) (a0 : Array Value) (hw : ∀ d ∈ tables_1, d.before a0 Z = true) (ws : List Jvm.Cond) (ca : Addr) (kc : ClassId) (ba : Addr) (kb : ClassId) (z : Int32) (cs : List Int32) (h0 : Heap) (n0 : Nat) (O0 : Old Z n0 h0) (V : Arv Z h0 ca kc .char z (cs.map Value.int) (.int (0 : Int32))) (hz : z.toInt = (cs.length : Int)) (hmax : cs.length ≤ 10) (B : Arv Z h0 ba kb .byte z (List.replicate cs.length (.int (0 : Int32))) (.int (0 : Int32))) (gb : n0 ≤ ba) (hne : ca ≠ ba) (hhi : OwnHi cs) :
    MetFree l (⟨"java/lang/StringUTF16", "compress", "([CI[BII)I"⟩ : MethodName) (head1 (Jvm.Cond.code (⟨"java/lang/StringUTF16", "compress", "([CI[BII)I"⟩ : MethodName) jdk_52_method_21_code 7 (some .int) :: ws) ({ frames := 0, cells := 0, slots := 0, locals := 0 } : Room)) (fun aa_ UU_ => aa_ = #[(.ref ca), (.int (0 : Int32)), (.ref ba), (.int (0 : Int32)), (.int z)] ∧ Z.Warmed39 UU_.vm ∧ UU_.heap = h0) (fun _ _ _ _ _ => True) (fun _ UU_ oo_ UV_ => ∃ vv_ LL_, oo_ = .returned vv_ ∧ QC51 Z ca kc ba kb z cs h0 n0 vv_ UV_.heap LL_ ∧ FrameEnd UU_ oo_ UV_ LL_ ({ frames := 0, cells := 0, slots := 0, locals := 0 } : Room).cells ({ frames := 0, cells := 0, slots := 0, locals := 0 } : Room).slots) := by
  refine MetFree.of_bodySF (plainFor_of_name pn_1) hisR ?_
  intro p e s m args below meth c s₁ Bd hml0 hP hK
  obtain ⟨rfl, hZ, hh⟩ := hP
  have hx := Bd.exec
  have hby := Bd.bytes
  have hlk := BodyLoose.notSynchronized Bd
  have hml : c.maxLocals = 7 := hml0
  have hown : s.vm.findClass "java/lang/StringUTF16" = some m.cls := findClass_of_methodNamed Bd.named
  have hnm := (name_of_methodNamed Bd.named Bd.method).1
  have X0 : Stand p l e ({ frames := 0, cells := 0, slots := 0, locals := 0 } : Room) s m #[(.ref ca), (.int (0 : Int32)), (.ref ba), (.int (0 : Int32)), (.int z)] below meth c s₁ [] 0 0 := Stand.of_body Bd
  have e0 : s₁.heap = h0 := by rw [← hh, Bd.state]; rfl
  have N0 := Fr.nil n0
  have KC0 : Keep h0 h0 [ba] := Keep.refl _ _
  suffices hOW : OW p e below s (QC51 Z ca kc ba kb z cs h0 n0) 0 0 (s₁.setTop (mkF m 0 #[.val (.ref ca), .val (.int (0 : Int32)), .val (.ref ba), .val (.int (0 : Int32)), .val (.int z), .unset, .unset] [])) by
    obtain ⟨oq1_, oq2_, oq3_, oq4_⟩ := hOW
    exact ⟨oq1_, oq2_, castTop (ef_C51 m ca (0 : Int32) ba (0 : Int32) z) oq3_, oq4_⟩
  refine OW.st (B := s₁.setTop (mkF m 3 #[.val (.ref ca), .val (.int (0 : Int32)), .val (.ref ba), .val (.int (0 : Int32)), .val (.int z), .val (.int (0 : Int32)), .unset] [])) (fun _ kk_ => XS.iconst X0.here hx rfl (hb hby d17_0) (XS.istore X0.here hx rfl (hb hby d17_1) rfl (l' := #[.val (.ref ca), .val (.int (0 : Int32)), .val (.ref ba), .val (.int (0 : Int32)), .val (.int z), .val (.int (0 : Int32)), .unset]) rfl kk_)) ?_
  have J22 : ∀ (f : Nat) (T22 : State) (L22 : List Loc) (h22 : Heap) (X22 : Stand p l e ({ frames := 0, cells := 0, slots := 0, locals := 0 } : Room) s m #[(.ref ca), (.int (0 : Int32)), (.ref ba), (.int (0 : Int32)), (.int z)] below meth c T22 L22 0 0) (N22 : Fr n0 L22) (e22 : T22.heap = h22) (O22 : Old Z n0 h22) (KC22 : Keep h0 h22 [ba]) (i : Int32) (sl : Slot) (bs : List Value) (mm : Nat), (sl = .unset ∨ ∃ q : Int32, sl = .val (.int q)) → (Arv Z h22 ca kc .char z (cs.map Value.int) (.int (0 : Int32))) → (Arv Z h22 ba kb .byte z bs (.int (0 : Int32))) → (i.toInt = (mm : Int)) → (mm + f = cs.length) → (OwnPL cs mm bs) → (∀ j : Nat, j < mm → ∀ c : Int32, cs[j]? = some c → ¬ ((255 : Int32) < c)) → OW p e below s (QC51 Z ca kc ba kb z cs h0 n0) 0 0 (T22.setTop (mkF m 3 #[.val (.ref ca), .val (.int i), .val (.ref ba), .val (.int i), .val (.int z), .val (.int i), sl] [])) := by
    intro f
    induction f with
    | zero =>
      intro T22 L22 h22 X22 N22 e22 O22 KC22 i sl bs mm hsl Vc Vb hi hm hp hl
      have hmm : mm = cs.length := by omega
      subst hmm
      exact (hhi.not fun j c hc => hl j (List.getElem?_eq_some_iff.mp hc).1 c hc).elim
    | succ f ih =>
      intro T22 L22 h22 X22 N22 e22 O22 KC22 i sl bs mm hsl Vc Vb hi hm hp hl
      obtain ⟨cc, hcc⟩ : ∃ cc, cs[mm]? = some cc := ⟨_, List.getElem?_eq_getElem (by omega)⟩
      refine OW.st (B := T22.setTop (mkF m 12 #[.val (.ref ca), .val (.int i), .val (.ref ba), .val (.int i), .val (.int z), .val (.int i), sl] [(.int i), (.ref ca)])) (fun _ kk_ => XS.iload X22.here hx rfl (hb hby d17_3) rfl (XS.iload X22.here hx rfl (hb hby d17_5) rfl (XS.icmpNo X22.here hx rfl (hb hby d17_7) rfl (tlt (own_ltI hi hz (by omega))).2.1 (XS.aloadN X22.here hx rfl (hb hby d17_10) rfl rfl (XS.iloadN X22.here hx rfl (hb hby d17_11) rfl kk_))))) ?_
      obtain ⟨cl23, Ar23, q23, S23, Ng23, Hs23, G23⟩ := id Vc
      have hin23 : ¬ (i < 0 ∨ cl23.slots.size ≤ (i).toNatClampNeg) := inb_of S23 ⟨own_nneg hi, own_ltI hi hz (by omega)⟩
      refine OW.st (B := T22.setTop (mkF m 20 #[.val (.ref ca), .val (.int i), .val (.ref ba), .val (.int i), .val (.int z), .val (.int i), .val (.int cc)] [(.int (255 : Int32)), (.int cc)])) (fun _ kk_ => (X22.caload hx (j := i) (v := (.int cc)) (by rw [e22]; exact Ar23.1) (State.isArrayOf_alike hZ.alike Ar23.2.1) Ar23.2.2 hin23 (Has.at Hs23 hin23 ((congrArg (fun q => (cs.map Value.int).getD q _) (own_tn hi)).trans (own_getC hcc))) (g := (mkF m 12 #[.val (.ref ca), .val (.int i), .val (.ref ba), .val (.int i), .val (.int z), .val (.int i), sl] [(.int i), (.ref ca)])) rfl rfl (hb hby d17_12)) _ (XS.istore X22.here hx rfl (hb hby d17_13) rfl (l' := #[.val (.ref ca), .val (.int i), .val (.ref ba), .val (.int i), .val (.int z), .val (.int i), .val (.int cc)]) (by rcases hsl with rfl | ⟨_, rfl⟩ <;> rfl) (XS.iload X22.here hx rfl (hb hby d17_15) rfl (XS.sipush X22.here hx rfl (hb hby d17_17) kk_)))) ?_
      by_cases hc24 : (255 : Int32) < cc
      · refine OW.st (B := T22.setTop (mkF m 25 #[.val (.ref ca), .val (.int i), .val (.ref ba), .val (.int i), .val (.int z), .val (.int i), .val (.int cc)] [(.int i)])) (fun _ kk_ => XS.icmpNo X22.here hx rfl (hb hby d17_20) rfl (tlt hc24).2.2.2 (XS.iload X22.here hx rfl (hb hby d17_23) rfl kk_)) ?_
        exact OW.ret X22 hx hlk (i := .ireturn) Bd.returns rfl (Or.inl ⟨rfl, Or.inl rfl, _, rfl⟩) (hb hby d17_25) e22 (by decide) (by decide) ⟨i, mm, cc, rfl, N22, KC22, hi, hcc, hc24⟩
      · refine OW.st (B := T22.setTop (mkF m 31 #[.val (.ref ca), .val (.int i), .val (.ref ba), .val (.int i), .val (.int z), .val (.int i), .val (.int cc)] [(.int (cc.toInt8.toInt32)), (.int i), (.ref ba)])) (fun _ kk_ => XS.icmpYes X22.here hx rfl (pc0 := 20) (pc' := 26) rfl (hb hby d17_20) rfl (flt hc24).2.2.2 (by decide) (by decide) (XS.aloadN X22.here hx rfl (hb hby d17_26) rfl rfl (XS.iloadN X22.here hx rfl (hb hby d17_27) rfl (XS.iload X22.here hx rfl (hb hby d17_28) rfl (XS.i2b X22.here hx rfl (hb hby d17_30) rfl kk_))))) ?_
        obtain ⟨cl25, Ar25, q25, S25, Ng25, Hs25, G25⟩ := id Vb
        have hin25 : ¬ (i < 0 ∨ cl25.slots.size ≤ (i).toNatClampNeg) := inb_of S25 ⟨own_nneg hi, own_ltI hi hz (by omega)⟩
        obtain ⟨T26, h26, X26, e26, W26, st26⟩ := stB X22 hx hZ e22 Ar25 (j := i) hin25 (g := (mkF m 31 #[.val (.ref ca), .val (.int i), .val (.ref ba), .val (.int i), .val (.int z), .val (.int i), .val (.int cc)] [(.int (cc.toInt8.toInt32)), (.int i), (.ref ba)])) rfl rfl (hb hby d17_31)
        have N26 := Fr.snoc X26 N22 gb
        have O26 : Old Z n0 h26 := O22.wr W26 gb
        have KC26 : Keep h0 h26 [ba] := KC22.wr W26 (Or.inl (List.mem_of_getElem? (i := 0) rfl))
        have V26 : Arv Z h26 ba kb .byte z (bs.set mm (.int (nar .byte (cc.toInt8.toInt32)))) (.int (0 : Int32)) := Arv.set Ar25 q25 S25 Ng25 Hs25 G25 (fits_nar_byte _) W26 mm (own_tn hi) (by rw [hp.1]; omega)
        refine OW.st (B := T26.setTop (mkF m 3 #[.val (.ref ca), .val (.int (i + (1 : Int32))), .val (.ref ba), .val (.int (i + (1 : Int32))), .val (.int z), .val (.int (i + (1 : Int32))), .val (.int cc)] [])) (fun _ kk_ => st26 _ (XS.iinc X26.here hx rfl (hb hby d17_32) rfl (l' := #[.val (.ref ca), .val (.int (i + (1 : Int32))), .val (.ref ba), .val (.int i), .val (.int z), .val (.int i), .val (.int cc)]) rfl (XS.iinc X26.here hx rfl (hb hby d17_35) rfl (l' := #[.val (.ref ca), .val (.int (i + (1 : Int32))), .val (.ref ba), .val (.int (i + (1 : Int32))), .val (.int z), .val (.int i), .val (.int cc)]) rfl (XS.iinc X26.here hx rfl (hb hby d17_38) rfl (l' := #[.val (.ref ca), .val (.int (i + (1 : Int32))), .val (.ref ba), .val (.int (i + (1 : Int32))), .val (.int z), .val (.int (i + (1 : Int32))), .val (.int cc)]) rfl (XS.goto X26.here hx rfl (pc0 := 41) (pc' := 3) rfl (hb hby d17_41) (by decide) (by decide) kk_))))) ?_
        exact ih _ _ _ X26 N26 e26 O26 KC26 _ _ _ (mm + 1) (Or.inr ⟨_, rfl⟩) (Vc.other W26 hne) V26 (own_suc hi (by omega)) (by omega) (hp.step hcc) (fun j hj c hc => by rcases Nat.lt_succ_iff_lt_or_eq.mp hj with q | rfl; exact hl j q c hc; rw [hcc] at hc; cases hc; exact hc24)
  exact J22 cs.length _ _ _ X0 N0 e0 O0 KC0 _ _ _ 0 (Or.inl rfl) V B rfl (Nat.zero_add _) (OwnPL.start cs _) (fun j hj => absurd hj (Nat.not_lt_zero _))
theorem ef_PC (m : MethodId) (x0 : Addr) (x1 : Int32) (x2 : Int32) : entryFrame m #[(.ref x0), (.int x1), (.int x2)] 3 = mkF m 0 #[.val (.ref x0), .val (.int x1), .val (.int x2)] [] := by first | (simp [entryFrame, mkF, argsToLocals, Value.category]; done) | rfl
def QPC (Z : State) (ba : Addr) (kb : ClassId) (zb : Int32) (bs : List Value) (i : Int32) (mm : Nat) (cc : Int32) (i_COMPACT_STRINGS : Int32) (v_SIOOBE_FORMATTER : Value) (h0 : Heap) (n0 : Nat) (v : Option Value) (h : Heap) (L : List Loc) : Prop := v = none ∧ Fr n0 L ∧ Keep h0 h [ba] ∧ Arv Z h ba kb .byte zb ((bs.set (2 * mm) (.int (own_b0 cc))).set (2 * mm + 1) (.int (own_b1 cc))) (.int (0 : Int32))
set_option maxRecDepth 65536 in
set_option maxHeartbeats 40000000 in
theorem rmPC (l : Launch) (Z : State) (a0 : Array Value) (hw : ∀ d ∈ tables_1, d.before a0 Z = true) (ws : List Jvm.Cond) (ba : Addr) (kb : ClassId) (zb : Int32) (bs : List Value) (i : Int32) (mm : Nat) (cc : Int32) (i_COMPACT_STRINGS : Int32) (v_SIOOBE_FORMATTER : Value) (h0 : Heap) (n0 : Nat) (O0 : Old Z n0 h0) (B : Arv Z h0 ba kb .byte zb bs (.int (0 : Int32))) (gb : n0 ≤ ba) (hzb : zb.toInt = (bs.length : Int)) (hmb : 2 * mm + 1 < bs.length) (hbb : bs.length ≤ 20) (hi : i.toInt = (mm : Int)) (hS : OwnS Z i_COMPACT_STRINGS v_SIOOBE_FORMATTER) :
    MetFree l (⟨"java/lang/StringUTF16", "putChar", "([BII)V"⟩ : MethodName) (head1 (Jvm.Cond.code (⟨"java/lang/StringUTF16", "putChar", "([BII)V"⟩ : MethodName) jdk_52_method_4_code 3 none :: ws) ({ frames := 0, cells := 0, slots := 0, locals := 0 } : Room)) (fun aa_ UU_ => aa_ = #[(.ref ba), (.int i), (.int cc)] ∧ Z.Warmed39 UU_.vm ∧ UU_.heap = h0) (fun _ _ _ _ _ => True) (fun _ UU_ oo_ UV_ => ∃ vv_ LL_, oo_ = .returned vv_ ∧ QPC Z ba kb zb bs i mm cc i_COMPACT_STRINGS v_SIOOBE_FORMATTER h0 n0 vv_ UV_.heap LL_ ∧ FrameEnd UU_ oo_ UV_ LL_ ({ frames := 0, cells := 0, slots := 0, locals := 0 } : Room).cells ({ frames := 0, cells := 0, slots := 0, locals := 0 } : Room).slots) := by
  refine MetFree.of_bodySF (plainFor_of_name pn_1) hisR ?_
  intro p e s m args below meth c s₁ Bd hml0 hP hK
  obtain ⟨rfl, hZ, hh⟩ := hP
  have hx := Bd.exec
  have hby := Bd.bytes
  have hlk := BodyLoose.notSynchronized Bd
  have hml : c.maxLocals = 3 := hml0
  have hown : s.vm.findClass "java/lang/StringUTF16" = some m.cls := findClass_of_methodNamed Bd.named
  have hnm := (name_of_methodNamed Bd.named Bd.method).1
  have X0 : Stand p l e ({ frames := 0, cells := 0, slots := 0, locals := 0 } : Room) s m #[(.ref ba), (.int i), (.int cc)] below meth c s₁ [] 0 0 := Stand.of_body Bd
  have e0 : s₁.heap = h0 := by rw [← hh, Bd.state]; rfl
  have N0 := Fr.nil n0
  have KC0 : Keep h0 h0 [ba] := Keep.refl _ _
  suffices hOW : OW p e below s (QPC Z ba kb zb bs i mm cc i_COMPACT_STRINGS v_SIOOBE_FORMATTER h0 n0) 0 0 (s₁.setTop (mkF m 0 #[.val (.ref ba), .val (.int i), .val (.int cc)] [])) by
    obtain ⟨oq1_, oq2_, oq3_, oq4_⟩ := hOW
    exact ⟨oq1_, oq2_, castTop (ef_PC m ba i cc) oq3_, oq4_⟩
  have hS' := hS
  obtain ⟨Si_COMPACT_STRINGS, Sv_SIOOBE_FORMATTER, Rv_SIOOBE_FORMATTER, S__assertionsDisabled, S_HI_BYTE_SHIFT, S_LO_BYTE_SHIFT, Pi_COMPACT_STRINGS⟩ := hS'
  have hj1 : (i <<< ((1 : Int32) &&& 31)).toInt = ((2 * mm : Nat) : Int) := own_dbl hi (by omega)
  have hj2 : ((i <<< ((1 : Int32) &&& 31)) + (1 : Int32)).toInt = ((2 * mm + 1 : Nat) : Int) := own_suc hj1 (by omega)
  obtain ⟨T27, X27, e27, st27⟩ := getS2 X0 hx hZ hown (host := "") (Or.inl (w_102 hw)) Via.refl e0 (S__assertionsDisabled.ext O0.2) (g := (mkF m 0 #[.val (.ref ba), .val (.int i), .val (.int cc)] [])) rfl (hb hby d23_0)
  refine OW.st (B := T27.setTop (mkF m 38 #[.val (.ref ba), .val (.int ((i <<< ((1 : Int32) &&& 31)) + (1 : Int32))), .val (.int cc)] [(.int cc), (.int (i <<< ((1 : Int32) &&& 31))), (.ref ba)])) (fun _ kk_ => st27 _ (XS.ifYes X27.here hx rfl (pc0 := 3) (pc' := 28) rfl (hb hby d23_3) rfl ((if0 _ _).trans (feq (by decide)).2) (by decide) (by decide) (XS.iloadN X27.here hx rfl (hb hby d23_28) rfl (XS.iconst X27.here hx rfl (hb hby d23_29) (XS.ishl X27.here hx rfl (hb hby d23_30) rfl (XS.istoreN X27.here hx rfl (hb hby d23_31) rfl (l' := #[.val (.ref ba), .val (.int (i <<< ((1 : Int32) &&& 31))), .val (.int cc)]) rfl (XS.aloadN X27.here hx rfl (hb hby d23_32) rfl rfl (XS.iloadN X27.here hx rfl (hb hby d23_33) rfl (XS.iinc X27.here hx rfl (hb hby d23_34) rfl (l' := #[.val (.ref ba), .val (.int ((i <<< ((1 : Int32) &&& 31)) + (1 : Int32))), .val (.int cc)]) rfl (XS.iloadN X27.here hx rfl (hb hby d23_37) rfl kk_)))))))))) ?_
  obtain ⟨T28, X28, e28, st28⟩ := getS2 X27 hx hZ hown (host := "") (Or.inl (w_103 hw)) Via.refl e27 (S_HI_BYTE_SHIFT.ext O0.2) (g := (mkF m 38 #[.val (.ref ba), .val (.int ((i <<< ((1 : Int32) &&& 31)) + (1 : Int32))), .val (.int cc)] [(.int cc), (.int (i <<< ((1 : Int32) &&& 31))), (.ref ba)])) rfl (hb hby d23_38)
  refine OW.st (B := T28.setTop (mkF m 43 #[.val (.ref ba), .val (.int ((i <<< ((1 : Int32) &&& 31)) + (1 : Int32))), .val (.int cc)] [(.int ((cc >>> ((0 : Int32) &&& 31)).toInt8.toInt32)), (.int (i <<< ((1 : Int32) &&& 31))), (.ref ba)])) (fun _ kk_ => st28 _ (XS.ishr X28.here hx rfl (hb hby d23_41) rfl (XS.i2b X28.here hx rfl (hb hby d23_42) rfl kk_))) ?_
  obtain ⟨cl29, Ar29, q29, S29, Ng29, Hs29, G29⟩ := id B
  have hin29 : ¬ ((i <<< ((1 : Int32) &&& 31)) < 0 ∨ cl29.slots.size ≤ ((i <<< ((1 : Int32) &&& 31))).toNatClampNeg) := inb_of S29 ⟨own_nneg hj1, own_ltI hj1 hzb (by omega)⟩
  obtain ⟨T30, h30, X30, e30, W30, st30⟩ := stB X28 hx hZ e28 Ar29 (j := (i <<< ((1 : Int32) &&& 31))) hin29 (g := (mkF m 43 #[.val (.ref ba), .val (.int ((i <<< ((1 : Int32) &&& 31)) + (1 : Int32))), .val (.int cc)] [(.int ((cc >>> ((0 : Int32) &&& 31)).toInt8.toInt32)), (.int (i <<< ((1 : Int32) &&& 31))), (.ref ba)])) rfl rfl (hb hby d23_43)
  have N30 := Fr.snoc X30 N0 gb
  have O30 : Old Z n0 h30 := O0.wr W30 gb
  have KC30 : Keep h0 h30 [ba] := KC0.wr W30 (Or.inl (List.mem_of_getElem? (i := 0) rfl))
  have V30 : Arv Z h30 ba kb .byte zb (bs.set (2 * mm) (.int (nar .byte ((cc >>> ((0 : Int32) &&& 31)).toInt8.toInt32)))) (.int (0 : Int32)) := Arv.set Ar29 q29 S29 Ng29 Hs29 G29 (fits_nar_byte _) W30 (2 * mm) (own_tn hj1) (by omega)
  refine OW.st (B := T30.setTop (mkF m 47 #[.val (.ref ba), .val (.int ((i <<< ((1 : Int32) &&& 31)) + (1 : Int32))), .val (.int cc)] [(.int cc), (.int ((i <<< ((1 : Int32) &&& 31)) + (1 : Int32))), (.ref ba)])) (fun _ kk_ => st30 _ (XS.aloadN X30.here hx rfl (hb hby d23_44) rfl rfl (XS.iloadN X30.here hx rfl (hb hby d23_45) rfl (XS.iloadN X30.here hx rfl (hb hby d23_46) rfl kk_)))) ?_
  obtain ⟨T31, X31, e31, st31⟩ := getS2 X30 hx hZ hown (host := "") (Or.inl (w_104 hw)) Via.refl e30 (S_LO_BYTE_SHIFT.ext O30.2) (g := (mkF m 47 #[.val (.ref ba), .val (.int ((i <<< ((1 : Int32) &&& 31)) + (1 : Int32))), .val (.int cc)] [(.int cc), (.int ((i <<< ((1 : Int32) &&& 31)) + (1 : Int32))), (.ref ba)])) rfl (hb hby d23_47)
  refine OW.st (B := T31.setTop (mkF m 52 #[.val (.ref ba), .val (.int ((i <<< ((1 : Int32) &&& 31)) + (1 : Int32))), .val (.int cc)] [(.int ((cc >>> ((8 : Int32) &&& 31)).toInt8.toInt32)), (.int ((i <<< ((1 : Int32) &&& 31)) + (1 : Int32))), (.ref ba)])) (fun _ kk_ => st31 _ (XS.ishr X31.here hx rfl (hb hby d23_50) rfl (XS.i2b X31.here hx rfl (hb hby d23_51) rfl kk_))) ?_
  obtain ⟨cl32, Ar32, q32, S32, Ng32, Hs32, G32⟩ := id V30
  have hin32 : ¬ (((i <<< ((1 : Int32) &&& 31)) + (1 : Int32)) < 0 ∨ cl32.slots.size ≤ (((i <<< ((1 : Int32) &&& 31)) + (1 : Int32))).toNatClampNeg) := inb_of S32 ⟨own_nneg hj2, own_ltI hj2 hzb (by omega)⟩
  obtain ⟨T33, h33, X33, e33, W33, st33⟩ := stB X31 hx hZ e31 Ar32 (j := ((i <<< ((1 : Int32) &&& 31)) + (1 : Int32))) hin32 (g := (mkF m 52 #[.val (.ref ba), .val (.int ((i <<< ((1 : Int32) &&& 31)) + (1 : Int32))), .val (.int cc)] [(.int ((cc >>> ((8 : Int32) &&& 31)).toInt8.toInt32)), (.int ((i <<< ((1 : Int32) &&& 31)) + (1 : Int32))), (.ref ba)])) rfl rfl (hb hby d23_52)
  have N33 := Fr.snoc X33 N30 gb
  have O33 : Old Z n0 h33 := O30.wr W33 gb
  have KC33 : Keep h0 h33 [ba] := KC30.wr W33 (Or.inl (List.mem_of_getElem? (i := 0) rfl))
  have V33 : Arv Z h33 ba kb .byte zb ((bs.set (2 * mm) (.int (nar .byte ((cc >>> ((0 : Int32) &&& 31)).toInt8.toInt32)))).set (2 * mm + 1) (.int (nar .byte ((cc >>> ((8 : Int32) &&& 31)).toInt8.toInt32)))) (.int (0 : Int32)) := Arv.set Ar32 q32 S32 Ng32 Hs32 G32 (fits_nar_byte _) W33 (2 * mm + 1) (own_tn hj2) (by rw [List.length_set]; omega)
  refine OW.st (B := T33.setTop (mkF m 53 #[.val (.ref ba), .val (.int ((i <<< ((1 : Int32) &&& 31)) + (1 : Int32))), .val (.int cc)] [])) (fun _ kk_ => st33 _ kk_) ?_
  exact OW.retV X33 hx hlk Bd.returns (hb hby d23_53) e33 (by decide) (by decide) ⟨rfl, N33, KC33, V33⟩
theorem ef_GC (m : MethodId) (x0 : Addr) (x1 : Int32) : entryFrame m #[(.ref x0), (.int x1)] 2 = mkF m 0 #[.val (.ref x0), .val (.int x1)] [] := by first | (simp [entryFrame, mkF, argsToLocals, Value.category]; done) | rfl
def QGC (Z : State) (ba : Addr) (kb : ClassId) (zb : Int32) (cs : List Int32) (i : Int32) (mm : Nat) (cc : Int32) (i_COMPACT_STRINGS : Int32) (v_SIOOBE_FORMATTER : Value) (h0 : Heap) (n0 : Nat) (v : Option Value) (h : Heap) (L : List Loc) : Prop := v = some (.int cc) ∧ Fr n0 L ∧ h = h0
set_option maxRecDepth 65536 in
set_option maxHeartbeats 40000000 in
theorem rmGC (l : Launch) (Z : State) (a0 : Array Value) (hw : ∀ d ∈ tables_1, d.before a0 Z = true) (ws : List Jvm.Cond) (ba : Addr) (kb : ClassId) (zb : Int32) (cs : List Int32) (i : Int32) (mm : Nat) (cc : Int32) (i_COMPACT_STRINGS : Int32) (v_SIOOBE_FORMATTER : Value) (h0 : Heap) (n0 : Nat) (O0 : Old Z n0 h0) (B : Arv Z h0 ba kb .byte zb (OwnU cs) (.int (0 : Int32))) (hzb : zb.toInt = ((2 * cs.length : Nat) : Int)) (hmax : cs.length ≤ 10) (hi : i.toInt = (mm : Int)) (hcc : cs[mm]? = some cc) (hn : nar .char cc = cc) (hS : OwnS Z i_COMPACT_STRINGS v_SIOOBE_FORMATTER) :
    MetFree l (⟨"java/lang/StringUTF16", "getChar", "([BI)C"⟩ : MethodName) (head1 (Jvm.Cond.code (⟨"java/lang/StringUTF16", "getChar", "([BI)C"⟩ : MethodName) jdk_52_method_5_code 2 (some .char) :: ws) ({ frames := 0, cells := 0, slots := 0, locals := 0 } : Room)) (fun aa_ UU_ => aa_ = #[(.ref ba), (.int i)] ∧ Z.Warmed39 UU_.vm ∧ UU_.heap = h0) (fun _ _ _ _ _ => True) (fun _ UU_ oo_ UV_ => ∃ vv_ LL_, oo_ = .returned vv_ ∧ QGC Z ba kb zb cs i mm cc i_COMPACT_STRINGS v_SIOOBE_FORMATTER h0 n0 vv_ UV_.heap LL_ ∧ FrameEnd UU_ oo_ UV_ LL_ ({ frames := 0, cells := 0, slots := 0, locals := 0 } : Room).cells ({ frames := 0, cells := 0, slots := 0, locals := 0 } : Room).slots) := by
  refine MetFree.of_bodySF (plainFor_of_name pn_1) hisR ?_
  intro p e s m args below meth c s₁ Bd hml0 hP hK
  obtain ⟨rfl, hZ, hh⟩ := hP
  have hx := Bd.exec
  have hby := Bd.bytes
  have hlk := BodyLoose.notSynchronized Bd
  have hml : c.maxLocals = 2 := hml0
  have hown : s.vm.findClass "java/lang/StringUTF16" = some m.cls := findClass_of_methodNamed Bd.named
  have hnm := (name_of_methodNamed Bd.named Bd.method).1
  have X0 : Stand p l e ({ frames := 0, cells := 0, slots := 0, locals := 0 } : Room) s m #[(.ref ba), (.int i)] below meth c s₁ [] 0 0 := Stand.of_body Bd
  have e0 : s₁.heap = h0 := by rw [← hh, Bd.state]; rfl
  have N0 := Fr.nil n0
  suffices hOW : OW p e below s (QGC Z ba kb zb cs i mm cc i_COMPACT_STRINGS v_SIOOBE_FORMATTER h0 n0) 0 0 (s₁.setTop (mkF m 0 #[.val (.ref ba), .val (.int i)] [])) by
    obtain ⟨oq1_, oq2_, oq3_, oq4_⟩ := hOW
    exact ⟨oq1_, oq2_, castTop (ef_GC m ba i) oq3_, oq4_⟩
  have hS' := hS
  obtain ⟨Si_COMPACT_STRINGS, Sv_SIOOBE_FORMATTER, Rv_SIOOBE_FORMATTER, S__assertionsDisabled, S_HI_BYTE_SHIFT, S_LO_BYTE_SHIFT, Pi_COMPACT_STRINGS⟩ := hS'
  have hmm : mm < cs.length := (List.getElem?_eq_some_iff.mp hcc).1
  have hj1 : (i <<< ((1 : Int32) &&& 31)).toInt = ((2 * mm : Nat) : Int) := own_dbl hi (by omega)
  have hj2 : ((i <<< ((1 : Int32) &&& 31)) + (1 : Int32)).toInt = ((2 * mm + 1 : Nat) : Int) := own_suc hj1 (by omega)
  obtain ⟨T34, X34, e34, st34⟩ := getS2 X0 hx hZ hown (host := "") (Or.inl (w_102 hw)) Via.refl e0 (S__assertionsDisabled.ext O0.2) (g := (mkF m 0 #[.val (.ref ba), .val (.int i)] [])) rfl (hb hby d24_0)
  refine OW.st (B := T34.setTop (mkF m 37 #[.val (.ref ba), .val (.int ((i <<< ((1 : Int32) &&& 31)) + (1 : Int32)))] [(.int (i <<< ((1 : Int32) &&& 31))), (.ref ba)])) (fun _ kk_ => st34 _ (XS.ifYes X34.here hx rfl (pc0 := 3) (pc' := 28) rfl (hb hby d24_3) rfl ((if0 _ _).trans (feq (by decide)).2) (by decide) (by decide) (XS.iloadN X34.here hx rfl (hb hby d24_28) rfl (XS.iconst X34.here hx rfl (hb hby d24_29) (XS.ishl X34.here hx rfl (hb hby d24_30) rfl (XS.istoreN X34.here hx rfl (hb hby d24_31) rfl (l' := #[.val (.ref ba), .val (.int (i <<< ((1 : Int32) &&& 31)))]) rfl (XS.aloadN X34.here hx rfl (hb hby d24_32) rfl rfl (XS.iloadN X34.here hx rfl (hb hby d24_33) rfl (XS.iinc X34.here hx rfl (hb hby d24_34) rfl (l' := #[.val (.ref ba), .val (.int ((i <<< ((1 : Int32) &&& 31)) + (1 : Int32)))]) rfl kk_))))))))) ?_
  obtain ⟨cl35, Ar35, q35, S35, Ng35, Hs35, G35⟩ := id B
  have hin35 : ¬ ((i <<< ((1 : Int32) &&& 31)) < 0 ∨ cl35.slots.size ≤ ((i <<< ((1 : Int32) &&& 31))).toNatClampNeg) := inb_of S35 ⟨own_nneg hj1, own_ltI hj1 hzb (by omega)⟩
  refine OW.st (B := T34.setTop (mkF m 42 #[.val (.ref ba), .val (.int ((i <<< ((1 : Int32) &&& 31)) + (1 : Int32)))] [(.int ((own_b0 cc) &&& (255 : Int32)))])) (fun _ kk_ => (X34.baloadBytes hx (j := (i <<< ((1 : Int32) &&& 31))) (v := (.int (own_b0 cc))) (by rw [e34]; exact Ar35.1) (State.isArrayOf_alike hZ.alike Ar35.2.1) Ar35.2.2 hin35 (Has.at Hs35 hin35 ((congrArg (fun q => (OwnU cs).getD q _) (own_tn hj1)).trans (own_getU0 hcc))) (g := (mkF m 37 #[.val (.ref ba), .val (.int ((i <<< ((1 : Int32) &&& 31)) + (1 : Int32)))] [(.int (i <<< ((1 : Int32) &&& 31))), (.ref ba)])) rfl rfl (hb hby d24_37)) _ (XS.sipush X34.here hx rfl (hb hby d24_38) (XS.iand X34.here hx rfl (hb hby d24_41) rfl kk_))) ?_
  obtain ⟨T36, X36, e36, st36⟩ := getS2 X34 hx hZ hown (host := "") (Or.inl (w_103 hw)) Via.refl e34 (S_HI_BYTE_SHIFT.ext O0.2) (g := (mkF m 42 #[.val (.ref ba), .val (.int ((i <<< ((1 : Int32) &&& 31)) + (1 : Int32)))] [(.int ((own_b0 cc) &&& (255 : Int32)))])) rfl (hb hby d24_42)
  refine OW.st (B := T36.setTop (mkF m 48 #[.val (.ref ba), .val (.int ((i <<< ((1 : Int32) &&& 31)) + (1 : Int32)))] [(.int ((i <<< ((1 : Int32) &&& 31)) + (1 : Int32))), (.ref ba), (.int (((own_b0 cc) &&& (255 : Int32)) <<< ((0 : Int32) &&& 31)))])) (fun _ kk_ => st36 _ (XS.ishl X36.here hx rfl (hb hby d24_45) rfl (XS.aloadN X36.here hx rfl (hb hby d24_46) rfl rfl (XS.iloadN X36.here hx rfl (hb hby d24_47) rfl kk_)))) ?_
  obtain ⟨cl37, Ar37, q37, S37, Ng37, Hs37, G37⟩ := id B
  have hin37 : ¬ (((i <<< ((1 : Int32) &&& 31)) + (1 : Int32)) < 0 ∨ cl37.slots.size ≤ (((i <<< ((1 : Int32) &&& 31)) + (1 : Int32))).toNatClampNeg) := inb_of S37 ⟨own_nneg hj2, own_ltI hj2 hzb (by omega)⟩
  refine OW.st (B := T36.setTop (mkF m 53 #[.val (.ref ba), .val (.int ((i <<< ((1 : Int32) &&& 31)) + (1 : Int32)))] [(.int ((own_b1 cc) &&& (255 : Int32))), (.int (((own_b0 cc) &&& (255 : Int32)) <<< ((0 : Int32) &&& 31)))])) (fun _ kk_ => (X36.baloadBytes hx (j := ((i <<< ((1 : Int32) &&& 31)) + (1 : Int32))) (v := (.int (own_b1 cc))) (by rw [e36]; exact Ar37.1) (State.isArrayOf_alike hZ.alike Ar37.2.1) Ar37.2.2 hin37 (Has.at Hs37 hin37 ((congrArg (fun q => (OwnU cs).getD q _) (own_tn hj2)).trans (own_getU1 hcc))) (g := (mkF m 48 #[.val (.ref ba), .val (.int ((i <<< ((1 : Int32) &&& 31)) + (1 : Int32)))] [(.int ((i <<< ((1 : Int32) &&& 31)) + (1 : Int32))), (.ref ba), (.int (((own_b0 cc) &&& (255 : Int32)) <<< ((0 : Int32) &&& 31)))])) rfl rfl (hb hby d24_48)) _ (XS.sipush X36.here hx rfl (hb hby d24_49) (XS.iand X36.here hx rfl (hb hby d24_52) rfl kk_))) ?_
  obtain ⟨T38, X38, e38, st38⟩ := getS2 X36 hx hZ hown (host := "") (Or.inl (w_104 hw)) Via.refl e36 (S_LO_BYTE_SHIFT.ext O0.2) (g := (mkF m 53 #[.val (.ref ba), .val (.int ((i <<< ((1 : Int32) &&& 31)) + (1 : Int32)))] [(.int ((own_b1 cc) &&& (255 : Int32))), (.int (((own_b0 cc) &&& (255 : Int32)) <<< ((0 : Int32) &&& 31)))])) rfl (hb hby d24_53)
  refine OW.st (B := T38.setTop (mkF m 59 #[.val (.ref ba), .val (.int ((i <<< ((1 : Int32) &&& 31)) + (1 : Int32)))] [(.int (((((own_b0 cc) &&& (255 : Int32)) <<< ((0 : Int32) &&& 31)) ||| (((own_b1 cc) &&& (255 : Int32)) <<< ((8 : Int32) &&& 31))).toUInt32.toUInt16.toUInt32.toInt32))])) (fun _ kk_ => st38 _ (XS.ishl X38.here hx rfl (hb hby d24_56) rfl (XS.ior X38.here hx rfl (hb hby d24_57) rfl (XS.i2c X38.here hx rfl (hb hby d24_58) rfl kk_)))) ?_
  exact OW.ret X38 hx hlk (i := .ireturn) Bd.returns (own_nc _) (Or.inl ⟨rfl, Or.inr (Or.inr (Or.inr (Or.inl rfl))), _, rfl⟩) (hb hby d24_59) e38 (by decide) (by decide) ⟨congrArg (fun z => some (Value.int z)) (own_gc hn), N0, rfl⟩
theorem ef_NL (m : MethodId) (x0 : Int32) : entryFrame m #[(.int x0)] 1 = mkF m 0 #[.val (.int x0)] [] := by first | (simp [entryFrame, mkF, argsToLocals, Value.category]; done) | rfl
def QNL (Z : State) (z : Int32) (nn : Nat) (h0 : Heap) (n0 : Nat) (v : Option Value) (h : Heap) (L : List Loc) : Prop := v = some (.int (z <<< ((1 : Int32) &&& 31))) ∧ Fr n0 L ∧ h = h0
set_option maxRecDepth 65536 in
set_option maxHeartbeats 40000000 in
theorem rmNL (l : Launch) (Z : State) (a0 : Array Value) (hw : ∀ d ∈ tables_1, d.before a0 Z = true) (ws : List Jvm.Cond) (z : Int32) (nn : Nat) (h0 : Heap) (n0 : Nat) (O0 : Old Z n0 h0) (hz : z.toInt = (nn : Int)) (hmax : nn ≤ 10) :
    MetFree l (⟨"java/lang/StringUTF16", "newBytesLength", "(I)I"⟩ : MethodName) (head1 (Jvm.Cond.code (⟨"java/lang/StringUTF16", "newBytesLength", "(I)I"⟩ : MethodName) jdk_52_method_3_code 1 (some .int) :: ws) ({ frames := 0, cells := 0, slots := 0, locals := 0 } : Room)) (fun aa_ UU_ => aa_ = #[(.int z)] ∧ Z.Warmed39 UU_.vm ∧ UU_.heap = h0) (fun _ _ _ _ _ => True) (fun _ UU_ oo_ UV_ => ∃ vv_ LL_, oo_ = .returned vv_ ∧ QNL Z z nn h0 n0 vv_ UV_.heap LL_ ∧ FrameEnd UU_ oo_ UV_ LL_ ({ frames := 0, cells := 0, slots := 0, locals := 0 } : Room).cells ({ frames := 0, cells := 0, slots := 0, locals := 0 } : Room).slots) := by
  refine MetFree.of_bodySF (plainFor_of_name pn_1) hisR ?_
  intro p e s m args below meth c s₁ Bd hml0 hP hK
  obtain ⟨rfl, hZ, hh⟩ := hP
  have hx := Bd.exec
  have hby := Bd.bytes
  have hlk := BodyLoose.notSynchronized Bd
  have hml : c.maxLocals = 1 := hml0
  have hown : s.vm.findClass "java/lang/StringUTF16" = some m.cls := findClass_of_methodNamed Bd.named
  have hnm := (name_of_methodNamed Bd.named Bd.method).1
  have X0 : Stand p l e ({ frames := 0, cells := 0, slots := 0, locals := 0 } : Room) s m #[(.int z)] below meth c s₁ [] 0 0 := Stand.of_body Bd
  have e0 : s₁.heap = h0 := by rw [← hh, Bd.state]; rfl
  have N0 := Fr.nil n0
  suffices hOW : OW p e below s (QNL Z z nn h0 n0) 0 0 (s₁.setTop (mkF m 0 #[.val (.int z)] [])) by
    obtain ⟨oq1_, oq2_, oq3_, oq4_⟩ := hOW
    exact ⟨oq1_, oq2_, castTop (ef_NL m z) oq3_, oq4_⟩
  have hq1 := own_nneg hz
  have hq2 : z < (1073741823 : Int32) := own_ltI hz (n := 1073741823) (by decide) (by omega)
  refine OW.st (B := s₁.setTop (mkF m 58 #[.val (.int z)] [(.int (z <<< ((1 : Int32) &&& 31)))])) (fun _ kk_ => XS.iloadN X0.here hx rfl (hb hby d22_0) rfl (XS.ifYes X0.here hx rfl (pc0 := 1) (pc' := 12) rfl (hb hby d22_1) rfl ((if0 _ _).trans (flt hq1).2.1) (by decide) (by decide) (XS.iloadN X0.here hx rfl (hb hby d22_12) rfl ((X0.ldcInt hx hown (mvT hZ (w_98 hw)) (g := (mkF m 13 #[.val (.int z)] [(.int z)])) rfl (hb hby d22_13)) _ (XS.icmpYes X0.here hx rfl (pc0 := 15) (pc' := 55) rfl (hb hby d22_15) rfl (tlt hq2).1 (by decide) (by decide) (XS.iloadN X0.here hx rfl (hb hby d22_55) rfl (XS.iconst X0.here hx rfl (hb hby d22_56) (XS.ishl X0.here hx rfl (hb hby d22_57) rfl kk_)))))))) ?_
  exact OW.ret X0 hx hlk (i := .ireturn) Bd.returns rfl (Or.inl ⟨rfl, Or.inl rfl, _, rfl⟩) (hb hby d22_58) e0 (by decide) (by decide) ⟨rfl, N0, rfl⟩
theorem ef_NF (m : MethodId) (x0 : Int32) : entryFrame m #[(.int x0)] 1 = mkF m 0 #[.val (.int x0)] [] := by first | (simp [entryFrame, mkF, argsToLocals, Value.category]; done) | rfl
def QNF (Z : State) (z : Int32) (nn : Nat) (h0 : Heap) (n0 : Nat) (v : Option Value) (h : Heap) (L : List Loc) : Prop := ∃ (ba : Addr) (kb : ClassId), v = some (.ref ba) ∧ Fr n0 L ∧ Keep h0 h [] ∧ n0 ≤ ba ∧ h0.size ≤ ba ∧ Arv Z h ba kb .byte (z <<< ((1 : Int32) &&& 31)) (List.replicate (2 * nn) (.int (0 : Int32))) (.int (0 : Int32))
set_option maxRecDepth 65536 in
set_option maxHeartbeats 40000000 in
theorem rmNF (l : Launch) (Z : State) (a0 : Array Value) (hw : ∀ d ∈ tables_1, d.before a0 Z = true) (ws : List Jvm.Cond) (z : Int32) (nn : Nat) (h0 : Heap) (n0 : Nat) (O0 : Old Z n0 h0) (hz : z.toInt = (nn : Int)) (hmax : nn ≤ 10) :
    MetFree l (⟨"java/lang/StringUTF16", "newBytesFor", "(I)[B"⟩ : MethodName) (head1 (Jvm.Cond.code (⟨"java/lang/StringUTF16", "newBytesFor", "(I)[B"⟩ : MethodName) jdk_52_method_2_code 1 (some (.array .byte)) :: ws) ({ frames := 1, cells := 1, slots := 20, locals := 12 } : Room)) (fun aa_ UU_ => aa_ = #[(.int z)] ∧ Z.Warmed39 UU_.vm ∧ UU_.heap = h0) (fun _ _ _ _ _ => True) (fun _ UU_ oo_ UV_ => ∃ vv_ LL_, oo_ = .returned vv_ ∧ QNF Z z nn h0 n0 vv_ UV_.heap LL_ ∧ FrameEnd UU_ oo_ UV_ LL_ ({ frames := 1, cells := 1, slots := 20, locals := 12 } : Room).cells ({ frames := 1, cells := 1, slots := 20, locals := 12 } : Room).slots) := by
  refine MetFree.of_bodySF (plainFor_of_name pn_1) hisR ?_
  intro p e s m args below meth c s₁ Bd hml0 hP hK
  obtain ⟨rfl, hZ, hh⟩ := hP
  have hx := Bd.exec
  have hby := Bd.bytes
  have hlk := BodyLoose.notSynchronized Bd
  have hml : c.maxLocals = 1 := hml0
  have hown : s.vm.findClass "java/lang/StringUTF16" = some m.cls := findClass_of_methodNamed Bd.named
  have hnm := (name_of_methodNamed Bd.named Bd.method).1
  have X0 : Stand p l e ({ frames := 1, cells := 1, slots := 20, locals := 12 } : Room) s m #[(.int z)] below meth c s₁ [] 0 0 := Stand.of_body Bd
  have e0 : s₁.heap = h0 := by rw [← hh, Bd.state]; rfl
  have N0 := Fr.nil n0
  have KC0 : Keep h0 h0 [] := Keep.refl _ _
  suffices hOW : OW p e below s (QNF Z z nn h0 n0) 1 20 (s₁.setTop (mkF m 0 #[.val (.int z)] [])) by
    obtain ⟨oq1_, oq2_, oq3_, oq4_⟩ := hOW
    exact ⟨oq1_, oq2_, castTop (ef_NF m z) oq3_, oq4_⟩
  have hd := own_dbl hz (by omega)
  refine OW.st (B := s₁.setTop (mkF m 1 #[.val (.int z)] [(.int z)])) (fun _ kk_ => XS.iloadN X0.here hx rfl (hb hby d21_0) rfl kk_) ?_
  obtain ⟨_, _, ⟨T39, L39, k39, n39⟩, -, X39, ⟨Lc39, hQ39, l39, y39, z39⟩, st39⟩ := Jvm.LawKit.callS X0 hx (y := (⟨"java/lang/StringUTF16", "newBytesLength", "(I)I"⟩ : MethodName)) hown (mvT hZ (w_95 hw)) (mvT hZ (w_96 hw)) (mvT hZ (w_77 hw)) (mvT hZ (w_97 hw)) (by decide) (backOf (W := 0) (rmNL l Z a0 hw [] z nn h0 n0 O0 hz hmax) hZ (w_97 hw) (w_77 hw) (by decide) (by decide)) (g := (mkF m 1 #[.val (.int z)] [(.int z)])) rfl (by rw [hml]; rfl) (argsL := [(.int z)]) (rest := []) (lenOf pd_1 rfl) rfl (by show 2 * 0 + _ ≤ _; exact Nat.le_of_eq rfl) (hb hby d21_1) (fun _ _ => ⟨rfl, e0, (by decide : 0 + 0 ≤ _), (by decide : 0 + 0 ≤ _)⟩)
  dsimp only [Pt.U, Pt.locs, Pt.cells, Pt.slots] at X39 l39 y39 z39 st39 hQ39
  subst l39 y39 z39
  obtain ⟨rfl, Nq39, e39⟩ := hQ39
  have N39 := Fr.app N0 Nq39
  refine OW.st (B := T39.setTop (mkF m 4 #[.val (.int z)] [(.int (z <<< ((1 : Int32) &&& 31)))])) (fun _ kk_ => st39 _ kk_) ?_
  obtain ⟨T40, h40, k40, X40, e40, E40, A40, st40⟩ := newP (aty := .byte) X39 hx hZ (w_21 hw) e39 (g := (mkF m 4 #[.val (.int z)] [(.int (z <<< ((1 : Int32) &&& 31)))])) rfl (hb hby d21_4) rfl (own_nneg hd) (cap := 20) (by rw [own_tn hd]; omega) (by decide) (by decide) (by decide)
  obtain ⟨b40, g40⟩ : ∃ z, z = h0.size := ⟨_, rfl⟩
  rw [← g40] at A40 st40
  have n_b40 : n0 ≤ b40 := Nat.le_trans (own_oldle O0) (Nat.le_of_eq g40.symm)
  have O40 : Old Z n0 h40 := O0.ext E40
  have sz_b40 : h0.size ≤ b40 := Nat.le_trans KC0.1 (Nat.le_of_eq g40.symm)
  have KC40 : Keep h0 h40 [] := KC0.ext E40
  have V40 : Arv Z h40 b40 k40 .byte (z <<< ((1 : Int32) &&& 31)) (List.replicate (2 * nn) (.int (0 : Int32))) (.int (0 : Int32)) := (Arv.new A40 (own_nneg hd)).pad (pad_rep [] (.int (0 : Int32)) (2 * nn))
  refine OW.st (B := T40.setTop (mkF m 6 #[.val (.int z)] [(.ref b40)])) (fun _ kk_ => st40 _ kk_) ?_
  exact OW.ret X40 hx hlk (i := .areturn) Bd.returns rfl (Or.inr (Or.inr (Or.inr (Or.inr ⟨rfl, rfl, rfl⟩)))) (hb hby d21_6) e40 (by decide) (by decide) ⟨b40, k40, rfl, N39, KC40, n_b40, sz_b40, V40⟩
theorem ef_TB (m : MethodId) (x0 : Addr) (x1 : Int32) (x2 : Int32) : entryFrame m #[(.ref x0), (.int x1), (.int x2)] 5 = mkF m 0 #[.val (.ref x0), .val (.int x1), .val (.int x2), .unset, .unset] [] := by first | (simp [entryFrame, mkF, argsToLocals, Value.category]; done) | rfl
def QTB (Z : State) (ca : Addr) (kc : ClassId) (z : Int32) (cs : List Int32) (i_COMPACT_STRINGS : Int32) (v_SIOOBE_FORMATTER : Value) (h0 : Heap) (n0 : Nat) (v : Option Value) (h : Heap) (L : List Loc) : Prop := ∃ (ba : Addr) (kb : ClassId), v = some (.ref ba) ∧ Fr n0 L ∧ Keep h0 h [] ∧ n0 ≤ ba ∧ h0.size ≤ ba ∧ Arv Z h ba kb .byte (z <<< ((1 : Int32) &&& 31)) (OwnU cs) (.int (0 : Int32))
set_option maxRecDepth 65536 in
set_option maxHeartbeats 40000000 in
theorem rmTB (l : Launch) (Z : State) (a0 : Array Value) (hw : ∀ d ∈ tables_1, d.before a0 Z = true) (ws : List Jvm.Cond) (ca : Addr) (kc : ClassId) (z : Int32) (cs : List Int32) (i_COMPACT_STRINGS : Int32) (v_SIOOBE_FORMATTER : Value) (h0 : Heap) (n0 : Nat) (O0 : Old Z n0 h0) (V : Arv Z h0 ca kc .char z (cs.map Value.int) (.int (0 : Int32))) (hz : z.toInt = (cs.length : Int)) (hmax : cs.length ≤ 10) (hS : OwnS Z i_COMPACT_STRINGS v_SIOOBE_FORMATTER) :
    MetFree l (⟨"java/lang/StringUTF16", "toBytes", "([CII)[B"⟩ : MethodName) (head1 (Jvm.Cond.code (⟨"java/lang/StringUTF16", "toBytes", "([CII)[B"⟩ : MethodName) jdk_52_method_14_code 5 (some (.array .byte)) :: ws) ({ frames := 2, cells := 1, slots := 20, locals := 24 } : Room)) (fun aa_ UU_ => aa_ = #[(.ref ca), (.int (0 : Int32)), (.int z)] ∧ Z.Warmed39 UU_.vm ∧ UU_.heap = h0) (fun _ _ _ _ _ => True) (fun _ UU_ oo_ UV_ => ∃ vv_ LL_, oo_ = .returned vv_ ∧ QTB Z ca kc z cs i_COMPACT_STRINGS v_SIOOBE_FORMATTER h0 n0 vv_ UV_.heap LL_ ∧ FrameEnd UU_ oo_ UV_ LL_ ({ frames := 2, cells := 1, slots := 20, locals := 24 } : Room).cells ({ frames := 2, cells := 1, slots := 20, locals := 24 } : Room).slots) := by
  refine MetFree.of_bodySF (plainFor_of_name pn_1) hisR ?_
  intro p e s m args below meth c s₁ Bd hml0 hP hK
  obtain ⟨rfl, hZ, hh⟩ := hP
  have hx := Bd.exec
  have hby := Bd.bytes
  have hlk := BodyLoose.notSynchronized Bd
  have hml : c.maxLocals = 5 := hml0
  have hown : s.vm.findClass "java/lang/StringUTF16" = some m.cls := findClass_of_methodNamed Bd.named
  have hnm := (name_of_methodNamed Bd.named Bd.method).1
  have X0 : Stand p l e ({ frames := 2, cells := 1, slots := 20, locals := 24 } : Room) s m #[(.ref ca), (.int (0 : Int32)), (.int z)] below meth c s₁ [] 0 0 := Stand.of_body Bd
  have e0 : s₁.heap = h0 := by rw [← hh, Bd.state]; rfl
  have N0 := Fr.nil n0
  have KC0 : Keep h0 h0 [] := Keep.refl _ _
  suffices hOW : OW p e below s (QTB Z ca kc z cs i_COMPACT_STRINGS v_SIOOBE_FORMATTER h0 n0) 1 20 (s₁.setTop (mkF m 0 #[.val (.ref ca), .val (.int (0 : Int32)), .val (.int z), .unset, .unset] [])) by
    obtain ⟨oq1_, oq2_, oq3_, oq4_⟩ := hOW
    exact ⟨oq1_, oq2_, castTop (ef_TB m ca (0 : Int32) z) oq3_, oq4_⟩
  have hS' := hS
  obtain ⟨Si_COMPACT_STRINGS, Sv_SIOOBE_FORMATTER, Rv_SIOOBE_FORMATTER, S__assertionsDisabled, S_HI_BYTE_SHIFT, S_LO_BYTE_SHIFT, Pi_COMPACT_STRINGS⟩ := hS'
  refine OW.st (B := s₁.setTop (mkF m 1 #[.val (.ref ca), .val (.int (0 : Int32)), .val (.int z), .unset, .unset] [(.int z)])) (fun _ kk_ => XS.iloadN X0.here hx rfl (hb hby d20_0) rfl kk_) ?_
  obtain ⟨_, _, ⟨T41, L41, k41, n41⟩, -, X41, ⟨Lc41, hQ41, l41, y41, z41⟩, st41⟩ := Jvm.LawKit.callS X0 hx (y := (⟨"java/lang/StringUTF16", "newBytesFor", "(I)[B"⟩ : MethodName)) hown (mvT hZ (w_92 hw)) (mvT hZ (w_93 hw)) (mvT hZ (w_77 hw)) (mvT hZ (w_94 hw)) (by decide) (backOf (W := 0) (rmNF l Z a0 hw [] z cs.length h0 n0 O0 hz hmax) hZ (w_94 hw) (w_77 hw) (by decide) (by decide)) (g := (mkF m 1 #[.val (.ref ca), .val (.int (0 : Int32)), .val (.int z), .unset, .unset] [(.int z)])) rfl (by rw [hml]; rfl) (argsL := [(.int z)]) (rest := []) (lenOf pd_2 rfl) rfl (by show 2 * 0 + _ ≤ _; exact Nat.le_of_eq rfl) (hb hby d20_1) (fun _ _ => ⟨rfl, e0, (by decide : 0 + 1 ≤ _), (by decide : 0 + 20 ≤ _)⟩)
  dsimp only [Pt.U, Pt.locs, Pt.cells, Pt.slots] at X41 l41 y41 z41 st41 hQ41
  subst l41 y41 z41
  obtain ⟨b41, kb41, rfl, Nq41, K41, gb41, zb41, Vb41⟩ := hQ41
  have N41 := Fr.app N0 Nq41
  have O41 : Old Z n0 T41.heap := O0.keep K41 all0
  have KC41 : Keep h0 T41.heap [] := KC0.trans K41 all0
  have sz_b41 : h0.size ≤ b41 := Nat.le_trans KC0.1 zb41
  refine OW.st (B := T41.setTop (mkF m 8 #[.val (.ref ca), .val (.int (0 : Int32)), .val (.int z), .val (.ref b41), .val (.int (0 : Int32))] [])) (fun _ kk_ => st41 _ (XS.astoreN X41.here hx rfl (hb hby d20_4) rfl rfl (l' := #[.val (.ref ca), .val (.int (0 : Int32)), .val (.int z), .val (.ref b41), .unset]) rfl (XS.iconst X41.here hx rfl (hb hby d20_5) (XS.istore X41.here hx rfl (hb hby d20_6) rfl (l' := #[.val (.ref ca), .val (.int (0 : Int32)), .val (.int z), .val (.ref b41), .val (.int (0 : Int32))]) rfl kk_)))) ?_
  have hd := own_dbl hz (by omega)
  have J42 : ∀ (f : Nat) (T42 : State) (L42 : List Loc) (h42 : Heap) (X42 : Stand p l e ({ frames := 2, cells := 1, slots := 20, locals := 24 } : Room) s m #[(.ref ca), (.int (0 : Int32)), (.int z)] below meth c T42 L42 1 20) (N42 : Fr n0 L42) (e42 : T42.heap = h42) (O42 : Old Z n0 h42) (KC42 : Keep h0 h42 []) (i : Int32) (bs : List Value) (mm : Nat), (Arv Z h42 ca kc .char z (cs.map Value.int) (.int (0 : Int32))) → (Arv Z h42 b41 kb41 .byte (z <<< ((1 : Int32) &&& 31)) bs (.int (0 : Int32))) → (i.toInt = (mm : Int)) → (mm + f = cs.length) → (OwnPU cs mm bs) → OW p e below s (QTB Z ca kc z cs i_COMPACT_STRINGS v_SIOOBE_FORMATTER h0 n0) 1 20 (T42.setTop (mkF m 8 #[.val (.ref ca), .val (.int i), .val (.int z), .val (.ref b41), .val (.int i)] [])) := by
    intro f
    induction f with
    | zero =>
      intro T42 L42 h42 X42 N42 e42 O42 KC42 i bs mm Vc Vb hi hm hp
      have hmm : mm = cs.length := by omega
      subst hmm
      refine OW.st (B := T42.setTop (mkF m 33 #[.val (.ref ca), .val (.int i), .val (.int z), .val (.ref b41), .val (.int i)] [(.ref b41)])) (fun _ kk_ => XS.iload X42.here hx rfl (hb hby d20_8) rfl (XS.iloadN X42.here hx rfl (hb hby d20_10) rfl (XS.icmpYes X42.here hx rfl (pc0 := 11) (pc' := 32) rfl (hb hby d20_11) rfl (flt (own_nltI hi hz (by omega))).2.1 (by decide) (by decide) (XS.aloadN X42.here hx rfl (hb hby d20_32) rfl rfl kk_)))) ?_
      exact OW.ret X42 hx hlk (i := .areturn) Bd.returns rfl (Or.inr (Or.inr (Or.inr (Or.inr ⟨rfl, rfl, rfl⟩)))) (hb hby d20_33) e42 (by decide) (by decide) ⟨b41, kb41, rfl, N42, KC42, gb41, sz_b41, hp.end ▸ Vb⟩
    | succ f ih =>
      intro T42 L42 h42 X42 N42 e42 O42 KC42 i bs mm Vc Vb hi hm hp
      obtain ⟨cc, hcc⟩ : ∃ cc, cs[mm]? = some cc := ⟨_, List.getElem?_eq_getElem (by omega)⟩
      have hbl := hp.1
      refine OW.st (B := T42.setTop (mkF m 19 #[.val (.ref ca), .val (.int i), .val (.int z), .val (.ref b41), .val (.int i)] [(.int i), (.ref ca), (.int i), (.ref b41)])) (fun _ kk_ => XS.iload X42.here hx rfl (hb hby d20_8) rfl (XS.iloadN X42.here hx rfl (hb hby d20_10) rfl (XS.icmpNo X42.here hx rfl (hb hby d20_11) rfl (tlt (own_ltI hi hz (by omega))).2.1 (XS.aloadN X42.here hx rfl (hb hby d20_14) rfl rfl (XS.iload X42.here hx rfl (hb hby d20_15) rfl (XS.aloadN X42.here hx rfl (hb hby d20_17) rfl rfl (XS.iloadN X42.here hx rfl (hb hby d20_18) rfl kk_))))))) ?_
      obtain ⟨cl43, Ar43, q43, S43, Ng43, Hs43, G43⟩ := id Vc
      have hin43 : ¬ (i < 0 ∨ cl43.slots.size ≤ (i).toNatClampNeg) := inb_of S43 ⟨own_nneg hi, own_ltI hi hz (by omega)⟩
      refine OW.st (B := T42.setTop (mkF m 20 #[.val (.ref ca), .val (.int i), .val (.int z), .val (.ref b41), .val (.int i)] [(.int cc), (.int i), (.ref b41)])) (fun _ kk_ => (X42.caload hx (j := i) (v := (.int cc)) (by rw [e42]; exact Ar43.1) (State.isArrayOf_alike hZ.alike Ar43.2.1) Ar43.2.2 hin43 (Has.at Hs43 hin43 ((congrArg (fun q => (cs.map Value.int).getD q _) (own_tn hi)).trans (own_getC hcc))) (g := (mkF m 19 #[.val (.ref ca), .val (.int i), .val (.int z), .val (.ref b41), .val (.int i)] [(.int i), (.ref ca), (.int i), (.ref b41)])) rfl rfl (hb hby d20_19)) _ kk_) ?_
      obtain ⟨_, _, ⟨T44, L44, k44, n44⟩, -, X44, ⟨Lc44, hQ44, l44, y44, z44⟩, st44⟩ := Jvm.LawKit.callS X42 hx (y := (⟨"java/lang/StringUTF16", "putChar", "([BII)V"⟩ : MethodName)) hown (mvT hZ (w_99 hw)) (mvT hZ (w_100 hw)) (mvT hZ (w_77 hw)) (mvT hZ (w_101 hw)) (by decide) (backOf (W := 0) (rmPC l Z a0 hw [] b41 kb41 (z <<< ((1 : Int32) &&& 31)) bs i mm cc i_COMPACT_STRINGS v_SIOOBE_FORMATTER h42 n0 O42 Vb gb41 (by rw [hbl]; exact hd) (by omega) (by omega) hi hS) hZ (w_101 hw) (w_77 hw) (by decide) (by decide)) (g := (mkF m 20 #[.val (.ref ca), .val (.int i), .val (.int z), .val (.ref b41), .val (.int i)] [(.int cc), (.int i), (.ref b41)])) rfl (by rw [hml]; rfl) (argsL := [(.ref b41), (.int i), (.int cc)]) (rest := []) (lenOf pd_3 rfl) rfl (by show 2 * 0 + _ ≤ _; exact Nat.le_of_eq rfl) (hb hby d20_20) (fun _ _ => ⟨rfl, e42, (by decide : 1 + 0 ≤ _), (by decide : 20 + 0 ≤ _)⟩)
      dsimp only [Pt.U, Pt.locs, Pt.cells, Pt.slots] at X44 l44 y44 z44 st44 hQ44
      subst l44 y44 z44
      obtain ⟨rfl, Nq44, K44, Vp44⟩ := hQ44
      have N44 := Fr.app N42 Nq44
      have O44 : Old Z n0 T44.heap := O42.keep K44 (allS gb41 all0)
      have KC44 : Keep h0 T44.heap [] := KC42.trans K44 (allS (Or.inr sz_b41) all0)
      refine OW.st (B := T44.setTop (mkF m 8 #[.val (.ref ca), .val (.int (i + (1 : Int32))), .val (.int z), .val (.ref b41), .val (.int (i + (1 : Int32)))] [])) (fun _ kk_ => st44 _ (XS.iinc X44.here hx rfl (hb hby d20_23) rfl (l' := #[.val (.ref ca), .val (.int (i + (1 : Int32))), .val (.int z), .val (.ref b41), .val (.int i)]) rfl (XS.iinc X44.here hx rfl (hb hby d20_26) rfl (l' := #[.val (.ref ca), .val (.int (i + (1 : Int32))), .val (.int z), .val (.ref b41), .val (.int (i + (1 : Int32)))]) rfl (XS.goto X44.here hx rfl (pc0 := 29) (pc' := 8) rfl (hb hby d20_29) (by decide) (by decide) kk_)))) ?_
      exact ih _ _ _ X44 N44 rfl O44 KC44 _ _ (mm + 1) (Vc.keep K44 (ninS (own_neTy Vc Vb (by decide)) nin0)) Vp44 (own_suc hi (by omega)) (by omega) (hp.step hcc)
  exact J42 cs.length _ _ _ X41 N41 rfl O41 KC41 _ _ 0 (V.keep K41 nin0) Vb41 rfl (Nat.zero_add _) (OwnPU.start cs _)
theorem ef_C30 (m : MethodId) (x0 : Addr) (x1 : Int32) (x2 : Int32) : entryFrame m #[(.ref x0), (.int x1), (.int x2)] 6 = mkF m 0 #[.val (.ref x0), .val (.int x1), .val (.int x2), .unset, .unset, .unset] [] := by first | (simp [entryFrame, mkF, argsToLocals, Value.category]; done) | rfl
def QC30 (Z : State) (ca : Addr) (kc : ClassId) (z : Int32) (cs : List Int32) (i_COMPACT_STRINGS : Int32) (v_SIOOBE_FORMATTER : Value) (h0 : Heap) (n0 : Nat) (v : Option Value) (h : Heap) (L : List Loc) : Prop := ∃ (ba : Addr) (kb : ClassId), v = some (.ref ba) ∧ Fr n0 L ∧ Keep h0 h [] ∧ n0 ≤ ba ∧ h0.size ≤ ba ∧ Arv Z h ba kb .byte z (OwnL cs) (.int (0 : Int32))
set_option maxRecDepth 65536 in
set_option maxHeartbeats 40000000 in
theorem rmC30 (l : Launch) (Z : State) (a0 : Array Value) (hw : ∀ d ∈ tables_1, d.before a0 Z = true) (ws : List Jvm.Cond) (ca : Addr) (kc : ClassId) (z : Int32) (cs : List Int32) (i_COMPACT_STRINGS : Int32) (v_SIOOBE_FORMATTER : Value) (h0 : Heap) (n0 : Nat) (O0 : Old Z n0 h0) (V : Arv Z h0 ca kc .char z (cs.map Value.int) (.int (0 : Int32))) (hz : z.toInt = (cs.length : Int)) (hmax : cs.length ≤ 10) (hch : OwnChs cs) (hlat : OwnLat cs) (hS : OwnS Z i_COMPACT_STRINGS v_SIOOBE_FORMATTER) :
    MetFree l (⟨"java/lang/StringUTF16", "compress", "([CII)[B"⟩ : MethodName) (head1 (Jvm.Cond.code (⟨"java/lang/StringUTF16", "compress", "([CII)[B"⟩ : MethodName) jdk_52_method_16_code 6 (some (.array .byte)) :: ws) ({ frames := 1, cells := 1, slots := 10, locals := 18 } : Room)) (fun aa_ UU_ => aa_ = #[(.ref ca), (.int (0 : Int32)), (.int z)] ∧ Z.Warmed39 UU_.vm ∧ UU_.heap = h0) (fun _ _ _ _ _ => True) (fun _ UU_ oo_ UV_ => ∃ vv_ LL_, oo_ = .returned vv_ ∧ QC30 Z ca kc z cs i_COMPACT_STRINGS v_SIOOBE_FORMATTER h0 n0 vv_ UV_.heap LL_ ∧ FrameEnd UU_ oo_ UV_ LL_ ({ frames := 1, cells := 1, slots := 10, locals := 18 } : Room).cells ({ frames := 1, cells := 1, slots := 10, locals := 18 } : Room).slots) := by
  refine MetFree.of_bodySF (plainFor_of_name pn_1) hisR ?_
  intro p e s m args below meth c s₁ Bd hml0 hP hK
  obtain ⟨rfl, hZ, hh⟩ := hP
  have hx := Bd.exec
  have hby := Bd.bytes
  have hlk := BodyLoose.notSynchronized Bd
  have hml : c.maxLocals = 6 := hml0
  have hown : s.vm.findClass "java/lang/StringUTF16" = some m.cls := findClass_of_methodNamed Bd.named
  have hnm := (name_of_methodNamed Bd.named Bd.method).1
  have X0 : Stand p l e ({ frames := 1, cells := 1, slots := 10, locals := 18 } : Room) s m #[(.ref ca), (.int (0 : Int32)), (.int z)] below meth c s₁ [] 0 0 := Stand.of_body Bd
  have e0 : s₁.heap = h0 := by rw [← hh, Bd.state]; rfl
  have N0 := Fr.nil n0
  have KC0 : Keep h0 h0 [] := Keep.refl _ _
  suffices hOW : OW p e below s (QC30 Z ca kc z cs i_COMPACT_STRINGS v_SIOOBE_FORMATTER h0 n0) 1 10 (s₁.setTop (mkF m 0 #[.val (.ref ca), .val (.int (0 : Int32)), .val (.int z), .unset, .unset, .unset] [])) by
    obtain ⟨oq1_, oq2_, oq3_, oq4_⟩ := hOW
    exact ⟨oq1_, oq2_, castTop (ef_C30 m ca (0 : Int32) z) oq3_, oq4_⟩
  have hS' := hS
  obtain ⟨Si_COMPACT_STRINGS, Sv_SIOOBE_FORMATTER, Rv_SIOOBE_FORMATTER, S__assertionsDisabled, S_HI_BYTE_SHIFT, S_LO_BYTE_SHIFT, Pi_COMPACT_STRINGS⟩ := hS'
  refine OW.st (B := s₁.setTop (mkF m 1 #[.val (.ref ca), .val (.int (0 : Int32)), .val (.int z), .unset, .unset, .unset] [(.int z)])) (fun _ kk_ => XS.iloadN X0.here hx rfl (hb hby d16_0) rfl kk_) ?_
  obtain ⟨T45, h45, k45, X45, e45, E45, A45, st45⟩ := newP (aty := .byte) X0 hx hZ (w_21 hw) e0 (g := (mkF m 1 #[.val (.ref ca), .val (.int (0 : Int32)), .val (.int z), .unset, .unset, .unset] [(.int z)])) rfl (hb hby d16_1) rfl (own_nneg hz) (cap := 10) (by rw [own_tn hz]; exact hmax) (by decide) (by decide) (by decide)
  obtain ⟨b45, g45⟩ : ∃ z, z = h0.size := ⟨_, rfl⟩
  rw [← g45] at A45 st45
  have n_b45 : n0 ≤ b45 := Nat.le_trans (own_oldle O0) (Nat.le_of_eq g45.symm)
  have O45 : Old Z n0 h45 := O0.ext E45
  have sz_b45 : h0.size ≤ b45 := Nat.le_trans KC0.1 (Nat.le_of_eq g45.symm)
  have KC45 : Keep h0 h45 [] := KC0.ext E45
  have V45 : Arv Z h45 b45 k45 .byte z (List.replicate cs.length (.int (0 : Int32))) (.int (0 : Int32)) := (Arv.new A45 (own_nneg hz)).pad (pad_rep [] (.int (0 : Int32)) cs.length)
  refine OW.st (B := T45.setTop (mkF m 9 #[.val (.ref ca), .val (.int (0 : Int32)), .val (.int z), .val (.ref b45), .unset, .unset] [(.int z), (.int (0 : Int32)), (.ref b45), (.int (0 : Int32)), (.ref ca)])) (fun _ kk_ => st45 _ (XS.astoreN X45.here hx rfl (hb hby d16_3) rfl rfl (l' := #[.val (.ref ca), .val (.int (0 : Int32)), .val (.int z), .val (.ref b45), .unset, .unset]) rfl (XS.aloadN X45.here hx rfl (hb hby d16_4) rfl rfl (XS.iloadN X45.here hx rfl (hb hby d16_5) rfl (XS.aloadN X45.here hx rfl (hb hby d16_6) rfl rfl (XS.iconst X45.here hx rfl (hb hby d16_7) (XS.iloadN X45.here hx rfl (hb hby d16_8) rfl kk_))))))) ?_
  obtain ⟨_, _, ⟨T46, L46, k46, n46⟩, -, X46, ⟨Lc46, hQ46, l46, y46, z46⟩, st46⟩ := Jvm.LawKit.callS X45 hx (y := (⟨"java/lang/StringUTF16", "compress", "([CI[BII)I"⟩ : MethodName)) hown (mvT hZ (w_79 hw)) (mvT hZ (w_80 hw)) (mvT hZ (w_77 hw)) (mvT hZ (w_81 hw)) (by decide) (backOf (W := 0) (rmC50 l Z a0 hw [] ca kc b45 k45 z cs h45 n0 O45 (V.ext E45) hz hmax V45 n_b45 (Nat.ne_of_lt (Nat.lt_of_lt_of_le V.lt (Nat.le_of_eq g45.symm))) hlat) hZ (w_81 hw) (w_77 hw) (by decide) (by decide)) (g := (mkF m 9 #[.val (.ref ca), .val (.int (0 : Int32)), .val (.int z), .val (.ref b45), .unset, .unset] [(.int z), (.int (0 : Int32)), (.ref b45), (.int (0 : Int32)), (.ref ca)])) rfl (by rw [hml]; rfl) (argsL := [(.ref ca), (.int (0 : Int32)), (.ref b45), (.int (0 : Int32)), (.int z)]) (rest := []) (lenOf pd_4 rfl) rfl (by show 2 * 0 + _ ≤ _; exact Nat.le_of_eq rfl) (hb hby d16_9) (fun _ _ => ⟨rfl, e45, (by decide : 1 + 0 ≤ _), (by decide : 10 + 0 ≤ _)⟩)
  dsimp only [Pt.U, Pt.locs, Pt.cells, Pt.slots] at X46 l46 y46 z46 st46 hQ46
  subst l46 y46 z46
  obtain ⟨rfl, Nq46, K46, Vb46⟩ := hQ46
  have N46 := Fr.app N0 Nq46
  have O46 : Old Z n0 T46.heap := O45.keep K46 (allS n_b45 all0)
  have KC46 : Keep h0 T46.heap [] := KC45.trans K46 (allS (Or.inr sz_b45) all0)
  refine OW.st (B := T46.setTop (mkF m 58 #[.val (.ref ca), .val (.int (0 : Int32)), .val (.int z), .val (.ref b45), .val (.int z), .unset] [(.ref b45)])) (fun _ kk_ => st46 _ (XS.istore X46.here hx rfl (hb hby d16_12) rfl (l' := #[.val (.ref ca), .val (.int (0 : Int32)), .val (.int z), .val (.ref b45), .val (.int z), .unset]) rfl (XS.iload X46.here hx rfl (hb hby d16_14) rfl (XS.iloadN X46.here hx rfl (hb hby d16_16) rfl (XS.icmpYes X46.here hx rfl (pc0 := 17) (pc' := 57) rfl (hb hby d16_17) rfl (teq rfl).1 (by decide) (by decide) (XS.aloadN X46.here hx rfl (hb hby d16_57) rfl rfl kk_)))))) ?_
  exact OW.ret X46 hx hlk (i := .areturn) Bd.returns rfl (Or.inr (Or.inr (Or.inr (Or.inr ⟨rfl, rfl, rfl⟩)))) (hb hby d16_58) rfl (by decide) (by decide) ⟨b45, k45, rfl, N46, KC46, n_b45, sz_b45, Vb46⟩
theorem ef_CL0 (m : MethodId) (x0 : Addr) (x1 : Int32) : entryFrame m #[(.ref x0), (.int x1)] 2 = mkF m 0 #[.val (.ref x0), .val (.int x1)] [] := by first | (simp [entryFrame, mkF, argsToLocals, Value.category]; done) | rfl
def QCL0 (Z : State) (ba : Addr) (kb : ClassId) (z : Int32) (cs : List Int32) (h0 : Heap) (n0 : Nat) (v : Option Value) (h : Heap) (L : List Loc) : Prop := v = some (.int (0 : Int32)) ∧ Fr n0 L ∧ h = h0
set_option maxRecDepth 65536 in
set_option maxHeartbeats 40000000 in
theorem rmCL0 (l : Launch) (Z : State) (a0 : Array Value) (hw : ∀ d ∈ tables_1, d.before a0 Z = true) (ws : List Jvm.Cond) (ba : Addr) (kb : ClassId) (z : Int32) (cs : List Int32) (h0 : Heap) (n0 : Nat) (O0 : Old Z n0 h0) (B : Arv Z h0 ba kb .byte z (OwnL cs) (.int (0 : Int32))) (hz : z.toInt = (cs.length : Int)) (hmax : cs.length ≤ 10) (hpos : 0 < cs.length) :
    MetFree l (⟨"java/lang/StringUTF16", "coderFromArrayLen", "([BI)B"⟩ : MethodName) (head1 (Jvm.Cond.code (⟨"java/lang/StringUTF16", "coderFromArrayLen", "([BI)B"⟩ : MethodName) jdk_52_method_15_code 2 (some .byte) :: ws) ({ frames := 0, cells := 0, slots := 0, locals := 0 } : Room)) (fun aa_ UU_ => aa_ = #[(.ref ba), (.int z)] ∧ Z.Warmed39 UU_.vm ∧ UU_.heap = h0) (fun _ _ _ _ _ => True) (fun _ UU_ oo_ UV_ => ∃ vv_ LL_, oo_ = .returned vv_ ∧ QCL0 Z ba kb z cs h0 n0 vv_ UV_.heap LL_ ∧ FrameEnd UU_ oo_ UV_ LL_ ({ frames := 0, cells := 0, slots := 0, locals := 0 } : Room).cells ({ frames := 0, cells := 0, slots := 0, locals := 0 } : Room).slots) := by
  refine MetFree.of_bodySF (plainFor_of_name pn_1) hisR ?_
  intro p e s m args below meth c s₁ Bd hml0 hP hK
  obtain ⟨rfl, hZ, hh⟩ := hP
  have hx := Bd.exec
  have hby := Bd.bytes
  have hlk := BodyLoose.notSynchronized Bd
  have hml : c.maxLocals = 2 := hml0
  have hown : s.vm.findClass "java/lang/StringUTF16" = some m.cls := findClass_of_methodNamed Bd.named
  have hnm := (name_of_methodNamed Bd.named Bd.method).1
  have X0 : Stand p l e ({ frames := 0, cells := 0, slots := 0, locals := 0 } : Room) s m #[(.ref ba), (.int z)] below meth c s₁ [] 0 0 := Stand.of_body Bd
  have e0 : s₁.heap = h0 := by rw [← hh, Bd.state]; rfl
  have N0 := Fr.nil n0
  suffices hOW : OW p e below s (QCL0 Z ba kb z cs h0 n0) 0 0 (s₁.setTop (mkF m 0 #[.val (.ref ba), .val (.int z)] [])) by
    obtain ⟨oq1_, oq2_, oq3_, oq4_⟩ := hOW
    exact ⟨oq1_, oq2_, castTop (ef_CL0 m ba z) oq3_, oq4_⟩
  refine OW.st (B := s₁.setTop (mkF m 2 #[.val (.ref ba), .val (.int z)] [(.ref ba), (.int z)])) (fun _ kk_ => XS.iloadN X0.here hx rfl (hb hby d18_0) rfl (XS.aloadN X0.here hx rfl (hb hby d18_1) rfl rfl kk_)) ?_
  obtain ⟨cl47, Ar47, q47, S47, Ng47, Hs47, G47⟩ := id B
  refine OW.st (X0.arraylength hx (by rw [e0]; exact Ar47.1) (State.isArrayOf_alike hZ.alike Ar47.2.1) (g := (mkF m 2 #[.val (.ref ba), .val (.int z)] [(.ref ba), (.int z)])) rfl rfl (hb hby d18_2)) ?_
  rw [len_of S47 Ng47]
  show OW p e below s (QCL0 Z ba kb z cs h0 n0) 0 0 (s₁.setTop (mkF m 3 #[.val (.ref ba), .val (.int z)] [(.int z), (.int z)]))
  refine OW.st (B := s₁.setTop (mkF m 8 #[.val (.ref ba), .val (.int z)] [(.int ((((z - z).toUInt32 >>> ((31 : Int32) &&& 31).toUInt32).toInt32).toInt8.toInt32))])) (fun _ kk_ => XS.isub X0.here hx rfl (hb hby d18_3) rfl (XS.bipush X0.here hx rfl (hb hby d18_4) (XS.iushr X0.here hx rfl (hb hby d18_6) rfl (XS.i2b X0.here hx rfl (hb hby d18_7) rfl kk_)))) ?_
  exact OW.ret X0 hx hlk (i := .ireturn) Bd.returns (by rw [own_clL z]; rfl) (Or.inl ⟨rfl, Or.inr (Or.inr (Or.inl rfl)), _, rfl⟩) (hb hby d18_8) e0 (by decide) (by decide) ⟨congrArg (fun z => some (Value.int z)) (own_clL z), N0, rfl⟩
theorem ef_S10 (m : MethodId) (x0 : Addr) (x1 : Addr) (x2 : Int32) (x3 : Int32) : entryFrame m #[(.ref x0), (.ref x1), (.int x2), (.int x3), .null] 6 = mkF m 0 #[.val (.ref x0), .val (.ref x1), .val (.int x2), .val (.int x3), .val .null, .unset] [] := by first | (simp [entryFrame, mkF, argsToLocals, Value.category]; done) | rfl
def QS10 (Z : State) (b : Addr) (ca : Addr) (kc : ClassId) (z : Int32) (cs : List Int32) (i_COMPACT_STRINGS : Int32) (v_SIOOBE_FORMATTER : Value) (h0 : Heap) (n0 : Nat) (v : Option Value) (h : Heap) (L : List Loc) : Prop := v = none ∧ Fr n0 L ∧ Keep h0 h [b] ∧ Exa Z h b "java/lang/String" ∧ ∃ (ba : Addr) (kb : ClassId), n0 ≤ ba ∧ b ≠ ba ∧ Fld Z h b "java/lang/String" "coder" "B" (.int (0 : Int32)) ∧ Fld Z h b "java/lang/String" "value" "[B" (.ref ba) ∧ Arv Z h ba kb .byte z (OwnL cs) (.int (0 : Int32))
set_option maxRecDepth 65536 in
set_option maxHeartbeats 40000000 in
theorem rmS10 (l : Launch) (Z : State) (a0 : Array Value) (hw : ∀ d ∈ tables_1, d.before a0 Z = true) (ws : List Jvm.Cond) (b : Addr) (ca : Addr) (kc : ClassId) (z : Int32) (cs : List Int32) (i_COMPACT_STRINGS : Int32) (v_SIOOBE_FORMATTER : Value) (h0 : Heap) (n0 : Nat) (O0 : Old Z n0 h0) (E : Exa Z h0 b "java/lang/String") (F1 : Fld Z h0 b "java/lang/String" "value" "[B" .null) (F2 : Fld Z h0 b "java/lang/String" "coder" "B" (.int (0 : Int32))) (g : n0 ≤ b) (V : Arv Z h0 ca kc .char z (cs.map Value.int) (.int (0 : Int32))) (hz : z.toInt = (cs.length : Int)) (hmax : cs.length ≤ 10) (hpos : 0 < cs.length) (hch : OwnChs cs) (hlat : OwnLat cs) (hS : OwnS Z i_COMPACT_STRINGS v_SIOOBE_FORMATTER) :
    MetFree l (⟨"java/lang/String", "<init>", "([CIILjava/lang/Void;)V"⟩ : MethodName) (head1 (Jvm.Cond.code (⟨"java/lang/String", "<init>", "([CIILjava/lang/Void;)V"⟩ : MethodName) jdk_42_method_149_code 6 none :: ws) ({ frames := 2, cells := 1, slots := 10, locals := 35 } : Room)) (fun aa_ UU_ => aa_ = #[(.ref b), (.ref ca), (.int (0 : Int32)), (.int z), .null] ∧ Z.Warmed39 UU_.vm ∧ UU_.heap = h0) (fun _ _ _ _ _ => True) (fun _ UU_ oo_ UV_ => ∃ vv_ LL_, oo_ = .returned vv_ ∧ QS10 Z b ca kc z cs i_COMPACT_STRINGS v_SIOOBE_FORMATTER h0 n0 vv_ UV_.heap LL_ ∧ FrameEnd UU_ oo_ UV_ LL_ ({ frames := 2, cells := 1, slots := 10, locals := 35 } : Room).cells ({ frames := 2, cells := 1, slots := 10, locals := 35 } : Room).slots) := by
  refine MetFree.of_bodySF (plainFor_of_name pn_0) hisR ?_
  intro p e s m args below meth c s₁ Bd hml0 hP hK
  obtain ⟨rfl, hZ, hh⟩ := hP
  have hx := Bd.exec
  have hby := Bd.bytes
  have hlk := BodyLoose.notSynchronized Bd
  have hml : c.maxLocals = 6 := hml0
  have hown : s.vm.findClass "java/lang/String" = some m.cls := findClass_of_methodNamed Bd.named
  have hnm := (name_of_methodNamed Bd.named Bd.method).1
  have X0 : Stand p l e ({ frames := 2, cells := 1, slots := 10, locals := 35 } : Room) s m #[(.ref b), (.ref ca), (.int (0 : Int32)), (.int z), .null] below meth c s₁ [] 0 0 := Stand.of_body Bd
  have e0 : s₁.heap = h0 := by rw [← hh, Bd.state]; rfl
  have N0 := Fr.nil n0
  have KC0 : Keep h0 h0 [b] := Keep.refl _ _
  suffices hOW : OW p e below s (QS10 Z b ca kc z cs i_COMPACT_STRINGS v_SIOOBE_FORMATTER h0 n0) 1 10 (s₁.setTop (mkF m 0 #[.val (.ref b), .val (.ref ca), .val (.int (0 : Int32)), .val (.int z), .val .null, .unset] [])) by
    obtain ⟨oq1_, oq2_, oq3_, oq4_⟩ := hOW
    exact ⟨oq1_, oq2_, castTop (ef_S10 m b ca (0 : Int32) z) oq3_, oq4_⟩
  have hS' := hS
  obtain ⟨Si_COMPACT_STRINGS, Sv_SIOOBE_FORMATTER, Rv_SIOOBE_FORMATTER, S__assertionsDisabled, S_HI_BYTE_SHIFT, S_LO_BYTE_SHIFT, Pi_COMPACT_STRINGS⟩ := hS'
  refine OW.st (B := s₁.setTop (mkF m 1 #[.val (.ref b), .val (.ref ca), .val (.int (0 : Int32)), .val (.int z), .val .null, .unset] [(.ref b)])) (fun _ kk_ => XS.aloadN X0.here hx rfl (hb hby d3_0) rfl rfl kk_) ?_
  obtain ⟨T48, X48, e48, st48⟩ := initO X0 hx hZ hown (w_17 hw) (w_18 hw) (w_19 hw) e0 (g := (mkF m 1 #[.val (.ref b), .val (.ref ca), .val (.int (0 : Int32)), .val (.int z), .val .null, .unset] [(.ref b)])) rfl (by rw [hml]; rfl) rfl (hb hby d3_1) (by decide) (W := 0) (by show 2 * 0 + _ ≤ _; exact Nat.le_of_eq rfl) (by decide)
  refine OW.st (B := T48.setTop (mkF m 27 #[.val (.ref b), .val (.ref ca), .val (.int (0 : Int32)), .val (.int z), .val .null, .unset] [])) (fun _ kk_ => st48 _ (XS.iloadN X48.here hx rfl (hb hby d3_4) rfl (XS.ifYes X48.here hx rfl (pc0 := 5) (pc' := 27) rfl (hb hby d3_5) rfl ((if0 _ _).trans (feq (own_n0 hz hpos)).2) (by decide) (by decide) kk_))) ?_
  obtain ⟨T49, X49, e49, st49⟩ := getS2 X48 hx hZ hown (host := "") (Or.inl (w_50 hw)) Via.refl e48 (Si_COMPACT_STRINGS.ext O0.2) (g := (mkF m 27 #[.val (.ref b), .val (.ref ca), .val (.int (0 : Int32)), .val (.int z), .val .null, .unset] [])) rfl (hb hby d3_27)
  refine OW.st (B := T49.setTop (mkF m 36 #[.val (.ref b), .val (.ref ca), .val (.int (0 : Int32)), .val (.int z), .val .null, .unset] [(.int z), (.int (0 : Int32)), (.ref ca)])) (fun _ kk_ => st49 _ (XS.ifNo X49.here hx rfl (hb hby d3_30) rfl ((if0 _ _).trans (feq Pi_COMPACT_STRINGS).1) (XS.aloadN X49.here hx rfl (hb hby d3_33) rfl rfl (XS.iloadN X49.here hx rfl (hb hby d3_34) rfl (XS.iloadN X49.here hx rfl (hb hby d3_35) rfl kk_))))) ?_
  obtain ⟨_, _, ⟨T50, L50, k50, n50⟩, -, X50, ⟨Lc50, hQ50, l50, y50, z50⟩, st50⟩ := Jvm.LawKit.callS X49 hx (y := (⟨"java/lang/StringUTF16", "compress", "([CII)[B"⟩ : MethodName)) hown (mvT hZ (w_75 hw)) (mvT hZ (w_76 hw)) (mvT hZ (w_77 hw)) (mvT hZ (w_78 hw)) (by decide) (backOf (W := 0) (rmC30 l Z a0 hw [] ca kc z cs i_COMPACT_STRINGS v_SIOOBE_FORMATTER h0 n0 O0 V hz hmax hch hlat hS) hZ (w_78 hw) (w_77 hw) (by decide) (by decide)) (g := (mkF m 36 #[.val (.ref b), .val (.ref ca), .val (.int (0 : Int32)), .val (.int z), .val .null, .unset] [(.int z), (.int (0 : Int32)), (.ref ca)])) rfl (by rw [hml]; rfl) (argsL := [(.ref ca), (.int (0 : Int32)), (.int z)]) (rest := []) (lenOf pd_5 rfl) rfl (by show 2 * 0 + _ ≤ _; exact Nat.le_of_eq rfl) (hb hby d3_36) (fun _ _ => ⟨rfl, e49, (by decide : 0 + 1 ≤ _), (by decide : 0 + 10 ≤ _)⟩)
  dsimp only [Pt.U, Pt.locs, Pt.cells, Pt.slots] at X50 l50 y50 z50 st50 hQ50
  subst l50 y50 z50
  obtain ⟨b50, kb50, rfl, Nq50, K50, gb50, zb50, Vb50⟩ := hQ50
  have N50 := Fr.app N0 Nq50
  have O50 : Old Z n0 T50.heap := O0.keep K50 all0
  have KC50 : Keep h0 T50.heap [b] := KC0.trans K50 all0
  have sz_b50 : h0.size ≤ b50 := Nat.le_trans KC0.1 zb50
  refine OW.st (B := T50.setTop (mkF m 45 #[.val (.ref b), .val (.ref ca), .val (.int (0 : Int32)), .val (.int z), .val .null, .val (.ref b50)] [(.int z), (.ref b50), (.ref b)])) (fun _ kk_ => st50 _ (XS.astore X50.here hx rfl (hb hby d3_39) rfl rfl (l' := #[.val (.ref b), .val (.ref ca), .val (.int (0 : Int32)), .val (.int z), .val .null, .val (.ref b50)]) rfl (XS.aloadN X50.here hx rfl (hb hby d3_41) rfl rfl (XS.aload X50.here hx rfl (hb hby d3_42) rfl rfl (XS.iloadN X50.here hx rfl (hb hby d3_44) rfl kk_))))) ?_
  obtain ⟨_, _, ⟨T51, L51, k51, n51⟩, -, X51, ⟨Lc51, hQ51, l51, y51, z51⟩, st51⟩ := Jvm.LawKit.callS X50 hx (y := (⟨"java/lang/StringUTF16", "coderFromArrayLen", "([BI)B"⟩ : MethodName)) hown (mvT hZ (w_82 hw)) (mvT hZ (w_83 hw)) (mvT hZ (w_77 hw)) (mvT hZ (w_84 hw)) (by decide) (backOf (W := 1) (rmCL0 l Z a0 hw [] b50 kb50 z cs T50.heap n0 O50 Vb50 hz hmax hpos) hZ (w_84 hw) (w_77 hw) (by decide) (by decide)) (g := (mkF m 45 #[.val (.ref b), .val (.ref ca), .val (.int (0 : Int32)), .val (.int z), .val .null, .val (.ref b50)] [(.int z), (.ref b50), (.ref b)])) rfl (by rw [hml]; rfl) (argsL := [(.ref b50), (.int z)]) (rest := [(.ref b)]) (lenOf pd_6 rfl) rfl (by show 2 * 0 + _ ≤ _; exact Nat.le_of_eq rfl) (hb hby d3_45) (fun _ _ => ⟨rfl, rfl, (by decide : 1 + 0 ≤ _), (by decide : 10 + 0 ≤ _)⟩)
  dsimp only [Pt.U, Pt.locs, Pt.cells, Pt.slots] at X51 l51 y51 z51 st51 hQ51
  subst l51 y51 z51
  obtain ⟨rfl, Nq51, e51⟩ := hQ51
  have N51 := Fr.app N50 Nq51
  refine OW.st (B := T51.setTop (mkF m 48 #[.val (.ref b), .val (.ref ca), .val (.int (0 : Int32)), .val (.int z), .val .null, .val (.ref b50)] [(.int (0 : Int32)), (.ref b)])) (fun _ kk_ => st51 _ kk_) ?_
  obtain ⟨T52, h52, X52, e52, W52, st52⟩ := putFN X51 hx hZ hown (w_27 hw) Via.refl e51 (F2.keep K50 nin0) (E.keep K50) (Or.inr ⟨(w_23 hw), rfl, hnm⟩) (w_8 hw) (ty := .byte) (v' := (.int (0 : Int32))) (by decide) rfl rfl (g := (mkF m 48 #[.val (.ref b), .val (.ref ca), .val (.int (0 : Int32)), .val (.int z), .val .null, .val (.ref b50)] [(.int (0 : Int32)), (.ref b)])) rfl rfl (hb hby d3_48)
  have N52 := Fr.snoc X52 N51 g
  have O52 : Old Z n0 h52 := O50.wr W52 g
  have KC52 : Keep h0 h52 [b] := KC50.wr W52 (Or.inl (List.mem_of_getElem? (i := 0) rfl))
  have F52 : Fld Z h52 b "java/lang/String" "coder" "B" (.int (0 : Int32)) := Fld.same W52 (F2.keep K50 nin0)
  refine OW.st (B := T52.setTop (mkF m 54 #[.val (.ref b), .val (.ref ca), .val (.int (0 : Int32)), .val (.int z), .val .null, .val (.ref b50)] [(.ref b50), (.ref b)])) (fun _ kk_ => st52 _ (XS.aloadN X52.here hx rfl (hb hby d3_51) rfl rfl (XS.aload X52.here hx rfl (hb hby d3_52) rfl rfl kk_))) ?_
  obtain ⟨T53, h53, X53, e53, W53, st53⟩ := putF X52 hx hZ hown (host := "") (Or.inl (w_26 hw)) Via.refl e52 ((F1.keep K50 nin0).other W52 (Or.inr (slot_ne (Or.inr (w_22 hw)) (Or.inr (w_23 hw)) (by decide) (t := (.array .byte)) (t' := .byte) (by decide) (by decide)))) ((E.keep K50).wr W52) (Or.inr ⟨(w_22 hw), rfl, hnm⟩) (w_8 hw) (ty := (.array .byte)) (by decide) rfl rfl (g := (mkF m 54 #[.val (.ref b), .val (.ref ca), .val (.int (0 : Int32)), .val (.int z), .val .null, .val (.ref b50)] [(.ref b50), (.ref b)])) rfl rfl (hb hby d3_54)
  have N53 := Fr.snoc X53 N52 g
  have O53 : Old Z n0 h53 := O52.wr W53 g
  have KC53 : Keep h0 h53 [b] := KC52.wr W53 (Or.inl (List.mem_of_getElem? (i := 0) rfl))
  have F53 : Fld Z h53 b "java/lang/String" "value" "[B" (.ref b50) := Fld.same W53 ((F1.keep K50 nin0).other W52 (Or.inr (slot_ne (Or.inr (w_22 hw)) (Or.inr (w_23 hw)) (by decide) (t := (.array .byte)) (t' := .byte) (by decide) (by decide))))
  refine OW.st (B := T53.setTop (mkF m 57 #[.val (.ref b), .val (.ref ca), .val (.int (0 : Int32)), .val (.int z), .val .null, .val (.ref b50)] [])) (fun _ kk_ => st53 _ kk_) ?_
  exact OW.retV X53 hx hlk Bd.returns (hb hby d3_57) e53 (by decide) (by decide) ⟨rfl, N53, KC53, (((E.keep K50).wr W52).wr W53), b50, kb50, gb50, (Nat.ne_of_lt (Nat.lt_of_lt_of_le E.lt zb50)), (F52.other W53 (Or.inr (slot_ne (Or.inr (w_23 hw)) (Or.inr (w_22 hw)) (by decide) (t := .byte) (t' := (.array .byte)) (by decide) (by decide)))), F53, ((Vb50.other W52 (Ne.symm (Nat.ne_of_lt (Nat.lt_of_lt_of_le E.lt zb50)))).other W53 (Ne.symm (Nat.ne_of_lt (Nat.lt_of_lt_of_le E.lt zb50))))⟩
theorem ef_C31 (m : MethodId) (x0 : Addr) (x1 : Int32) (x2 : Int32) : entryFrame m #[(.ref x0), (.int x1), (.int x2)] 6 = mkF m 0 #[.val (.ref x0), .val (.int x1), .val (.int x2), .unset, .unset, .unset] [] := by first | (simp [entryFrame, mkF, argsToLocals, Value.category]; done) | rfl
def QC31 (Z : State) (ca : Addr) (kc : ClassId) (z : Int32) (cs : List Int32) (i_COMPACT_STRINGS : Int32) (v_SIOOBE_FORMATTER : Value) (h0 : Heap) (n0 : Nat) (v : Option Value) (h : Heap) (L : List Loc) : Prop := ∃ (ba : Addr) (kb : ClassId), v = some (.ref ba) ∧ Fr n0 L ∧ Keep h0 h [] ∧ n0 ≤ ba ∧ h0.size ≤ ba ∧ Arv Z h ba kb .byte (z <<< ((1 : Int32) &&& 31)) (OwnU cs) (.int (0 : Int32))
set_option maxRecDepth 65536 in
set_option maxHeartbeats 40000000 in
theorem rmC31 (l : Launch) (Z : State) (a0 : Array Value) (hw : ∀ d ∈ tables_1, d.before a0 Z = true) (ws : List Jvm.Cond) (ca : Addr) (kc : ClassId) (z : Int32) (cs : List Int32) (i_COMPACT_STRINGS : Int32) (v_SIOOBE_FORMATTER : Value) (h0 : Heap) (n0 : Nat) (O0 : Old Z n0 h0) (V : Arv Z h0 ca kc .char z (cs.map Value.int) (.int (0 : Int32))) (hz : z.toInt = (cs.length : Int)) (hmax : cs.length ≤ 10) (hch : OwnChs cs) (hhi : OwnHi cs) (hS : OwnS Z i_COMPACT_STRINGS v_SIOOBE_FORMATTER) :
    MetFree l (⟨"java/lang/StringUTF16", "compress", "([CII)[B"⟩ : MethodName) (head1 (Jvm.Cond.code (⟨"java/lang/StringUTF16", "compress", "([CII)[B"⟩ : MethodName) jdk_52_method_16_code 6 (some (.array .byte)) :: ws) ({ frames := 3, cells := 2, slots := 30, locals := 40 } : Room)) (fun aa_ UU_ => aa_ = #[(.ref ca), (.int (0 : Int32)), (.int z)] ∧ Z.Warmed39 UU_.vm ∧ UU_.heap = h0) (fun _ _ _ _ _ => True) (fun _ UU_ oo_ UV_ => ∃ vv_ LL_, oo_ = .returned vv_ ∧ QC31 Z ca kc z cs i_COMPACT_STRINGS v_SIOOBE_FORMATTER h0 n0 vv_ UV_.heap LL_ ∧ FrameEnd UU_ oo_ UV_ LL_ ({ frames := 3, cells := 2, slots := 30, locals := 40 } : Room).cells ({ frames := 3, cells := 2, slots := 30, locals := 40 } : Room).slots) := by
  refine MetFree.of_bodySF (plainFor_of_name pn_1) hisR ?_
  intro p e s m args below meth c s₁ Bd hml0 hP hK
  obtain ⟨rfl, hZ, hh⟩ := hP
  have hx := Bd.exec
  have hby := Bd.bytes
  have hlk := BodyLoose.notSynchronized Bd
  have hml : c.maxLocals = 6 := hml0
  have hown : s.vm.findClass "java/lang/StringUTF16" = some m.cls := findClass_of_methodNamed Bd.named
  have hnm := (name_of_methodNamed Bd.named Bd.method).1
  have X0 : Stand p l e ({ frames := 3, cells := 2, slots := 30, locals := 40 } : Room) s m #[(.ref ca), (.int (0 : Int32)), (.int z)] below meth c s₁ [] 0 0 := Stand.of_body Bd
  have e0 : s₁.heap = h0 := by rw [← hh, Bd.state]; rfl
  have N0 := Fr.nil n0
  have KC0 : Keep h0 h0 [] := Keep.refl _ _
  suffices hOW : OW p e below s (QC31 Z ca kc z cs i_COMPACT_STRINGS v_SIOOBE_FORMATTER h0 n0) 2 30 (s₁.setTop (mkF m 0 #[.val (.ref ca), .val (.int (0 : Int32)), .val (.int z), .unset, .unset, .unset] [])) by
    obtain ⟨oq1_, oq2_, oq3_, oq4_⟩ := hOW
    exact ⟨oq1_, oq2_, castTop (ef_C31 m ca (0 : Int32) z) oq3_, oq4_⟩
  have hS' := hS
  obtain ⟨Si_COMPACT_STRINGS, Sv_SIOOBE_FORMATTER, Rv_SIOOBE_FORMATTER, S__assertionsDisabled, S_HI_BYTE_SHIFT, S_LO_BYTE_SHIFT, Pi_COMPACT_STRINGS⟩ := hS'
  have hz2 : (z <<< ((1 : Int32) &&& 31)).toInt = ((2 * cs.length : Nat) : Int) := own_dbl hz (by omega)
  refine OW.st (B := s₁.setTop (mkF m 1 #[.val (.ref ca), .val (.int (0 : Int32)), .val (.int z), .unset, .unset, .unset] [(.int z)])) (fun _ kk_ => XS.iloadN X0.here hx rfl (hb hby d16_0) rfl kk_) ?_
  obtain ⟨T54, h54, k54, X54, e54, E54, A54, st54⟩ := newP (aty := .byte) X0 hx hZ (w_21 hw) e0 (g := (mkF m 1 #[.val (.ref ca), .val (.int (0 : Int32)), .val (.int z), .unset, .unset, .unset] [(.int z)])) rfl (hb hby d16_1) rfl (own_nneg hz) (cap := 10) (by rw [own_tn hz]; exact hmax) (by decide) (by decide) (by decide)
  obtain ⟨b54, g54⟩ : ∃ z, z = h0.size := ⟨_, rfl⟩
  rw [← g54] at A54 st54
  have n_b54 : n0 ≤ b54 := Nat.le_trans (own_oldle O0) (Nat.le_of_eq g54.symm)
  have O54 : Old Z n0 h54 := O0.ext E54
  have sz_b54 : h0.size ≤ b54 := Nat.le_trans KC0.1 (Nat.le_of_eq g54.symm)
  have KC54 : Keep h0 h54 [] := KC0.ext E54
  have V54 : Arv Z h54 b54 k54 .byte z (List.replicate cs.length (.int (0 : Int32))) (.int (0 : Int32)) := (Arv.new A54 (own_nneg hz)).pad (pad_rep [] (.int (0 : Int32)) cs.length)
  refine OW.st (B := T54.setTop (mkF m 9 #[.val (.ref ca), .val (.int (0 : Int32)), .val (.int z), .val (.ref b54), .unset, .unset] [(.int z), (.int (0 : Int32)), (.ref b54), (.int (0 : Int32)), (.ref ca)])) (fun _ kk_ => st54 _ (XS.astoreN X54.here hx rfl (hb hby d16_3) rfl rfl (l' := #[.val (.ref ca), .val (.int (0 : Int32)), .val (.int z), .val (.ref b54), .unset, .unset]) rfl (XS.aloadN X54.here hx rfl (hb hby d16_4) rfl rfl (XS.iloadN X54.here hx rfl (hb hby d16_5) rfl (XS.aloadN X54.here hx rfl (hb hby d16_6) rfl rfl (XS.iconst X54.here hx rfl (hb hby d16_7) (XS.iloadN X54.here hx rfl (hb hby d16_8) rfl kk_))))))) ?_
  obtain ⟨_, _, ⟨T55, L55, k55, n55⟩, -, X55, ⟨Lc55, hQ55, l55, y55, z55⟩, st55⟩ := Jvm.LawKit.callS X54 hx (y := (⟨"java/lang/StringUTF16", "compress", "([CI[BII)I"⟩ : MethodName)) hown (mvT hZ (w_79 hw)) (mvT hZ (w_80 hw)) (mvT hZ (w_77 hw)) (mvT hZ (w_81 hw)) (by decide) (backOf (W := 0) (rmC51 l Z a0 hw [] ca kc b54 k54 z cs h54 n0 O54 (V.ext E54) hz hmax V54 n_b54 (Nat.ne_of_lt (Nat.lt_of_lt_of_le V.lt (Nat.le_of_eq g54.symm))) hhi) hZ (w_81 hw) (w_77 hw) (by decide) (by decide)) (g := (mkF m 9 #[.val (.ref ca), .val (.int (0 : Int32)), .val (.int z), .val (.ref b54), .unset, .unset] [(.int z), (.int (0 : Int32)), (.ref b54), (.int (0 : Int32)), (.ref ca)])) rfl (by rw [hml]; rfl) (argsL := [(.ref ca), (.int (0 : Int32)), (.ref b54), (.int (0 : Int32)), (.int z)]) (rest := []) (lenOf pd_4 rfl) rfl (by show 2 * 0 + _ ≤ _; exact Nat.le_of_eq rfl) (hb hby d16_9) (fun _ _ => ⟨rfl, e54, (by decide : 1 + 0 ≤ _), (by decide : 10 + 0 ≤ _)⟩)
  dsimp only [Pt.U, Pt.locs, Pt.cells, Pt.slots] at X55 l55 y55 z55 st55 hQ55
  subst l55 y55 z55
  obtain ⟨i55, mm55, cc55, rfl, Nq55, K55, hi55, hcc55, hgt55⟩ := hQ55
  have N55 := Fr.app N0 Nq55
  have O55 : Old Z n0 T55.heap := O54.keep K55 (allS n_b54 all0)
  have KC55 : Keep h0 T55.heap [] := KC54.trans K55 (allS (Or.inr sz_b54) all0)
  refine OW.st (B := T55.setTop (mkF m 23 #[.val (.ref ca), .val (.int (0 : Int32)), .val (.int z), .val (.ref b54), .val (.int i55), .unset] [(.int z), (.int (0 : Int32)), (.ref ca)])) (fun _ kk_ => st55 _ (XS.istore X55.here hx rfl (hb hby d16_12) rfl (l' := #[.val (.ref ca), .val (.int (0 : Int32)), .val (.int z), .val (.ref b54), .val (.int i55), .unset]) rfl (XS.iload X55.here hx rfl (hb hby d16_14) rfl (XS.iloadN X55.here hx rfl (hb hby d16_16) rfl (XS.icmpNo X55.here hx rfl (hb hby d16_17) rfl (feq (own_neI hi55 hz (List.getElem?_eq_some_iff.mp hcc55).1)).1 (XS.aloadN X55.here hx rfl (hb hby d16_20) rfl rfl (XS.iloadN X55.here hx rfl (hb hby d16_21) rfl (XS.iloadN X55.here hx rfl (hb hby d16_22) rfl kk_)))))))) ?_
  obtain ⟨_, _, ⟨T56, L56, k56, n56⟩, -, X56, ⟨Lc56, hQ56, l56, y56, z56⟩, st56⟩ := Jvm.LawKit.callS X55 hx (y := (⟨"java/lang/StringUTF16", "toBytes", "([CII)[B"⟩ : MethodName)) hown (mvT hZ (w_89 hw)) (mvT hZ (w_90 hw)) (mvT hZ (w_77 hw)) (mvT hZ (w_91 hw)) (by decide) (backOf (W := 0) (rmTB l Z a0 hw [] ca kc z cs i_COMPACT_STRINGS v_SIOOBE_FORMATTER T55.heap n0 O55 ((V.ext E54).keep K55 (ninS (Nat.ne_of_lt (Nat.lt_of_lt_of_le V.lt (Nat.le_of_eq g54.symm))) nin0)) hz hmax hS) hZ (w_91 hw) (w_77 hw) (by decide) (by decide)) (g := (mkF m 23 #[.val (.ref ca), .val (.int (0 : Int32)), .val (.int z), .val (.ref b54), .val (.int i55), .unset] [(.int z), (.int (0 : Int32)), (.ref ca)])) rfl (by rw [hml]; rfl) (argsL := [(.ref ca), (.int (0 : Int32)), (.int z)]) (rest := []) (lenOf pd_5 rfl) rfl (by show 2 * 0 + _ ≤ _; exact Nat.le_of_eq rfl) (hb hby d16_23) (fun _ _ => ⟨rfl, rfl, (by decide : 1 + 1 ≤ _), (by decide : 10 + 20 ≤ _)⟩)
  dsimp only [Pt.U, Pt.locs, Pt.cells, Pt.slots] at X56 l56 y56 z56 st56 hQ56
  subst l56 y56 z56
  obtain ⟨b56, kb56, rfl, Nq56, K56, gb56, zb56, Vb56⟩ := hQ56
  have N56 := Fr.app N55 Nq56
  have O56 : Old Z n0 T56.heap := O55.keep K56 all0
  have KC56 : Keep h0 T56.heap [] := KC55.trans K56 all0
  have sz_b56 : h0.size ≤ b56 := Nat.le_trans KC55.1 zb56
  refine OW.st (B := T56.setTop (mkF m 32 #[.val (.ref ca), .val (.int (0 : Int32)), .val (.int z), .val (.ref b54), .val (.int i55), .val (.ref b56)] [(.int i55), (.ref b56)])) (fun _ kk_ => st56 _ (XS.astore X56.here hx rfl (hb hby d16_26) rfl rfl (l' := #[.val (.ref ca), .val (.int (0 : Int32)), .val (.int z), .val (.ref b54), .val (.int i55), .val (.ref b56)]) rfl (XS.aload X56.here hx rfl (hb hby d16_28) rfl rfl (XS.iload X56.here hx rfl (hb hby d16_30) rfl kk_)))) ?_
  obtain ⟨_, _, ⟨T57, L57, k57, n57⟩, -, X57, ⟨Lc57, hQ57, l57, y57, z57⟩, st57⟩ := Jvm.LawKit.callS X56 hx (y := (⟨"java/lang/StringUTF16", "getChar", "([BI)C"⟩ : MethodName)) hown (mvT hZ (w_105 hw)) (mvT hZ (w_106 hw)) (mvT hZ (w_77 hw)) (mvT hZ (w_107 hw)) (by decide) (backOf (W := 0) (rmGC l Z a0 hw [] b56 kb56 (z <<< ((1 : Int32) &&& 31)) cs i55 mm55 cc55 i_COMPACT_STRINGS v_SIOOBE_FORMATTER T56.heap n0 O56 Vb56 hz2 hmax hi55 hcc55 (hch _ (List.mem_of_getElem? hcc55)) hS) hZ (w_107 hw) (w_77 hw) (by decide) (by decide)) (g := (mkF m 32 #[.val (.ref ca), .val (.int (0 : Int32)), .val (.int z), .val (.ref b54), .val (.int i55), .val (.ref b56)] [(.int i55), (.ref b56)])) rfl (by rw [hml]; rfl) (argsL := [(.ref b56), (.int i55)]) (rest := []) (lenOf pd_7 rfl) rfl (by show 2 * 0 + _ ≤ _; exact Nat.le_of_eq rfl) (hb hby d16_32) (fun _ _ => ⟨rfl, rfl, (by decide : 2 + 0 ≤ _), (by decide : 30 + 0 ≤ _)⟩)
  dsimp only [Pt.U, Pt.locs, Pt.cells, Pt.slots] at X57 l57 y57 z57 st57 hQ57
  subst l57 y57 z57
  obtain ⟨rfl, Nq57, e57⟩ := hQ57
  have N57 := Fr.app N56 Nq57
  refine OW.st (B := T57.setTop (mkF m 56 #[.val (.ref ca), .val (.int (0 : Int32)), .val (.int z), .val (.ref b54), .val (.int i55), .val (.ref b56)] [(.ref b56)])) (fun _ kk_ => st57 _ (XS.sipush X57.here hx rfl (hb hby d16_35) (XS.icmpYes X57.here hx rfl (pc0 := 38) (pc' := 54) rfl (hb hby d16_38) rfl (tlt hgt55).2.2.1 (by decide) (by decide) (XS.aload X57.here hx rfl (hb hby d16_54) rfl rfl kk_)))) ?_
  exact OW.ret X57 hx hlk (i := .areturn) Bd.returns rfl (Or.inr (Or.inr (Or.inr (Or.inr ⟨rfl, rfl, rfl⟩)))) (hb hby d16_56) e57 (by decide) (by decide) ⟨b56, kb56, rfl, N57, KC56, gb56, sz_b56, Vb56⟩
theorem ef_CL1 (m : MethodId) (x0 : Addr) (x1 : Int32) : entryFrame m #[(.ref x0), (.int x1)] 2 = mkF m 0 #[.val (.ref x0), .val (.int x1)] [] := by first | (simp [entryFrame, mkF, argsToLocals, Value.category]; done) | rfl
def QCL1 (Z : State) (ba : Addr) (kb : ClassId) (z : Int32) (cs : List Int32) (h0 : Heap) (n0 : Nat) (v : Option Value) (h : Heap) (L : List Loc) : Prop := v = some (.int (1 : Int32)) ∧ Fr n0 L ∧ h = h0
set_option maxRecDepth 65536 in
set_option maxHeartbeats 40000000 in
theorem rmCL1 (l : Launch) (Z : State) (a0 : Array Value) (hw : ∀ d ∈ tables_1, d.before a0 Z = true) (ws : List Jvm.Cond) (ba : Addr) (kb : ClassId) (z : Int32) (cs : List Int32) (h0 : Heap) (n0 : Nat) (O0 : Old Z n0 h0) (B : Arv Z h0 ba kb .byte (z <<< ((1 : Int32) &&& 31)) (OwnU cs) (.int (0 : Int32))) (hz : z.toInt = (cs.length : Int)) (hmax : cs.length ≤ 10) (hpos : 0 < cs.length) :
    MetFree l (⟨"java/lang/StringUTF16", "coderFromArrayLen", "([BI)B"⟩ : MethodName) (head1 (Jvm.Cond.code (⟨"java/lang/StringUTF16", "coderFromArrayLen", "([BI)B"⟩ : MethodName) jdk_52_method_15_code 2 (some .byte) :: ws) ({ frames := 0, cells := 0, slots := 0, locals := 0 } : Room)) (fun aa_ UU_ => aa_ = #[(.ref ba), (.int z)] ∧ Z.Warmed39 UU_.vm ∧ UU_.heap = h0) (fun _ _ _ _ _ => True) (fun _ UU_ oo_ UV_ => ∃ vv_ LL_, oo_ = .returned vv_ ∧ QCL1 Z ba kb z cs h0 n0 vv_ UV_.heap LL_ ∧ FrameEnd UU_ oo_ UV_ LL_ ({ frames := 0, cells := 0, slots := 0, locals := 0 } : Room).cells ({ frames := 0, cells := 0, slots := 0, locals := 0 } : Room).slots) := by
  refine MetFree.of_bodySF (plainFor_of_name pn_1) hisR ?_
  intro p e s m args below meth c s₁ Bd hml0 hP hK
  obtain ⟨rfl, hZ, hh⟩ := hP
  have hx := Bd.exec
  have hby := Bd.bytes
  have hlk := BodyLoose.notSynchronized Bd
  have hml : c.maxLocals = 2 := hml0
  have hown : s.vm.findClass "java/lang/StringUTF16" = some m.cls := findClass_of_methodNamed Bd.named
  have hnm := (name_of_methodNamed Bd.named Bd.method).1
  have X0 : Stand p l e ({ frames := 0, cells := 0, slots := 0, locals := 0 } : Room) s m #[(.ref ba), (.int z)] below meth c s₁ [] 0 0 := Stand.of_body Bd
  have e0 : s₁.heap = h0 := by rw [← hh, Bd.state]; rfl
  have N0 := Fr.nil n0
  suffices hOW : OW p e below s (QCL1 Z ba kb z cs h0 n0) 0 0 (s₁.setTop (mkF m 0 #[.val (.ref ba), .val (.int z)] [])) by
    obtain ⟨oq1_, oq2_, oq3_, oq4_⟩ := hOW
    exact ⟨oq1_, oq2_, castTop (ef_CL1 m ba z) oq3_, oq4_⟩
  refine OW.st (B := s₁.setTop (mkF m 2 #[.val (.ref ba), .val (.int z)] [(.ref ba), (.int z)])) (fun _ kk_ => XS.iloadN X0.here hx rfl (hb hby d18_0) rfl (XS.aloadN X0.here hx rfl (hb hby d18_1) rfl rfl kk_)) ?_
  obtain ⟨cl58, Ar58, q58, S58, Ng58, Hs58, G58⟩ := id B
  refine OW.st (X0.arraylength hx (by rw [e0]; exact Ar58.1) (State.isArrayOf_alike hZ.alike Ar58.2.1) (g := (mkF m 2 #[.val (.ref ba), .val (.int z)] [(.ref ba), (.int z)])) rfl rfl (hb hby d18_2)) ?_
  rw [len_of S58 Ng58]
  show OW p e below s (QCL1 Z ba kb z cs h0 n0) 0 0 (s₁.setTop (mkF m 3 #[.val (.ref ba), .val (.int z)] [(.int (z <<< ((1 : Int32) &&& 31))), (.int z)]))
  refine OW.st (B := s₁.setTop (mkF m 8 #[.val (.ref ba), .val (.int z)] [(.int ((((z - (z <<< ((1 : Int32) &&& 31))).toUInt32 >>> ((31 : Int32) &&& 31).toUInt32).toInt32).toInt8.toInt32))])) (fun _ kk_ => XS.isub X0.here hx rfl (hb hby d18_3) rfl (XS.bipush X0.here hx rfl (hb hby d18_4) (XS.iushr X0.here hx rfl (hb hby d18_6) rfl (XS.i2b X0.here hx rfl (hb hby d18_7) rfl kk_)))) ?_
  exact OW.ret X0 hx hlk (i := .ireturn) Bd.returns (by rw [own_clU hz hpos (by omega)]; rfl) (Or.inl ⟨rfl, Or.inr (Or.inr (Or.inl rfl)), _, rfl⟩) (hb hby d18_8) e0 (by decide) (by decide) ⟨congrArg (fun z => some (Value.int z)) (own_clU hz hpos (by omega)), N0, rfl⟩
theorem ef_S11 (m : MethodId) (x0 : Addr) (x1 : Addr) (x2 : Int32) (x3 : Int32) : entryFrame m #[(.ref x0), (.ref x1), (.int x2), (.int x3), .null] 6 = mkF m 0 #[.val (.ref x0), .val (.ref x1), .val (.int x2), .val (.int x3), .val .null, .unset] [] := by first | (simp [entryFrame, mkF, argsToLocals, Value.category]; done) | rfl
def QS11 (Z : State) (b : Addr) (ca : Addr) (kc : ClassId) (z : Int32) (cs : List Int32) (i_COMPACT_STRINGS : Int32) (v_SIOOBE_FORMATTER : Value) (h0 : Heap) (n0 : Nat) (v : Option Value) (h : Heap) (L : List Loc) : Prop := v = none ∧ Fr n0 L ∧ Keep h0 h [b] ∧ Exa Z h b "java/lang/String" ∧ ∃ (ba : Addr) (kb : ClassId), n0 ≤ ba ∧ b ≠ ba ∧ Fld Z h b "java/lang/String" "coder" "B" (.int (1 : Int32)) ∧ Fld Z h b "java/lang/String" "value" "[B" (.ref ba) ∧ Arv Z h ba kb .byte (z <<< ((1 : Int32) &&& 31)) (OwnU cs) (.int (0 : Int32))
set_option maxRecDepth 65536 in
set_option maxHeartbeats 40000000 in
theorem rmS11 (l : Launch) (Z : State) (a0 : Array Value) (hw : ∀ d ∈ tables_1, d.before a0 Z = true) (ws : List Jvm.Cond) (b : Addr) (ca : Addr) (kc : ClassId) (z : Int32) (cs : List Int32) (i_COMPACT_STRINGS : Int32) (v_SIOOBE_FORMATTER : Value) (h0 : Heap) (n0 : Nat) (O0 : Old Z n0 h0) (E : Exa Z h0 b "java/lang/String") (F1 : Fld Z h0 b "java/lang/String" "value" "[B" .null) (F2 : Fld Z h0 b "java/lang/String" "coder" "B" (.int (0 : Int32))) (g : n0 ≤ b) (V : Arv Z h0 ca kc .char z (cs.map Value.int) (.int (0 : Int32))) (hz : z.toInt = (cs.length : Int)) (hmax : cs.length ≤ 10) (hpos : 0 < cs.length) (hch : OwnChs cs) (hhi : OwnHi cs) (hS : OwnS Z i_COMPACT_STRINGS v_SIOOBE_FORMATTER) :
    MetFree l (⟨"java/lang/String", "<init>", "([CIILjava/lang/Void;)V"⟩ : MethodName) (head1 (Jvm.Cond.code (⟨"java/lang/String", "<init>", "([CIILjava/lang/Void;)V"⟩ : MethodName) jdk_42_method_149_code 6 none :: ws) ({ frames := 4, cells := 2, slots := 30, locals := 57 } : Room)) (fun aa_ UU_ => aa_ = #[(.ref b), (.ref ca), (.int (0 : Int32)), (.int z), .null] ∧ Z.Warmed39 UU_.vm ∧ UU_.heap = h0) (fun _ _ _ _ _ => True) (fun _ UU_ oo_ UV_ => ∃ vv_ LL_, oo_ = .returned vv_ ∧ QS11 Z b ca kc z cs i_COMPACT_STRINGS v_SIOOBE_FORMATTER h0 n0 vv_ UV_.heap LL_ ∧ FrameEnd UU_ oo_ UV_ LL_ ({ frames := 4, cells := 2, slots := 30, locals := 57 } : Room).cells ({ frames := 4, cells := 2, slots := 30, locals := 57 } : Room).slots) := by
  refine MetFree.of_bodySF (plainFor_of_name pn_0) hisR ?_
  intro p e s m args below meth c s₁ Bd hml0 hP hK
  obtain ⟨rfl, hZ, hh⟩ := hP
  have hx := Bd.exec
  have hby := Bd.bytes
  have hlk := BodyLoose.notSynchronized Bd
  have hml : c.maxLocals = 6 := hml0
  have hown : s.vm.findClass "java/lang/String" = some m.cls := findClass_of_methodNamed Bd.named
  have hnm := (name_of_methodNamed Bd.named Bd.method).1
  have X0 : Stand p l e ({ frames := 4, cells := 2, slots := 30, locals := 57 } : Room) s m #[(.ref b), (.ref ca), (.int (0 : Int32)), (.int z), .null] below meth c s₁ [] 0 0 := Stand.of_body Bd
  have e0 : s₁.heap = h0 := by rw [← hh, Bd.state]; rfl
  have N0 := Fr.nil n0
  have KC0 : Keep h0 h0 [b] := Keep.refl _ _
  suffices hOW : OW p e below s (QS11 Z b ca kc z cs i_COMPACT_STRINGS v_SIOOBE_FORMATTER h0 n0) 2 30 (s₁.setTop (mkF m 0 #[.val (.ref b), .val (.ref ca), .val (.int (0 : Int32)), .val (.int z), .val .null, .unset] [])) by
    obtain ⟨oq1_, oq2_, oq3_, oq4_⟩ := hOW
    exact ⟨oq1_, oq2_, castTop (ef_S11 m b ca (0 : Int32) z) oq3_, oq4_⟩
  have hS' := hS
  obtain ⟨Si_COMPACT_STRINGS, Sv_SIOOBE_FORMATTER, Rv_SIOOBE_FORMATTER, S__assertionsDisabled, S_HI_BYTE_SHIFT, S_LO_BYTE_SHIFT, Pi_COMPACT_STRINGS⟩ := hS'
  refine OW.st (B := s₁.setTop (mkF m 1 #[.val (.ref b), .val (.ref ca), .val (.int (0 : Int32)), .val (.int z), .val .null, .unset] [(.ref b)])) (fun _ kk_ => XS.aloadN X0.here hx rfl (hb hby d3_0) rfl rfl kk_) ?_
  obtain ⟨T59, X59, e59, st59⟩ := initO X0 hx hZ hown (w_17 hw) (w_18 hw) (w_19 hw) e0 (g := (mkF m 1 #[.val (.ref b), .val (.ref ca), .val (.int (0 : Int32)), .val (.int z), .val .null, .unset] [(.ref b)])) rfl (by rw [hml]; rfl) rfl (hb hby d3_1) (by decide) (W := 0) (by show 2 * 0 + _ ≤ _; exact Nat.le_of_eq rfl) (by decide)
  refine OW.st (B := T59.setTop (mkF m 27 #[.val (.ref b), .val (.ref ca), .val (.int (0 : Int32)), .val (.int z), .val .null, .unset] [])) (fun _ kk_ => st59 _ (XS.iloadN X59.here hx rfl (hb hby d3_4) rfl (XS.ifYes X59.here hx rfl (pc0 := 5) (pc' := 27) rfl (hb hby d3_5) rfl ((if0 _ _).trans (feq (own_n0 hz hpos)).2) (by decide) (by decide) kk_))) ?_
  obtain ⟨T60, X60, e60, st60⟩ := getS2 X59 hx hZ hown (host := "") (Or.inl (w_50 hw)) Via.refl e59 (Si_COMPACT_STRINGS.ext O0.2) (g := (mkF m 27 #[.val (.ref b), .val (.ref ca), .val (.int (0 : Int32)), .val (.int z), .val .null, .unset] [])) rfl (hb hby d3_27)
  refine OW.st (B := T60.setTop (mkF m 36 #[.val (.ref b), .val (.ref ca), .val (.int (0 : Int32)), .val (.int z), .val .null, .unset] [(.int z), (.int (0 : Int32)), (.ref ca)])) (fun _ kk_ => st60 _ (XS.ifNo X60.here hx rfl (hb hby d3_30) rfl ((if0 _ _).trans (feq Pi_COMPACT_STRINGS).1) (XS.aloadN X60.here hx rfl (hb hby d3_33) rfl rfl (XS.iloadN X60.here hx rfl (hb hby d3_34) rfl (XS.iloadN X60.here hx rfl (hb hby d3_35) rfl kk_))))) ?_
  obtain ⟨_, _, ⟨T61, L61, k61, n61⟩, -, X61, ⟨Lc61, hQ61, l61, y61, z61⟩, st61⟩ := Jvm.LawKit.callS X60 hx (y := (⟨"java/lang/StringUTF16", "compress", "([CII)[B"⟩ : MethodName)) hown (mvT hZ (w_75 hw)) (mvT hZ (w_76 hw)) (mvT hZ (w_77 hw)) (mvT hZ (w_78 hw)) (by decide) (backOf (W := 0) (rmC31 l Z a0 hw [] ca kc z cs i_COMPACT_STRINGS v_SIOOBE_FORMATTER h0 n0 O0 V hz hmax hch hhi hS) hZ (w_78 hw) (w_77 hw) (by decide) (by decide)) (g := (mkF m 36 #[.val (.ref b), .val (.ref ca), .val (.int (0 : Int32)), .val (.int z), .val .null, .unset] [(.int z), (.int (0 : Int32)), (.ref ca)])) rfl (by rw [hml]; rfl) (argsL := [(.ref ca), (.int (0 : Int32)), (.int z)]) (rest := []) (lenOf pd_5 rfl) rfl (by show 2 * 0 + _ ≤ _; exact Nat.le_of_eq rfl) (hb hby d3_36) (fun _ _ => ⟨rfl, e60, (by decide : 0 + 2 ≤ _), (by decide : 0 + 30 ≤ _)⟩)
  dsimp only [Pt.U, Pt.locs, Pt.cells, Pt.slots] at X61 l61 y61 z61 st61 hQ61
  subst l61 y61 z61
  obtain ⟨b61, kb61, rfl, Nq61, K61, gb61, zb61, Vb61⟩ := hQ61
  have N61 := Fr.app N0 Nq61
  have O61 : Old Z n0 T61.heap := O0.keep K61 all0
  have KC61 : Keep h0 T61.heap [b] := KC0.trans K61 all0
  have sz_b61 : h0.size ≤ b61 := Nat.le_trans KC0.1 zb61
  refine OW.st (B := T61.setTop (mkF m 45 #[.val (.ref b), .val (.ref ca), .val (.int (0 : Int32)), .val (.int z), .val .null, .val (.ref b61)] [(.int z), (.ref b61), (.ref b)])) (fun _ kk_ => st61 _ (XS.astore X61.here hx rfl (hb hby d3_39) rfl rfl (l' := #[.val (.ref b), .val (.ref ca), .val (.int (0 : Int32)), .val (.int z), .val .null, .val (.ref b61)]) rfl (XS.aloadN X61.here hx rfl (hb hby d3_41) rfl rfl (XS.aload X61.here hx rfl (hb hby d3_42) rfl rfl (XS.iloadN X61.here hx rfl (hb hby d3_44) rfl kk_))))) ?_
  obtain ⟨_, _, ⟨T62, L62, k62, n62⟩, -, X62, ⟨Lc62, hQ62, l62, y62, z62⟩, st62⟩ := Jvm.LawKit.callS X61 hx (y := (⟨"java/lang/StringUTF16", "coderFromArrayLen", "([BI)B"⟩ : MethodName)) hown (mvT hZ (w_82 hw)) (mvT hZ (w_83 hw)) (mvT hZ (w_77 hw)) (mvT hZ (w_84 hw)) (by decide) (backOf (W := 1) (rmCL1 l Z a0 hw [] b61 kb61 z cs T61.heap n0 O61 Vb61 hz hmax hpos) hZ (w_84 hw) (w_77 hw) (by decide) (by decide)) (g := (mkF m 45 #[.val (.ref b), .val (.ref ca), .val (.int (0 : Int32)), .val (.int z), .val .null, .val (.ref b61)] [(.int z), (.ref b61), (.ref b)])) rfl (by rw [hml]; rfl) (argsL := [(.ref b61), (.int z)]) (rest := [(.ref b)]) (lenOf pd_6 rfl) rfl (by show 2 * 0 + _ ≤ _; exact Nat.le_of_eq rfl) (hb hby d3_45) (fun _ _ => ⟨rfl, rfl, (by decide : 2 + 0 ≤ _), (by decide : 30 + 0 ≤ _)⟩)
  dsimp only [Pt.U, Pt.locs, Pt.cells, Pt.slots] at X62 l62 y62 z62 st62 hQ62
  subst l62 y62 z62
  obtain ⟨rfl, Nq62, e62⟩ := hQ62
  have N62 := Fr.app N61 Nq62
  refine OW.st (B := T62.setTop (mkF m 48 #[.val (.ref b), .val (.ref ca), .val (.int (0 : Int32)), .val (.int z), .val .null, .val (.ref b61)] [(.int (1 : Int32)), (.ref b)])) (fun _ kk_ => st62 _ kk_) ?_
  obtain ⟨T63, h63, X63, e63, W63, st63⟩ := putFN X62 hx hZ hown (w_27 hw) Via.refl e62 (F2.keep K61 nin0) (E.keep K61) (Or.inr ⟨(w_23 hw), rfl, hnm⟩) (w_8 hw) (ty := .byte) (v' := (.int (1 : Int32))) (by decide) rfl rfl (g := (mkF m 48 #[.val (.ref b), .val (.ref ca), .val (.int (0 : Int32)), .val (.int z), .val .null, .val (.ref b61)] [(.int (1 : Int32)), (.ref b)])) rfl rfl (hb hby d3_48)
  have N63 := Fr.snoc X63 N62 g
  have O63 : Old Z n0 h63 := O61.wr W63 g
  have KC63 : Keep h0 h63 [b] := KC61.wr W63 (Or.inl (List.mem_of_getElem? (i := 0) rfl))
  have F63 : Fld Z h63 b "java/lang/String" "coder" "B" (.int (1 : Int32)) := Fld.same W63 (F2.keep K61 nin0)
  refine OW.st (B := T63.setTop (mkF m 54 #[.val (.ref b), .val (.ref ca), .val (.int (0 : Int32)), .val (.int z), .val .null, .val (.ref b61)] [(.ref b61), (.ref b)])) (fun _ kk_ => st63 _ (XS.aloadN X63.here hx rfl (hb hby d3_51) rfl rfl (XS.aload X63.here hx rfl (hb hby d3_52) rfl rfl kk_))) ?_
  obtain ⟨T64, h64, X64, e64, W64, st64⟩ := putF X63 hx hZ hown (host := "") (Or.inl (w_26 hw)) Via.refl e63 ((F1.keep K61 nin0).other W63 (Or.inr (slot_ne (Or.inr (w_22 hw)) (Or.inr (w_23 hw)) (by decide) (t := (.array .byte)) (t' := .byte) (by decide) (by decide)))) ((E.keep K61).wr W63) (Or.inr ⟨(w_22 hw), rfl, hnm⟩) (w_8 hw) (ty := (.array .byte)) (by decide) rfl rfl (g := (mkF m 54 #[.val (.ref b), .val (.ref ca), .val (.int (0 : Int32)), .val (.int z), .val .null, .val (.ref b61)] [(.ref b61), (.ref b)])) rfl rfl (hb hby d3_54)
  have N64 := Fr.snoc X64 N63 g
  have O64 : Old Z n0 h64 := O63.wr W64 g
  have KC64 : Keep h0 h64 [b] := KC63.wr W64 (Or.inl (List.mem_of_getElem? (i := 0) rfl))
  have F64 : Fld Z h64 b "java/lang/String" "value" "[B" (.ref b61) := Fld.same W64 ((F1.keep K61 nin0).other W63 (Or.inr (slot_ne (Or.inr (w_22 hw)) (Or.inr (w_23 hw)) (by decide) (t := (.array .byte)) (t' := .byte) (by decide) (by decide))))
  refine OW.st (B := T64.setTop (mkF m 57 #[.val (.ref b), .val (.ref ca), .val (.int (0 : Int32)), .val (.int z), .val .null, .val (.ref b61)] [])) (fun _ kk_ => st64 _ kk_) ?_
  exact OW.retV X64 hx hlk Bd.returns (hb hby d3_57) e64 (by decide) (by decide) ⟨rfl, N64, KC64, (((E.keep K61).wr W63).wr W64), b61, kb61, gb61, (Nat.ne_of_lt (Nat.lt_of_lt_of_le E.lt zb61)), (F63.other W64 (Or.inr (slot_ne (Or.inr (w_23 hw)) (Or.inr (w_22 hw)) (by decide) (t := .byte) (t' := (.array .byte)) (by decide) (by decide)))), F64, ((Vb61.other W63 (Ne.symm (Nat.ne_of_lt (Nat.lt_of_lt_of_le E.lt zb61)))).other W64 (Ne.symm (Nat.ne_of_lt (Nat.lt_of_lt_of_le E.lt zb61))))⟩
theorem ef_S0X (m : MethodId) (x0 : Addr) (x1 : Addr) : entryFrame m #[(.ref x0), (.ref x1)] 2 = mkF m 0 #[.val (.ref x0), .val (.ref x1)] [] := by first | (simp [entryFrame, mkF, argsToLocals, Value.category]; done) | rfl
def QS0X (Z : State) (b : Addr) (ca : Addr) (kc : ClassId) (z : Int32) (cs : List Int32) (i_COMPACT_STRINGS : Int32) (v_SIOOBE_FORMATTER : Value) (h0 : Heap) (n0 : Nat) (v : Option Value) (h : Heap) (L : List Loc) : Prop := v = none ∧ Fr n0 L ∧ Keep h0 h [b] ∧ OwnSt Z h b cs
set_option maxRecDepth 65536 in
set_option maxHeartbeats 40000000 in
theorem rmS0X (l : Launch) (Z : State) (a0 : Array Value) (hw : ∀ d ∈ tables_1, d.before a0 Z = true) (ws : List Jvm.Cond) (b : Addr) (ca : Addr) (kc : ClassId) (z : Int32) (cs : List Int32) (i_COMPACT_STRINGS : Int32) (v_SIOOBE_FORMATTER : Value) (h0 : Heap) (n0 : Nat) (O0 : Old Z n0 h0) (E : Exa Z h0 b "java/lang/String") (F1 : Fld Z h0 b "java/lang/String" "value" "[B" .null) (F2 : Fld Z h0 b "java/lang/String" "coder" "B" (.int (0 : Int32))) (g : n0 ≤ b) (V : Arv Z h0 ca kc .char z (cs.map Value.int) (.int (0 : Int32))) (hz : z.toInt = (cs.length : Int)) (hmax : cs.length ≤ 10) (hpos : 0 < cs.length) (hch : OwnChs cs) (hS : OwnS Z i_COMPACT_STRINGS v_SIOOBE_FORMATTER) :
    MetFree l (⟨"java/lang/String", "<init>", "([C)V"⟩ : MethodName) (head1 (Jvm.Cond.code (⟨"java/lang/String", "<init>", "([C)V"⟩ : MethodName) jdk_42_method_3_code 2 none :: ws) ({ frames := 5, cells := 2, slots := 30, locals := 74 } : Room)) (fun aa_ UU_ => aa_ = #[(.ref b), (.ref ca)] ∧ Z.Warmed39 UU_.vm ∧ UU_.heap = h0) (fun _ _ _ _ _ => True) (fun _ UU_ oo_ UV_ => ∃ vv_ LL_, oo_ = .returned vv_ ∧ QS0X Z b ca kc z cs i_COMPACT_STRINGS v_SIOOBE_FORMATTER h0 n0 vv_ UV_.heap LL_ ∧ FrameEnd UU_ oo_ UV_ LL_ ({ frames := 5, cells := 2, slots := 30, locals := 74 } : Room).cells ({ frames := 5, cells := 2, slots := 30, locals := 74 } : Room).slots) := by
  refine MetFree.of_bodySF (plainFor_of_name pn_0) hisR ?_
  intro p e s m args below meth c s₁ Bd hml0 hP hK
  obtain ⟨rfl, hZ, hh⟩ := hP
  have hx := Bd.exec
  have hby := Bd.bytes
  have hlk := BodyLoose.notSynchronized Bd
  have hml : c.maxLocals = 2 := hml0
  have hown : s.vm.findClass "java/lang/String" = some m.cls := findClass_of_methodNamed Bd.named
  have hnm := (name_of_methodNamed Bd.named Bd.method).1
  have X0 : Stand p l e ({ frames := 5, cells := 2, slots := 30, locals := 74 } : Room) s m #[(.ref b), (.ref ca)] below meth c s₁ [] 0 0 := Stand.of_body Bd
  have e0 : s₁.heap = h0 := by rw [← hh, Bd.state]; rfl
  have N0 := Fr.nil n0
  have KC0 : Keep h0 h0 [b] := Keep.refl _ _
  suffices hOW : OW p e below s (QS0X Z b ca kc z cs i_COMPACT_STRINGS v_SIOOBE_FORMATTER h0 n0) 2 30 (s₁.setTop (mkF m 0 #[.val (.ref b), .val (.ref ca)] [])) by
    obtain ⟨oq1_, oq2_, oq3_, oq4_⟩ := hOW
    exact ⟨oq1_, oq2_, castTop (ef_S0X m b ca) oq3_, oq4_⟩
  have hS' := hS
  obtain ⟨Si_COMPACT_STRINGS, Sv_SIOOBE_FORMATTER, Rv_SIOOBE_FORMATTER, S__assertionsDisabled, S_HI_BYTE_SHIFT, S_LO_BYTE_SHIFT, Pi_COMPACT_STRINGS⟩ := hS'
  rcases own_loh cs with hlat | hhi
  · refine OW.st (B := s₁.setTop (mkF m 4 #[.val (.ref b), .val (.ref ca)] [(.ref ca), (.int (0 : Int32)), (.ref ca), (.ref b)])) (fun _ kk_ => XS.aloadN X0.here hx rfl (hb hby d2_0) rfl rfl (XS.aloadN X0.here hx rfl (hb hby d2_1) rfl rfl (XS.iconst X0.here hx rfl (hb hby d2_2) (XS.aloadN X0.here hx rfl (hb hby d2_3) rfl rfl kk_)))) ?_
    obtain ⟨cl65, Ar65, q65, S65, Ng65, Hs65, G65⟩ := id V
    refine OW.st (X0.arraylength hx (by rw [e0]; exact Ar65.1) (State.isArrayOf_alike hZ.alike Ar65.2.1) (g := (mkF m 4 #[.val (.ref b), .val (.ref ca)] [(.ref ca), (.int (0 : Int32)), (.ref ca), (.ref b)])) rfl rfl (hb hby d2_4)) ?_
    rw [len_of S65 Ng65]
    show OW p e below s (QS0X Z b ca kc z cs i_COMPACT_STRINGS v_SIOOBE_FORMATTER h0 n0) 2 30 (s₁.setTop (mkF m 5 #[.val (.ref b), .val (.ref ca)] [(.int z), (.int (0 : Int32)), (.ref ca), (.ref b)]))
    refine OW.st (B := s₁.setTop (mkF m 6 #[.val (.ref b), .val (.ref ca)] [.null, (.int z), (.int (0 : Int32)), (.ref ca), (.ref b)])) (fun _ kk_ => XS.aconstNull X0.here hx rfl (hb hby d2_5) kk_) ?_
    obtain ⟨_, _, ⟨T66, L66, k66, n66⟩, -, X66, ⟨Lc66, hQ66, l66, y66, z66⟩, st66⟩ := X0.specialBack hx (y := (⟨"java/lang/String", "<init>", "([CIILjava/lang/Void;)V"⟩ : MethodName)) rfl hown (mvT hZ (w_13 hw)) (mvT hZ (w_14 hw)) (mvT hZ (w_16 hw)) (by decide) (backOf (W := 0) (rmS10 l Z a0 hw [] b ca kc z cs i_COMPACT_STRINGS v_SIOOBE_FORMATTER h0 n0 O0 E F1 F2 g V hz hmax hpos hch hlat hS) hZ (w_16 hw) (w_9 hw) (by decide) (by decide)) (g := (mkF m 6 #[.val (.ref b), .val (.ref ca)] [.null, (.int z), (.int (0 : Int32)), (.ref ca), (.ref b)])) rfl (by rw [hml]; rfl) (Steps.refl _) (a := b) (argsL := [(.ref ca), (.int (0 : Int32)), (.int z), .null]) (rest := []) (lenOf pd_0 rfl) rfl (by show 2 * 0 + _ ≤ _; exact Nat.le_of_eq rfl) (hb hby d2_6) (fun _ _ => ⟨rfl, e0, (by decide : 0 + 1 ≤ _), (by decide : 0 + 10 ≤ _)⟩)
    dsimp only [Pt.U, Pt.locs, Pt.cells, Pt.slots] at X66 l66 y66 z66 st66 hQ66
    subst l66 y66 z66
    obtain ⟨rfl, Nq66, K66, Es66, ba66, kb66, gba66, nba66, Fc66, Fv66, Vs66⟩ := hQ66
    have N66 := Fr.app N0 Nq66
    have O66 : Old Z n0 T66.heap := O0.keep K66 (allS g all0)
    have KC66 : Keep h0 T66.heap [b] := KC0.trans K66 (allS (Or.inl (List.mem_of_getElem? (i := 0) rfl)) all0)
    refine OW.tr (B := T66.setTop (mkF m 9 #[.val (.ref b), .val (.ref ca)] [])) (st66) ?_
    exact OW.retV X66 hx hlk Bd.returns (hb hby d2_9) rfl (by decide) (by decide) ⟨rfl, N66, KC66, (E.keep K66), ba66, kb66, z, Fv66, Or.inl ⟨Fc66, Vs66, hlat, hz⟩⟩
  · refine OW.st (B := s₁.setTop (mkF m 4 #[.val (.ref b), .val (.ref ca)] [(.ref ca), (.int (0 : Int32)), (.ref ca), (.ref b)])) (fun _ kk_ => XS.aloadN X0.here hx rfl (hb hby d2_0) rfl rfl (XS.aloadN X0.here hx rfl (hb hby d2_1) rfl rfl (XS.iconst X0.here hx rfl (hb hby d2_2) (XS.aloadN X0.here hx rfl (hb hby d2_3) rfl rfl kk_)))) ?_
    obtain ⟨cl67, Ar67, q67, S67, Ng67, Hs67, G67⟩ := id V
    refine OW.st (X0.arraylength hx (by rw [e0]; exact Ar67.1) (State.isArrayOf_alike hZ.alike Ar67.2.1) (g := (mkF m 4 #[.val (.ref b), .val (.ref ca)] [(.ref ca), (.int (0 : Int32)), (.ref ca), (.ref b)])) rfl rfl (hb hby d2_4)) ?_
    rw [len_of S67 Ng67]
    show OW p e below s (QS0X Z b ca kc z cs i_COMPACT_STRINGS v_SIOOBE_FORMATTER h0 n0) 2 30 (s₁.setTop (mkF m 5 #[.val (.ref b), .val (.ref ca)] [(.int z), (.int (0 : Int32)), (.ref ca), (.ref b)]))
    refine OW.st (B := s₁.setTop (mkF m 6 #[.val (.ref b), .val (.ref ca)] [.null, (.int z), (.int (0 : Int32)), (.ref ca), (.ref b)])) (fun _ kk_ => XS.aconstNull X0.here hx rfl (hb hby d2_5) kk_) ?_
    obtain ⟨_, _, ⟨T68, L68, k68, n68⟩, -, X68, ⟨Lc68, hQ68, l68, y68, z68⟩, st68⟩ := X0.specialBack hx (y := (⟨"java/lang/String", "<init>", "([CIILjava/lang/Void;)V"⟩ : MethodName)) rfl hown (mvT hZ (w_13 hw)) (mvT hZ (w_14 hw)) (mvT hZ (w_16 hw)) (by decide) (backOf (W := 0) (rmS11 l Z a0 hw [] b ca kc z cs i_COMPACT_STRINGS v_SIOOBE_FORMATTER h0 n0 O0 E F1 F2 g V hz hmax hpos hch hhi hS) hZ (w_16 hw) (w_9 hw) (by decide) (by decide)) (g := (mkF m 6 #[.val (.ref b), .val (.ref ca)] [.null, (.int z), (.int (0 : Int32)), (.ref ca), (.ref b)])) rfl (by rw [hml]; rfl) (Steps.refl _) (a := b) (argsL := [(.ref ca), (.int (0 : Int32)), (.int z), .null]) (rest := []) (lenOf pd_0 rfl) rfl (by show 2 * 0 + _ ≤ _; exact Nat.le_of_eq rfl) (hb hby d2_6) (fun _ _ => ⟨rfl, e0, (by decide : 0 + 2 ≤ _), (by decide : 0 + 30 ≤ _)⟩)
    dsimp only [Pt.U, Pt.locs, Pt.cells, Pt.slots] at X68 l68 y68 z68 st68 hQ68
    subst l68 y68 z68
    obtain ⟨rfl, Nq68, K68, Es68, ba68, kb68, gba68, nba68, Fc68, Fv68, Vs68⟩ := hQ68
    have N68 := Fr.app N0 Nq68
    have O68 : Old Z n0 T68.heap := O0.keep K68 (allS g all0)
    have KC68 : Keep h0 T68.heap [b] := KC0.trans K68 (allS (Or.inl (List.mem_of_getElem? (i := 0) rfl)) all0)
    refine OW.tr (B := T68.setTop (mkF m 9 #[.val (.ref b), .val (.ref ca)] [])) (st68) ?_
    have hd := own_dbl hz (by omega)
    exact OW.retV X68 hx hlk Bd.returns (hb hby d2_9) rfl (by decide) (by decide) ⟨rfl, N68, KC68, (E.keep K68), ba68, kb68, (z <<< ((1 : Int32) &&& 31)), Fv68, Or.inr ⟨Fc68, Vs68, hhi, hd⟩⟩
theorem ef_LE0 (m : MethodId) (x0 : Addr) : entryFrame m #[(.ref x0)] 1 = mkF m 0 #[.val (.ref x0)] [] := by first | (simp [entryFrame, mkF, argsToLocals, Value.category]; done) | rfl
def QLE0 (Z : State) (b : Addr) (ba : Addr) (kb : ClassId) (zb : Int32) (cs : List Int32) (zr : Int32) (i_COMPACT_STRINGS : Int32) (v_SIOOBE_FORMATTER : Value) (h0 : Heap) (n0 : Nat) (v : Option Value) (h : Heap) (L : List Loc) : Prop := v = some (.int zr) ∧ Fr n0 L ∧ h = h0
set_option maxRecDepth 65536 in
set_option maxHeartbeats 40000000 in
theorem rmLE0 (l : Launch) (Z : State) (a0 : Array Value) (hw : ∀ d ∈ tables_1, d.before a0 Z = true) (ws : List Jvm.Cond) (b : Addr) (ba : Addr) (kb : ClassId) (zb : Int32) (cs : List Int32) (zr : Int32) (i_COMPACT_STRINGS : Int32) (v_SIOOBE_FORMATTER : Value) (h0 : Heap) (n0 : Nat) (O0 : Old Z n0 h0) (E : Exa Z h0 b "java/lang/String") (F1 : Fld Z h0 b "java/lang/String" "value" "[B" (.ref ba)) (F2 : Fld Z h0 b "java/lang/String" "coder" "B" (.int (0 : Int32))) (B : Arv Z h0 ba kb .byte zb (OwnL cs) (.int (0 : Int32))) (hr : (zb >>> ((0 : Int32) &&& 31)) = zr) (hS : OwnS Z i_COMPACT_STRINGS v_SIOOBE_FORMATTER) :
    MetFree l (⟨"java/lang/String", "length", "()I"⟩ : MethodName) (head1 (Jvm.Cond.code (⟨"java/lang/String", "length", "()I"⟩ : MethodName) jdk_42_method_54_code 1 (some .int) :: ws) ({ frames := 1, cells := 0, slots := 0, locals := 13 } : Room)) (fun aa_ UU_ => aa_ = #[(.ref b)] ∧ Z.Warmed39 UU_.vm ∧ UU_.heap = h0) (fun _ _ _ _ _ => True) (fun _ UU_ oo_ UV_ => ∃ vv_ LL_, oo_ = .returned vv_ ∧ QLE0 Z b ba kb zb cs zr i_COMPACT_STRINGS v_SIOOBE_FORMATTER h0 n0 vv_ UV_.heap LL_ ∧ FrameEnd UU_ oo_ UV_ LL_ ({ frames := 1, cells := 0, slots := 0, locals := 13 } : Room).cells ({ frames := 1, cells := 0, slots := 0, locals := 13 } : Room).slots) := by
  refine MetFree.of_bodySF (plainFor_of_name pn_0) hisR ?_
  intro p e s m args below meth c s₁ Bd hml0 hP hK
  obtain ⟨rfl, hZ, hh⟩ := hP
  have hx := Bd.exec
  have hby := Bd.bytes
  have hlk := BodyLoose.notSynchronized Bd
  have hml : c.maxLocals = 1 := hml0
  have hown : s.vm.findClass "java/lang/String" = some m.cls := findClass_of_methodNamed Bd.named
  have hnm := (name_of_methodNamed Bd.named Bd.method).1
  have X0 : Stand p l e ({ frames := 1, cells := 0, slots := 0, locals := 13 } : Room) s m #[(.ref b)] below meth c s₁ [] 0 0 := Stand.of_body Bd
  have e0 : s₁.heap = h0 := by rw [← hh, Bd.state]; rfl
  have N0 := Fr.nil n0
  suffices hOW : OW p e below s (QLE0 Z b ba kb zb cs zr i_COMPACT_STRINGS v_SIOOBE_FORMATTER h0 n0) 0 0 (s₁.setTop (mkF m 0 #[.val (.ref b)] [])) by
    obtain ⟨oq1_, oq2_, oq3_, oq4_⟩ := hOW
    exact ⟨oq1_, oq2_, castTop (ef_LE0 m b) oq3_, oq4_⟩
  have hS' := hS
  obtain ⟨Si_COMPACT_STRINGS, Sv_SIOOBE_FORMATTER, Rv_SIOOBE_FORMATTER, S__assertionsDisabled, S_HI_BYTE_SHIFT, S_LO_BYTE_SHIFT, Pi_COMPACT_STRINGS⟩ := hS'
  refine OW.st (B := s₁.setTop (mkF m 1 #[.val (.ref b)] [(.ref b)])) (fun _ kk_ => XS.aloadN X0.here hx rfl (hb hby d10_0) rfl rfl kk_) ?_
  obtain ⟨T69, X69, e69, st69⟩ := getF X0 hx hZ hown (host := "") (Or.inl (w_26 hw)) Via.refl e0 F1 (g := (mkF m 1 #[.val (.ref b)] [(.ref b)])) rfl rfl (hb hby d10_1)
  refine OW.st (B := T69.setTop (mkF m 4 #[.val (.ref b)] [(.ref ba)])) (fun _ kk_ => st69 _ kk_) ?_
  obtain ⟨cl70, Ar70, q70, S70, Ng70, Hs70, G70⟩ := id B
  refine OW.st (X69.arraylength hx (by rw [e69]; exact Ar70.1) (State.isArrayOf_alike hZ.alike Ar70.2.1) (g := (mkF m 4 #[.val (.ref b)] [(.ref ba)])) rfl rfl (hb hby d10_4)) ?_
  rw [len_of S70 Ng70]
  show OW p e below s (QLE0 Z b ba kb zb cs zr i_COMPACT_STRINGS v_SIOOBE_FORMATTER h0 n0) 0 0 (T69.setTop (mkF m 5 #[.val (.ref b)] [(.int zb)]))
  refine OW.st (B := T69.setTop (mkF m 6 #[.val (.ref b)] [(.ref b), (.int zb)])) (fun _ kk_ => XS.aloadN X69.here hx rfl (hb hby d10_5) rfl rfl kk_) ?_
  obtain ⟨cq71, kq71, q71a, q71b, q71c⟩ := isOf hZ e69 E
  obtain ⟨_, _, ⟨T71, L71, k71, n71⟩, -, X71, ⟨Lc71, hQ71, l71, y71, z71⟩, st71⟩ := X69.virtualBack hx (y := (⟨"java/lang/String", "coder", "()B"⟩ : MethodName)) (z := (⟨"java/lang/String", "coder", "()B"⟩ : MethodName)) hown (mvT hZ (w_56 hw)) (mvT hZ (w_57 hw)) (notFace_of_selects (args := #[]) (mvT hZ (w_59 hw))) (mvT hZ (w_59 hw)) (mvT hZ (w_58 hw)) (by decide) (backOf (W := 1) (rmCO0 l Z a0 hw [] b i_COMPACT_STRINGS v_SIOOBE_FORMATTER h0 n0 O0 F2 hS) hZ (w_60 hw) (w_9 hw) (by decide) (by decide)) q71a q71c (g := (mkF m 6 #[.val (.ref b)] [(.ref b), (.int zb)])) rfl (by rw [hml]; rfl) (Steps.refl _) (argsL := []) (rest := [(.int zb)]) (lenOf pd_8 rfl) rfl (by show 2 * 0 + _ ≤ _; exact Nat.le_of_eq rfl) (hb hby d10_6) (fun _ _ => ⟨rfl, e69, (by decide : 0 + 0 ≤ _), (by decide : 0 + 0 ≤ _)⟩)
  dsimp only [Pt.U, Pt.locs, Pt.cells, Pt.slots] at X71 l71 y71 z71 st71 hQ71
  subst l71 y71 z71
  obtain ⟨rfl, Nq71, e71⟩ := hQ71
  have N71 := Fr.app N0 Nq71
  refine OW.tr (B := T71.setTop (mkF m 9 #[.val (.ref b)] [(.int (0 : Int32)), (.int zb)])) (st71) ?_
  refine OW.st (B := T71.setTop (mkF m 10 #[.val (.ref b)] [(.int (zb >>> ((0 : Int32) &&& 31)))])) (fun _ kk_ => XS.ishr X71.here hx rfl (hb hby d10_9) rfl kk_) ?_
  exact OW.ret X71 hx hlk (i := .ireturn) Bd.returns rfl (Or.inl ⟨rfl, Or.inl rfl, _, rfl⟩) (hb hby d10_10) e71 (by decide) (by decide) ⟨congrArg (fun z => some (Value.int z)) hr, N71, rfl⟩
theorem ef_LE1 (m : MethodId) (x0 : Addr) : entryFrame m #[(.ref x0)] 1 = mkF m 0 #[.val (.ref x0)] [] := by first | (simp [entryFrame, mkF, argsToLocals, Value.category]; done) | rfl
def QLE1 (Z : State) (b : Addr) (ba : Addr) (kb : ClassId) (zb : Int32) (cs : List Int32) (zr : Int32) (i_COMPACT_STRINGS : Int32) (v_SIOOBE_FORMATTER : Value) (h0 : Heap) (n0 : Nat) (v : Option Value) (h : Heap) (L : List Loc) : Prop := v = some (.int zr) ∧ Fr n0 L ∧ h = h0
set_option maxRecDepth 65536 in
set_option maxHeartbeats 40000000 in
theorem rmLE1 (l : Launch) (Z : State) (a0 : Array Value) (hw : ∀ d ∈ tables_1, d.before a0 Z = true) (ws : List Jvm.Cond) (b : Addr) (ba : Addr) (kb : ClassId) (zb : Int32) (cs : List Int32) (zr : Int32) (i_COMPACT_STRINGS : Int32) (v_SIOOBE_FORMATTER : Value) (h0 : Heap) (n0 : Nat) (O0 : Old Z n0 h0) (E : Exa Z h0 b "java/lang/String") (F1 : Fld Z h0 b "java/lang/String" "value" "[B" (.ref ba)) (F2 : Fld Z h0 b "java/lang/String" "coder" "B" (.int (1 : Int32))) (B : Arv Z h0 ba kb .byte zb (OwnU cs) (.int (0 : Int32))) (hr : (zb >>> ((1 : Int32) &&& 31)) = zr) (hS : OwnS Z i_COMPACT_STRINGS v_SIOOBE_FORMATTER) :
    MetFree l (⟨"java/lang/String", "length", "()I"⟩ : MethodName) (head1 (Jvm.Cond.code (⟨"java/lang/String", "length", "()I"⟩ : MethodName) jdk_42_method_54_code 1 (some .int) :: ws) ({ frames := 1, cells := 0, slots := 0, locals := 13 } : Room)) (fun aa_ UU_ => aa_ = #[(.ref b)] ∧ Z.Warmed39 UU_.vm ∧ UU_.heap = h0) (fun _ _ _ _ _ => True) (fun _ UU_ oo_ UV_ => ∃ vv_ LL_, oo_ = .returned vv_ ∧ QLE1 Z b ba kb zb cs zr i_COMPACT_STRINGS v_SIOOBE_FORMATTER h0 n0 vv_ UV_.heap LL_ ∧ FrameEnd UU_ oo_ UV_ LL_ ({ frames := 1, cells := 0, slots := 0, locals := 13 } : Room).cells ({ frames := 1, cells := 0, slots := 0, locals := 13 } : Room).slots) := by
  refine MetFree.of_bodySF (plainFor_of_name pn_0) hisR ?_
  intro p e s m args below meth c s₁ Bd hml0 hP hK
  obtain ⟨rfl, hZ, hh⟩ := hP
  have hx := Bd.exec
  have hby := Bd.bytes
  have hlk := BodyLoose.notSynchronized Bd
  have hml : c.maxLocals = 1 := hml0
  have hown : s.vm.findClass "java/lang/String" = some m.cls := findClass_of_methodNamed Bd.named
  have hnm := (name_of_methodNamed Bd.named Bd.method).1
  have X0 : Stand p l e ({ frames := 1, cells := 0, slots := 0, locals := 13 } : Room) s m #[(.ref b)] below meth c s₁ [] 0 0 := Stand.of_body Bd
  have e0 : s₁.heap = h0 := by rw [← hh, Bd.state]; rfl
  have N0 := Fr.nil n0
  suffices hOW : OW p e below s (QLE1 Z b ba kb zb cs zr i_COMPACT_STRINGS v_SIOOBE_FORMATTER h0 n0) 0 0 (s₁.setTop (mkF m 0 #[.val (.ref b)] [])) by
    obtain ⟨oq1_, oq2_, oq3_, oq4_⟩ := hOW
    exact ⟨oq1_, oq2_, castTop (ef_LE1 m b) oq3_, oq4_⟩
  have hS' := hS
  obtain ⟨Si_COMPACT_STRINGS, Sv_SIOOBE_FORMATTER, Rv_SIOOBE_FORMATTER, S__assertionsDisabled, S_HI_BYTE_SHIFT, S_LO_BYTE_SHIFT, Pi_COMPACT_STRINGS⟩ := hS'
  refine OW.st (B := s₁.setTop (mkF m 1 #[.val (.ref b)] [(.ref b)])) (fun _ kk_ => XS.aloadN X0.here hx rfl (hb hby d10_0) rfl rfl kk_) ?_
  obtain ⟨T72, X72, e72, st72⟩ := getF X0 hx hZ hown (host := "") (Or.inl (w_26 hw)) Via.refl e0 F1 (g := (mkF m 1 #[.val (.ref b)] [(.ref b)])) rfl rfl (hb hby d10_1)
  refine OW.st (B := T72.setTop (mkF m 4 #[.val (.ref b)] [(.ref ba)])) (fun _ kk_ => st72 _ kk_) ?_
  obtain ⟨cl73, Ar73, q73, S73, Ng73, Hs73, G73⟩ := id B
  refine OW.st (X72.arraylength hx (by rw [e72]; exact Ar73.1) (State.isArrayOf_alike hZ.alike Ar73.2.1) (g := (mkF m 4 #[.val (.ref b)] [(.ref ba)])) rfl rfl (hb hby d10_4)) ?_
  rw [len_of S73 Ng73]
  show OW p e below s (QLE1 Z b ba kb zb cs zr i_COMPACT_STRINGS v_SIOOBE_FORMATTER h0 n0) 0 0 (T72.setTop (mkF m 5 #[.val (.ref b)] [(.int zb)]))
  refine OW.st (B := T72.setTop (mkF m 6 #[.val (.ref b)] [(.ref b), (.int zb)])) (fun _ kk_ => XS.aloadN X72.here hx rfl (hb hby d10_5) rfl rfl kk_) ?_
  obtain ⟨cq74, kq74, q74a, q74b, q74c⟩ := isOf hZ e72 E
  obtain ⟨_, _, ⟨T74, L74, k74, n74⟩, -, X74, ⟨Lc74, hQ74, l74, y74, z74⟩, st74⟩ := X72.virtualBack hx (y := (⟨"java/lang/String", "coder", "()B"⟩ : MethodName)) (z := (⟨"java/lang/String", "coder", "()B"⟩ : MethodName)) hown (mvT hZ (w_56 hw)) (mvT hZ (w_57 hw)) (notFace_of_selects (args := #[]) (mvT hZ (w_59 hw))) (mvT hZ (w_59 hw)) (mvT hZ (w_58 hw)) (by decide) (backOf (W := 1) (rmCO1 l Z a0 hw [] b i_COMPACT_STRINGS v_SIOOBE_FORMATTER h0 n0 O0 F2 hS) hZ (w_60 hw) (w_9 hw) (by decide) (by decide)) q74a q74c (g := (mkF m 6 #[.val (.ref b)] [(.ref b), (.int zb)])) rfl (by rw [hml]; rfl) (Steps.refl _) (argsL := []) (rest := [(.int zb)]) (lenOf pd_8 rfl) rfl (by show 2 * 0 + _ ≤ _; exact Nat.le_of_eq rfl) (hb hby d10_6) (fun _ _ => ⟨rfl, e72, (by decide : 0 + 0 ≤ _), (by decide : 0 + 0 ≤ _)⟩)
  dsimp only [Pt.U, Pt.locs, Pt.cells, Pt.slots] at X74 l74 y74 z74 st74 hQ74
  subst l74 y74 z74
  obtain ⟨rfl, Nq74, e74⟩ := hQ74
  have N74 := Fr.app N0 Nq74
  refine OW.tr (B := T74.setTop (mkF m 9 #[.val (.ref b)] [(.int (1 : Int32)), (.int zb)])) (st74) ?_
  refine OW.st (B := T74.setTop (mkF m 10 #[.val (.ref b)] [(.int (zb >>> ((1 : Int32) &&& 31)))])) (fun _ kk_ => XS.ishr X74.here hx rfl (hb hby d10_9) rfl kk_) ?_
  exact OW.ret X74 hx hlk (i := .ireturn) Bd.returns rfl (Or.inl ⟨rfl, Or.inl rfl, _, rfl⟩) (hb hby d10_10) e74 (by decide) (by decide) ⟨congrArg (fun z => some (Value.int z)) hr, N74, rfl⟩
theorem ef_PI (m : MethodId) (x0 : Int64) (x1 : Int32) (x2 : Int32) (x3 : Int32) : entryFrame m #[(.long x0), (.int x1), (.int x2), (.int x3)] 5 = mkF m 0 #[.val (.long x0), .second, .val (.int x1), .val (.int x2), .val (.int x3)] [] := by first | (simp [entryFrame, mkF, argsToLocals, Value.category]; done) | rfl
def QPI (Z : State) (jj : Int64) (k1 : Int32) (k2 : Int32) (k3 : Int32) (h0 : Heap) (n0 : Nat) (v : Option Value) (h : Heap) (L : List Loc) : Prop := ∃ u : Int32, v = some (.int u) ∧ Fr n0 L ∧ h = h0 ∧ nar .char u = u
set_option maxRecDepth 65536 in
set_option maxHeartbeats 40000000 in
theorem rmPI (l : Launch) (Z : State) (a0 : Array Value) (hw : ∀ d ∈ tables_1, d.before a0 Z = true) (ws : List Jvm.Cond) (jj : Int64) (k1 : Int32) (k2 : Int32) (k3 : Int32) (h0 : Heap) (n0 : Nat) (O0 : Old Z n0 h0) :
    MetFree l (⟨"com/example/filter_to_where/filtertowhere/tree/LimitsRelationshipStepsPinLaw", "pick", "(JIII)C"⟩ : MethodName) (head1 (Jvm.Cond.code (⟨"com/example/filter_to_where/filtertowhere/tree/LimitsRelationshipStepsPinLaw", "pick", "(JIII)C"⟩ : MethodName) method_2_code 5 (some .char) :: ws) ({ frames := 0, cells := 0, slots := 0, locals := 0 } : Room)) (fun aa_ UU_ => aa_ = #[(.long jj), (.int k1), (.int k2), (.int k3)] ∧ Z.Warmed39 UU_.vm ∧ UU_.heap = h0) (fun _ _ _ _ _ => True) (fun _ UU_ oo_ UV_ => ∃ vv_ LL_, oo_ = .returned vv_ ∧ QPI Z jj k1 k2 k3 h0 n0 vv_ UV_.heap LL_ ∧ FrameEnd UU_ oo_ UV_ LL_ ({ frames := 0, cells := 0, slots := 0, locals := 0 } : Room).cells ({ frames := 0, cells := 0, slots := 0, locals := 0 } : Room).slots) := by
  refine MetFree.of_bodySF (plainFor_of_name pn_2) hisR ?_
  intro p e s m args below meth c s₁ Bd hml0 hP hK
  obtain ⟨rfl, hZ, hh⟩ := hP
  have hx := Bd.exec
  have hby := Bd.bytes
  have hlk := BodyLoose.notSynchronized Bd
  have hml : c.maxLocals = 5 := hml0
  have hown : s.vm.findClass "com/example/filter_to_where/filtertowhere/tree/LimitsRelationshipStepsPinLaw" = some m.cls := findClass_of_methodNamed Bd.named
  have hnm := (name_of_methodNamed Bd.named Bd.method).1
  have X0 : Stand p l e ({ frames := 0, cells := 0, slots := 0, locals := 0 } : Room) s m #[(.long jj), (.int k1), (.int k2), (.int k3)] below meth c s₁ [] 0 0 := Stand.of_body Bd
  have e0 : s₁.heap = h0 := by rw [← hh, Bd.state]; rfl
  have N0 := Fr.nil n0
  suffices hOW : OW p e below s (QPI Z jj k1 k2 k3 h0 n0) 0 0 (s₁.setTop (mkF m 0 #[.val (.long jj), .second, .val (.int k1), .val (.int k2), .val (.int k3)] [])) by
    obtain ⟨oq1_, oq2_, oq3_, oq4_⟩ := hOW
    exact ⟨oq1_, oq2_, castTop (ef_PI m jj k1 k2 k3) oq3_, oq4_⟩
  refine OW.st (B := s₁.setTop (mkF m 6 #[.val (.long jj), .second, .val (.int k1), .val (.int k2), .val (.int k3)] [(.int (((k2.toUInt32 >>> (k3 &&& 31).toUInt32).toInt32) &&& (1 : Int32)))])) (fun _ kk_ => XS.iloadN X0.here hx rfl (hb hby d1_0) rfl (XS.iload X0.here hx rfl (hb hby d1_1) rfl (XS.iushr X0.here hx rfl (hb hby d1_3) rfl (XS.iconst X0.here hx rfl (hb hby d1_4) (XS.iand X0.here hx rfl (hb hby d1_5) rfl kk_))))) ?_
  by_cases hc75 : (((k2.toUInt32 >>> (k3 &&& 31).toUInt32).toInt32) &&& (1 : Int32)) = (0 : Int32)
  · refine OW.st (B := s₁.setTop (mkF m 21 #[.val (.long jj), .second, .val (.int k1), .val (.int k2), .val (.int k3)] [(.int (((((jj.toUInt64 >>> (k1 &&& 0x3f).toInt64.toUInt64).toInt64) &&& (65535 : Int64)).toInt32).toUInt32.toUInt16.toUInt32.toInt32))])) (fun _ kk_ => XS.ifYes X0.here hx rfl (pc0 := 6) (pc' := 12) rfl (hb hby d1_6) rfl ((if0 _ _).trans (teq hc75).1) (by decide) (by decide) (XS.lloadN X0.here hx rfl (hb hby d1_12) rfl (XS.iloadN X0.here hx rfl (hb hby d1_13) rfl (XS.lushr X0.here hx rfl (hb hby d1_14) rfl ((X0.ldc2Long hx hown (mvT hZ (w_5 hw)) (g := (mkF m 15 #[.val (.long jj), .second, .val (.int k1), .val (.int k2), .val (.int k3)] [(.long ((jj.toUInt64 >>> (k1 &&& 0x3f).toInt64.toUInt64).toInt64))])) rfl (hb hby d1_15)) _ (XS.land X0.here hx rfl (hb hby d1_18) rfl (XS.l2i X0.here hx rfl (hb hby d1_19) rfl (XS.i2c X0.here hx rfl (hb hby d1_20) rfl kk_)))))))) ?_
    exact OW.ret X0 hx hlk (i := .ireturn) Bd.returns (own_nc _) (Or.inl ⟨rfl, Or.inr (Or.inr (Or.inr (Or.inl rfl))), _, rfl⟩) (hb hby d1_21) e0 (by decide) (by decide) ⟨_, rfl, N0, rfl, own_nch _⟩
  · refine OW.st (B := s₁.setTop (mkF m 11 #[.val (.long jj), .second, .val (.int k1), .val (.int k2), .val (.int k3)] [(.int (46 : Int32))])) (fun _ kk_ => XS.ifNo X0.here hx rfl (hb hby d1_6) rfl ((if0 _ _).trans (feq hc75).1) (XS.bipush X0.here hx rfl (hb hby d1_9) kk_)) ?_
    exact OW.ret X0 hx hlk (i := .ireturn) Bd.returns rfl (Or.inl ⟨rfl, Or.inr (Or.inr (Or.inr (Or.inl rfl))), _, rfl⟩) (hb hby d1_11) e0 (by decide) (by decide) ⟨_, rfl, N0, rfl, rfl⟩
theorem ef_DT (m : MethodId) (x0 : Int32) (x1 : Int32) (x2 : Int32) : entryFrame m #[(.int x0), (.int x1), (.int x2)] 3 = mkF m 0 #[.val (.int x0), .val (.int x1), .val (.int x2)] [] := by first | (simp [entryFrame, mkF, argsToLocals, Value.category]; done) | rfl
def QDT (Z : State) (u1 : Int32) (k1 : Int32) (k2 : Int32) (h0 : Heap) (n0 : Nat) (v : Option Value) (h : Heap) (L : List Loc) : Prop := v = some (.int (own_dt u1 k1 k2)) ∧ Fr n0 L ∧ h = h0
set_option maxRecDepth 65536 in
set_option maxHeartbeats 40000000 in
theorem rmDT (l : Launch) (Z : State) (a0 : Array Value) (hw : ∀ d ∈ tables_1, d.before a0 Z = true) (ws : List Jvm.Cond) (u1 : Int32) (k1 : Int32) (k2 : Int32) (h0 : Heap) (n0 : Nat) (O0 : Old Z n0 h0) :
    MetFree l (⟨"com/example/filter_to_where/filtertowhere/tree/LimitsRelationshipStepsPinLaw", "dot", "(CII)I"⟩ : MethodName) (head1 (Jvm.Cond.code (⟨"com/example/filter_to_where/filtertowhere/tree/LimitsRelationshipStepsPinLaw", "dot", "(CII)I"⟩ : MethodName) method_3_code 3 (some .int) :: ws) ({ frames := 0, cells := 0, slots := 0, locals := 0 } : Room)) (fun aa_ UU_ => aa_ = #[(.int u1), (.int k1), (.int k2)] ∧ Z.Warmed39 UU_.vm ∧ UU_.heap = h0) (fun _ _ _ _ _ => True) (fun _ UU_ oo_ UV_ => ∃ vv_ LL_, oo_ = .returned vv_ ∧ QDT Z u1 k1 k2 h0 n0 vv_ UV_.heap LL_ ∧ FrameEnd UU_ oo_ UV_ LL_ ({ frames := 0, cells := 0, slots := 0, locals := 0 } : Room).cells ({ frames := 0, cells := 0, slots := 0, locals := 0 } : Room).slots) := by
  refine MetFree.of_bodySF (plainFor_of_name pn_2) hisR ?_
  intro p e s m args below meth c s₁ Bd hml0 hP hK
  obtain ⟨rfl, hZ, hh⟩ := hP
  have hx := Bd.exec
  have hby := Bd.bytes
  have hlk := BodyLoose.notSynchronized Bd
  have hml : c.maxLocals = 3 := hml0
  have hown : s.vm.findClass "com/example/filter_to_where/filtertowhere/tree/LimitsRelationshipStepsPinLaw" = some m.cls := findClass_of_methodNamed Bd.named
  have hnm := (name_of_methodNamed Bd.named Bd.method).1
  have X0 : Stand p l e ({ frames := 0, cells := 0, slots := 0, locals := 0 } : Room) s m #[(.int u1), (.int k1), (.int k2)] below meth c s₁ [] 0 0 := Stand.of_body Bd
  have e0 : s₁.heap = h0 := by rw [← hh, Bd.state]; rfl
  have N0 := Fr.nil n0
  suffices hOW : OW p e below s (QDT Z u1 k1 k2 h0 n0) 0 0 (s₁.setTop (mkF m 0 #[.val (.int u1), .val (.int k1), .val (.int k2)] [])) by
    obtain ⟨oq1_, oq2_, oq3_, oq4_⟩ := hOW
    exact ⟨oq1_, oq2_, castTop (ef_DT m u1 k1 k2) oq3_, oq4_⟩
  refine OW.st (B := s₁.setTop (mkF m 2 #[.val (.int u1), .val (.int k1), .val (.int k2)] [(.int k2), (.int k1)])) (fun _ kk_ => XS.iloadN X0.here hx rfl (hb hby d5_0) rfl (XS.iloadN X0.here hx rfl (hb hby d5_1) rfl kk_)) ?_
  by_cases hc76 : k1 < k2
  · refine OW.st (B := s₁.setTop (mkF m 8 #[.val (.int u1), .val (.int k1), .val (.int k2)] [(.int (46 : Int32)), (.int u1)])) (fun _ kk_ => XS.icmpNo X0.here hx rfl (hb hby d5_2) rfl (tlt hc76).2.1 (XS.iloadN X0.here hx rfl (hb hby d5_5) rfl (XS.bipush X0.here hx rfl (hb hby d5_6) kk_))) ?_
    by_cases hc77 : u1 = (46 : Int32)
    · refine OW.st (B := s₁.setTop (mkF m 12 #[.val (.int u1), .val (.int k1), .val (.int k2)] [(.int (1 : Int32))])) (fun _ kk_ => XS.icmpNo X0.here hx rfl (hb hby d5_8) rfl (teq hc77).2 (XS.iconst X0.here hx rfl (hb hby d5_11) kk_)) ?_
      exact OW.ret X0 hx hlk (i := .ireturn) Bd.returns rfl (Or.inl ⟨rfl, Or.inl rfl, _, rfl⟩) (hb hby d5_12) e0 (by decide) (by decide) ⟨congrArg (fun z => some (Value.int z)) ((own_dt1 u1 hc76).trans (if_pos hc77)).symm, N0, rfl⟩
    · refine OW.st (B := s₁.setTop (mkF m 14 #[.val (.int u1), .val (.int k1), .val (.int k2)] [(.int (0 : Int32))])) (fun _ kk_ => XS.icmpYes X0.here hx rfl (pc0 := 8) (pc' := 13) rfl (hb hby d5_8) rfl (feq hc77).2 (by decide) (by decide) (XS.iconst X0.here hx rfl (hb hby d5_13) kk_)) ?_
      exact OW.ret X0 hx hlk (i := .ireturn) Bd.returns rfl (Or.inl ⟨rfl, Or.inl rfl, _, rfl⟩) (hb hby d5_14) e0 (by decide) (by decide) ⟨congrArg (fun z => some (Value.int z)) ((own_dt1 u1 hc76).trans (if_neg hc77)).symm, N0, rfl⟩
  · refine OW.st (B := s₁.setTop (mkF m 14 #[.val (.int u1), .val (.int k1), .val (.int k2)] [(.int (0 : Int32))])) (fun _ kk_ => XS.icmpYes X0.here hx rfl (pc0 := 2) (pc' := 13) rfl (hb hby d5_2) rfl (flt hc76).2.1 (by decide) (by decide) (XS.iconst X0.here hx rfl (hb hby d5_13) kk_)) ?_
    exact OW.ret X0 hx hlk (i := .ireturn) Bd.returns rfl (Or.inl ⟨rfl, Or.inl rfl, _, rfl⟩) (hb hby d5_14) e0 (by decide) (by decide) ⟨congrArg (fun z => some (Value.int z)) (own_dt0 u1 hc76).symm, N0, rfl⟩
theorem ef_MAX (m : MethodId) (x0 : Int32) (x1 : Int32) : entryFrame m #[(.int x0), (.int x1)] 2 = mkF m 0 #[.val (.int x0), .val (.int x1)] [] := by first | (simp [entryFrame, mkF, argsToLocals, Value.category]; done) | rfl
def QMAX (Z : State) (y1 : Int32) (y2 : Int32) (h0 : Heap) (n0 : Nat) (v : Option Value) (h : Heap) (L : List Loc) : Prop := v = some (.int y1) ∧ Fr n0 L ∧ h = h0
set_option maxRecDepth 65536 in
set_option maxHeartbeats 40000000 in
theorem rmMAX (l : Launch) (Z : State) (a0 : Array Value) (hw : ∀ d ∈ tables_1, d.before a0 Z = true) (ws : List Jvm.Cond) (y1 : Int32) (y2 : Int32) (h0 : Heap) (n0 : Nat) (O0 : Old Z n0 h0) (hq : ¬ (y1 < y2)) :
    MetFree l (⟨"java/lang/Math", "max", "(II)I"⟩ : MethodName) (head1 (Jvm.Cond.code (⟨"java/lang/Math", "max", "(II)I"⟩ : MethodName) jdk_29_method_65_code 2 (some .int) :: ws) ({ frames := 0, cells := 0, slots := 0, locals := 0 } : Room)) (fun aa_ UU_ => aa_ = #[(.int y1), (.int y2)] ∧ Z.Warmed39 UU_.vm ∧ UU_.heap = h0) (fun _ _ _ _ _ => True) (fun _ UU_ oo_ UV_ => ∃ vv_ LL_, oo_ = .returned vv_ ∧ QMAX Z y1 y2 h0 n0 vv_ UV_.heap LL_ ∧ FrameEnd UU_ oo_ UV_ LL_ ({ frames := 0, cells := 0, slots := 0, locals := 0 } : Room).cells ({ frames := 0, cells := 0, slots := 0, locals := 0 } : Room).slots) := by
  refine MetFree.of_bodySF (Jvm.Free.JP.mathPlain rfl (by decide +kernel)) hisR ?_
  intro p e s m args below meth c s₁ Bd hml0 hP hK
  obtain ⟨rfl, hZ, hh⟩ := hP
  have hx := Bd.exec
  have hby := Bd.bytes
  have hlk := BodyLoose.notSynchronized Bd
  have hml : c.maxLocals = 2 := hml0
  have hown : s.vm.findClass "java/lang/Math" = some m.cls := findClass_of_methodNamed Bd.named
  have hnm := (name_of_methodNamed Bd.named Bd.method).1
  have X0 : Stand p l e ({ frames := 0, cells := 0, slots := 0, locals := 0 } : Room) s m #[(.int y1), (.int y2)] below meth c s₁ [] 0 0 := Stand.of_body Bd
  have e0 : s₁.heap = h0 := by rw [← hh, Bd.state]; rfl
  have N0 := Fr.nil n0
  suffices hOW : OW p e below s (QMAX Z y1 y2 h0 n0) 0 0 (s₁.setTop (mkF m 0 #[.val (.int y1), .val (.int y2)] [])) by
    obtain ⟨oq1_, oq2_, oq3_, oq4_⟩ := hOW
    exact ⟨oq1_, oq2_, castTop (ef_MAX m y1 y2) oq3_, oq4_⟩
  refine OW.st (B := s₁.setTop (mkF m 10 #[.val (.int y1), .val (.int y2)] [(.int y1)])) (fun _ kk_ => XS.iloadN X0.here hx rfl (hb hby d14_0) rfl (XS.iloadN X0.here hx rfl (hb hby d14_1) rfl (XS.icmpNo X0.here hx rfl (hb hby d14_2) rfl (flt hq).1 (XS.iloadN X0.here hx rfl (hb hby d14_5) rfl (XS.goto X0.here hx rfl (pc0 := 6) (pc' := 10) rfl (hb hby d14_6) (by decide) (by decide) kk_))))) ?_
  exact OW.ret X0 hx hlk (i := .ireturn) Bd.returns rfl (Or.inl ⟨rfl, Or.inl rfl, _, rfl⟩) (hb hby d14_10) e0 (by decide) (by decide) ⟨rfl, N0, rfl⟩
theorem ef_MIN (m : MethodId) (x0 : Int32) (x1 : Int32) : entryFrame m #[(.int x0), (.int x1)] 2 = mkF m 0 #[.val (.int x0), .val (.int x1)] [] := by first | (simp [entryFrame, mkF, argsToLocals, Value.category]; done) | rfl
def QMIN (Z : State) (y1 : Int32) (y2 : Int32) (h0 : Heap) (n0 : Nat) (v : Option Value) (h : Heap) (L : List Loc) : Prop := v = some (.int y1) ∧ Fr n0 L ∧ h = h0
set_option maxRecDepth 65536 in
set_option maxHeartbeats 40000000 in
theorem rmMIN (l : Launch) (Z : State) (a0 : Array Value) (hw : ∀ d ∈ tables_1, d.before a0 Z = true) (ws : List Jvm.Cond) (y1 : Int32) (y2 : Int32) (h0 : Heap) (n0 : Nat) (O0 : Old Z n0 h0) (hq : ¬ (y2 < y1)) :
    MetFree l (⟨"java/lang/Math", "min", "(II)I"⟩ : MethodName) (head1 (Jvm.Cond.code (⟨"java/lang/Math", "min", "(II)I"⟩ : MethodName) jdk_29_method_69_code 2 (some .int) :: ws) ({ frames := 0, cells := 0, slots := 0, locals := 0 } : Room)) (fun aa_ UU_ => aa_ = #[(.int y1), (.int y2)] ∧ Z.Warmed39 UU_.vm ∧ UU_.heap = h0) (fun _ _ _ _ _ => True) (fun _ UU_ oo_ UV_ => ∃ vv_ LL_, oo_ = .returned vv_ ∧ QMIN Z y1 y2 h0 n0 vv_ UV_.heap LL_ ∧ FrameEnd UU_ oo_ UV_ LL_ ({ frames := 0, cells := 0, slots := 0, locals := 0 } : Room).cells ({ frames := 0, cells := 0, slots := 0, locals := 0 } : Room).slots) := by
  refine MetFree.of_bodySF (Jvm.Free.JP.mathPlain rfl (by decide +kernel)) hisR ?_
  intro p e s m args below meth c s₁ Bd hml0 hP hK
  obtain ⟨rfl, hZ, hh⟩ := hP
  have hx := Bd.exec
  have hby := Bd.bytes
  have hlk := BodyLoose.notSynchronized Bd
  have hml : c.maxLocals = 2 := hml0
  have hown : s.vm.findClass "java/lang/Math" = some m.cls := findClass_of_methodNamed Bd.named
  have hnm := (name_of_methodNamed Bd.named Bd.method).1
  have X0 : Stand p l e ({ frames := 0, cells := 0, slots := 0, locals := 0 } : Room) s m #[(.int y1), (.int y2)] below meth c s₁ [] 0 0 := Stand.of_body Bd
  have e0 : s₁.heap = h0 := by rw [← hh, Bd.state]; rfl
  have N0 := Fr.nil n0
  suffices hOW : OW p e below s (QMIN Z y1 y2 h0 n0) 0 0 (s₁.setTop (mkF m 0 #[.val (.int y1), .val (.int y2)] [])) by
    obtain ⟨oq1_, oq2_, oq3_, oq4_⟩ := hOW
    exact ⟨oq1_, oq2_, castTop (ef_MIN m y1 y2) oq3_, oq4_⟩
  refine OW.st (B := s₁.setTop (mkF m 10 #[.val (.int y1), .val (.int y2)] [(.int y1)])) (fun _ kk_ => XS.iloadN X0.here hx rfl (hb hby d15_0) rfl (XS.iloadN X0.here hx rfl (hb hby d15_1) rfl (XS.icmpNo X0.here hx rfl (hb hby d15_2) rfl (flt hq).2.2.1 (XS.iloadN X0.here hx rfl (hb hby d15_5) rfl (XS.goto X0.here hx rfl (pc0 := 6) (pc' := 10) rfl (hb hby d15_6) (by decide) (by decide) kk_))))) ?_
  exact OW.ret X0 hx hlk (i := .ireturn) Bd.returns rfl (Or.inl ⟨rfl, Or.inl rfl, _, rfl⟩) (hb hby d15_10) e0 (by decide) (by decide) ⟨rfl, N0, rfl⟩
theorem ef_CE (m : MethodId) (x0 : Int32) : entryFrame m #[(.int x0)] 1 = mkF m 0 #[.val (.int x0)] [] := by first | (simp [entryFrame, mkF, argsToLocals, Value.category]; done) | rfl
def QCE (Z : State)  (h0 : Heap) (n0 : Nat) (v : Option Value) (h : Heap) (L : List Loc) : Prop := v = some (.int 1) ∧ Fr n0 L ∧ h = h0
set_option maxRecDepth 65536 in
set_option maxHeartbeats 40000000 in
theorem rmCE (l : Launch) (Z : State) (a0 : Array Value) (hw : ∀ d ∈ tables_1, d.before a0 Z = true) (ws : List Jvm.Cond)  (h0 : Heap) (n0 : Nat) (O0 : Old Z n0 h0) :
    MetFree l (⟨"java/lang/StringLatin1", "canEncode", "(I)Z"⟩ : MethodName) (head1 (Jvm.Cond.code (⟨"java/lang/StringLatin1", "canEncode", "(I)Z"⟩ : MethodName) jdk_43_method_4_code 1 (some .boolean) :: ws) ({ frames := 0, cells := 0, slots := 0, locals := 0 } : Room)) (fun aa_ UU_ => aa_ = #[(.int (46 : Int32))] ∧ Z.Warmed39 UU_.vm ∧ UU_.heap = h0) (fun _ _ _ _ _ => True) (fun _ UU_ oo_ UV_ => ∃ vv_ LL_, oo_ = .returned vv_ ∧ QCE Z  h0 n0 vv_ UV_.heap LL_ ∧ FrameEnd UU_ oo_ UV_ LL_ ({ frames := 0, cells := 0, slots := 0, locals := 0 } : Room).cells ({ frames := 0, cells := 0, slots := 0, locals := 0 } : Room).slots) := by
  refine MetFree.of_bodySF (plainFor_of_name pn_3) hisR ?_
  intro p e s m args below meth c s₁ Bd hml0 hP hK
  obtain ⟨rfl, hZ, hh⟩ := hP
  have hx := Bd.exec
  have hby := Bd.bytes
  have hlk := BodyLoose.notSynchronized Bd
  have hml : c.maxLocals = 1 := hml0
  have hown : s.vm.findClass "java/lang/StringLatin1" = some m.cls := findClass_of_methodNamed Bd.named
  have hnm := (name_of_methodNamed Bd.named Bd.method).1
  have X0 : Stand p l e ({ frames := 0, cells := 0, slots := 0, locals := 0 } : Room) s m #[(.int (46 : Int32))] below meth c s₁ [] 0 0 := Stand.of_body Bd
  have e0 : s₁.heap = h0 := by rw [← hh, Bd.state]; rfl
  have N0 := Fr.nil n0
  suffices hOW : OW p e below s (QCE Z  h0 n0) 0 0 (s₁.setTop (mkF m 0 #[.val (.int (46 : Int32))] [])) by
    obtain ⟨oq1_, oq2_, oq3_, oq4_⟩ := hOW
    exact ⟨oq1_, oq2_, castTop (ef_CE m (46 : Int32)) oq3_, oq4_⟩
  refine OW.st (B := s₁.setTop (mkF m 16 #[.val (.int (46 : Int32))] [(.int (1 : Int32))])) (fun _ kk_ => XS.iloadN X0.here hx rfl (hb hby d13_0) rfl (XS.ifNo X0.here hx rfl (hb hby d13_1) rfl ((if0 _ _).trans (flt (by decide)).1) (XS.iloadN X0.here hx rfl (hb hby d13_4) rfl (XS.sipush X0.here hx rfl (hb hby d13_5) (XS.icmpNo X0.here hx rfl (hb hby d13_8) rfl (flt (by decide)).2.2.1 (XS.iconst X0.here hx rfl (hb hby d13_11) (XS.goto X0.here hx rfl (pc0 := 12) (pc' := 16) rfl (hb hby d13_12) (by decide) (by decide) kk_))))))) ?_
  exact OW.ret X0 hx hlk (i := .ireturn) Bd.returns rfl (Or.inl ⟨rfl, Or.inr (Or.inl rfl), _, rfl⟩) (hb hby d13_16) e0 (by decide) (by decide) ⟨rfl, N0, rfl⟩
theorem ef_LS (m : MethodId) (x0 : Addr) (x1 : Int32) (x2 : Int32) (x3 : Int32) : entryFrame m #[(.ref x0), (.int x1), (.int x2), (.int x3)] 6 = mkF m 0 #[.val (.ref x0), .val (.int x1), .val (.int x2), .val (.int x3), .unset, .unset] [] := by first | (simp [entryFrame, mkF, argsToLocals, Value.category]; done) | rfl
def QLS (Z : State) (ba : Addr) (kb : ClassId) (zb : Int32) (cs : List Int32) (fi : Int32) (aa : Nat) (zr : Int32) (h0 : Heap) (n0 : Nat) (v : Option Value) (h : Heap) (L : List Loc) : Prop := ∃ j : Int32, v = some (.int j) ∧ Fr n0 L ∧ h = h0 ∧ OwnIx cs aa j
set_option maxRecDepth 65536 in
set_option maxHeartbeats 40000000 in
theorem rmLS (l : Launch) (Z : State) (a0 : Array Value) (hw : ∀ d ∈ tables_1, d.before a0 Z = true) (ws : List Jvm.Cond) (ba : Addr) (kb : ClassId) (zb : Int32) (cs : List Int32) (fi : Int32) (aa : Nat) (zr : Int32) (h0 : Heap) (n0 : Nat) (O0 : Old Z n0 h0) (B : Arv Z h0 ba kb .byte zb (OwnL cs) (.int (0 : Int32))) (hzb : zb.toInt = ((cs.length : Nat) : Int)) (hlen : zr.toInt = (cs.length : Int)) (hmax : cs.length ≤ 10) (hch : OwnChs cs) (hlat : OwnLat cs) (hfi : fi.toInt = (aa : Int)) (hle : aa ≤ cs.length) :
    MetFree l (⟨"java/lang/StringLatin1", "indexOfChar", "([BIII)I"⟩ : MethodName) (head1 (Jvm.Cond.code (⟨"java/lang/StringLatin1", "indexOfChar", "([BIII)I"⟩ : MethodName) jdk_43_method_23_code 6 (some .int) :: ws) ({ frames := 0, cells := 0, slots := 0, locals := 0 } : Room)) (fun aa_ UU_ => aa_ = #[(.ref ba), (.int (46 : Int32)), (.int fi), (.int zr)] ∧ Z.Warmed39 UU_.vm ∧ UU_.heap = h0) (fun _ _ _ _ _ => True) (fun _ UU_ oo_ UV_ => ∃ vv_ LL_, oo_ = .returned vv_ ∧ QLS Z ba kb zb cs fi aa zr h0 n0 vv_ UV_.heap LL_ ∧ FrameEnd UU_ oo_ UV_ LL_ ({ frames := 0, cells := 0, slots := 0, locals := 0 } : Room).cells ({ frames := 0, cells := 0, slots := 0, locals := 0 } : Room).slots) := by
  refine MetFree.of_bodySF (plainFor_of_name pn_3) hisR ?_
  intro p e s m args below meth c s₁ Bd hml0 hP hK
  obtain ⟨rfl, hZ, hh⟩ := hP
  have hx := Bd.exec
  have hby := Bd.bytes
  have hlk := BodyLoose.notSynchronized Bd
  have hml : c.maxLocals = 6 := hml0
  have hown : s.vm.findClass "java/lang/StringLatin1" = some m.cls := findClass_of_methodNamed Bd.named
  have hnm := (name_of_methodNamed Bd.named Bd.method).1
  have X0 : Stand p l e ({ frames := 0, cells := 0, slots := 0, locals := 0 } : Room) s m #[(.ref ba), (.int (46 : Int32)), (.int fi), (.int zr)] below meth c s₁ [] 0 0 := Stand.of_body Bd
  have e0 : s₁.heap = h0 := by rw [← hh, Bd.state]; rfl
  have N0 := Fr.nil n0
  suffices hOW : OW p e below s (QLS Z ba kb zb cs fi aa zr h0 n0) 0 0 (s₁.setTop (mkF m 0 #[.val (.ref ba), .val (.int (46 : Int32)), .val (.int fi), .val (.int zr), .unset, .unset] [])) by
    obtain ⟨oq1_, oq2_, oq3_, oq4_⟩ := hOW
    exact ⟨oq1_, oq2_, castTop (ef_LS m ba (46 : Int32) fi zr) oq3_, oq4_⟩
  refine OW.st (B := s₁.setTop (mkF m 7 #[.val (.ref ba), .val (.int (46 : Int32)), .val (.int fi), .val (.int zr), .val (.int ((46 : Int32).toInt8.toInt32)), .val (.int fi)] [])) (fun _ kk_ => XS.iloadN X0.here hx rfl (hb hby d19_0) rfl (XS.i2b X0.here hx rfl (hb hby d19_1) rfl (XS.istore X0.here hx rfl (hb hby d19_2) rfl (l' := #[.val (.ref ba), .val (.int (46 : Int32)), .val (.int fi), .val (.int zr), .val (.int ((46 : Int32).toInt8.toInt32)), .unset]) rfl (XS.iloadN X0.here hx rfl (hb hby d19_4) rfl (XS.istore X0.here hx rfl (hb hby d19_5) rfl (l' := #[.val (.ref ba), .val (.int (46 : Int32)), .val (.int fi), .val (.int zr), .val (.int ((46 : Int32).toInt8.toInt32)), .val (.int fi)]) rfl kk_))))) ?_
  have J78 : ∀ (f : Nat) (T78 : State) (L78 : List Loc) (h78 : Heap) (X78 : Stand p l e ({ frames := 0, cells := 0, slots := 0, locals := 0 } : Room) s m #[(.ref ba), (.int (46 : Int32)), (.int fi), (.int zr)] below meth c T78 L78 0 0) (N78 : Fr n0 L78) (e78 : T78.heap = h78) (O78 : Old Z n0 h78) (i : Int32) (mm : Nat), (h0 = h78) → (i.toInt = (mm : Int)) → (mm + f = cs.length) → (aa ≤ mm) → (∀ j : Nat, aa ≤ j → j < mm → cs[j]? ≠ some (46 : Int32)) → OW p e below s (QLS Z ba kb zb cs fi aa zr h0 n0) 0 0 (T78.setTop (mkF m 7 #[.val (.ref ba), .val (.int (46 : Int32)), .val (.int fi), .val (.int zr), .val (.int ((46 : Int32).toInt8.toInt32)), .val (.int i)] [])) := by
    intro f
    induction f with
    | zero =>
      intro T78 L78 h78 X78 N78 e78 O78 i mm hH hi hm ham hno
      subst hH
      have hmm : mm = cs.length := by omega
      subst hmm
      refine OW.st (B := T78.setTop (mkF m 32 #[.val (.ref ba), .val (.int (46 : Int32)), .val (.int fi), .val (.int zr), .val (.int ((46 : Int32).toInt8.toInt32)), .val (.int i)] [(.int (-1 : Int32))])) (fun _ kk_ => XS.iload X78.here hx rfl (hb hby d19_7) rfl (XS.iloadN X78.here hx rfl (hb hby d19_9) rfl (XS.icmpYes X78.here hx rfl (pc0 := 10) (pc' := 31) rfl (hb hby d19_10) rfl (flt (own_nltI hi hlen (by omega))).2.1 (by decide) (by decide) (XS.iconst X78.here hx rfl (hb hby d19_31) kk_)))) ?_
      exact OW.ret X78 hx hlk (i := .ireturn) Bd.returns rfl (Or.inl ⟨rfl, Or.inl rfl, _, rfl⟩) (hb hby d19_32) e78 (by decide) (by decide) ⟨_, rfl, N78, rfl, OwnIx.no hno⟩
    | succ f ih =>
      intro T78 L78 h78 X78 N78 e78 O78 i mm hH hi hm ham hno
      subst hH
      obtain ⟨cc, hcc⟩ : ∃ cc, cs[mm]? = some cc := ⟨_, List.getElem?_eq_getElem (by omega)⟩
      have hcn := hch _ (List.mem_of_getElem? hcc)
      have hcl := hlat _ (List.mem_of_getElem? hcc)
      refine OW.st (B := T78.setTop (mkF m 16 #[.val (.ref ba), .val (.int (46 : Int32)), .val (.int fi), .val (.int zr), .val (.int ((46 : Int32).toInt8.toInt32)), .val (.int i)] [(.int i), (.ref ba)])) (fun _ kk_ => XS.iload X78.here hx rfl (hb hby d19_7) rfl (XS.iloadN X78.here hx rfl (hb hby d19_9) rfl (XS.icmpNo X78.here hx rfl (hb hby d19_10) rfl (tlt (own_ltI hi hlen (by omega))).2.1 (XS.aloadN X78.here hx rfl (hb hby d19_13) rfl rfl (XS.iload X78.here hx rfl (hb hby d19_14) rfl kk_))))) ?_
      obtain ⟨cl79, Ar79, q79, S79, Ng79, Hs79, G79⟩ := id B
      have hin79 : ¬ (i < 0 ∨ cl79.slots.size ≤ (i).toNatClampNeg) := inb_of S79 ⟨own_nneg hi, own_ltI hi hzb (by omega)⟩
      refine OW.st (B := T78.setTop (mkF m 19 #[.val (.ref ba), .val (.int (46 : Int32)), .val (.int fi), .val (.int zr), .val (.int ((46 : Int32).toInt8.toInt32)), .val (.int i)] [(.int ((46 : Int32).toInt8.toInt32)), (.int (own_by cc))])) (fun _ kk_ => (X78.baloadBytes hx (j := i) (v := (.int (own_by cc))) (by rw [e78]; exact Ar79.1) (State.isArrayOf_alike hZ.alike Ar79.2.1) Ar79.2.2 hin79 (Has.at Hs79 hin79 ((congrArg (fun q => (OwnL cs).getD q _) (own_tn hi)).trans (own_getL hcc))) (g := (mkF m 16 #[.val (.ref ba), .val (.int (46 : Int32)), .val (.int fi), .val (.int zr), .val (.int ((46 : Int32).toInt8.toInt32)), .val (.int i)] [(.int i), (.ref ba)])) rfl rfl (hb hby d19_16)) _ (XS.iload X78.here hx rfl (hb hby d19_17) rfl kk_)) ?_
      by_cases hc80 : (own_by cc) = ((46 : Int32).toInt8.toInt32)
      · refine OW.st (B := T78.setTop (mkF m 24 #[.val (.ref ba), .val (.int (46 : Int32)), .val (.int fi), .val (.int zr), .val (.int ((46 : Int32).toInt8.toInt32)), .val (.int i)] [(.int i)])) (fun _ kk_ => XS.icmpNo X78.here hx rfl (hb hby d19_19) rfl (teq hc80).2 (XS.iload X78.here hx rfl (hb hby d19_22) rfl kk_)) ?_
        have hq : cc = 46 := own_by46 hcn hcl hc80
        subst hq
        exact OW.ret X78 hx hlk (i := .ireturn) Bd.returns rfl (Or.inl ⟨rfl, Or.inl rfl, _, rfl⟩) (hb hby d19_24) e78 (by decide) (by decide) ⟨_, rfl, N78, rfl, OwnIx.yes hi ham hcc hno⟩
      · refine OW.st (B := T78.setTop (mkF m 7 #[.val (.ref ba), .val (.int (46 : Int32)), .val (.int fi), .val (.int zr), .val (.int ((46 : Int32).toInt8.toInt32)), .val (.int (i + (1 : Int32)))] [])) (fun _ kk_ => XS.icmpYes X78.here hx rfl (pc0 := 19) (pc' := 25) rfl (hb hby d19_19) rfl (feq hc80).2 (by decide) (by decide) (XS.iinc X78.here hx rfl (hb hby d19_25) rfl (l' := #[.val (.ref ba), .val (.int (46 : Int32)), .val (.int fi), .val (.int zr), .val (.int ((46 : Int32).toInt8.toInt32)), .val (.int (i + (1 : Int32)))]) rfl (XS.goto X78.here hx rfl (pc0 := 28) (pc' := 7) rfl (hb hby d19_28) (by decide) (by decide) kk_))) ?_
        exact ih _ _ _ X78 N78 e78 O78 _ (mm + 1) rfl (own_suc hi (by omega)) (by omega) (by omega) (own_nos hno hcc (fun q => hc80 (by rw [q]; decide)))
  exact J78 (cs.length - aa) _ _ _ X0 N0 e0 O0 _ aa rfl hfi (by omega) (Nat.le_refl _) (fun j h1 h2 => absurd h2 (by omega))
theorem ef_LI (m : MethodId) (x0 : Addr) (x1 : Int32) (x2 : Int32) (x3 : Int32) : entryFrame m #[(.ref x0), (.int x1), (.int x2), (.int x3)] 4 = mkF m 0 #[.val (.ref x0), .val (.int x1), .val (.int x2), .val (.int x3)] [] := by first | (simp [entryFrame, mkF, argsToLocals, Value.category]; done) | rfl
def QLI (Z : State) (ba : Addr) (kb : ClassId) (zb : Int32) (cs : List Int32) (fi : Int32) (aa : Nat) (zr : Int32) (h0 : Heap) (n0 : Nat) (v : Option Value) (h : Heap) (L : List Loc) : Prop := ∃ j : Int32, v = some (.int j) ∧ Fr n0 L ∧ h = h0 ∧ OwnIx cs aa j
set_option maxRecDepth 65536 in
set_option maxHeartbeats 40000000 in
theorem rmLI (l : Launch) (Z : State) (a0 : Array Value) (hw : ∀ d ∈ tables_1, d.before a0 Z = true) (ws : List Jvm.Cond) (ba : Addr) (kb : ClassId) (zb : Int32) (cs : List Int32) (fi : Int32) (aa : Nat) (zr : Int32) (h0 : Heap) (n0 : Nat) (O0 : Old Z n0 h0) (B : Arv Z h0 ba kb .byte zb (OwnL cs) (.int (0 : Int32))) (hzb : zb.toInt = ((cs.length : Nat) : Int)) (hlen : zr.toInt = (cs.length : Int)) (hmax : cs.length ≤ 10) (hch : OwnChs cs) (hlat : OwnLat cs) (hfi : fi.toInt = (aa : Int)) :
    MetFree l (⟨"java/lang/StringLatin1", "indexOf", "([BIII)I"⟩ : MethodName) (head1 (Jvm.Cond.code (⟨"java/lang/StringLatin1", "indexOf", "([BIII)I"⟩ : MethodName) jdk_43_method_22_code 4 (some .int) :: ws) ({ frames := 1, cells := 0, slots := 0, locals := 17 } : Room)) (fun aa_ UU_ => aa_ = #[(.ref ba), (.int (46 : Int32)), (.int fi), (.int zr)] ∧ Z.Warmed39 UU_.vm ∧ UU_.heap = h0) (fun _ _ _ _ _ => True) (fun _ UU_ oo_ UV_ => ∃ vv_ LL_, oo_ = .returned vv_ ∧ QLI Z ba kb zb cs fi aa zr h0 n0 vv_ UV_.heap LL_ ∧ FrameEnd UU_ oo_ UV_ LL_ ({ frames := 1, cells := 0, slots := 0, locals := 17 } : Room).cells ({ frames := 1, cells := 0, slots := 0, locals := 17 } : Room).slots) := by
  refine MetFree.of_bodySF (plainFor_of_name pn_3) hisR ?_
  intro p e s m args below meth c s₁ Bd hml0 hP hK
  obtain ⟨rfl, hZ, hh⟩ := hP
  have hx := Bd.exec
  have hby := Bd.bytes
  have hlk := BodyLoose.notSynchronized Bd
  have hml : c.maxLocals = 4 := hml0
  have hown : s.vm.findClass "java/lang/StringLatin1" = some m.cls := findClass_of_methodNamed Bd.named
  have hnm := (name_of_methodNamed Bd.named Bd.method).1
  have X0 : Stand p l e ({ frames := 1, cells := 0, slots := 0, locals := 17 } : Room) s m #[(.ref ba), (.int (46 : Int32)), (.int fi), (.int zr)] below meth c s₁ [] 0 0 := Stand.of_body Bd
  have e0 : s₁.heap = h0 := by rw [← hh, Bd.state]; rfl
  have N0 := Fr.nil n0
  suffices hOW : OW p e below s (QLI Z ba kb zb cs fi aa zr h0 n0) 0 0 (s₁.setTop (mkF m 0 #[.val (.ref ba), .val (.int (46 : Int32)), .val (.int fi), .val (.int zr)] [])) by
    obtain ⟨oq1_, oq2_, oq3_, oq4_⟩ := hOW
    exact ⟨oq1_, oq2_, castTop (ef_LI m ba (46 : Int32) fi zr) oq3_, oq4_⟩
  refine OW.st (B := s₁.setTop (mkF m 1 #[.val (.ref ba), .val (.int (46 : Int32)), .val (.int fi), .val (.int zr)] [(.int (46 : Int32))])) (fun _ kk_ => XS.iloadN X0.here hx rfl (hb hby d12_0) rfl kk_) ?_
  obtain ⟨_, _, ⟨T81, L81, k81, n81⟩, -, X81, ⟨Lc81, hQ81, l81, y81, z81⟩, st81⟩ := Jvm.LawKit.callS X0 hx (y := (⟨"java/lang/StringLatin1", "canEncode", "(I)Z"⟩ : MethodName)) hown (mvT hZ (w_65 hw)) (mvT hZ (w_66 hw)) (mvT hZ (w_63 hw)) (mvT hZ (w_67 hw)) (by decide) (backOf (W := 0) (rmCE l Z a0 hw []  h0 n0 O0 ) hZ (w_67 hw) (w_63 hw) (by decide) (by decide)) (g := (mkF m 1 #[.val (.ref ba), .val (.int (46 : Int32)), .val (.int fi), .val (.int zr)] [(.int (46 : Int32))])) rfl (by rw [hml]; rfl) (argsL := [(.int (46 : Int32))]) (rest := []) (lenOf pd_9 rfl) rfl (by show 2 * 0 + _ ≤ _; exact Nat.le_of_eq rfl) (hb hby d12_1) (fun _ _ => ⟨rfl, e0, (by decide : 0 + 0 ≤ _), (by decide : 0 + 0 ≤ _)⟩)
  dsimp only [Pt.U, Pt.locs, Pt.cells, Pt.slots] at X81 l81 y81 z81 st81 hQ81
  subst l81 y81 z81
  obtain ⟨rfl, Nq81, e81⟩ := hQ81
  have N81 := Fr.app N0 Nq81
  refine OW.st (B := T81.setTop (mkF m 11 #[.val (.ref ba), .val (.int (46 : Int32)), .val (.int fi), .val (.int zr)] [(.int (0 : Int32)), (.int fi)])) (fun _ kk_ => st81 _ (XS.ifYes X81.here hx rfl (pc0 := 4) (pc' := 9) rfl (hb hby d12_4) rfl ((if0 _ _).trans (feq (by decide)).2) (by decide) (by decide) (XS.iloadN X81.here hx rfl (hb hby d12_9) rfl (XS.iconst X81.here hx rfl (hb hby d12_10) kk_)))) ?_
  obtain ⟨_, _, ⟨T82, L82, k82, n82⟩, -, X82, ⟨Lc82, hQ82, l82, y82, z82⟩, st82⟩ := Jvm.LawKit.callS X81 hx (y := (⟨"java/lang/Math", "max", "(II)I"⟩ : MethodName)) hown (mvT hZ (w_68 hw)) (mvT hZ (w_69 hw)) (mvT hZ (w_70 hw)) (mvT hZ (w_71 hw)) (by decide) (backOf (W := 0) (rmMAX l Z a0 hw [] fi (0 : Int32) h0 n0 O0 (own_nneg hfi)) hZ (w_71 hw) (w_70 hw) (by decide) (by decide)) (g := (mkF m 11 #[.val (.ref ba), .val (.int (46 : Int32)), .val (.int fi), .val (.int zr)] [(.int (0 : Int32)), (.int fi)])) rfl (by rw [hml]; rfl) (argsL := [(.int fi), (.int (0 : Int32))]) (rest := []) (lenOf pd_10 rfl) rfl (by show 2 * 0 + _ ≤ _; exact Nat.le_of_eq rfl) (hb hby d12_11) (fun _ _ => ⟨rfl, e81, (by decide : 0 + 0 ≤ _), (by decide : 0 + 0 ≤ _)⟩)
  dsimp only [Pt.U, Pt.locs, Pt.cells, Pt.slots] at X82 l82 y82 z82 st82 hQ82
  subst l82 y82 z82
  obtain ⟨rfl, Nq82, e82⟩ := hQ82
  have N82 := Fr.app N81 Nq82
  refine OW.st (B := T82.setTop (mkF m 17 #[.val (.ref ba), .val (.int (46 : Int32)), .val (.int fi), .val (.int zr)] [(.ref ba), (.int zr)])) (fun _ kk_ => st82 _ (XS.istoreN X82.here hx rfl (hb hby d12_14) rfl (l' := #[.val (.ref ba), .val (.int (46 : Int32)), .val (.int fi), .val (.int zr)]) rfl (XS.iloadN X82.here hx rfl (hb hby d12_15) rfl (XS.aloadN X82.here hx rfl (hb hby d12_16) rfl rfl kk_)))) ?_
  obtain ⟨cl83, Ar83, q83, S83, Ng83, Hs83, G83⟩ := id B
  refine OW.st (X82.arraylength hx (by rw [e82]; exact Ar83.1) (State.isArrayOf_alike hZ.alike Ar83.2.1) (g := (mkF m 17 #[.val (.ref ba), .val (.int (46 : Int32)), .val (.int fi), .val (.int zr)] [(.ref ba), (.int zr)])) rfl rfl (hb hby d12_17)) ?_
  rw [len_of S83 Ng83]
  show OW p e below s (QLI Z ba kb zb cs fi aa zr h0 n0) 0 0 (T82.setTop (mkF m 18 #[.val (.ref ba), .val (.int (46 : Int32)), .val (.int fi), .val (.int zr)] [(.int zb), (.int zr)]))
  obtain ⟨_, _, ⟨T84, L84, k84, n84⟩, -, X84, ⟨Lc84, hQ84, l84, y84, z84⟩, st84⟩ := Jvm.LawKit.callS X82 hx (y := (⟨"java/lang/Math", "min", "(II)I"⟩ : MethodName)) hown (mvT hZ (w_72 hw)) (mvT hZ (w_73 hw)) (mvT hZ (w_70 hw)) (mvT hZ (w_74 hw)) (by decide) (backOf (W := 0) (rmMIN l Z a0 hw [] zr zb h0 n0 O0 (own_nltI hzb hlen (Nat.le_refl _))) hZ (w_74 hw) (w_70 hw) (by decide) (by decide)) (g := (mkF m 18 #[.val (.ref ba), .val (.int (46 : Int32)), .val (.int fi), .val (.int zr)] [(.int zb), (.int zr)])) rfl (by rw [hml]; rfl) (argsL := [(.int zr), (.int zb)]) (rest := []) (lenOf pd_10 rfl) rfl (by show 2 * 0 + _ ≤ _; exact Nat.le_of_eq rfl) (hb hby d12_18) (fun _ _ => ⟨rfl, e82, (by decide : 0 + 0 ≤ _), (by decide : 0 + 0 ≤ _)⟩)
  dsimp only [Pt.U, Pt.locs, Pt.cells, Pt.slots] at X84 l84 y84 z84 st84 hQ84
  subst l84 y84 z84
  obtain ⟨rfl, Nq84, e84⟩ := hQ84
  have N84 := Fr.app N82 Nq84
  refine OW.st (B := T84.setTop (mkF m 24 #[.val (.ref ba), .val (.int (46 : Int32)), .val (.int fi), .val (.int zr)] [(.int zr), (.int fi)])) (fun _ kk_ => st84 _ (XS.istoreN X84.here hx rfl (hb hby d12_21) rfl (l' := #[.val (.ref ba), .val (.int (46 : Int32)), .val (.int fi), .val (.int zr)]) rfl (XS.iloadN X84.here hx rfl (hb hby d12_22) rfl (XS.iloadN X84.here hx rfl (hb hby d12_23) rfl kk_)))) ?_
  by_cases hc85 : fi < zr
  · have hlt : aa < cs.length := by rw [Int32.lt_iff_toInt_lt, hfi, hlen] at hc85; omega
    refine OW.st (B := T84.setTop (mkF m 33 #[.val (.ref ba), .val (.int (46 : Int32)), .val (.int fi), .val (.int zr)] [(.int zr), (.int fi), (.int (46 : Int32)), (.ref ba)])) (fun _ kk_ => XS.icmpYes X84.here hx rfl (pc0 := 24) (pc' := 29) rfl (hb hby d12_24) rfl (tlt hc85).1 (by decide) (by decide) (XS.aloadN X84.here hx rfl (hb hby d12_29) rfl rfl (XS.iloadN X84.here hx rfl (hb hby d12_30) rfl (XS.iloadN X84.here hx rfl (hb hby d12_31) rfl (XS.iloadN X84.here hx rfl (hb hby d12_32) rfl kk_))))) ?_
    obtain ⟨_, _, ⟨T86, L86, k86, n86⟩, -, X86, ⟨Lc86, hQ86, l86, y86, z86⟩, st86⟩ := Jvm.LawKit.callS X84 hx (y := (⟨"java/lang/StringLatin1", "indexOfChar", "([BIII)I"⟩ : MethodName)) hown (mvT hZ (w_85 hw)) (mvT hZ (w_86 hw)) (mvT hZ (w_63 hw)) (mvT hZ (w_87 hw)) (by decide) (backOf (W := 0) (rmLS l Z a0 hw [] ba kb zb cs fi aa zr h0 n0 O0 B hzb hlen hmax hch hlat hfi (by omega)) hZ (w_87 hw) (w_63 hw) (by decide) (by decide)) (g := (mkF m 33 #[.val (.ref ba), .val (.int (46 : Int32)), .val (.int fi), .val (.int zr)] [(.int zr), (.int fi), (.int (46 : Int32)), (.ref ba)])) rfl (by rw [hml]; rfl) (argsL := [(.ref ba), (.int (46 : Int32)), (.int fi), (.int zr)]) (rest := []) (lenOf pd_11 rfl) rfl (by show 2 * 0 + _ ≤ _; exact Nat.le_of_eq rfl) (hb hby d12_33) (fun _ _ => ⟨rfl, e84, (by decide : 0 + 0 ≤ _), (by decide : 0 + 0 ≤ _)⟩)
    dsimp only [Pt.U, Pt.locs, Pt.cells, Pt.slots] at X86 l86 y86 z86 st86 hQ86
    subst l86 y86 z86
    obtain ⟨j86, rfl, Nq86, e86, hj86⟩ := hQ86
    have N86 := Fr.app N84 Nq86
    refine OW.st (B := T86.setTop (mkF m 36 #[.val (.ref ba), .val (.int (46 : Int32)), .val (.int fi), .val (.int zr)] [(.int j86)])) (fun _ kk_ => st86 _ kk_) ?_
    exact OW.ret X86 hx hlk (i := .ireturn) Bd.returns rfl (Or.inl ⟨rfl, Or.inl rfl, _, rfl⟩) (hb hby d12_36) e86 (by decide) (by decide) ⟨_, rfl, N86, rfl, hj86⟩
  · have hge : cs.length ≤ aa := by rw [Int32.lt_iff_toInt_lt, hfi, hlen] at hc85; omega
    refine OW.st (B := T84.setTop (mkF m 28 #[.val (.ref ba), .val (.int (46 : Int32)), .val (.int fi), .val (.int zr)] [(.int (-1 : Int32))])) (fun _ kk_ => XS.icmpNo X84.here hx rfl (hb hby d12_24) rfl (flt hc85).1 (XS.iconst X84.here hx rfl (hb hby d12_27) kk_)) ?_
    exact OW.ret X84 hx hlk (i := .ireturn) Bd.returns rfl (Or.inl ⟨rfl, Or.inl rfl, _, rfl⟩) (hb hby d12_28) e84 (by decide) (by decide) ⟨_, rfl, N84, rfl, OwnIx.no (fun j h1 h2 => absurd h2 (by omega))⟩
theorem ef_UL (m : MethodId) (x0 : Addr) : entryFrame m #[(.ref x0)] 1 = mkF m 0 #[.val (.ref x0)] [] := by first | (simp [entryFrame, mkF, argsToLocals, Value.category]; done) | rfl
def QUL (Z : State) (ba : Addr) (kb : ClassId) (zb : Int32) (cs : List Int32) (h0 : Heap) (n0 : Nat) (v : Option Value) (h : Heap) (L : List Loc) : Prop := v = some (.int (zb >>> ((1 : Int32) &&& 31))) ∧ Fr n0 L ∧ h = h0
set_option maxRecDepth 65536 in
set_option maxHeartbeats 40000000 in
theorem rmUL (l : Launch) (Z : State) (a0 : Array Value) (hw : ∀ d ∈ tables_1, d.before a0 Z = true) (ws : List Jvm.Cond) (ba : Addr) (kb : ClassId) (zb : Int32) (cs : List Int32) (h0 : Heap) (n0 : Nat) (O0 : Old Z n0 h0) (B : Arv Z h0 ba kb .byte zb (OwnU cs) (.int (0 : Int32))) :
    MetFree l (⟨"java/lang/StringUTF16", "length", "([B)I"⟩ : MethodName) (head1 (Jvm.Cond.code (⟨"java/lang/StringUTF16", "length", "([B)I"⟩ : MethodName) jdk_52_method_6_code 1 (some .int) :: ws) ({ frames := 0, cells := 0, slots := 0, locals := 0 } : Room)) (fun aa_ UU_ => aa_ = #[(.ref ba)] ∧ Z.Warmed39 UU_.vm ∧ UU_.heap = h0) (fun _ _ _ _ _ => True) (fun _ UU_ oo_ UV_ => ∃ vv_ LL_, oo_ = .returned vv_ ∧ QUL Z ba kb zb cs h0 n0 vv_ UV_.heap LL_ ∧ FrameEnd UU_ oo_ UV_ LL_ ({ frames := 0, cells := 0, slots := 0, locals := 0 } : Room).cells ({ frames := 0, cells := 0, slots := 0, locals := 0 } : Room).slots) := by
  refine MetFree.of_bodySF (plainFor_of_name pn_1) hisR ?_
  intro p e s m args below meth c s₁ Bd hml0 hP hK
  obtain ⟨rfl, hZ, hh⟩ := hP
  have hx := Bd.exec
  have hby := Bd.bytes
  have hlk := BodyLoose.notSynchronized Bd
  have hml : c.maxLocals = 1 := hml0
  have hown : s.vm.findClass "java/lang/StringUTF16" = some m.cls := findClass_of_methodNamed Bd.named
  have hnm := (name_of_methodNamed Bd.named Bd.method).1
  have X0 : Stand p l e ({ frames := 0, cells := 0, slots := 0, locals := 0 } : Room) s m #[(.ref ba)] below meth c s₁ [] 0 0 := Stand.of_body Bd
  have e0 : s₁.heap = h0 := by rw [← hh, Bd.state]; rfl
  have N0 := Fr.nil n0
  suffices hOW : OW p e below s (QUL Z ba kb zb cs h0 n0) 0 0 (s₁.setTop (mkF m 0 #[.val (.ref ba)] [])) by
    obtain ⟨oq1_, oq2_, oq3_, oq4_⟩ := hOW
    exact ⟨oq1_, oq2_, castTop (ef_UL m ba) oq3_, oq4_⟩
  refine OW.st (B := s₁.setTop (mkF m 1 #[.val (.ref ba)] [(.ref ba)])) (fun _ kk_ => XS.aloadN X0.here hx rfl (hb hby d28_0) rfl rfl kk_) ?_
  obtain ⟨cl87, Ar87, q87, S87, Ng87, Hs87, G87⟩ := id B
  refine OW.st (X0.arraylength hx (by rw [e0]; exact Ar87.1) (State.isArrayOf_alike hZ.alike Ar87.2.1) (g := (mkF m 1 #[.val (.ref ba)] [(.ref ba)])) rfl rfl (hb hby d28_1)) ?_
  rw [len_of S87 Ng87]
  show OW p e below s (QUL Z ba kb zb cs h0 n0) 0 0 (s₁.setTop (mkF m 2 #[.val (.ref ba)] [(.int zb)]))
  refine OW.st (B := s₁.setTop (mkF m 4 #[.val (.ref ba)] [(.int (zb >>> ((1 : Int32) &&& 31)))])) (fun _ kk_ => XS.iconst X0.here hx rfl (hb hby d28_2) (XS.ishr X0.here hx rfl (hb hby d28_3) rfl kk_)) ?_
  exact OW.ret X0 hx hlk (i := .ireturn) Bd.returns rfl (Or.inl ⟨rfl, Or.inl rfl, _, rfl⟩) (hb hby d28_4) e0 (by decide) (by decide) ⟨rfl, N0, rfl⟩
theorem ef_FT (m : MethodId) (x0 : Int32) (x1 : Int32) (x2 : Int32) (x3 : Value) (hv3 : x3.category = 1) : entryFrame m #[(.int x0), (.int x1), (.int x2), x3] 4 = mkF m 0 #[.val (.int x0), .val (.int x1), .val (.int x2), .val x3] [] := by first | (simp [entryFrame, mkF, argsToLocals, own_catI, own_catJ, own_catD, own_catR, own_catN, hv3]; done) | rfl
def QFT (Z : State) (i1 : Int32) (i2 : Int32) (i3 : Int32) (vv : Value) (h0 : Heap) (n0 : Nat) (v : Option Value) (h : Heap) (L : List Loc) : Prop := v = some (.int i1) ∧ Fr n0 L ∧ h = h0
set_option maxRecDepth 65536 in
set_option maxHeartbeats 40000000 in
theorem rmFT (l : Launch) (Z : State) (a0 : Array Value) (hw : ∀ d ∈ tables_1, d.before a0 Z = true) (ws : List Jvm.Cond) (i1 : Int32) (i2 : Int32) (i3 : Int32) (vv : Value) (h0 : Heap) (n0 : Nat) (O0 : Old Z n0 h0) (h1 : ¬ (i1 < (0 : Int32))) (h2 : ¬ (i2 < i1)) (h3 : ¬ (i3 < i2)) (hr : vv.isRef = true) :
    MetFree l (⟨"jdk/internal/util/Preconditions", "checkFromToIndex", "(IIILjava/util/function/BiFunction;)I"⟩ : MethodName) (head1 (Jvm.Cond.code (⟨"jdk/internal/util/Preconditions", "checkFromToIndex", "(IIILjava/util/function/BiFunction;)I"⟩ : MethodName) jdk_41_method_12_code 4 (some .int) :: ws) ({ frames := 0, cells := 0, slots := 0, locals := 0 } : Room)) (fun aa_ UU_ => aa_ = #[(.int i1), (.int i2), (.int i3), vv] ∧ Z.Warmed39 UU_.vm ∧ UU_.heap = h0) (fun _ _ _ _ _ => True) (fun _ UU_ oo_ UV_ => ∃ vv_ LL_, oo_ = .returned vv_ ∧ QFT Z i1 i2 i3 vv h0 n0 vv_ UV_.heap LL_ ∧ FrameEnd UU_ oo_ UV_ LL_ ({ frames := 0, cells := 0, slots := 0, locals := 0 } : Room).cells ({ frames := 0, cells := 0, slots := 0, locals := 0 } : Room).slots) := by
  refine MetFree.of_bodySF (plainFor_of_name pn_4) hisR ?_
  intro p e s m args below meth c s₁ Bd hml0 hP hK
  obtain ⟨rfl, hZ, hh⟩ := hP
  have hx := Bd.exec
  have hby := Bd.bytes
  have hlk := BodyLoose.notSynchronized Bd
  have hml : c.maxLocals = 4 := hml0
  have hown : s.vm.findClass "jdk/internal/util/Preconditions" = some m.cls := findClass_of_methodNamed Bd.named
  have hnm := (name_of_methodNamed Bd.named Bd.method).1
  have X0 : Stand p l e ({ frames := 0, cells := 0, slots := 0, locals := 0 } : Room) s m #[(.int i1), (.int i2), (.int i3), vv] below meth c s₁ [] 0 0 := Stand.of_body Bd
  have e0 : s₁.heap = h0 := by rw [← hh, Bd.state]; rfl
  have N0 := Fr.nil n0
  suffices hOW : OW p e below s (QFT Z i1 i2 i3 vv h0 n0) 0 0 (s₁.setTop (mkF m 0 #[.val (.int i1), .val (.int i2), .val (.int i3), .val vv] [])) by
    obtain ⟨oq1_, oq2_, oq3_, oq4_⟩ := hOW
    exact ⟨oq1_, oq2_, castTop (ef_FT m i1 i2 i3 vv (own_cat hr)) oq3_, oq4_⟩
  refine OW.st (B := s₁.setTop (mkF m 23 #[.val (.int i1), .val (.int i2), .val (.int i3), .val vv] [(.int i1)])) (fun _ kk_ => XS.iloadN X0.here hx rfl (hb hby d30_0) rfl (XS.ifNo X0.here hx rfl (hb hby d30_1) rfl ((if0 _ _).trans (flt h1).1) (XS.iloadN X0.here hx rfl (hb hby d30_4) rfl (XS.iloadN X0.here hx rfl (hb hby d30_5) rfl (XS.icmpNo X0.here hx rfl (hb hby d30_6) rfl (flt h2).2.2.1 (XS.iloadN X0.here hx rfl (hb hby d30_9) rfl (XS.iloadN X0.here hx rfl (hb hby d30_10) rfl (XS.icmpYes X0.here hx rfl (pc0 := 11) (pc' := 22) rfl (hb hby d30_11) rfl (flt h3).2.2.2 (by decide) (by decide) (XS.iloadN X0.here hx rfl (hb hby d30_22) rfl kk_))))))))) ?_
  exact OW.ret X0 hx hlk (i := .ireturn) Bd.returns rfl (Or.inl ⟨rfl, Or.inl rfl, _, rfl⟩) (hb hby d30_23) e0 (by decide) (by decide) ⟨rfl, N0, rfl⟩
theorem ef_SB (m : MethodId) (x0 : Int32) (x1 : Int32) (x2 : Int32) : entryFrame m #[(.int x0), (.int x1), (.int x2)] 3 = mkF m 0 #[.val (.int x0), .val (.int x1), .val (.int x2)] [] := by first | (simp [entryFrame, mkF, argsToLocals, Value.category]; done) | rfl
def QSB (Z : State) (i1 : Int32) (i2 : Int32) (i3 : Int32) (i_COMPACT_STRINGS : Int32) (v_SIOOBE_FORMATTER : Value) (h0 : Heap) (n0 : Nat) (v : Option Value) (h : Heap) (L : List Loc) : Prop := v = none ∧ Fr n0 L ∧ h = h0
set_option maxRecDepth 65536 in
set_option maxHeartbeats 40000000 in
theorem rmSB (l : Launch) (Z : State) (a0 : Array Value) (hw : ∀ d ∈ tables_1, d.before a0 Z = true) (ws : List Jvm.Cond) (i1 : Int32) (i2 : Int32) (i3 : Int32) (i_COMPACT_STRINGS : Int32) (v_SIOOBE_FORMATTER : Value) (h0 : Heap) (n0 : Nat) (O0 : Old Z n0 h0) (h1 : ¬ (i1 < (0 : Int32))) (h2 : ¬ (i2 < i1)) (h3 : ¬ (i3 < i2)) (hS : OwnS Z i_COMPACT_STRINGS v_SIOOBE_FORMATTER) :
    MetFree l (⟨"java/lang/String", "checkBoundsBeginEnd", "(III)V"⟩ : MethodName) (head1 (Jvm.Cond.code (⟨"java/lang/String", "checkBoundsBeginEnd", "(III)V"⟩ : MethodName) jdk_42_method_158_code 3 none :: ws) ({ frames := 1, cells := 0, slots := 0, locals := 15 } : Room)) (fun aa_ UU_ => aa_ = #[(.int i1), (.int i2), (.int i3)] ∧ Z.Warmed39 UU_.vm ∧ UU_.heap = h0) (fun _ _ _ _ _ => True) (fun _ UU_ oo_ UV_ => ∃ vv_ LL_, oo_ = .returned vv_ ∧ QSB Z i1 i2 i3 i_COMPACT_STRINGS v_SIOOBE_FORMATTER h0 n0 vv_ UV_.heap LL_ ∧ FrameEnd UU_ oo_ UV_ LL_ ({ frames := 1, cells := 0, slots := 0, locals := 15 } : Room).cells ({ frames := 1, cells := 0, slots := 0, locals := 15 } : Room).slots) := by
  refine MetFree.of_bodySF (plainFor_of_name pn_0) hisR ?_
  intro p e s m args below meth c s₁ Bd hml0 hP hK
  obtain ⟨rfl, hZ, hh⟩ := hP
  have hx := Bd.exec
  have hby := Bd.bytes
  have hlk := BodyLoose.notSynchronized Bd
  have hml : c.maxLocals = 3 := hml0
  have hown : s.vm.findClass "java/lang/String" = some m.cls := findClass_of_methodNamed Bd.named
  have hnm := (name_of_methodNamed Bd.named Bd.method).1
  have X0 : Stand p l e ({ frames := 1, cells := 0, slots := 0, locals := 15 } : Room) s m #[(.int i1), (.int i2), (.int i3)] below meth c s₁ [] 0 0 := Stand.of_body Bd
  have e0 : s₁.heap = h0 := by rw [← hh, Bd.state]; rfl
  have N0 := Fr.nil n0
  suffices hOW : OW p e below s (QSB Z i1 i2 i3 i_COMPACT_STRINGS v_SIOOBE_FORMATTER h0 n0) 0 0 (s₁.setTop (mkF m 0 #[.val (.int i1), .val (.int i2), .val (.int i3)] [])) by
    obtain ⟨oq1_, oq2_, oq3_, oq4_⟩ := hOW
    exact ⟨oq1_, oq2_, castTop (ef_SB m i1 i2 i3) oq3_, oq4_⟩
  have hS' := hS
  obtain ⟨Si_COMPACT_STRINGS, Sv_SIOOBE_FORMATTER, Rv_SIOOBE_FORMATTER, S__assertionsDisabled, S_HI_BYTE_SHIFT, S_LO_BYTE_SHIFT, Pi_COMPACT_STRINGS⟩ := hS'
  refine OW.st (B := s₁.setTop (mkF m 3 #[.val (.int i1), .val (.int i2), .val (.int i3)] [(.int i3), (.int i2), (.int i1)])) (fun _ kk_ => XS.iloadN X0.here hx rfl (hb hby d29_0) rfl (XS.iloadN X0.here hx rfl (hb hby d29_1) rfl (XS.iloadN X0.here hx rfl (hb hby d29_2) rfl kk_))) ?_
  obtain ⟨T88, X88, e88, st88⟩ := getS2 X0 hx hZ hown (host := "") (Or.inl (w_126 hw)) Via.refl e0 (Sv_SIOOBE_FORMATTER.ext O0.2) (g := (mkF m 3 #[.val (.int i1), .val (.int i2), .val (.int i3)] [(.int i3), (.int i2), (.int i1)])) rfl (hb hby d29_3)
  refine OW.st (B := T88.setTop (mkF m 6 #[.val (.int i1), .val (.int i2), .val (.int i3)] [v_SIOOBE_FORMATTER, (.int i3), (.int i2), (.int i1)])) (fun _ kk_ => st88 _ kk_) ?_
  obtain ⟨_, _, ⟨T89, L89, k89, n89⟩, -, X89, ⟨Lc89, hQ89, l89, y89, z89⟩, st89⟩ := Jvm.LawKit.callS X88 hx (y := (⟨"jdk/internal/util/Preconditions", "checkFromToIndex", "(IIILjava/util/function/BiFunction;)I"⟩ : MethodName)) hown (mvT hZ (w_128 hw)) (mvT hZ (w_129 hw)) (mvT hZ (w_127 hw)) (mvT hZ (w_130 hw)) (by decide) (backOf (W := 0) (rmFT l Z a0 hw [] i1 i2 i3 v_SIOOBE_FORMATTER h0 n0 O0 h1 h2 h3 Rv_SIOOBE_FORMATTER) hZ (w_130 hw) (w_127 hw) (by decide) (by decide)) (g := (mkF m 6 #[.val (.int i1), .val (.int i2), .val (.int i3)] [v_SIOOBE_FORMATTER, (.int i3), (.int i2), (.int i1)])) rfl (by rw [hml]; rfl) (argsL := [(.int i1), (.int i2), (.int i3), v_SIOOBE_FORMATTER]) (rest := []) (lenOf pd_12 rfl) rfl (by show 2 * 0 + _ ≤ _; exact Nat.le_of_eq rfl) (hb hby d29_6) (fun _ _ => ⟨rfl, e88, (by decide : 0 + 0 ≤ _), (by decide : 0 + 0 ≤ _)⟩)
  dsimp only [Pt.U, Pt.locs, Pt.cells, Pt.slots] at X89 l89 y89 z89 st89 hQ89
  subst l89 y89 z89
  obtain ⟨rfl, Nq89, e89⟩ := hQ89
  have N89 := Fr.app N0 Nq89
  refine OW.st (B := T89.setTop (mkF m 10 #[.val (.int i1), .val (.int i2), .val (.int i3)] [])) (fun _ kk_ => st89 _ (XS.pop X89.here hx rfl (hb hby d29_9) rfl rfl kk_)) ?_
  exact OW.retV X89 hx hlk Bd.returns (hb hby d29_10) e89 (by decide) (by decide) ⟨rfl, N89, rfl⟩
theorem ef_UB (m : MethodId) (x0 : Int32) (x1 : Int32) (x2 : Addr) : entryFrame m #[(.int x0), (.int x1), (.ref x2)] 3 = mkF m 0 #[.val (.int x0), .val (.int x1), .val (.ref x2)] [] := by first | (simp [entryFrame, mkF, argsToLocals, Value.category]; done) | rfl
def QUB (Z : State) (ba : Addr) (kb : ClassId) (zb : Int32) (cs : List Int32) (fi : Int32) (aa : Nat) (zr : Int32) (i_COMPACT_STRINGS : Int32) (v_SIOOBE_FORMATTER : Value) (h0 : Heap) (n0 : Nat) (v : Option Value) (h : Heap) (L : List Loc) : Prop := v = none ∧ Fr n0 L ∧ h = h0
set_option maxRecDepth 65536 in
set_option maxHeartbeats 40000000 in
theorem rmUB (l : Launch) (Z : State) (a0 : Array Value) (hw : ∀ d ∈ tables_1, d.before a0 Z = true) (ws : List Jvm.Cond) (ba : Addr) (kb : ClassId) (zb : Int32) (cs : List Int32) (fi : Int32) (aa : Nat) (zr : Int32) (i_COMPACT_STRINGS : Int32) (v_SIOOBE_FORMATTER : Value) (h0 : Heap) (n0 : Nat) (O0 : Old Z n0 h0) (B : Arv Z h0 ba kb .byte zb (OwnU cs) (.int (0 : Int32))) (hzb : zb.toInt = ((2 * cs.length : Nat) : Int)) (hlen : zr.toInt = (cs.length : Int)) (hmax : cs.length ≤ 10) (hfi : fi.toInt = (aa : Int)) (hle : aa ≤ cs.length) (hS : OwnS Z i_COMPACT_STRINGS v_SIOOBE_FORMATTER) :
    MetFree l (⟨"java/lang/StringUTF16", "checkBoundsBeginEnd", "(II[B)V"⟩ : MethodName) (head1 (Jvm.Cond.code (⟨"java/lang/StringUTF16", "checkBoundsBeginEnd", "(II[B)V"⟩ : MethodName) jdk_52_method_93_code 3 none :: ws) ({ frames := 2, cells := 0, slots := 0, locals := 29 } : Room)) (fun aa_ UU_ => aa_ = #[(.int fi), (.int zr), (.ref ba)] ∧ Z.Warmed39 UU_.vm ∧ UU_.heap = h0) (fun _ _ _ _ _ => True) (fun _ UU_ oo_ UV_ => ∃ vv_ LL_, oo_ = .returned vv_ ∧ QUB Z ba kb zb cs fi aa zr i_COMPACT_STRINGS v_SIOOBE_FORMATTER h0 n0 vv_ UV_.heap LL_ ∧ FrameEnd UU_ oo_ UV_ LL_ ({ frames := 2, cells := 0, slots := 0, locals := 29 } : Room).cells ({ frames := 2, cells := 0, slots := 0, locals := 29 } : Room).slots) := by
  refine MetFree.of_bodySF (plainFor_of_name pn_1) hisR ?_
  intro p e s m args below meth c s₁ Bd hml0 hP hK
  obtain ⟨rfl, hZ, hh⟩ := hP
  have hx := Bd.exec
  have hby := Bd.bytes
  have hlk := BodyLoose.notSynchronized Bd
  have hml : c.maxLocals = 3 := hml0
  have hown : s.vm.findClass "java/lang/StringUTF16" = some m.cls := findClass_of_methodNamed Bd.named
  have hnm := (name_of_methodNamed Bd.named Bd.method).1
  have X0 : Stand p l e ({ frames := 2, cells := 0, slots := 0, locals := 29 } : Room) s m #[(.int fi), (.int zr), (.ref ba)] below meth c s₁ [] 0 0 := Stand.of_body Bd
  have e0 : s₁.heap = h0 := by rw [← hh, Bd.state]; rfl
  have N0 := Fr.nil n0
  suffices hOW : OW p e below s (QUB Z ba kb zb cs fi aa zr i_COMPACT_STRINGS v_SIOOBE_FORMATTER h0 n0) 0 0 (s₁.setTop (mkF m 0 #[.val (.int fi), .val (.int zr), .val (.ref ba)] [])) by
    obtain ⟨oq1_, oq2_, oq3_, oq4_⟩ := hOW
    exact ⟨oq1_, oq2_, castTop (ef_UB m fi zr ba) oq3_, oq4_⟩
  have hS' := hS
  obtain ⟨Si_COMPACT_STRINGS, Sv_SIOOBE_FORMATTER, Rv_SIOOBE_FORMATTER, S__assertionsDisabled, S_HI_BYTE_SHIFT, S_LO_BYTE_SHIFT, Pi_COMPACT_STRINGS⟩ := hS'
  refine OW.st (B := s₁.setTop (mkF m 3 #[.val (.int fi), .val (.int zr), .val (.ref ba)] [(.ref ba), (.int zr), (.int fi)])) (fun _ kk_ => XS.iloadN X0.here hx rfl (hb hby d27_0) rfl (XS.iloadN X0.here hx rfl (hb hby d27_1) rfl (XS.aloadN X0.here hx rfl (hb hby d27_2) rfl rfl kk_))) ?_
  obtain ⟨_, _, ⟨T90, L90, k90, n90⟩, -, X90, ⟨Lc90, hQ90, l90, y90, z90⟩, st90⟩ := Jvm.LawKit.callS X0 hx (y := (⟨"java/lang/StringUTF16", "length", "([B)I"⟩ : MethodName)) hown (mvT hZ (w_120 hw)) (mvT hZ (w_121 hw)) (mvT hZ (w_77 hw)) (mvT hZ (w_122 hw)) (by decide) (backOf (W := 2) (rmUL l Z a0 hw [] ba kb zb cs h0 n0 O0 B) hZ (w_122 hw) (w_77 hw) (by decide) (by decide)) (g := (mkF m 3 #[.val (.int fi), .val (.int zr), .val (.ref ba)] [(.ref ba), (.int zr), (.int fi)])) rfl (by rw [hml]; rfl) (argsL := [(.ref ba)]) (rest := [(.int zr), (.int fi)]) (lenOf pd_13 rfl) rfl (by show 2 * 0 + _ ≤ _; exact Nat.le_of_eq rfl) (hb hby d27_3) (fun _ _ => ⟨rfl, e0, (by decide : 0 + 0 ≤ _), (by decide : 0 + 0 ≤ _)⟩)
  dsimp only [Pt.U, Pt.locs, Pt.cells, Pt.slots] at X90 l90 y90 z90 st90 hQ90
  subst l90 y90 z90
  obtain ⟨rfl, Nq90, e90⟩ := hQ90
  have N90 := Fr.app N0 Nq90
  refine OW.st (B := T90.setTop (mkF m 6 #[.val (.int fi), .val (.int zr), .val (.ref ba)] [(.int (zb >>> ((1 : Int32) &&& 31))), (.int zr), (.int fi)])) (fun _ kk_ => st90 _ kk_) ?_
  obtain ⟨_, _, ⟨T91, L91, k91, n91⟩, -, X91, ⟨Lc91, hQ91, l91, y91, z91⟩, st91⟩ := Jvm.LawKit.callS X90 hx (y := (⟨"java/lang/String", "checkBoundsBeginEnd", "(III)V"⟩ : MethodName)) hown (mvT hZ (w_123 hw)) (mvT hZ (w_124 hw)) (mvT hZ (w_9 hw)) (mvT hZ (w_125 hw)) (by decide) (backOf (W := 0) (rmSB l Z a0 hw [] fi zr (zb >>> ((1 : Int32) &&& 31)) i_COMPACT_STRINGS v_SIOOBE_FORMATTER h0 n0 O0 (own_nneg hfi) (own_nltI hlen hfi hle) (own_nltI (own_half hzb (by omega)) hlen (Nat.le_refl _)) hS) hZ (w_125 hw) (w_9 hw) (by decide) (by decide)) (g := (mkF m 6 #[.val (.int fi), .val (.int zr), .val (.ref ba)] [(.int (zb >>> ((1 : Int32) &&& 31))), (.int zr), (.int fi)])) rfl (by rw [hml]; rfl) (argsL := [(.int fi), (.int zr), (.int (zb >>> ((1 : Int32) &&& 31)))]) (rest := []) (lenOf pd_14 rfl) rfl (by show 2 * 0 + _ ≤ _; exact Nat.le_of_eq rfl) (hb hby d27_6) (fun _ _ => ⟨rfl, e90, (by decide : 0 + 0 ≤ _), (by decide : 0 + 0 ≤ _)⟩)
  dsimp only [Pt.U, Pt.locs, Pt.cells, Pt.slots] at X91 l91 y91 z91 st91 hQ91
  subst l91 y91 z91
  obtain ⟨rfl, Nq91, e91⟩ := hQ91
  have N91 := Fr.app N90 Nq91
  refine OW.st (B := T91.setTop (mkF m 9 #[.val (.int fi), .val (.int zr), .val (.ref ba)] [])) (fun _ kk_ => st91 _ kk_) ?_
  exact OW.retV X91 hx hlk Bd.returns (hb hby d27_9) e91 (by decide) (by decide) ⟨rfl, N91, rfl⟩
theorem ef_US (m : MethodId) (x0 : Addr) (x1 : Int32) (x2 : Int32) (x3 : Int32) : entryFrame m #[(.ref x0), (.int x1), (.int x2), (.int x3)] 5 = mkF m 0 #[.val (.ref x0), .val (.int x1), .val (.int x2), .val (.int x3), .unset] [] := by first | (simp [entryFrame, mkF, argsToLocals, Value.category]; done) | rfl
def QUS (Z : State) (ba : Addr) (kb : ClassId) (zb : Int32) (cs : List Int32) (fi : Int32) (aa : Nat) (zr : Int32) (i_COMPACT_STRINGS : Int32) (v_SIOOBE_FORMATTER : Value) (h0 : Heap) (n0 : Nat) (v : Option Value) (h : Heap) (L : List Loc) : Prop := ∃ j : Int32, v = some (.int j) ∧ Fr n0 L ∧ h = h0 ∧ OwnIx cs aa j
set_option maxRecDepth 65536 in
set_option maxHeartbeats 40000000 in
theorem rmUS (l : Launch) (Z : State) (a0 : Array Value) (hw : ∀ d ∈ tables_1, d.before a0 Z = true) (ws : List Jvm.Cond) (ba : Addr) (kb : ClassId) (zb : Int32) (cs : List Int32) (fi : Int32) (aa : Nat) (zr : Int32) (i_COMPACT_STRINGS : Int32) (v_SIOOBE_FORMATTER : Value) (h0 : Heap) (n0 : Nat) (O0 : Old Z n0 h0) (B : Arv Z h0 ba kb .byte zb (OwnU cs) (.int (0 : Int32))) (hzb : zb.toInt = ((2 * cs.length : Nat) : Int)) (hlen : zr.toInt = (cs.length : Int)) (hmax : cs.length ≤ 10) (hch : OwnChs cs) (hfi : fi.toInt = (aa : Int)) (hle : aa ≤ cs.length) (hS : OwnS Z i_COMPACT_STRINGS v_SIOOBE_FORMATTER) :
    MetFree l (⟨"java/lang/StringUTF16", "indexOfCharUnsafe", "([BIII)I"⟩ : MethodName) (head1 (Jvm.Cond.code (⟨"java/lang/StringUTF16", "indexOfCharUnsafe", "([BIII)I"⟩ : MethodName) jdk_52_method_48_code 5 (some .int) :: ws) ({ frames := 1, cells := 0, slots := 0, locals := 13 } : Room)) (fun aa_ UU_ => aa_ = #[(.ref ba), (.int (46 : Int32)), (.int fi), (.int zr)] ∧ Z.Warmed39 UU_.vm ∧ UU_.heap = h0) (fun _ _ _ _ _ => True) (fun _ UU_ oo_ UV_ => ∃ vv_ LL_, oo_ = .returned vv_ ∧ QUS Z ba kb zb cs fi aa zr i_COMPACT_STRINGS v_SIOOBE_FORMATTER h0 n0 vv_ UV_.heap LL_ ∧ FrameEnd UU_ oo_ UV_ LL_ ({ frames := 1, cells := 0, slots := 0, locals := 13 } : Room).cells ({ frames := 1, cells := 0, slots := 0, locals := 13 } : Room).slots) := by
  refine MetFree.of_bodySF (plainFor_of_name pn_1) hisR ?_
  intro p e s m args below meth c s₁ Bd hml0 hP hK
  obtain ⟨rfl, hZ, hh⟩ := hP
  have hx := Bd.exec
  have hby := Bd.bytes
  have hlk := BodyLoose.notSynchronized Bd
  have hml : c.maxLocals = 5 := hml0
  have hown : s.vm.findClass "java/lang/StringUTF16" = some m.cls := findClass_of_methodNamed Bd.named
  have hnm := (name_of_methodNamed Bd.named Bd.method).1
  have X0 : Stand p l e ({ frames := 1, cells := 0, slots := 0, locals := 13 } : Room) s m #[(.ref ba), (.int (46 : Int32)), (.int fi), (.int zr)] below meth c s₁ [] 0 0 := Stand.of_body Bd
  have e0 : s₁.heap = h0 := by rw [← hh, Bd.state]; rfl
  have N0 := Fr.nil n0
  suffices hOW : OW p e below s (QUS Z ba kb zb cs fi aa zr i_COMPACT_STRINGS v_SIOOBE_FORMATTER h0 n0) 0 0 (s₁.setTop (mkF m 0 #[.val (.ref ba), .val (.int (46 : Int32)), .val (.int fi), .val (.int zr), .unset] [])) by
    obtain ⟨oq1_, oq2_, oq3_, oq4_⟩ := hOW
    exact ⟨oq1_, oq2_, castTop (ef_US m ba (46 : Int32) fi zr) oq3_, oq4_⟩
  have hS' := hS
  obtain ⟨Si_COMPACT_STRINGS, Sv_SIOOBE_FORMATTER, Rv_SIOOBE_FORMATTER, S__assertionsDisabled, S_HI_BYTE_SHIFT, S_LO_BYTE_SHIFT, Pi_COMPACT_STRINGS⟩ := hS'
  refine OW.st (B := s₁.setTop (mkF m 3 #[.val (.ref ba), .val (.int (46 : Int32)), .val (.int fi), .val (.int zr), .val (.int fi)] [])) (fun _ kk_ => XS.iloadN X0.here hx rfl (hb hby d31_0) rfl (XS.istore X0.here hx rfl (hb hby d31_1) rfl (l' := #[.val (.ref ba), .val (.int (46 : Int32)), .val (.int fi), .val (.int zr), .val (.int fi)]) rfl kk_)) ?_
  have J92 : ∀ (f : Nat) (T92 : State) (L92 : List Loc) (h92 : Heap) (X92 : Stand p l e ({ frames := 1, cells := 0, slots := 0, locals := 13 } : Room) s m #[(.ref ba), (.int (46 : Int32)), (.int fi), (.int zr)] below meth c T92 L92 0 0) (N92 : Fr n0 L92) (e92 : T92.heap = h92) (O92 : Old Z n0 h92) (i : Int32) (mm : Nat), (h0 = h92) → (i.toInt = (mm : Int)) → (mm + f = cs.length) → (aa ≤ mm) → (∀ j : Nat, aa ≤ j → j < mm → cs[j]? ≠ some (46 : Int32)) → OW p e below s (QUS Z ba kb zb cs fi aa zr i_COMPACT_STRINGS v_SIOOBE_FORMATTER h0 n0) 0 0 (T92.setTop (mkF m 3 #[.val (.ref ba), .val (.int (46 : Int32)), .val (.int fi), .val (.int zr), .val (.int i)] [])) := by
    intro f
    induction f with
    | zero =>
      intro T92 L92 h92 X92 N92 e92 O92 i mm hH hi hm ham hno
      subst hH
      have hmm : mm = cs.length := by omega
      subst hmm
      refine OW.st (B := T92.setTop (mkF m 29 #[.val (.ref ba), .val (.int (46 : Int32)), .val (.int fi), .val (.int zr), .val (.int i)] [(.int (-1 : Int32))])) (fun _ kk_ => XS.iload X92.here hx rfl (hb hby d31_3) rfl (XS.iloadN X92.here hx rfl (hb hby d31_5) rfl (XS.icmpYes X92.here hx rfl (pc0 := 6) (pc' := 28) rfl (hb hby d31_6) rfl (flt (own_nltI hi hlen (by omega))).2.1 (by decide) (by decide) (XS.iconst X92.here hx rfl (hb hby d31_28) kk_)))) ?_
      exact OW.ret X92 hx hlk (i := .ireturn) Bd.returns rfl (Or.inl ⟨rfl, Or.inl rfl, _, rfl⟩) (hb hby d31_29) e92 (by decide) (by decide) ⟨_, rfl, N92, rfl, OwnIx.no hno⟩
    | succ f ih =>
      intro T92 L92 h92 X92 N92 e92 O92 i mm hH hi hm ham hno
      subst hH
      obtain ⟨cc, hcc⟩ : ∃ cc, cs[mm]? = some cc := ⟨_, List.getElem?_eq_getElem (by omega)⟩
      have hcn := hch _ (List.mem_of_getElem? hcc)
      have hz2 := hzb
      refine OW.st (B := T92.setTop (mkF m 12 #[.val (.ref ba), .val (.int (46 : Int32)), .val (.int fi), .val (.int zr), .val (.int i)] [(.int i), (.ref ba)])) (fun _ kk_ => XS.iload X92.here hx rfl (hb hby d31_3) rfl (XS.iloadN X92.here hx rfl (hb hby d31_5) rfl (XS.icmpNo X92.here hx rfl (hb hby d31_6) rfl (tlt (own_ltI hi hlen (by omega))).2.1 (XS.aloadN X92.here hx rfl (hb hby d31_9) rfl rfl (XS.iload X92.here hx rfl (hb hby d31_10) rfl kk_))))) ?_
      obtain ⟨_, _, ⟨T93, L93, k93, n93⟩, -, X93, ⟨Lc93, hQ93, l93, y93, z93⟩, st93⟩ := Jvm.LawKit.callS X92 hx (y := (⟨"java/lang/StringUTF16", "getChar", "([BI)C"⟩ : MethodName)) hown (mvT hZ (w_105 hw)) (mvT hZ (w_106 hw)) (mvT hZ (w_77 hw)) (mvT hZ (w_107 hw)) (by decide) (backOf (W := 0) (rmGC l Z a0 hw [] ba kb zb cs i mm cc i_COMPACT_STRINGS v_SIOOBE_FORMATTER h0 n0 O92 B hz2 hmax hi hcc hcn hS) hZ (w_107 hw) (w_77 hw) (by decide) (by decide)) (g := (mkF m 12 #[.val (.ref ba), .val (.int (46 : Int32)), .val (.int fi), .val (.int zr), .val (.int i)] [(.int i), (.ref ba)])) rfl (by rw [hml]; rfl) (argsL := [(.ref ba), (.int i)]) (rest := []) (lenOf pd_7 rfl) rfl (by show 2 * 0 + _ ≤ _; exact Nat.le_of_eq rfl) (hb hby d31_12) (fun _ _ => ⟨rfl, e92, (by decide : 0 + 0 ≤ _), (by decide : 0 + 0 ≤ _)⟩)
      dsimp only [Pt.U, Pt.locs, Pt.cells, Pt.slots] at X93 l93 y93 z93 st93 hQ93
      subst l93 y93 z93
      obtain ⟨rfl, Nq93, e93⟩ := hQ93
      have N93 := Fr.app N92 Nq93
      refine OW.st (B := T93.setTop (mkF m 16 #[.val (.ref ba), .val (.int (46 : Int32)), .val (.int fi), .val (.int zr), .val (.int i)] [(.int (46 : Int32)), (.int cc)])) (fun _ kk_ => st93 _ (XS.iloadN X93.here hx rfl (hb hby d31_15) rfl kk_)) ?_
      by_cases hc94 : cc = (46 : Int32)
      · refine OW.st (B := T93.setTop (mkF m 21 #[.val (.ref ba), .val (.int (46 : Int32)), .val (.int fi), .val (.int zr), .val (.int i)] [(.int i)])) (fun _ kk_ => XS.icmpNo X93.here hx rfl (hb hby d31_16) rfl (teq hc94).2 (XS.iload X93.here hx rfl (hb hby d31_19) rfl kk_)) ?_
        have hq : cc = 46 := hc94
        subst hq
        exact OW.ret X93 hx hlk (i := .ireturn) Bd.returns rfl (Or.inl ⟨rfl, Or.inl rfl, _, rfl⟩) (hb hby d31_21) e93 (by decide) (by decide) ⟨_, rfl, N93, rfl, OwnIx.yes hi ham hcc hno⟩
      · refine OW.st (B := T93.setTop (mkF m 3 #[.val (.ref ba), .val (.int (46 : Int32)), .val (.int fi), .val (.int zr), .val (.int (i + (1 : Int32)))] [])) (fun _ kk_ => XS.icmpYes X93.here hx rfl (pc0 := 16) (pc' := 22) rfl (hb hby d31_16) rfl (feq hc94).2 (by decide) (by decide) (XS.iinc X93.here hx rfl (hb hby d31_22) rfl (l' := #[.val (.ref ba), .val (.int (46 : Int32)), .val (.int fi), .val (.int zr), .val (.int (i + (1 : Int32)))]) rfl (XS.goto X93.here hx rfl (pc0 := 25) (pc' := 3) rfl (hb hby d31_25) (by decide) (by decide) kk_))) ?_
        exact ih _ _ _ X93 N93 e93 O92 _ (mm + 1) rfl (own_suc hi (by omega)) (by omega) (by omega) (own_nos hno hcc hc94)
  exact J92 (cs.length - aa) _ _ _ X0 N0 e0 O0 _ aa rfl hfi (by omega) (Nat.le_refl _) (fun j h1 h2 => absurd h2 (by omega))
theorem ef_UX (m : MethodId) (x0 : Addr) (x1 : Int32) (x2 : Int32) (x3 : Int32) : entryFrame m #[(.ref x0), (.int x1), (.int x2), (.int x3)] 4 = mkF m 0 #[.val (.ref x0), .val (.int x1), .val (.int x2), .val (.int x3)] [] := by first | (simp [entryFrame, mkF, argsToLocals, Value.category]; done) | rfl
def QUX (Z : State) (ba : Addr) (kb : ClassId) (zb : Int32) (cs : List Int32) (fi : Int32) (aa : Nat) (zr : Int32) (i_COMPACT_STRINGS : Int32) (v_SIOOBE_FORMATTER : Value) (h0 : Heap) (n0 : Nat) (v : Option Value) (h : Heap) (L : List Loc) : Prop := ∃ j : Int32, v = some (.int j) ∧ Fr n0 L ∧ h = h0 ∧ OwnIx cs aa j
set_option maxRecDepth 65536 in
set_option maxHeartbeats 40000000 in
theorem rmUX (l : Launch) (Z : State) (a0 : Array Value) (hw : ∀ d ∈ tables_1, d.before a0 Z = true) (ws : List Jvm.Cond) (ba : Addr) (kb : ClassId) (zb : Int32) (cs : List Int32) (fi : Int32) (aa : Nat) (zr : Int32) (i_COMPACT_STRINGS : Int32) (v_SIOOBE_FORMATTER : Value) (h0 : Heap) (n0 : Nat) (O0 : Old Z n0 h0) (B : Arv Z h0 ba kb .byte zb (OwnU cs) (.int (0 : Int32))) (hzb : zb.toInt = ((2 * cs.length : Nat) : Int)) (hlen : zr.toInt = (cs.length : Int)) (hmax : cs.length ≤ 10) (hch : OwnChs cs) (hfi : fi.toInt = (aa : Int)) (hle : aa ≤ cs.length) (hS : OwnS Z i_COMPACT_STRINGS v_SIOOBE_FORMATTER) :
    MetFree l (⟨"java/lang/StringUTF16", "indexOfChar", "([BIII)I"⟩ : MethodName) (head1 (Jvm.Cond.code (⟨"java/lang/StringUTF16", "indexOfChar", "([BIII)I"⟩ : MethodName) jdk_52_method_47_code 4 (some .int) :: ws) ({ frames := 3, cells := 0, slots := 0, locals := 43 } : Room)) (fun aa_ UU_ => aa_ = #[(.ref ba), (.int (46 : Int32)), (.int fi), (.int zr)] ∧ Z.Warmed39 UU_.vm ∧ UU_.heap = h0) (fun _ _ _ _ _ => True) (fun _ UU_ oo_ UV_ => ∃ vv_ LL_, oo_ = .returned vv_ ∧ QUX Z ba kb zb cs fi aa zr i_COMPACT_STRINGS v_SIOOBE_FORMATTER h0 n0 vv_ UV_.heap LL_ ∧ FrameEnd UU_ oo_ UV_ LL_ ({ frames := 3, cells := 0, slots := 0, locals := 43 } : Room).cells ({ frames := 3, cells := 0, slots := 0, locals := 43 } : Room).slots) := by
  refine MetFree.of_bodySF (plainFor_of_name pn_1) hisR ?_
  intro p e s m args below meth c s₁ Bd hml0 hP hK
  obtain ⟨rfl, hZ, hh⟩ := hP
  have hx := Bd.exec
  have hby := Bd.bytes
  have hlk := BodyLoose.notSynchronized Bd
  have hml : c.maxLocals = 4 := hml0
  have hown : s.vm.findClass "java/lang/StringUTF16" = some m.cls := findClass_of_methodNamed Bd.named
  have hnm := (name_of_methodNamed Bd.named Bd.method).1
  have X0 : Stand p l e ({ frames := 3, cells := 0, slots := 0, locals := 43 } : Room) s m #[(.ref ba), (.int (46 : Int32)), (.int fi), (.int zr)] below meth c s₁ [] 0 0 := Stand.of_body Bd
  have e0 : s₁.heap = h0 := by rw [← hh, Bd.state]; rfl
  have N0 := Fr.nil n0
  suffices hOW : OW p e below s (QUX Z ba kb zb cs fi aa zr i_COMPACT_STRINGS v_SIOOBE_FORMATTER h0 n0) 0 0 (s₁.setTop (mkF m 0 #[.val (.ref ba), .val (.int (46 : Int32)), .val (.int fi), .val (.int zr)] [])) by
    obtain ⟨oq1_, oq2_, oq3_, oq4_⟩ := hOW
    exact ⟨oq1_, oq2_, castTop (ef_UX m ba (46 : Int32) fi zr) oq3_, oq4_⟩
  have hS' := hS
  obtain ⟨Si_COMPACT_STRINGS, Sv_SIOOBE_FORMATTER, Rv_SIOOBE_FORMATTER, S__assertionsDisabled, S_HI_BYTE_SHIFT, S_LO_BYTE_SHIFT, Pi_COMPACT_STRINGS⟩ := hS'
  refine OW.st (B := s₁.setTop (mkF m 3 #[.val (.ref ba), .val (.int (46 : Int32)), .val (.int fi), .val (.int zr)] [(.ref ba), (.int zr), (.int fi)])) (fun _ kk_ => XS.iloadN X0.here hx rfl (hb hby d26_0) rfl (XS.iloadN X0.here hx rfl (hb hby d26_1) rfl (XS.aloadN X0.here hx rfl (hb hby d26_2) rfl rfl kk_))) ?_
  obtain ⟨_, _, ⟨T95, L95, k95, n95⟩, -, X95, ⟨Lc95, hQ95, l95, y95, z95⟩, st95⟩ := Jvm.LawKit.callS X0 hx (y := (⟨"java/lang/StringUTF16", "checkBoundsBeginEnd", "(II[B)V"⟩ : MethodName)) hown (mvT hZ (w_117 hw)) (mvT hZ (w_118 hw)) (mvT hZ (w_77 hw)) (mvT hZ (w_119 hw)) (by decide) (backOf (W := 0) (rmUB l Z a0 hw [] ba kb zb cs fi aa zr i_COMPACT_STRINGS v_SIOOBE_FORMATTER h0 n0 O0 B hzb hlen hmax hfi hle hS) hZ (w_119 hw) (w_77 hw) (by decide) (by decide)) (g := (mkF m 3 #[.val (.ref ba), .val (.int (46 : Int32)), .val (.int fi), .val (.int zr)] [(.ref ba), (.int zr), (.int fi)])) rfl (by rw [hml]; rfl) (argsL := [(.int fi), (.int zr), (.ref ba)]) (rest := []) (lenOf pd_15 rfl) rfl (by show 2 * 0 + _ ≤ _; exact Nat.le_of_eq rfl) (hb hby d26_3) (fun _ _ => ⟨rfl, e0, (by decide : 0 + 0 ≤ _), (by decide : 0 + 0 ≤ _)⟩)
  dsimp only [Pt.U, Pt.locs, Pt.cells, Pt.slots] at X95 l95 y95 z95 st95 hQ95
  subst l95 y95 z95
  obtain ⟨rfl, Nq95, e95⟩ := hQ95
  have N95 := Fr.app N0 Nq95
  refine OW.st (B := T95.setTop (mkF m 10 #[.val (.ref ba), .val (.int (46 : Int32)), .val (.int fi), .val (.int zr)] [(.int zr), (.int fi), (.int (46 : Int32)), (.ref ba)])) (fun _ kk_ => st95 _ (XS.aloadN X95.here hx rfl (hb hby d26_6) rfl rfl (XS.iloadN X95.here hx rfl (hb hby d26_7) rfl (XS.iloadN X95.here hx rfl (hb hby d26_8) rfl (XS.iloadN X95.here hx rfl (hb hby d26_9) rfl kk_))))) ?_
  obtain ⟨_, _, ⟨T96, L96, k96, n96⟩, -, X96, ⟨Lc96, hQ96, l96, y96, z96⟩, st96⟩ := Jvm.LawKit.callS X95 hx (y := (⟨"java/lang/StringUTF16", "indexOfCharUnsafe", "([BIII)I"⟩ : MethodName)) hown (mvT hZ (w_131 hw)) (mvT hZ (w_132 hw)) (mvT hZ (w_77 hw)) (mvT hZ (w_133 hw)) (by decide) (backOf (W := 0) (rmUS l Z a0 hw [] ba kb zb cs fi aa zr i_COMPACT_STRINGS v_SIOOBE_FORMATTER h0 n0 O0 B hzb hlen hmax hch hfi (by omega) hS) hZ (w_133 hw) (w_77 hw) (by decide) (by decide)) (g := (mkF m 10 #[.val (.ref ba), .val (.int (46 : Int32)), .val (.int fi), .val (.int zr)] [(.int zr), (.int fi), (.int (46 : Int32)), (.ref ba)])) rfl (by rw [hml]; rfl) (argsL := [(.ref ba), (.int (46 : Int32)), (.int fi), (.int zr)]) (rest := []) (lenOf pd_11 rfl) rfl (by show 2 * 0 + _ ≤ _; exact Nat.le_of_eq rfl) (hb hby d26_10) (fun _ _ => ⟨rfl, e95, (by decide : 0 + 0 ≤ _), (by decide : 0 + 0 ≤ _)⟩)
  dsimp only [Pt.U, Pt.locs, Pt.cells, Pt.slots] at X96 l96 y96 z96 st96 hQ96
  subst l96 y96 z96
  obtain ⟨j96, rfl, Nq96, e96, hj96⟩ := hQ96
  have N96 := Fr.app N95 Nq96
  refine OW.st (B := T96.setTop (mkF m 13 #[.val (.ref ba), .val (.int (46 : Int32)), .val (.int fi), .val (.int zr)] [(.int j96)])) (fun _ kk_ => st96 _ kk_) ?_
  exact OW.ret X96 hx hlk (i := .ireturn) Bd.returns rfl (Or.inl ⟨rfl, Or.inl rfl, _, rfl⟩) (hb hby d26_13) e96 (by decide) (by decide) ⟨_, rfl, N96, rfl, hj96⟩
theorem ef_UI (m : MethodId) (x0 : Addr) (x1 : Int32) (x2 : Int32) (x3 : Int32) : entryFrame m #[(.ref x0), (.int x1), (.int x2), (.int x3)] 4 = mkF m 0 #[.val (.ref x0), .val (.int x1), .val (.int x2), .val (.int x3)] [] := by first | (simp [entryFrame, mkF, argsToLocals, Value.category]; done) | rfl
def QUI (Z : State) (ba : Addr) (kb : ClassId) (zb : Int32) (cs : List Int32) (fi : Int32) (aa : Nat) (zr : Int32) (i_COMPACT_STRINGS : Int32) (v_SIOOBE_FORMATTER : Value) (h0 : Heap) (n0 : Nat) (v : Option Value) (h : Heap) (L : List Loc) : Prop := ∃ j : Int32, v = some (.int j) ∧ Fr n0 L ∧ h = h0 ∧ OwnIx cs aa j
set_option maxRecDepth 65536 in
set_option maxHeartbeats 40000000 in
theorem rmUI (l : Launch) (Z : State) (a0 : Array Value) (hw : ∀ d ∈ tables_1, d.before a0 Z = true) (ws : List Jvm.Cond) (ba : Addr) (kb : ClassId) (zb : Int32) (cs : List Int32) (fi : Int32) (aa : Nat) (zr : Int32) (i_COMPACT_STRINGS : Int32) (v_SIOOBE_FORMATTER : Value) (h0 : Heap) (n0 : Nat) (O0 : Old Z n0 h0) (B : Arv Z h0 ba kb .byte zb (OwnU cs) (.int (0 : Int32))) (hzb : zb.toInt = ((2 * cs.length : Nat) : Int)) (hlen : zr.toInt = (cs.length : Int)) (hmax : cs.length ≤ 10) (hch : OwnChs cs) (hfi : fi.toInt = (aa : Int)) (hS : OwnS Z i_COMPACT_STRINGS v_SIOOBE_FORMATTER) :
    MetFree l (⟨"java/lang/StringUTF16", "indexOf", "([BIII)I"⟩ : MethodName) (head1 (Jvm.Cond.code (⟨"java/lang/StringUTF16", "indexOf", "([BIII)I"⟩ : MethodName) jdk_52_method_40_code 4 (some .int) :: ws) ({ frames := 4, cells := 0, slots := 0, locals := 58 } : Room)) (fun aa_ UU_ => aa_ = #[(.ref ba), (.int (46 : Int32)), (.int fi), (.int zr)] ∧ Z.Warmed39 UU_.vm ∧ UU_.heap = h0) (fun _ _ _ _ _ => True) (fun _ UU_ oo_ UV_ => ∃ vv_ LL_, oo_ = .returned vv_ ∧ QUI Z ba kb zb cs fi aa zr i_COMPACT_STRINGS v_SIOOBE_FORMATTER h0 n0 vv_ UV_.heap LL_ ∧ FrameEnd UU_ oo_ UV_ LL_ ({ frames := 4, cells := 0, slots := 0, locals := 58 } : Room).cells ({ frames := 4, cells := 0, slots := 0, locals := 58 } : Room).slots) := by
  refine MetFree.of_bodySF (plainFor_of_name pn_1) hisR ?_
  intro p e s m args below meth c s₁ Bd hml0 hP hK
  obtain ⟨rfl, hZ, hh⟩ := hP
  have hx := Bd.exec
  have hby := Bd.bytes
  have hlk := BodyLoose.notSynchronized Bd
  have hml : c.maxLocals = 4 := hml0
  have hown : s.vm.findClass "java/lang/StringUTF16" = some m.cls := findClass_of_methodNamed Bd.named
  have hnm := (name_of_methodNamed Bd.named Bd.method).1
  have X0 : Stand p l e ({ frames := 4, cells := 0, slots := 0, locals := 58 } : Room) s m #[(.ref ba), (.int (46 : Int32)), (.int fi), (.int zr)] below meth c s₁ [] 0 0 := Stand.of_body Bd
  have e0 : s₁.heap = h0 := by rw [← hh, Bd.state]; rfl
  have N0 := Fr.nil n0
  suffices hOW : OW p e below s (QUI Z ba kb zb cs fi aa zr i_COMPACT_STRINGS v_SIOOBE_FORMATTER h0 n0) 0 0 (s₁.setTop (mkF m 0 #[.val (.ref ba), .val (.int (46 : Int32)), .val (.int fi), .val (.int zr)] [])) by
    obtain ⟨oq1_, oq2_, oq3_, oq4_⟩ := hOW
    exact ⟨oq1_, oq2_, castTop (ef_UI m ba (46 : Int32) fi zr) oq3_, oq4_⟩
  have hS' := hS
  obtain ⟨Si_COMPACT_STRINGS, Sv_SIOOBE_FORMATTER, Rv_SIOOBE_FORMATTER, S__assertionsDisabled, S_HI_BYTE_SHIFT, S_LO_BYTE_SHIFT, Pi_COMPACT_STRINGS⟩ := hS'
  refine OW.st (B := s₁.setTop (mkF m 2 #[.val (.ref ba), .val (.int (46 : Int32)), .val (.int fi), .val (.int zr)] [(.int (0 : Int32)), (.int fi)])) (fun _ kk_ => XS.iloadN X0.here hx rfl (hb hby d25_0) rfl (XS.iconst X0.here hx rfl (hb hby d25_1) kk_)) ?_
  obtain ⟨_, _, ⟨T97, L97, k97, n97⟩, -, X97, ⟨Lc97, hQ97, l97, y97, z97⟩, st97⟩ := Jvm.LawKit.callS X0 hx (y := (⟨"java/lang/Math", "max", "(II)I"⟩ : MethodName)) hown (mvT hZ (w_111 hw)) (mvT hZ (w_69 hw)) (mvT hZ (w_70 hw)) (mvT hZ (w_71 hw)) (by decide) (backOf (W := 0) (rmMAX l Z a0 hw [] fi (0 : Int32) h0 n0 O0 (own_nneg hfi)) hZ (w_71 hw) (w_70 hw) (by decide) (by decide)) (g := (mkF m 2 #[.val (.ref ba), .val (.int (46 : Int32)), .val (.int fi), .val (.int zr)] [(.int (0 : Int32)), (.int fi)])) rfl (by rw [hml]; rfl) (argsL := [(.int fi), (.int (0 : Int32))]) (rest := []) (lenOf pd_10 rfl) rfl (by show 2 * 0 + _ ≤ _; exact Nat.le_of_eq rfl) (hb hby d25_2) (fun _ _ => ⟨rfl, e0, (by decide : 0 + 0 ≤ _), (by decide : 0 + 0 ≤ _)⟩)
  dsimp only [Pt.U, Pt.locs, Pt.cells, Pt.slots] at X97 l97 y97 z97 st97 hQ97
  subst l97 y97 z97
  obtain ⟨rfl, Nq97, e97⟩ := hQ97
  have N97 := Fr.app N0 Nq97
  refine OW.st (B := T97.setTop (mkF m 8 #[.val (.ref ba), .val (.int (46 : Int32)), .val (.int fi), .val (.int zr)] [(.ref ba), (.int zr)])) (fun _ kk_ => st97 _ (XS.istoreN X97.here hx rfl (hb hby d25_5) rfl (l' := #[.val (.ref ba), .val (.int (46 : Int32)), .val (.int fi), .val (.int zr)]) rfl (XS.iloadN X97.here hx rfl (hb hby d25_6) rfl (XS.aloadN X97.here hx rfl (hb hby d25_7) rfl rfl kk_)))) ?_
  obtain ⟨cl98, Ar98, q98, S98, Ng98, Hs98, G98⟩ := id B
  refine OW.st (X97.arraylength hx (by rw [e97]; exact Ar98.1) (State.isArrayOf_alike hZ.alike Ar98.2.1) (g := (mkF m 8 #[.val (.ref ba), .val (.int (46 : Int32)), .val (.int fi), .val (.int zr)] [(.ref ba), (.int zr)])) rfl rfl (hb hby d25_8)) ?_
  rw [len_of S98 Ng98]
  show OW p e below s (QUI Z ba kb zb cs fi aa zr i_COMPACT_STRINGS v_SIOOBE_FORMATTER h0 n0) 0 0 (T97.setTop (mkF m 9 #[.val (.ref ba), .val (.int (46 : Int32)), .val (.int fi), .val (.int zr)] [(.int zb), (.int zr)]))
  refine OW.st (B := T97.setTop (mkF m 11 #[.val (.ref ba), .val (.int (46 : Int32)), .val (.int fi), .val (.int zr)] [(.int (zb >>> ((1 : Int32) &&& 31))), (.int zr)])) (fun _ kk_ => XS.iconst X97.here hx rfl (hb hby d25_9) (XS.ishr X97.here hx rfl (hb hby d25_10) rfl kk_)) ?_
  obtain ⟨_, _, ⟨T99, L99, k99, n99⟩, -, X99, ⟨Lc99, hQ99, l99, y99, z99⟩, st99⟩ := Jvm.LawKit.callS X97 hx (y := (⟨"java/lang/Math", "min", "(II)I"⟩ : MethodName)) hown (mvT hZ (w_112 hw)) (mvT hZ (w_73 hw)) (mvT hZ (w_70 hw)) (mvT hZ (w_74 hw)) (by decide) (backOf (W := 0) (rmMIN l Z a0 hw [] zr (zb >>> ((1 : Int32) &&& 31)) h0 n0 O0 (own_nltI (own_half hzb (by omega)) hlen (Nat.le_refl _))) hZ (w_74 hw) (w_70 hw) (by decide) (by decide)) (g := (mkF m 11 #[.val (.ref ba), .val (.int (46 : Int32)), .val (.int fi), .val (.int zr)] [(.int (zb >>> ((1 : Int32) &&& 31))), (.int zr)])) rfl (by rw [hml]; rfl) (argsL := [(.int zr), (.int (zb >>> ((1 : Int32) &&& 31)))]) (rest := []) (lenOf pd_10 rfl) rfl (by show 2 * 0 + _ ≤ _; exact Nat.le_of_eq rfl) (hb hby d25_11) (fun _ _ => ⟨rfl, e97, (by decide : 0 + 0 ≤ _), (by decide : 0 + 0 ≤ _)⟩)
  dsimp only [Pt.U, Pt.locs, Pt.cells, Pt.slots] at X99 l99 y99 z99 st99 hQ99
  subst l99 y99 z99
  obtain ⟨rfl, Nq99, e99⟩ := hQ99
  have N99 := Fr.app N97 Nq99
  refine OW.st (B := T99.setTop (mkF m 17 #[.val (.ref ba), .val (.int (46 : Int32)), .val (.int fi), .val (.int zr)] [(.int zr), (.int fi)])) (fun _ kk_ => st99 _ (XS.istoreN X99.here hx rfl (hb hby d25_14) rfl (l' := #[.val (.ref ba), .val (.int (46 : Int32)), .val (.int fi), .val (.int zr)]) rfl (XS.iloadN X99.here hx rfl (hb hby d25_15) rfl (XS.iloadN X99.here hx rfl (hb hby d25_16) rfl kk_)))) ?_
  by_cases hc100 : fi < zr
  · have hlt : aa < cs.length := by rw [Int32.lt_iff_toInt_lt, hfi, hlen] at hc100; omega
    refine OW.st (B := T99.setTop (mkF m 32 #[.val (.ref ba), .val (.int (46 : Int32)), .val (.int fi), .val (.int zr)] [(.int zr), (.int fi), (.int (46 : Int32)), (.ref ba)])) (fun _ kk_ => XS.icmpYes X99.here hx rfl (pc0 := 17) (pc' := 22) rfl (hb hby d25_17) rfl (tlt hc100).1 (by decide) (by decide) (XS.iloadN X99.here hx rfl (hb hby d25_22) rfl ((X99.ldcInt hx hown (mvT hZ (w_113 hw)) (g := (mkF m 23 #[.val (.ref ba), .val (.int (46 : Int32)), .val (.int fi), .val (.int zr)] [(.int (46 : Int32))])) rfl (hb hby d25_23)) _ (XS.icmpNo X99.here hx rfl (hb hby d25_25) rfl (tlt (by decide)).2.1 (XS.aloadN X99.here hx rfl (hb hby d25_28) rfl rfl (XS.iloadN X99.here hx rfl (hb hby d25_29) rfl (XS.iloadN X99.here hx rfl (hb hby d25_30) rfl (XS.iloadN X99.here hx rfl (hb hby d25_31) rfl kk_)))))))) ?_
    obtain ⟨_, _, ⟨T101, L101, k101, n101⟩, -, X101, ⟨Lc101, hQ101, l101, y101, z101⟩, st101⟩ := Jvm.LawKit.callS X99 hx (y := (⟨"java/lang/StringUTF16", "indexOfChar", "([BIII)I"⟩ : MethodName)) hown (mvT hZ (w_114 hw)) (mvT hZ (w_115 hw)) (mvT hZ (w_77 hw)) (mvT hZ (w_116 hw)) (by decide) (backOf (W := 0) (rmUX l Z a0 hw [] ba kb zb cs fi aa zr i_COMPACT_STRINGS v_SIOOBE_FORMATTER h0 n0 O0 B hzb hlen hmax hch hfi (by omega) hS) hZ (w_116 hw) (w_77 hw) (by decide) (by decide)) (g := (mkF m 32 #[.val (.ref ba), .val (.int (46 : Int32)), .val (.int fi), .val (.int zr)] [(.int zr), (.int fi), (.int (46 : Int32)), (.ref ba)])) rfl (by rw [hml]; rfl) (argsL := [(.ref ba), (.int (46 : Int32)), (.int fi), (.int zr)]) (rest := []) (lenOf pd_11 rfl) rfl (by show 2 * 0 + _ ≤ _; exact Nat.le_of_eq rfl) (hb hby d25_32) (fun _ _ => ⟨rfl, e99, (by decide : 0 + 0 ≤ _), (by decide : 0 + 0 ≤ _)⟩)
    dsimp only [Pt.U, Pt.locs, Pt.cells, Pt.slots] at X101 l101 y101 z101 st101 hQ101
    subst l101 y101 z101
    obtain ⟨j101, rfl, Nq101, e101, hj101⟩ := hQ101
    have N101 := Fr.app N99 Nq101
    refine OW.st (B := T101.setTop (mkF m 35 #[.val (.ref ba), .val (.int (46 : Int32)), .val (.int fi), .val (.int zr)] [(.int j101)])) (fun _ kk_ => st101 _ kk_) ?_
    exact OW.ret X101 hx hlk (i := .ireturn) Bd.returns rfl (Or.inl ⟨rfl, Or.inl rfl, _, rfl⟩) (hb hby d25_35) e101 (by decide) (by decide) ⟨_, rfl, N101, rfl, hj101⟩
  · have hge : cs.length ≤ aa := by rw [Int32.lt_iff_toInt_lt, hfi, hlen] at hc100; omega
    refine OW.st (B := T99.setTop (mkF m 21 #[.val (.ref ba), .val (.int (46 : Int32)), .val (.int fi), .val (.int zr)] [(.int (-1 : Int32))])) (fun _ kk_ => XS.icmpNo X99.here hx rfl (hb hby d25_17) rfl (flt hc100).1 (XS.iconst X99.here hx rfl (hb hby d25_20) kk_)) ?_
    exact OW.ret X99 hx hlk (i := .ireturn) Bd.returns rfl (Or.inl ⟨rfl, Or.inl rfl, _, rfl⟩) (hb hby d25_21) e99 (by decide) (by decide) ⟨_, rfl, N99, rfl, OwnIx.no (fun j h1 h2 => absurd h2 (by omega))⟩
theorem ef_SX0 (m : MethodId) (x0 : Addr) (x1 : Int32) (x2 : Int32) : entryFrame m #[(.ref x0), (.int x1), (.int x2)] 3 = mkF m 0 #[.val (.ref x0), .val (.int x1), .val (.int x2)] [] := by first | (simp [entryFrame, mkF, argsToLocals, Value.category]; done) | rfl
def QSX0 (Z : State) (b : Addr) (ba : Addr) (kb : ClassId) (zb : Int32) (cs : List Int32) (fi : Int32) (aa : Nat) (zr : Int32) (i_COMPACT_STRINGS : Int32) (v_SIOOBE_FORMATTER : Value) (h0 : Heap) (n0 : Nat) (v : Option Value) (h : Heap) (L : List Loc) : Prop := ∃ j : Int32, v = some (.int j) ∧ Fr n0 L ∧ h = h0 ∧ OwnIx cs aa j
set_option maxRecDepth 65536 in
set_option maxHeartbeats 40000000 in
theorem rmSX0 (l : Launch) (Z : State) (a0 : Array Value) (hw : ∀ d ∈ tables_1, d.before a0 Z = true) (ws : List Jvm.Cond) (b : Addr) (ba : Addr) (kb : ClassId) (zb : Int32) (cs : List Int32) (fi : Int32) (aa : Nat) (zr : Int32) (i_COMPACT_STRINGS : Int32) (v_SIOOBE_FORMATTER : Value) (h0 : Heap) (n0 : Nat) (O0 : Old Z n0 h0) (E : Exa Z h0 b "java/lang/String") (F1 : Fld Z h0 b "java/lang/String" "value" "[B" (.ref ba)) (F2 : Fld Z h0 b "java/lang/String" "coder" "B" (.int (0 : Int32))) (B : Arv Z h0 ba kb .byte zb (OwnL cs) (.int (0 : Int32))) (hzb : zb.toInt = ((cs.length : Nat) : Int)) (hr : (zb >>> ((0 : Int32) &&& 31)) = zr) (hlen : zr.toInt = (cs.length : Int)) (hmax : cs.length ≤ 10) (hch : OwnChs cs) (hlat : OwnLat cs) (hfi : fi.toInt = (aa : Int)) (hS : OwnS Z i_COMPACT_STRINGS v_SIOOBE_FORMATTER) :
    MetFree l (⟨"java/lang/String", "indexOf", "(II)I"⟩ : MethodName) (head1 (Jvm.Cond.code (⟨"java/lang/String", "indexOf", "(II)I"⟩ : MethodName) jdk_42_method_80_code 3 (some .int) :: ws) ({ frames := 2, cells := 0, slots := 0, locals := 32 } : Room)) (fun aa_ UU_ => aa_ = #[(.ref b), (.int (46 : Int32)), (.int fi)] ∧ Z.Warmed39 UU_.vm ∧ UU_.heap = h0) (fun _ _ _ _ _ => True) (fun _ UU_ oo_ UV_ => ∃ vv_ LL_, oo_ = .returned vv_ ∧ QSX0 Z b ba kb zb cs fi aa zr i_COMPACT_STRINGS v_SIOOBE_FORMATTER h0 n0 vv_ UV_.heap LL_ ∧ FrameEnd UU_ oo_ UV_ LL_ ({ frames := 2, cells := 0, slots := 0, locals := 32 } : Room).cells ({ frames := 2, cells := 0, slots := 0, locals := 32 } : Room).slots) := by
  refine MetFree.of_bodySF (plainFor_of_name pn_0) hisR ?_
  intro p e s m args below meth c s₁ Bd hml0 hP hK
  obtain ⟨rfl, hZ, hh⟩ := hP
  have hx := Bd.exec
  have hby := Bd.bytes
  have hlk := BodyLoose.notSynchronized Bd
  have hml : c.maxLocals = 3 := hml0
  have hown : s.vm.findClass "java/lang/String" = some m.cls := findClass_of_methodNamed Bd.named
  have hnm := (name_of_methodNamed Bd.named Bd.method).1
  have X0 : Stand p l e ({ frames := 2, cells := 0, slots := 0, locals := 32 } : Room) s m #[(.ref b), (.int (46 : Int32)), (.int fi)] below meth c s₁ [] 0 0 := Stand.of_body Bd
  have e0 : s₁.heap = h0 := by rw [← hh, Bd.state]; rfl
  have N0 := Fr.nil n0
  suffices hOW : OW p e below s (QSX0 Z b ba kb zb cs fi aa zr i_COMPACT_STRINGS v_SIOOBE_FORMATTER h0 n0) 0 0 (s₁.setTop (mkF m 0 #[.val (.ref b), .val (.int (46 : Int32)), .val (.int fi)] [])) by
    obtain ⟨oq1_, oq2_, oq3_, oq4_⟩ := hOW
    exact ⟨oq1_, oq2_, castTop (ef_SX0 m b (46 : Int32) fi) oq3_, oq4_⟩
  have hS' := hS
  obtain ⟨Si_COMPACT_STRINGS, Sv_SIOOBE_FORMATTER, Rv_SIOOBE_FORMATTER, S__assertionsDisabled, S_HI_BYTE_SHIFT, S_LO_BYTE_SHIFT, Pi_COMPACT_STRINGS⟩ := hS'
  refine OW.st (B := s₁.setTop (mkF m 1 #[.val (.ref b), .val (.int (46 : Int32)), .val (.int fi)] [(.ref b)])) (fun _ kk_ => XS.aloadN X0.here hx rfl (hb hby d8_0) rfl rfl kk_) ?_
  obtain ⟨cq102, kq102, q102a, q102b, q102c⟩ := isOf hZ e0 E
  obtain ⟨_, _, ⟨T102, L102, k102, n102⟩, -, X102, ⟨Lc102, hQ102, l102, y102, z102⟩, st102⟩ := X0.virtualBack hx (y := (⟨"java/lang/String", "isLatin1", "()Z"⟩ : MethodName)) (z := (⟨"java/lang/String", "isLatin1", "()Z"⟩ : MethodName)) hown (mvT hZ (w_45 hw)) (mvT hZ (w_46 hw)) (notFace_of_selects (args := #[]) (mvT hZ (w_48 hw))) (mvT hZ (w_48 hw)) (mvT hZ (w_47 hw)) (by decide) (backOf (W := 0) (rmIL0 l Z a0 hw [] b i_COMPACT_STRINGS v_SIOOBE_FORMATTER h0 n0 O0 F2 hS) hZ (w_49 hw) (w_9 hw) (by decide) (by decide)) q102a q102c (g := (mkF m 1 #[.val (.ref b), .val (.int (46 : Int32)), .val (.int fi)] [(.ref b)])) rfl (by rw [hml]; rfl) (Steps.refl _) (argsL := []) (rest := []) (lenOf pd_16 rfl) rfl (by show 2 * 0 + _ ≤ _; exact Nat.le_of_eq rfl) (hb hby d8_1) (fun _ _ => ⟨rfl, e0, (by decide : 0 + 0 ≤ _), (by decide : 0 + 0 ≤ _)⟩)
  dsimp only [Pt.U, Pt.locs, Pt.cells, Pt.slots] at X102 l102 y102 z102 st102 hQ102
  subst l102 y102 z102
  obtain ⟨rfl, Nq102, e102⟩ := hQ102
  have N102 := Fr.app N0 Nq102
  refine OW.tr (B := T102.setTop (mkF m 4 #[.val (.ref b), .val (.int (46 : Int32)), .val (.int fi)] [(.int (1 : Int32))])) (st102) ?_
  refine OW.st (B := T102.setTop (mkF m 8 #[.val (.ref b), .val (.int (46 : Int32)), .val (.int fi)] [(.ref b)])) (fun _ kk_ => XS.ifNo X102.here hx rfl (hb hby d8_4) rfl ((if0 _ _).trans (feq (by decide)).1) (XS.aloadN X102.here hx rfl (hb hby d8_7) rfl rfl kk_)) ?_
  obtain ⟨T103, X103, e103, st103⟩ := getF X102 hx hZ hown (host := "") (Or.inl (w_26 hw)) Via.refl e102 F1 (g := (mkF m 8 #[.val (.ref b), .val (.int (46 : Int32)), .val (.int fi)] [(.ref b)])) rfl rfl (hb hby d8_8)
  refine OW.st (B := T103.setTop (mkF m 14 #[.val (.ref b), .val (.int (46 : Int32)), .val (.int fi)] [(.ref b), (.int fi), (.int (46 : Int32)), (.ref ba)])) (fun _ kk_ => st103 _ (XS.iloadN X103.here hx rfl (hb hby d8_11) rfl (XS.iloadN X103.here hx rfl (hb hby d8_12) rfl (XS.aloadN X103.here hx rfl (hb hby d8_13) rfl rfl kk_)))) ?_
  obtain ⟨cq104, kq104, q104a, q104b, q104c⟩ := isOf hZ e103 E
  obtain ⟨_, _, ⟨T104, L104, k104, n104⟩, -, X104, ⟨Lc104, hQ104, l104, y104, z104⟩, st104⟩ := X103.virtualBack hx (y := (⟨"java/lang/String", "length", "()I"⟩ : MethodName)) (z := (⟨"java/lang/String", "length", "()I"⟩ : MethodName)) hown (mvT hZ (w_51 hw)) (mvT hZ (w_52 hw)) (notFace_of_selects (args := #[]) (mvT hZ (w_54 hw))) (mvT hZ (w_54 hw)) (mvT hZ (w_53 hw)) (by decide) (backOf (W := 3) (rmLE0 l Z a0 hw [] b ba kb zb cs zr i_COMPACT_STRINGS v_SIOOBE_FORMATTER h0 n0 O0 E F1 F2 B hr hS) hZ (w_55 hw) (w_9 hw) (by decide) (by decide)) q104a q104c (g := (mkF m 14 #[.val (.ref b), .val (.int (46 : Int32)), .val (.int fi)] [(.ref b), (.int fi), (.int (46 : Int32)), (.ref ba)])) rfl (by rw [hml]; rfl) (Steps.refl _) (argsL := []) (rest := [(.int fi), (.int (46 : Int32)), (.ref ba)]) (lenOf pd_17 rfl) rfl (by show 2 * 0 + _ ≤ _; exact Nat.le_of_eq rfl) (hb hby d8_14) (fun _ _ => ⟨rfl, e103, (by decide : 0 + 0 ≤ _), (by decide : 0 + 0 ≤ _)⟩)
  dsimp only [Pt.U, Pt.locs, Pt.cells, Pt.slots] at X104 l104 y104 z104 st104 hQ104
  subst l104 y104 z104
  obtain ⟨rfl, Nq104, e104⟩ := hQ104
  have N104 := Fr.app N102 Nq104
  refine OW.tr (B := T104.setTop (mkF m 17 #[.val (.ref b), .val (.int (46 : Int32)), .val (.int fi)] [(.int zr), (.int fi), (.int (46 : Int32)), (.ref ba)])) (st104) ?_
  obtain ⟨_, _, ⟨T105, L105, k105, n105⟩, -, X105, ⟨Lc105, hQ105, l105, y105, z105⟩, st105⟩ := Jvm.LawKit.callS X104 hx (y := (⟨"java/lang/StringLatin1", "indexOf", "([BIII)I"⟩ : MethodName)) hown (mvT hZ (w_61 hw)) (mvT hZ (w_62 hw)) (mvT hZ (w_63 hw)) (mvT hZ (w_64 hw)) (by decide) (backOf (W := 0) (rmLI l Z a0 hw [] ba kb zb cs fi aa zr h0 n0 O0 B hzb hlen hmax hch hlat hfi) hZ (w_64 hw) (w_63 hw) (by decide) (by decide)) (g := (mkF m 17 #[.val (.ref b), .val (.int (46 : Int32)), .val (.int fi)] [(.int zr), (.int fi), (.int (46 : Int32)), (.ref ba)])) rfl (by rw [hml]; rfl) (argsL := [(.ref ba), (.int (46 : Int32)), (.int fi), (.int zr)]) (rest := []) (lenOf pd_11 rfl) rfl (by show 2 * 0 + _ ≤ _; exact Nat.le_of_eq rfl) (hb hby d8_17) (fun _ _ => ⟨rfl, e104, (by decide : 0 + 0 ≤ _), (by decide : 0 + 0 ≤ _)⟩)
  dsimp only [Pt.U, Pt.locs, Pt.cells, Pt.slots] at X105 l105 y105 z105 st105 hQ105
  subst l105 y105 z105
  obtain ⟨j105, rfl, Nq105, e105, hj105⟩ := hQ105
  have N105 := Fr.app N104 Nq105
  refine OW.st (B := T105.setTop (mkF m 36 #[.val (.ref b), .val (.int (46 : Int32)), .val (.int fi)] [(.int j105)])) (fun _ kk_ => st105 _ (XS.goto X105.here hx rfl (pc0 := 20) (pc' := 36) rfl (hb hby d8_20) (by decide) (by decide) kk_)) ?_
  exact OW.ret X105 hx hlk (i := .ireturn) Bd.returns rfl (Or.inl ⟨rfl, Or.inl rfl, _, rfl⟩) (hb hby d8_36) e105 (by decide) (by decide) ⟨_, rfl, N105, rfl, hj105⟩
theorem ef_SY0 (m : MethodId) (x0 : Addr) (x1 : Int32) : entryFrame m #[(.ref x0), (.int x1)] 2 = mkF m 0 #[.val (.ref x0), .val (.int x1)] [] := by first | (simp [entryFrame, mkF, argsToLocals, Value.category]; done) | rfl
def QSY0 (Z : State) (b : Addr) (ba : Addr) (kb : ClassId) (zb : Int32) (cs : List Int32) (zr : Int32) (i_COMPACT_STRINGS : Int32) (v_SIOOBE_FORMATTER : Value) (h0 : Heap) (n0 : Nat) (v : Option Value) (h : Heap) (L : List Loc) : Prop := ∃ j : Int32, v = some (.int j) ∧ Fr n0 L ∧ h = h0 ∧ OwnIx cs 0 j
set_option maxRecDepth 65536 in
set_option maxHeartbeats 40000000 in
theorem rmSY0 (l : Launch) (Z : State) (a0 : Array Value) (hw : ∀ d ∈ tables_1, d.before a0 Z = true) (ws : List Jvm.Cond) (b : Addr) (ba : Addr) (kb : ClassId) (zb : Int32) (cs : List Int32) (zr : Int32) (i_COMPACT_STRINGS : Int32) (v_SIOOBE_FORMATTER : Value) (h0 : Heap) (n0 : Nat) (O0 : Old Z n0 h0) (E : Exa Z h0 b "java/lang/String") (F1 : Fld Z h0 b "java/lang/String" "value" "[B" (.ref ba)) (F2 : Fld Z h0 b "java/lang/String" "coder" "B" (.int (0 : Int32))) (B : Arv Z h0 ba kb .byte zb (OwnL cs) (.int (0 : Int32))) (hzb : zb.toInt = ((cs.length : Nat) : Int)) (hr : (zb >>> ((0 : Int32) &&& 31)) = zr) (hlen : zr.toInt = (cs.length : Int)) (hmax : cs.length ≤ 10) (hch : OwnChs cs) (hlat : OwnLat cs) (hS : OwnS Z i_COMPACT_STRINGS v_SIOOBE_FORMATTER) :
    MetFree l (⟨"java/lang/String", "indexOf", "(I)I"⟩ : MethodName) (head1 (Jvm.Cond.code (⟨"java/lang/String", "indexOf", "(I)I"⟩ : MethodName) jdk_42_method_79_code 2 (some .int) :: ws) ({ frames := 3, cells := 0, slots := 0, locals := 46 } : Room)) (fun aa_ UU_ => aa_ = #[(.ref b), (.int (46 : Int32))] ∧ Z.Warmed39 UU_.vm ∧ UU_.heap = h0) (fun _ _ _ _ _ => True) (fun _ UU_ oo_ UV_ => ∃ vv_ LL_, oo_ = .returned vv_ ∧ QSY0 Z b ba kb zb cs zr i_COMPACT_STRINGS v_SIOOBE_FORMATTER h0 n0 vv_ UV_.heap LL_ ∧ FrameEnd UU_ oo_ UV_ LL_ ({ frames := 3, cells := 0, slots := 0, locals := 46 } : Room).cells ({ frames := 3, cells := 0, slots := 0, locals := 46 } : Room).slots) := by
  refine MetFree.of_bodySF (plainFor_of_name pn_0) hisR ?_
  intro p e s m args below meth c s₁ Bd hml0 hP hK
  obtain ⟨rfl, hZ, hh⟩ := hP
  have hx := Bd.exec
  have hby := Bd.bytes
  have hlk := BodyLoose.notSynchronized Bd
  have hml : c.maxLocals = 2 := hml0
  have hown : s.vm.findClass "java/lang/String" = some m.cls := findClass_of_methodNamed Bd.named
  have hnm := (name_of_methodNamed Bd.named Bd.method).1
  have X0 : Stand p l e ({ frames := 3, cells := 0, slots := 0, locals := 46 } : Room) s m #[(.ref b), (.int (46 : Int32))] below meth c s₁ [] 0 0 := Stand.of_body Bd
  have e0 : s₁.heap = h0 := by rw [← hh, Bd.state]; rfl
  have N0 := Fr.nil n0
  suffices hOW : OW p e below s (QSY0 Z b ba kb zb cs zr i_COMPACT_STRINGS v_SIOOBE_FORMATTER h0 n0) 0 0 (s₁.setTop (mkF m 0 #[.val (.ref b), .val (.int (46 : Int32))] [])) by
    obtain ⟨oq1_, oq2_, oq3_, oq4_⟩ := hOW
    exact ⟨oq1_, oq2_, castTop (ef_SY0 m b (46 : Int32)) oq3_, oq4_⟩
  have hS' := hS
  obtain ⟨Si_COMPACT_STRINGS, Sv_SIOOBE_FORMATTER, Rv_SIOOBE_FORMATTER, S__assertionsDisabled, S_HI_BYTE_SHIFT, S_LO_BYTE_SHIFT, Pi_COMPACT_STRINGS⟩ := hS'
  refine OW.st (B := s₁.setTop (mkF m 3 #[.val (.ref b), .val (.int (46 : Int32))] [(.int (0 : Int32)), (.int (46 : Int32)), (.ref b)])) (fun _ kk_ => XS.aloadN X0.here hx rfl (hb hby d7_0) rfl rfl (XS.iloadN X0.here hx rfl (hb hby d7_1) rfl (XS.iconst X0.here hx rfl (hb hby d7_2) kk_))) ?_
  obtain ⟨cq106, kq106, q106a, q106b, q106c⟩ := isOf hZ e0 E
  obtain ⟨_, _, ⟨T106, L106, k106, n106⟩, -, X106, ⟨Lc106, hQ106, l106, y106, z106⟩, st106⟩ := X0.virtualBack hx (y := (⟨"java/lang/String", "indexOf", "(II)I"⟩ : MethodName)) (z := (⟨"java/lang/String", "indexOf", "(II)I"⟩ : MethodName)) hown (mvT hZ (w_40 hw)) (mvT hZ (w_41 hw)) (notFace_of_selects (args := #[]) (mvT hZ (w_43 hw))) (mvT hZ (w_43 hw)) (mvT hZ (w_42 hw)) (by decide) (backOf (W := 0) (rmSX0 l Z a0 hw [] b ba kb zb cs (0 : Int32) 0 zr i_COMPACT_STRINGS v_SIOOBE_FORMATTER h0 n0 O0 E F1 F2 B hzb hr hlen hmax hch hlat rfl hS) hZ (w_44 hw) (w_9 hw) (by decide) (by decide)) q106a q106c (g := (mkF m 3 #[.val (.ref b), .val (.int (46 : Int32))] [(.int (0 : Int32)), (.int (46 : Int32)), (.ref b)])) rfl (by rw [hml]; rfl) (Steps.refl _) (argsL := [(.int (46 : Int32)), (.int (0 : Int32))]) (rest := []) (lenOf pd_10 rfl) rfl (by show 2 * 0 + _ ≤ _; exact Nat.le_of_eq rfl) (hb hby d7_3) (fun _ _ => ⟨rfl, e0, (by decide : 0 + 0 ≤ _), (by decide : 0 + 0 ≤ _)⟩)
  dsimp only [Pt.U, Pt.locs, Pt.cells, Pt.slots] at X106 l106 y106 z106 st106 hQ106
  subst l106 y106 z106
  obtain ⟨j106, rfl, Nq106, e106, hj106⟩ := hQ106
  have N106 := Fr.app N0 Nq106
  refine OW.tr (B := T106.setTop (mkF m 6 #[.val (.ref b), .val (.int (46 : Int32))] [(.int j106)])) (st106) ?_
  exact OW.ret X106 hx hlk (i := .ireturn) Bd.returns rfl (Or.inl ⟨rfl, Or.inl rfl, _, rfl⟩) (hb hby d7_6) e106 (by decide) (by decide) ⟨_, rfl, N106, rfl, hj106⟩
theorem ef_SX1 (m : MethodId) (x0 : Addr) (x1 : Int32) (x2 : Int32) : entryFrame m #[(.ref x0), (.int x1), (.int x2)] 3 = mkF m 0 #[.val (.ref x0), .val (.int x1), .val (.int x2)] [] := by first | (simp [entryFrame, mkF, argsToLocals, Value.category]; done) | rfl
def QSX1 (Z : State) (b : Addr) (ba : Addr) (kb : ClassId) (zb : Int32) (cs : List Int32) (fi : Int32) (aa : Nat) (zr : Int32) (i_COMPACT_STRINGS : Int32) (v_SIOOBE_FORMATTER : Value) (h0 : Heap) (n0 : Nat) (v : Option Value) (h : Heap) (L : List Loc) : Prop := ∃ j : Int32, v = some (.int j) ∧ Fr n0 L ∧ h = h0 ∧ OwnIx cs aa j
set_option maxRecDepth 65536 in
set_option maxHeartbeats 40000000 in
theorem rmSX1 (l : Launch) (Z : State) (a0 : Array Value) (hw : ∀ d ∈ tables_1, d.before a0 Z = true) (ws : List Jvm.Cond) (b : Addr) (ba : Addr) (kb : ClassId) (zb : Int32) (cs : List Int32) (fi : Int32) (aa : Nat) (zr : Int32) (i_COMPACT_STRINGS : Int32) (v_SIOOBE_FORMATTER : Value) (h0 : Heap) (n0 : Nat) (O0 : Old Z n0 h0) (E : Exa Z h0 b "java/lang/String") (F1 : Fld Z h0 b "java/lang/String" "value" "[B" (.ref ba)) (F2 : Fld Z h0 b "java/lang/String" "coder" "B" (.int (1 : Int32))) (B : Arv Z h0 ba kb .byte zb (OwnU cs) (.int (0 : Int32))) (hzb : zb.toInt = ((2 * cs.length : Nat) : Int)) (hr : (zb >>> ((1 : Int32) &&& 31)) = zr) (hlen : zr.toInt = (cs.length : Int)) (hmax : cs.length ≤ 10) (hch : OwnChs cs) (hfi : fi.toInt = (aa : Int)) (hS : OwnS Z i_COMPACT_STRINGS v_SIOOBE_FORMATTER) :
    MetFree l (⟨"java/lang/String", "indexOf", "(II)I"⟩ : MethodName) (head1 (Jvm.Cond.code (⟨"java/lang/String", "indexOf", "(II)I"⟩ : MethodName) jdk_42_method_80_code 3 (some .int) :: ws) ({ frames := 5, cells := 0, slots := 0, locals := 73 } : Room)) (fun aa_ UU_ => aa_ = #[(.ref b), (.int (46 : Int32)), (.int fi)] ∧ Z.Warmed39 UU_.vm ∧ UU_.heap = h0) (fun _ _ _ _ _ => True) (fun _ UU_ oo_ UV_ => ∃ vv_ LL_, oo_ = .returned vv_ ∧ QSX1 Z b ba kb zb cs fi aa zr i_COMPACT_STRINGS v_SIOOBE_FORMATTER h0 n0 vv_ UV_.heap LL_ ∧ FrameEnd UU_ oo_ UV_ LL_ ({ frames := 5, cells := 0, slots := 0, locals := 73 } : Room).cells ({ frames := 5, cells := 0, slots := 0, locals := 73 } : Room).slots) := by
  refine MetFree.of_bodySF (plainFor_of_name pn_0) hisR ?_
  intro p e s m args below meth c s₁ Bd hml0 hP hK
  obtain ⟨rfl, hZ, hh⟩ := hP
  have hx := Bd.exec
  have hby := Bd.bytes
  have hlk := BodyLoose.notSynchronized Bd
  have hml : c.maxLocals = 3 := hml0
  have hown : s.vm.findClass "java/lang/String" = some m.cls := findClass_of_methodNamed Bd.named
  have hnm := (name_of_methodNamed Bd.named Bd.method).1
  have X0 : Stand p l e ({ frames := 5, cells := 0, slots := 0, locals := 73 } : Room) s m #[(.ref b), (.int (46 : Int32)), (.int fi)] below meth c s₁ [] 0 0 := Stand.of_body Bd
  have e0 : s₁.heap = h0 := by rw [← hh, Bd.state]; rfl
  have N0 := Fr.nil n0
  suffices hOW : OW p e below s (QSX1 Z b ba kb zb cs fi aa zr i_COMPACT_STRINGS v_SIOOBE_FORMATTER h0 n0) 0 0 (s₁.setTop (mkF m 0 #[.val (.ref b), .val (.int (46 : Int32)), .val (.int fi)] [])) by
    obtain ⟨oq1_, oq2_, oq3_, oq4_⟩ := hOW
    exact ⟨oq1_, oq2_, castTop (ef_SX1 m b (46 : Int32) fi) oq3_, oq4_⟩
  have hS' := hS
  obtain ⟨Si_COMPACT_STRINGS, Sv_SIOOBE_FORMATTER, Rv_SIOOBE_FORMATTER, S__assertionsDisabled, S_HI_BYTE_SHIFT, S_LO_BYTE_SHIFT, Pi_COMPACT_STRINGS⟩ := hS'
  refine OW.st (B := s₁.setTop (mkF m 1 #[.val (.ref b), .val (.int (46 : Int32)), .val (.int fi)] [(.ref b)])) (fun _ kk_ => XS.aloadN X0.here hx rfl (hb hby d8_0) rfl rfl kk_) ?_
  obtain ⟨cq107, kq107, q107a, q107b, q107c⟩ := isOf hZ e0 E
  obtain ⟨_, _, ⟨T107, L107, k107, n107⟩, -, X107, ⟨Lc107, hQ107, l107, y107, z107⟩, st107⟩ := X0.virtualBack hx (y := (⟨"java/lang/String", "isLatin1", "()Z"⟩ : MethodName)) (z := (⟨"java/lang/String", "isLatin1", "()Z"⟩ : MethodName)) hown (mvT hZ (w_45 hw)) (mvT hZ (w_46 hw)) (notFace_of_selects (args := #[]) (mvT hZ (w_48 hw))) (mvT hZ (w_48 hw)) (mvT hZ (w_47 hw)) (by decide) (backOf (W := 0) (rmIL1 l Z a0 hw [] b i_COMPACT_STRINGS v_SIOOBE_FORMATTER h0 n0 O0 F2 hS) hZ (w_49 hw) (w_9 hw) (by decide) (by decide)) q107a q107c (g := (mkF m 1 #[.val (.ref b), .val (.int (46 : Int32)), .val (.int fi)] [(.ref b)])) rfl (by rw [hml]; rfl) (Steps.refl _) (argsL := []) (rest := []) (lenOf pd_16 rfl) rfl (by show 2 * 0 + _ ≤ _; exact Nat.le_of_eq rfl) (hb hby d8_1) (fun _ _ => ⟨rfl, e0, (by decide : 0 + 0 ≤ _), (by decide : 0 + 0 ≤ _)⟩)
  dsimp only [Pt.U, Pt.locs, Pt.cells, Pt.slots] at X107 l107 y107 z107 st107 hQ107
  subst l107 y107 z107
  obtain ⟨rfl, Nq107, e107⟩ := hQ107
  have N107 := Fr.app N0 Nq107
  refine OW.tr (B := T107.setTop (mkF m 4 #[.val (.ref b), .val (.int (46 : Int32)), .val (.int fi)] [(.int (0 : Int32))])) (st107) ?_
  refine OW.st (B := T107.setTop (mkF m 24 #[.val (.ref b), .val (.int (46 : Int32)), .val (.int fi)] [(.ref b)])) (fun _ kk_ => XS.ifYes X107.here hx rfl (pc0 := 4) (pc' := 23) rfl (hb hby d8_4) rfl ((if0 _ _).trans (teq (by decide)).1) (by decide) (by decide) (XS.aloadN X107.here hx rfl (hb hby d8_23) rfl rfl kk_)) ?_
  obtain ⟨T108, X108, e108, st108⟩ := getF X107 hx hZ hown (host := "") (Or.inl (w_26 hw)) Via.refl e107 F1 (g := (mkF m 24 #[.val (.ref b), .val (.int (46 : Int32)), .val (.int fi)] [(.ref b)])) rfl rfl (hb hby d8_24)
  refine OW.st (B := T108.setTop (mkF m 30 #[.val (.ref b), .val (.int (46 : Int32)), .val (.int fi)] [(.ref b), (.int fi), (.int (46 : Int32)), (.ref ba)])) (fun _ kk_ => st108 _ (XS.iloadN X108.here hx rfl (hb hby d8_27) rfl (XS.iloadN X108.here hx rfl (hb hby d8_28) rfl (XS.aloadN X108.here hx rfl (hb hby d8_29) rfl rfl kk_)))) ?_
  obtain ⟨cq109, kq109, q109a, q109b, q109c⟩ := isOf hZ e108 E
  obtain ⟨_, _, ⟨T109, L109, k109, n109⟩, -, X109, ⟨Lc109, hQ109, l109, y109, z109⟩, st109⟩ := X108.virtualBack hx (y := (⟨"java/lang/String", "length", "()I"⟩ : MethodName)) (z := (⟨"java/lang/String", "length", "()I"⟩ : MethodName)) hown (mvT hZ (w_51 hw)) (mvT hZ (w_52 hw)) (notFace_of_selects (args := #[]) (mvT hZ (w_54 hw))) (mvT hZ (w_54 hw)) (mvT hZ (w_53 hw)) (by decide) (backOf (W := 3) (rmLE1 l Z a0 hw [] b ba kb zb cs zr i_COMPACT_STRINGS v_SIOOBE_FORMATTER h0 n0 O0 E F1 F2 B hr hS) hZ (w_55 hw) (w_9 hw) (by decide) (by decide)) q109a q109c (g := (mkF m 30 #[.val (.ref b), .val (.int (46 : Int32)), .val (.int fi)] [(.ref b), (.int fi), (.int (46 : Int32)), (.ref ba)])) rfl (by rw [hml]; rfl) (Steps.refl _) (argsL := []) (rest := [(.int fi), (.int (46 : Int32)), (.ref ba)]) (lenOf pd_17 rfl) rfl (by show 2 * 0 + _ ≤ _; exact Nat.le_of_eq rfl) (hb hby d8_30) (fun _ _ => ⟨rfl, e108, (by decide : 0 + 0 ≤ _), (by decide : 0 + 0 ≤ _)⟩)
  dsimp only [Pt.U, Pt.locs, Pt.cells, Pt.slots] at X109 l109 y109 z109 st109 hQ109
  subst l109 y109 z109
  obtain ⟨rfl, Nq109, e109⟩ := hQ109
  have N109 := Fr.app N107 Nq109
  refine OW.tr (B := T109.setTop (mkF m 33 #[.val (.ref b), .val (.int (46 : Int32)), .val (.int fi)] [(.int zr), (.int fi), (.int (46 : Int32)), (.ref ba)])) (st109) ?_
  obtain ⟨_, _, ⟨T110, L110, k110, n110⟩, -, X110, ⟨Lc110, hQ110, l110, y110, z110⟩, st110⟩ := Jvm.LawKit.callS X109 hx (y := (⟨"java/lang/StringUTF16", "indexOf", "([BIII)I"⟩ : MethodName)) hown (mvT hZ (w_108 hw)) (mvT hZ (w_109 hw)) (mvT hZ (w_77 hw)) (mvT hZ (w_110 hw)) (by decide) (backOf (W := 0) (rmUI l Z a0 hw [] ba kb zb cs fi aa zr i_COMPACT_STRINGS v_SIOOBE_FORMATTER h0 n0 O0 B hzb hlen hmax hch hfi hS) hZ (w_110 hw) (w_77 hw) (by decide) (by decide)) (g := (mkF m 33 #[.val (.ref b), .val (.int (46 : Int32)), .val (.int fi)] [(.int zr), (.int fi), (.int (46 : Int32)), (.ref ba)])) rfl (by rw [hml]; rfl) (argsL := [(.ref ba), (.int (46 : Int32)), (.int fi), (.int zr)]) (rest := []) (lenOf pd_11 rfl) rfl (by show 2 * 0 + _ ≤ _; exact Nat.le_of_eq rfl) (hb hby d8_33) (fun _ _ => ⟨rfl, e109, (by decide : 0 + 0 ≤ _), (by decide : 0 + 0 ≤ _)⟩)
  dsimp only [Pt.U, Pt.locs, Pt.cells, Pt.slots] at X110 l110 y110 z110 st110 hQ110
  subst l110 y110 z110
  obtain ⟨j110, rfl, Nq110, e110, hj110⟩ := hQ110
  have N110 := Fr.app N109 Nq110
  refine OW.st (B := T110.setTop (mkF m 36 #[.val (.ref b), .val (.int (46 : Int32)), .val (.int fi)] [(.int j110)])) (fun _ kk_ => st110 _ kk_) ?_
  exact OW.ret X110 hx hlk (i := .ireturn) Bd.returns rfl (Or.inl ⟨rfl, Or.inl rfl, _, rfl⟩) (hb hby d8_36) e110 (by decide) (by decide) ⟨_, rfl, N110, rfl, hj110⟩
theorem ef_SY1 (m : MethodId) (x0 : Addr) (x1 : Int32) : entryFrame m #[(.ref x0), (.int x1)] 2 = mkF m 0 #[.val (.ref x0), .val (.int x1)] [] := by first | (simp [entryFrame, mkF, argsToLocals, Value.category]; done) | rfl
def QSY1 (Z : State) (b : Addr) (ba : Addr) (kb : ClassId) (zb : Int32) (cs : List Int32) (zr : Int32) (i_COMPACT_STRINGS : Int32) (v_SIOOBE_FORMATTER : Value) (h0 : Heap) (n0 : Nat) (v : Option Value) (h : Heap) (L : List Loc) : Prop := ∃ j : Int32, v = some (.int j) ∧ Fr n0 L ∧ h = h0 ∧ OwnIx cs 0 j
set_option maxRecDepth 65536 in
set_option maxHeartbeats 40000000 in
theorem rmSY1 (l : Launch) (Z : State) (a0 : Array Value) (hw : ∀ d ∈ tables_1, d.before a0 Z = true) (ws : List Jvm.Cond) (b : Addr) (ba : Addr) (kb : ClassId) (zb : Int32) (cs : List Int32) (zr : Int32) (i_COMPACT_STRINGS : Int32) (v_SIOOBE_FORMATTER : Value) (h0 : Heap) (n0 : Nat) (O0 : Old Z n0 h0) (E : Exa Z h0 b "java/lang/String") (F1 : Fld Z h0 b "java/lang/String" "value" "[B" (.ref ba)) (F2 : Fld Z h0 b "java/lang/String" "coder" "B" (.int (1 : Int32))) (B : Arv Z h0 ba kb .byte zb (OwnU cs) (.int (0 : Int32))) (hzb : zb.toInt = ((2 * cs.length : Nat) : Int)) (hr : (zb >>> ((1 : Int32) &&& 31)) = zr) (hlen : zr.toInt = (cs.length : Int)) (hmax : cs.length ≤ 10) (hch : OwnChs cs) (hS : OwnS Z i_COMPACT_STRINGS v_SIOOBE_FORMATTER) :
    MetFree l (⟨"java/lang/String", "indexOf", "(I)I"⟩ : MethodName) (head1 (Jvm.Cond.code (⟨"java/lang/String", "indexOf", "(I)I"⟩ : MethodName) jdk_42_method_79_code 2 (some .int) :: ws) ({ frames := 6, cells := 0, slots := 0, locals := 87 } : Room)) (fun aa_ UU_ => aa_ = #[(.ref b), (.int (46 : Int32))] ∧ Z.Warmed39 UU_.vm ∧ UU_.heap = h0) (fun _ _ _ _ _ => True) (fun _ UU_ oo_ UV_ => ∃ vv_ LL_, oo_ = .returned vv_ ∧ QSY1 Z b ba kb zb cs zr i_COMPACT_STRINGS v_SIOOBE_FORMATTER h0 n0 vv_ UV_.heap LL_ ∧ FrameEnd UU_ oo_ UV_ LL_ ({ frames := 6, cells := 0, slots := 0, locals := 87 } : Room).cells ({ frames := 6, cells := 0, slots := 0, locals := 87 } : Room).slots) := by
  refine MetFree.of_bodySF (plainFor_of_name pn_0) hisR ?_
  intro p e s m args below meth c s₁ Bd hml0 hP hK
  obtain ⟨rfl, hZ, hh⟩ := hP
  have hx := Bd.exec
  have hby := Bd.bytes
  have hlk := BodyLoose.notSynchronized Bd
  have hml : c.maxLocals = 2 := hml0
  have hown : s.vm.findClass "java/lang/String" = some m.cls := findClass_of_methodNamed Bd.named
  have hnm := (name_of_methodNamed Bd.named Bd.method).1
  have X0 : Stand p l e ({ frames := 6, cells := 0, slots := 0, locals := 87 } : Room) s m #[(.ref b), (.int (46 : Int32))] below meth c s₁ [] 0 0 := Stand.of_body Bd
  have e0 : s₁.heap = h0 := by rw [← hh, Bd.state]; rfl
  have N0 := Fr.nil n0
  suffices hOW : OW p e below s (QSY1 Z b ba kb zb cs zr i_COMPACT_STRINGS v_SIOOBE_FORMATTER h0 n0) 0 0 (s₁.setTop (mkF m 0 #[.val (.ref b), .val (.int (46 : Int32))] [])) by
    obtain ⟨oq1_, oq2_, oq3_, oq4_⟩ := hOW
    exact ⟨oq1_, oq2_, castTop (ef_SY1 m b (46 : Int32)) oq3_, oq4_⟩
  have hS' := hS
  obtain ⟨Si_COMPACT_STRINGS, Sv_SIOOBE_FORMATTER, Rv_SIOOBE_FORMATTER, S__assertionsDisabled, S_HI_BYTE_SHIFT, S_LO_BYTE_SHIFT, Pi_COMPACT_STRINGS⟩ := hS'
  refine OW.st (B := s₁.setTop (mkF m 3 #[.val (.ref b), .val (.int (46 : Int32))] [(.int (0 : Int32)), (.int (46 : Int32)), (.ref b)])) (fun _ kk_ => XS.aloadN X0.here hx rfl (hb hby d7_0) rfl rfl (XS.iloadN X0.here hx rfl (hb hby d7_1) rfl (XS.iconst X0.here hx rfl (hb hby d7_2) kk_))) ?_
  obtain ⟨cq111, kq111, q111a, q111b, q111c⟩ := isOf hZ e0 E
  obtain ⟨_, _, ⟨T111, L111, k111, n111⟩, -, X111, ⟨Lc111, hQ111, l111, y111, z111⟩, st111⟩ := X0.virtualBack hx (y := (⟨"java/lang/String", "indexOf", "(II)I"⟩ : MethodName)) (z := (⟨"java/lang/String", "indexOf", "(II)I"⟩ : MethodName)) hown (mvT hZ (w_40 hw)) (mvT hZ (w_41 hw)) (notFace_of_selects (args := #[]) (mvT hZ (w_43 hw))) (mvT hZ (w_43 hw)) (mvT hZ (w_42 hw)) (by decide) (backOf (W := 0) (rmSX1 l Z a0 hw [] b ba kb zb cs (0 : Int32) 0 zr i_COMPACT_STRINGS v_SIOOBE_FORMATTER h0 n0 O0 E F1 F2 B hzb hr hlen hmax hch rfl hS) hZ (w_44 hw) (w_9 hw) (by decide) (by decide)) q111a q111c (g := (mkF m 3 #[.val (.ref b), .val (.int (46 : Int32))] [(.int (0 : Int32)), (.int (46 : Int32)), (.ref b)])) rfl (by rw [hml]; rfl) (Steps.refl _) (argsL := [(.int (46 : Int32)), (.int (0 : Int32))]) (rest := []) (lenOf pd_10 rfl) rfl (by show 2 * 0 + _ ≤ _; exact Nat.le_of_eq rfl) (hb hby d7_3) (fun _ _ => ⟨rfl, e0, (by decide : 0 + 0 ≤ _), (by decide : 0 + 0 ≤ _)⟩)
  dsimp only [Pt.U, Pt.locs, Pt.cells, Pt.slots] at X111 l111 y111 z111 st111 hQ111
  subst l111 y111 z111
  obtain ⟨j111, rfl, Nq111, e111, hj111⟩ := hQ111
  have N111 := Fr.app N0 Nq111
  refine OW.tr (B := T111.setTop (mkF m 6 #[.val (.ref b), .val (.int (46 : Int32))] [(.int j111)])) (st111) ?_
  exact OW.ret X111 hx hlk (i := .ireturn) Bd.returns rfl (Or.inl ⟨rfl, Or.inl rfl, _, rfl⟩) (hb hby d7_6) e111 (by decide) (by decide) ⟨_, rfl, N111, rfl, hj111⟩
theorem ef_RS (m : MethodId) (x0 : Addr) : entryFrame m #[(.ref x0)] 3 = mkF m 0 #[.val (.ref x0), .unset, .unset] [] := by first | (simp [entryFrame, mkF, argsToLocals, Value.category]; done) | rfl
def QRS (Z : State) (b : Addr) (cs : List Int32) (i_COMPACT_STRINGS : Int32) (v_SIOOBE_FORMATTER : Value) (h0 : Heap) (n0 : Nat) (v : Option Value) (h : Heap) (L : List Loc) : Prop := v = some (.int (own_cnt cs)) ∧ Fr n0 L ∧ h = h0
set_option maxRecDepth 65536 in
set_option maxHeartbeats 40000000 in
theorem rmRS (l : Launch) (Z : State) (a0 : Array Value) (hw : ∀ d ∈ tables_1, d.before a0 Z = true) (ws : List Jvm.Cond) (b : Addr) (cs : List Int32) (i_COMPACT_STRINGS : Int32) (v_SIOOBE_FORMATTER : Value) (h0 : Heap) (n0 : Nat) (O0 : Old Z n0 h0) (HO : OwnSt Z h0 b cs) (hmax : cs.length ≤ 10) (hch : OwnChs cs) (hS : OwnS Z i_COMPACT_STRINGS v_SIOOBE_FORMATTER) :
    MetFree l (⟨"com/example/filter_to_where/filtertowhere/tree/Limits", "relationshipSteps", "(Ljava/lang/String;)I"⟩ : MethodName) (head1 (Jvm.Cond.code (⟨"com/example/filter_to_where/filtertowhere/tree/Limits", "relationshipSteps", "(Ljava/lang/String;)I"⟩ : MethodName) prog_52_method_2_code 3 (some .int) :: ws) ({ frames := 7, cells := 0, slots := 0, locals := 100 } : Room)) (fun aa_ UU_ => aa_ = #[(.ref b)] ∧ Z.Warmed39 UU_.vm ∧ UU_.heap = h0) (fun _ _ _ _ _ => True) (fun _ UU_ oo_ UV_ => ∃ vv_ LL_, oo_ = .returned vv_ ∧ QRS Z b cs i_COMPACT_STRINGS v_SIOOBE_FORMATTER h0 n0 vv_ UV_.heap LL_ ∧ FrameEnd UU_ oo_ UV_ LL_ ({ frames := 7, cells := 0, slots := 0, locals := 100 } : Room).cells ({ frames := 7, cells := 0, slots := 0, locals := 100 } : Room).slots) := by
  refine MetFree.of_bodySF (plainFor_of_name pn_5) hisR ?_
  intro p e s m args below meth c s₁ Bd hml0 hP hK
  obtain ⟨rfl, hZ, hh⟩ := hP
  have hx := Bd.exec
  have hby := Bd.bytes
  have hlk := BodyLoose.notSynchronized Bd
  have hml : c.maxLocals = 3 := hml0
  have hown : s.vm.findClass "com/example/filter_to_where/filtertowhere/tree/Limits" = some m.cls := findClass_of_methodNamed Bd.named
  have hnm := (name_of_methodNamed Bd.named Bd.method).1
  have X0 : Stand p l e ({ frames := 7, cells := 0, slots := 0, locals := 100 } : Room) s m #[(.ref b)] below meth c s₁ [] 0 0 := Stand.of_body Bd
  have e0 : s₁.heap = h0 := by rw [← hh, Bd.state]; rfl
  have N0 := Fr.nil n0
  suffices hOW : OW p e below s (QRS Z b cs i_COMPACT_STRINGS v_SIOOBE_FORMATTER h0 n0) 0 0 (s₁.setTop (mkF m 0 #[.val (.ref b), .unset, .unset] [])) by
    obtain ⟨oq1_, oq2_, oq3_, oq4_⟩ := hOW
    exact ⟨oq1_, oq2_, castTop (ef_RS m b) oq3_, oq4_⟩
  have hS' := hS
  obtain ⟨Si_COMPACT_STRINGS, Sv_SIOOBE_FORMATTER, Rv_SIOOBE_FORMATTER, S__assertionsDisabled, S_HI_BYTE_SHIFT, S_LO_BYTE_SHIFT, Pi_COMPACT_STRINGS⟩ := hS'
  obtain ⟨E, ba, kb, zb, F1, hq⟩ := HO
  rcases hq with ⟨F2, B, hlat, hzb⟩ | ⟨F2, B, hhi, hzb⟩
  · obtain ⟨zr, hr, hlen⟩ : ∃ zr : Int32, (zb >>> ((0 : Int32) &&& 31)) = zr ∧ zr.toInt = (cs.length : Int) := ⟨_, rfl, own_lenL hzb⟩
    refine OW.st (B := s₁.setTop (mkF m 5 #[.val (.ref b), .val (.int (0 : Int32)), .unset] [(.int (46 : Int32)), (.ref b)])) (fun _ kk_ => XS.iconst X0.here hx rfl (hb hby d6_0) (XS.istoreN X0.here hx rfl (hb hby d6_1) rfl (l' := #[.val (.ref b), .val (.int (0 : Int32)), .unset]) rfl (XS.aloadN X0.here hx rfl (hb hby d6_2) rfl rfl (XS.bipush X0.here hx rfl (hb hby d6_3) kk_)))) ?_
    obtain ⟨cq112, kq112, q112a, q112b, q112c⟩ := isOf hZ e0 E
    obtain ⟨_, _, ⟨T112, L112, k112, n112⟩, -, X112, ⟨Lc112, hQ112, l112, y112, z112⟩, st112⟩ := X0.virtualBack hx (y := (⟨"java/lang/String", "indexOf", "(I)I"⟩ : MethodName)) (z := (⟨"java/lang/String", "indexOf", "(I)I"⟩ : MethodName)) hown (mvT hZ (w_35 hw)) (mvT hZ (w_36 hw)) (notFace_of_selects (args := #[]) (mvT hZ (w_38 hw))) (mvT hZ (w_38 hw)) (mvT hZ (w_37 hw)) (by decide) (backOf (W := 0) (rmSY0 l Z a0 hw [] b ba kb zb cs zr i_COMPACT_STRINGS v_SIOOBE_FORMATTER h0 n0 O0 E F1 F2 B hzb hr hlen hmax hch hlat hS) hZ (w_39 hw) (w_9 hw) (by decide) (by decide)) q112a q112c (g := (mkF m 5 #[.val (.ref b), .val (.int (0 : Int32)), .unset] [(.int (46 : Int32)), (.ref b)])) rfl (by rw [hml]; rfl) (Steps.refl _) (argsL := [(.int (46 : Int32))]) (rest := []) (lenOf pd_1 rfl) rfl (by show 2 * 0 + _ ≤ _; exact Nat.le_of_eq rfl) (hb hby d6_5) (fun _ _ => ⟨rfl, e0, (by decide : 0 + 0 ≤ _), (by decide : 0 + 0 ≤ _)⟩)
    dsimp only [Pt.U, Pt.locs, Pt.cells, Pt.slots] at X112 l112 y112 z112 st112 hQ112
    subst l112 y112 z112
    obtain ⟨j112, rfl, Nq112, e112, hj112⟩ := hQ112
    have N112 := Fr.app N0 Nq112
    refine OW.tr (B := T112.setTop (mkF m 8 #[.val (.ref b), .val (.int (0 : Int32)), .unset] [(.int j112)])) (st112) ?_
    refine OW.st (B := T112.setTop (mkF m 9 #[.val (.ref b), .val (.int (0 : Int32)), .val (.int j112)] [])) (fun _ kk_ => XS.istoreN X112.here hx rfl (hb hby d6_8) rfl (l' := #[.val (.ref b), .val (.int (0 : Int32)), .val (.int j112)]) rfl kk_) ?_
    have J113 : ∀ (f : Nat) (T113 : State) (L113 : List Loc) (h113 : Heap) (X113 : Stand p l e ({ frames := 7, cells := 0, slots := 0, locals := 100 } : Room) s m #[(.ref b)] below meth c T113 L113 0 0) (N113 : Fr n0 L113) (e113 : T113.heap = h113) (O113 : Old Z n0 h113) (acc i : Int32) (aa : Nat), (h0 = h113) → (OwnIx cs aa i) → (acc + own_cnt (cs.drop aa) = own_cnt cs) → (cs.length ≤ aa + f) → OW p e below s (QRS Z b cs i_COMPACT_STRINGS v_SIOOBE_FORMATTER h0 n0) 0 0 (T113.setTop (mkF m 9 #[.val (.ref b), .val (.int acc), .val (.int i)] [])) := by
      intro f
      induction f with
      | zero =>
        intro T113 L113 h113 X113 N113 e113 O113 acc i aa hH hix hc hm
        subst hH
        rcases hix with ⟨rfl, hno⟩ | ⟨mm, hi, ham, hcc, hno⟩
        · refine OW.st (B := T113.setTop (mkF m 30 #[.val (.ref b), .val (.int acc), .val (.int (-1 : Int32))] [(.int acc)])) (fun _ kk_ => XS.iloadN X113.here hx rfl (hb hby d6_9) rfl (XS.ifYes X113.here hx rfl (pc0 := 10) (pc' := 29) rfl (hb hby d6_10) rfl ((if0 _ _).trans (tlt (by decide)).1) (by decide) (by decide) (XS.iloadN X113.here hx rfl (hb hby d6_29) rfl kk_))) ?_
          exact OW.ret X113 hx hlk (i := .ireturn) Bd.returns rfl (Or.inl ⟨rfl, Or.inl rfl, _, rfl⟩) (hb hby d6_30) e113 (by decide) (by decide) ⟨congrArg (fun z => some (Value.int z)) (own_cntE hc hno), N113, rfl⟩
        · have hmm : mm < cs.length := (List.getElem?_eq_some_iff.mp hcc).1
          omega
      | succ f ih =>
        intro T113 L113 h113 X113 N113 e113 O113 acc i aa hH hix hc hm
        subst hH
        rcases hix with ⟨rfl, hno⟩ | ⟨mm, hi, ham, hcc, hno⟩
        · refine OW.st (B := T113.setTop (mkF m 30 #[.val (.ref b), .val (.int acc), .val (.int (-1 : Int32))] [(.int acc)])) (fun _ kk_ => XS.iloadN X113.here hx rfl (hb hby d6_9) rfl (XS.ifYes X113.here hx rfl (pc0 := 10) (pc' := 29) rfl (hb hby d6_10) rfl ((if0 _ _).trans (tlt (by decide)).1) (by decide) (by decide) (XS.iloadN X113.here hx rfl (hb hby d6_29) rfl kk_))) ?_
          exact OW.ret X113 hx hlk (i := .ireturn) Bd.returns rfl (Or.inl ⟨rfl, Or.inl rfl, _, rfl⟩) (hb hby d6_30) e113 (by decide) (by decide) ⟨congrArg (fun z => some (Value.int z)) (own_cntE hc hno), N113, rfl⟩
        · have hmm : mm < cs.length := (List.getElem?_eq_some_iff.mp hcc).1
          refine OW.st (B := T113.setTop (mkF m 22 #[.val (.ref b), .val (.int (acc + (1 : Int32))), .val (.int i)] [(.int (i + (1 : Int32))), (.int (46 : Int32)), (.ref b)])) (fun _ kk_ => XS.iloadN X113.here hx rfl (hb hby d6_9) rfl (XS.ifNo X113.here hx rfl (hb hby d6_10) rfl ((if0 _ _).trans (flt (own_nneg hi)).1) (XS.iinc X113.here hx rfl (hb hby d6_13) rfl (l' := #[.val (.ref b), .val (.int (acc + (1 : Int32))), .val (.int i)]) rfl (XS.aloadN X113.here hx rfl (hb hby d6_16) rfl rfl (XS.bipush X113.here hx rfl (hb hby d6_17) (XS.iloadN X113.here hx rfl (hb hby d6_19) rfl (XS.iconst X113.here hx rfl (hb hby d6_20) (XS.iadd X113.here hx rfl (hb hby d6_21) rfl kk_)))))))) ?_
          obtain ⟨cq114, kq114, q114a, q114b, q114c⟩ := isOf hZ e113 E
          obtain ⟨_, _, ⟨T114, L114, k114, n114⟩, -, X114, ⟨Lc114, hQ114, l114, y114, z114⟩, st114⟩ := X113.virtualBack hx (y := (⟨"java/lang/String", "indexOf", "(II)I"⟩ : MethodName)) (z := (⟨"java/lang/String", "indexOf", "(II)I"⟩ : MethodName)) hown (mvT hZ (w_88 hw)) (mvT hZ (w_41 hw)) (notFace_of_selects (args := #[]) (mvT hZ (w_43 hw))) (mvT hZ (w_43 hw)) (mvT hZ (w_42 hw)) (by decide) (backOf (W := 0) (rmSX0 l Z a0 hw [] b ba kb zb cs (i + (1 : Int32)) (mm + 1) zr i_COMPACT_STRINGS v_SIOOBE_FORMATTER h0 n0 O113 E F1 F2 B hzb hr hlen hmax hch hlat (own_suc hi (by omega)) hS) hZ (w_44 hw) (w_9 hw) (by decide) (by decide)) q114a q114c (g := (mkF m 22 #[.val (.ref b), .val (.int (acc + (1 : Int32))), .val (.int i)] [(.int (i + (1 : Int32))), (.int (46 : Int32)), (.ref b)])) rfl (by rw [hml]; rfl) (Steps.refl _) (argsL := [(.int (46 : Int32)), (.int (i + (1 : Int32)))]) (rest := []) (lenOf pd_10 rfl) rfl (by show 2 * 0 + _ ≤ _; exact Nat.le_of_eq rfl) (hb hby d6_22) (fun _ _ => ⟨rfl, e113, (by decide : 0 + 0 ≤ _), (by decide : 0 + 0 ≤ _)⟩)
          dsimp only [Pt.U, Pt.locs, Pt.cells, Pt.slots] at X114 l114 y114 z114 st114 hQ114
          subst l114 y114 z114
          obtain ⟨j114, rfl, Nq114, e114, hj114⟩ := hQ114
          have N114 := Fr.app N113 Nq114
          refine OW.tr (B := T114.setTop (mkF m 25 #[.val (.ref b), .val (.int (acc + (1 : Int32))), .val (.int i)] [(.int j114)])) (st114) ?_
          refine OW.st (B := T114.setTop (mkF m 9 #[.val (.ref b), .val (.int (acc + (1 : Int32))), .val (.int j114)] [])) (fun _ kk_ => XS.istoreN X114.here hx rfl (hb hby d6_25) rfl (l' := #[.val (.ref b), .val (.int (acc + (1 : Int32))), .val (.int j114)]) rfl (XS.goto X114.here hx rfl (pc0 := 26) (pc' := 9) rfl (hb hby d6_26) (by decide) (by decide) kk_)) ?_
          exact ih _ _ _ X114 N114 e114 O113 _ _ (mm + 1) rfl hj114 (own_cntS hc ham hcc hno) (by omega)
    exact J113 cs.length _ _ _ X112 N112 e112 O0 _ _ 0 rfl hj112 (Int32.zero_add _) (by omega)
  · obtain ⟨zr, hr, hlen⟩ : ∃ zr : Int32, (zb >>> ((1 : Int32) &&& 31)) = zr ∧ zr.toInt = (cs.length : Int) := ⟨_, rfl, own_half hzb (by omega)⟩
    refine OW.st (B := s₁.setTop (mkF m 5 #[.val (.ref b), .val (.int (0 : Int32)), .unset] [(.int (46 : Int32)), (.ref b)])) (fun _ kk_ => XS.iconst X0.here hx rfl (hb hby d6_0) (XS.istoreN X0.here hx rfl (hb hby d6_1) rfl (l' := #[.val (.ref b), .val (.int (0 : Int32)), .unset]) rfl (XS.aloadN X0.here hx rfl (hb hby d6_2) rfl rfl (XS.bipush X0.here hx rfl (hb hby d6_3) kk_)))) ?_
    obtain ⟨cq115, kq115, q115a, q115b, q115c⟩ := isOf hZ e0 E
    obtain ⟨_, _, ⟨T115, L115, k115, n115⟩, -, X115, ⟨Lc115, hQ115, l115, y115, z115⟩, st115⟩ := X0.virtualBack hx (y := (⟨"java/lang/String", "indexOf", "(I)I"⟩ : MethodName)) (z := (⟨"java/lang/String", "indexOf", "(I)I"⟩ : MethodName)) hown (mvT hZ (w_35 hw)) (mvT hZ (w_36 hw)) (notFace_of_selects (args := #[]) (mvT hZ (w_38 hw))) (mvT hZ (w_38 hw)) (mvT hZ (w_37 hw)) (by decide) (backOf (W := 0) (rmSY1 l Z a0 hw [] b ba kb zb cs zr i_COMPACT_STRINGS v_SIOOBE_FORMATTER h0 n0 O0 E F1 F2 B hzb hr hlen hmax hch hS) hZ (w_39 hw) (w_9 hw) (by decide) (by decide)) q115a q115c (g := (mkF m 5 #[.val (.ref b), .val (.int (0 : Int32)), .unset] [(.int (46 : Int32)), (.ref b)])) rfl (by rw [hml]; rfl) (Steps.refl _) (argsL := [(.int (46 : Int32))]) (rest := []) (lenOf pd_1 rfl) rfl (by show 2 * 0 + _ ≤ _; exact Nat.le_of_eq rfl) (hb hby d6_5) (fun _ _ => ⟨rfl, e0, (by decide : 0 + 0 ≤ _), (by decide : 0 + 0 ≤ _)⟩)
    dsimp only [Pt.U, Pt.locs, Pt.cells, Pt.slots] at X115 l115 y115 z115 st115 hQ115
    subst l115 y115 z115
    obtain ⟨j115, rfl, Nq115, e115, hj115⟩ := hQ115
    have N115 := Fr.app N0 Nq115
    refine OW.tr (B := T115.setTop (mkF m 8 #[.val (.ref b), .val (.int (0 : Int32)), .unset] [(.int j115)])) (st115) ?_
    refine OW.st (B := T115.setTop (mkF m 9 #[.val (.ref b), .val (.int (0 : Int32)), .val (.int j115)] [])) (fun _ kk_ => XS.istoreN X115.here hx rfl (hb hby d6_8) rfl (l' := #[.val (.ref b), .val (.int (0 : Int32)), .val (.int j115)]) rfl kk_) ?_
    have J116 : ∀ (f : Nat) (T116 : State) (L116 : List Loc) (h116 : Heap) (X116 : Stand p l e ({ frames := 7, cells := 0, slots := 0, locals := 100 } : Room) s m #[(.ref b)] below meth c T116 L116 0 0) (N116 : Fr n0 L116) (e116 : T116.heap = h116) (O116 : Old Z n0 h116) (acc i : Int32) (aa : Nat), (h0 = h116) → (OwnIx cs aa i) → (acc + own_cnt (cs.drop aa) = own_cnt cs) → (cs.length ≤ aa + f) → OW p e below s (QRS Z b cs i_COMPACT_STRINGS v_SIOOBE_FORMATTER h0 n0) 0 0 (T116.setTop (mkF m 9 #[.val (.ref b), .val (.int acc), .val (.int i)] [])) := by
      intro f
      induction f with
      | zero =>
        intro T116 L116 h116 X116 N116 e116 O116 acc i aa hH hix hc hm
        subst hH
        rcases hix with ⟨rfl, hno⟩ | ⟨mm, hi, ham, hcc, hno⟩
        · refine OW.st (B := T116.setTop (mkF m 30 #[.val (.ref b), .val (.int acc), .val (.int (-1 : Int32))] [(.int acc)])) (fun _ kk_ => XS.iloadN X116.here hx rfl (hb hby d6_9) rfl (XS.ifYes X116.here hx rfl (pc0 := 10) (pc' := 29) rfl (hb hby d6_10) rfl ((if0 _ _).trans (tlt (by decide)).1) (by decide) (by decide) (XS.iloadN X116.here hx rfl (hb hby d6_29) rfl kk_))) ?_
          exact OW.ret X116 hx hlk (i := .ireturn) Bd.returns rfl (Or.inl ⟨rfl, Or.inl rfl, _, rfl⟩) (hb hby d6_30) e116 (by decide) (by decide) ⟨congrArg (fun z => some (Value.int z)) (own_cntE hc hno), N116, rfl⟩
        · have hmm : mm < cs.length := (List.getElem?_eq_some_iff.mp hcc).1
          omega
      | succ f ih =>
        intro T116 L116 h116 X116 N116 e116 O116 acc i aa hH hix hc hm
        subst hH
        rcases hix with ⟨rfl, hno⟩ | ⟨mm, hi, ham, hcc, hno⟩
        · refine OW.st (B := T116.setTop (mkF m 30 #[.val (.ref b), .val (.int acc), .val (.int (-1 : Int32))] [(.int acc)])) (fun _ kk_ => XS.iloadN X116.here hx rfl (hb hby d6_9) rfl (XS.ifYes X116.here hx rfl (pc0 := 10) (pc' := 29) rfl (hb hby d6_10) rfl ((if0 _ _).trans (tlt (by decide)).1) (by decide) (by decide) (XS.iloadN X116.here hx rfl (hb hby d6_29) rfl kk_))) ?_
          exact OW.ret X116 hx hlk (i := .ireturn) Bd.returns rfl (Or.inl ⟨rfl, Or.inl rfl, _, rfl⟩) (hb hby d6_30) e116 (by decide) (by decide) ⟨congrArg (fun z => some (Value.int z)) (own_cntE hc hno), N116, rfl⟩
        · have hmm : mm < cs.length := (List.getElem?_eq_some_iff.mp hcc).1
          refine OW.st (B := T116.setTop (mkF m 22 #[.val (.ref b), .val (.int (acc + (1 : Int32))), .val (.int i)] [(.int (i + (1 : Int32))), (.int (46 : Int32)), (.ref b)])) (fun _ kk_ => XS.iloadN X116.here hx rfl (hb hby d6_9) rfl (XS.ifNo X116.here hx rfl (hb hby d6_10) rfl ((if0 _ _).trans (flt (own_nneg hi)).1) (XS.iinc X116.here hx rfl (hb hby d6_13) rfl (l' := #[.val (.ref b), .val (.int (acc + (1 : Int32))), .val (.int i)]) rfl (XS.aloadN X116.here hx rfl (hb hby d6_16) rfl rfl (XS.bipush X116.here hx rfl (hb hby d6_17) (XS.iloadN X116.here hx rfl (hb hby d6_19) rfl (XS.iconst X116.here hx rfl (hb hby d6_20) (XS.iadd X116.here hx rfl (hb hby d6_21) rfl kk_)))))))) ?_
          obtain ⟨cq117, kq117, q117a, q117b, q117c⟩ := isOf hZ e116 E
          obtain ⟨_, _, ⟨T117, L117, k117, n117⟩, -, X117, ⟨Lc117, hQ117, l117, y117, z117⟩, st117⟩ := X116.virtualBack hx (y := (⟨"java/lang/String", "indexOf", "(II)I"⟩ : MethodName)) (z := (⟨"java/lang/String", "indexOf", "(II)I"⟩ : MethodName)) hown (mvT hZ (w_88 hw)) (mvT hZ (w_41 hw)) (notFace_of_selects (args := #[]) (mvT hZ (w_43 hw))) (mvT hZ (w_43 hw)) (mvT hZ (w_42 hw)) (by decide) (backOf (W := 0) (rmSX1 l Z a0 hw [] b ba kb zb cs (i + (1 : Int32)) (mm + 1) zr i_COMPACT_STRINGS v_SIOOBE_FORMATTER h0 n0 O116 E F1 F2 B hzb hr hlen hmax hch (own_suc hi (by omega)) hS) hZ (w_44 hw) (w_9 hw) (by decide) (by decide)) q117a q117c (g := (mkF m 22 #[.val (.ref b), .val (.int (acc + (1 : Int32))), .val (.int i)] [(.int (i + (1 : Int32))), (.int (46 : Int32)), (.ref b)])) rfl (by rw [hml]; rfl) (Steps.refl _) (argsL := [(.int (46 : Int32)), (.int (i + (1 : Int32)))]) (rest := []) (lenOf pd_10 rfl) rfl (by show 2 * 0 + _ ≤ _; exact Nat.le_of_eq rfl) (hb hby d6_22) (fun _ _ => ⟨rfl, e116, (by decide : 0 + 0 ≤ _), (by decide : 0 + 0 ≤ _)⟩)
          dsimp only [Pt.U, Pt.locs, Pt.cells, Pt.slots] at X117 l117 y117 z117 st117 hQ117
          subst l117 y117 z117
          obtain ⟨j117, rfl, Nq117, e117, hj117⟩ := hQ117
          have N117 := Fr.app N116 Nq117
          refine OW.tr (B := T117.setTop (mkF m 25 #[.val (.ref b), .val (.int (acc + (1 : Int32))), .val (.int i)] [(.int j117)])) (st117) ?_
          refine OW.st (B := T117.setTop (mkF m 9 #[.val (.ref b), .val (.int (acc + (1 : Int32))), .val (.int j117)] [])) (fun _ kk_ => XS.istoreN X117.here hx rfl (hb hby d6_25) rfl (l' := #[.val (.ref b), .val (.int (acc + (1 : Int32))), .val (.int j117)]) rfl (XS.goto X117.here hx rfl (pc0 := 26) (pc' := 9) rfl (hb hby d6_26) (by decide) (by decide) kk_)) ?_
          exact ih _ _ _ X117 N117 e117 O116 _ _ (mm + 1) rfl hj117 (own_cntS hc ham hcc hno) (by omega)
    exact J116 cs.length _ _ _ X115 N115 e115 O0 _ _ 0 rfl hj115 (Int32.zero_add _) (by omega)
theorem ef_0 (m : MethodId) (x0 : Int32) (x1 : Int64) (x2 : Int64) (x3 : Int32) : entryFrame m #[(.int x0), (.long x1), (.long x2), (.int x3)] maxLocals = mkF m 0 #[.val (.int x0), .val (.long x1), .second, .val (.long x2), .second, .val (.int x3), .unset, .unset, .unset, .unset, .unset, .unset, .unset, .unset, .unset, .unset, .unset, .unset] [] := by first | (simp [entryFrame, mkF, argsToLocals, Value.category, maxLocals]; done) | rfl
def Q0 (Z : State) (n1 : Int32) (n2 : Int64) (n3 : Int64) (n4 : Int32) (i_COMPACT_STRINGS : Int32) (v_SIOOBE_FORMATTER : Value) (h0 : Heap) (n0 : Nat) (v : Option Value) (h : Heap) (L : List Loc) : Prop := v = some (.int 1) ∧ Fr n0 L
set_option maxRecDepth 65536 in
set_option maxHeartbeats 40000000 in
theorem rm0 (l : Launch) (Z : State) (a0 : Array Value) (hw : ∀ d ∈ tables_1, d.before a0 Z = true) (ws : List Jvm.Cond) (n1 : Int32) (n2 : Int64) (n3 : Int64) (n4 : Int32) (i_COMPACT_STRINGS : Int32) (v_SIOOBE_FORMATTER : Value) (h0 : Heap) (n0 : Nat) (O0 : Old Z n0 h0) (hS : OwnS Z i_COMPACT_STRINGS v_SIOOBE_FORMATTER) :
    MetFree l x (head1 (Jvm.Cond.code x code maxLocals ret :: ws) room_1) (fun aa_ UU_ => aa_ = #[(.int n1), (.long n2), (.long n3), (.int n4)] ∧ Z.Warmed39 UU_.vm ∧ UU_.heap = h0 ∧ CHv Z consts_1 UU_.vm h0) (fun _ _ _ _ _ => True) (fun _ UU_ oo_ UV_ => ∃ vv_ LL_, oo_ = .returned vv_ ∧ Q0 Z n1 n2 n3 n4 i_COMPACT_STRINGS v_SIOOBE_FORMATTER h0 n0 vv_ UV_.heap LL_ ∧ CHr Z consts_1 UU_.vm UU_.heap UV_.vm UV_.heap ∧ ReturnedEndW UU_ oo_ UV_ LL_ 6 42) := by
  refine MetFree.of_bodySF (plainFor_of_name pn_2) hisR ?_
  intro p e s m args below meth c s₁ Bd hml0 hP hK
  obtain ⟨rfl, hZ, hh, hCH⟩ := hP
  have hx := Bd.exec
  have hby := Bd.bytes
  have hlk := BodyLoose.notSynchronized Bd
  have hml : c.maxLocals = 18 := hml0
  have hown : s.vm.findClass "com/example/filter_to_where/filtertowhere/tree/LimitsRelationshipStepsPinLaw" = some m.cls := findClass_of_methodNamed Bd.named
  have hnm := (name_of_methodNamed Bd.named Bd.method).1
  have X0 : Stand p l e room_1 s m #[(.int n1), (.long n2), (.long n3), (.int n4)] below meth c s₁ [] 0 0 := Stand.of_body Bd
  have e0 : s₁.heap = h0 := by rw [← hh, Bd.state]; rfl
  have N0 := Fr.nil n0
  have hS0 : s.Since s.vm 0 := (State.WarmedH.refl s).since 0
  have hk0 : 0 ≤ h0.size := Nat.zero_le _
  have CR0 : CHr Z consts_1 s.vm h0 s.vm h0 := CHr.refl hCH
  suffices hOW : OWH Z consts_1 h0 p e below s (Q0 Z n1 n2 n3 n4 i_COMPACT_STRINGS v_SIOOBE_FORMATTER h0 n0) 6 42 (s₁.setTop (mkF m 0 #[.val (.int n1), .val (.long n2), .second, .val (.long n3), .second, .val (.int n4), .unset, .unset, .unset, .unset, .unset, .unset, .unset, .unset, .unset, .unset, .unset, .unset] [])) by
    obtain ⟨oq1_, oq2_, oq3_, oq4_⟩ := hOW
    obtain ⟨oq5_, oq6_, oq7_, oq8_, oq9_, or1_, or2_, or3_⟩ := oq4_
    exact ⟨oq1_, oq2_, castTop (ef_0 m n1 n2 n3 n4) oq3_, oq5_, oq6_, oq7_, oq8_, oq9_, or1_, by rw [hh]; exact or2_, or3_⟩
  have hS' := hS
  obtain ⟨Si_COMPACT_STRINGS, Sv_SIOOBE_FORMATTER, Rv_SIOOBE_FORMATTER, S__assertionsDisabled, S_HI_BYTE_SHIFT, S_LO_BYTE_SHIFT, Pi_COMPACT_STRINGS⟩ := hS'
  refine OWH.st (B := s₁.setTop (mkF m 7 #[.val (.int n1), .val (.long n2), .second, .val (.long n3), .second, .val (.int n4), .unset, .unset, .unset, .unset, .unset, .unset, .unset, .unset, .unset, .unset, .unset, .unset] [(.int ((n1 &&& (2147483647 : Int32)) % (9 : Int32)))])) (fun _ kk_ => XS.iloadN X0.here hx rfl (hb hby at_0) rfl ((X0.ldcInt hx hown (mvT hZ (w_0 hw)) (g := (mkF m 1 #[.val (.int n1), .val (.long n2), .second, .val (.long n3), .second, .val (.int n4), .unset, .unset, .unset, .unset, .unset, .unset, .unset, .unset, .unset, .unset, .unset, .unset] [(.int n1)])) rfl (hb hby at_1)) _ (XS.iand X0.here hx rfl (hb hby at_3) rfl (XS.bipush X0.here hx rfl (hb hby at_4) (iremM X0 hx rfl (hb hby at_6) rfl (by decide) kk_))))) ?_
  suffices J : ∀ k : Int32, (k = 0 ∨ k = 1 ∨ k = 2 ∨ k = 3 ∨ k = 4 ∨ k = 5 ∨ k = 6 ∨ k = 7 ∨ k = 8) → OWH Z consts_1 h0 p e below s (Q0 Z n1 n2 n3 n4 i_COMPACT_STRINGS v_SIOOBE_FORMATTER h0 n0) 6 42 (s₁.setTop (mkF m 7 #[.val (.int n1), .val (.long n2), .second, .val (.long n3), .second, .val (.int n4), .unset, .unset, .unset, .unset, .unset, .unset, .unset, .unset, .unset, .unset, .unset, .unset] [(.int k)])) from J _ (own_rem9 n1)
  intro k hk
  refine OWH.st (B := s₁.setTop (mkF m 14 #[.val (.int n1), .val (.long n2), .second, .val (.long n3), .second, .val (.int n4), .val (.int k), .unset, .unset, .unset, .unset, .unset, .unset, .unset, .unset, .unset, .unset, .unset] [(.int (0 : Int32)), (.int n4), (.int (0 : Int32)), (.long n2)])) (fun _ kk_ => XS.istore X0.here hx rfl (hb hby at_7) rfl (l' := #[.val (.int n1), .val (.long n2), .second, .val (.long n3), .second, .val (.int n4), .val (.int k), .unset, .unset, .unset, .unset, .unset, .unset, .unset, .unset, .unset, .unset, .unset]) rfl (XS.lloadN X0.here hx rfl (hb hby at_9) rfl (XS.iconst X0.here hx rfl (hb hby at_10) (XS.iload X0.here hx rfl (hb hby at_11) rfl (XS.iconst X0.here hx rfl (hb hby at_13) kk_))))) ?_
  obtain ⟨_, _, ⟨T118, L118, k118, n118⟩, -, X118, ⟨Lc118, hQ118, l118, y118, z118⟩, st118⟩ := Jvm.LawKit.callS X0 hx (y := (⟨"com/example/filter_to_where/filtertowhere/tree/LimitsRelationshipStepsPinLaw", "pick", "(JIII)C"⟩ : MethodName)) hown (mvT hZ (w_1 hw)) (mvT hZ (w_2 hw)) (mvT hZ (w_3 hw)) (mvT hZ (w_4 hw)) (by decide) (backOf (W := 0) (rmPI l Z a0 hw [] n2 (0 : Int32) n4 (0 : Int32) h0 n0 O0 ) hZ (w_4 hw) (w_3 hw) (by decide) (by decide)) (g := (mkF m 14 #[.val (.int n1), .val (.long n2), .second, .val (.long n3), .second, .val (.int n4), .val (.int k), .unset, .unset, .unset, .unset, .unset, .unset, .unset, .unset, .unset, .unset, .unset] [(.int (0 : Int32)), (.int n4), (.int (0 : Int32)), (.long n2)])) rfl (by rw [hml]; rfl) (argsL := [(.long n2), (.int (0 : Int32)), (.int n4), (.int (0 : Int32))]) (rest := []) (lenOf pd_18 rfl) rfl (by show 2 * 0 + _ ≤ _; exact Nat.le_of_eq rfl) (hb hby at_14) (fun _ _ => ⟨rfl, e0, (by decide : 0 + 0 ≤ _), (by decide : 0 + 0 ≤ _)⟩)
  dsimp only [Pt.U, Pt.locs, Pt.cells, Pt.slots] at X118 l118 y118 z118 st118 hQ118
  subst l118 y118 z118
  obtain ⟨u118, rfl, Nq118, e118, hn118⟩ := hQ118
  have N118 := Fr.app N0 Nq118
  refine OWH.st (B := T118.setTop (mkF m 25 #[.val (.int n1), .val (.long n2), .second, .val (.long n3), .second, .val (.int n4), .val (.int k), .val (.int u118), .unset, .unset, .unset, .unset, .unset, .unset, .unset, .unset, .unset, .unset] [(.int (1 : Int32)), (.int n4), (.int (16 : Int32)), (.long n2)])) (fun _ kk_ => st118 _ (XS.istore X118.here hx rfl (hb hby at_17) rfl (l' := #[.val (.int n1), .val (.long n2), .second, .val (.long n3), .second, .val (.int n4), .val (.int k), .val (.int u118), .unset, .unset, .unset, .unset, .unset, .unset, .unset, .unset, .unset, .unset]) rfl (XS.lloadN X118.here hx rfl (hb hby at_19) rfl (XS.bipush X118.here hx rfl (hb hby at_20) (XS.iload X118.here hx rfl (hb hby at_22) rfl (XS.iconst X118.here hx rfl (hb hby at_24) kk_)))))) ?_
  obtain ⟨_, _, ⟨T119, L119, k119, n119⟩, -, X119, ⟨Lc119, hQ119, l119, y119, z119⟩, st119⟩ := Jvm.LawKit.callS X118 hx (y := (⟨"com/example/filter_to_where/filtertowhere/tree/LimitsRelationshipStepsPinLaw", "pick", "(JIII)C"⟩ : MethodName)) hown (mvT hZ (w_1 hw)) (mvT hZ (w_2 hw)) (mvT hZ (w_3 hw)) (mvT hZ (w_4 hw)) (by decide) (backOf (W := 0) (rmPI l Z a0 hw [] n2 (16 : Int32) n4 (1 : Int32) h0 n0 O0 ) hZ (w_4 hw) (w_3 hw) (by decide) (by decide)) (g := (mkF m 25 #[.val (.int n1), .val (.long n2), .second, .val (.long n3), .second, .val (.int n4), .val (.int k), .val (.int u118), .unset, .unset, .unset, .unset, .unset, .unset, .unset, .unset, .unset, .unset] [(.int (1 : Int32)), (.int n4), (.int (16 : Int32)), (.long n2)])) rfl (by rw [hml]; rfl) (argsL := [(.long n2), (.int (16 : Int32)), (.int n4), (.int (1 : Int32))]) (rest := []) (lenOf pd_18 rfl) rfl (by show 2 * 0 + _ ≤ _; exact Nat.le_of_eq rfl) (hb hby at_25) (fun _ _ => ⟨rfl, e118, (by decide : 0 + 0 ≤ _), (by decide : 0 + 0 ≤ _)⟩)
  dsimp only [Pt.U, Pt.locs, Pt.cells, Pt.slots] at X119 l119 y119 z119 st119 hQ119
  subst l119 y119 z119
  obtain ⟨u119, rfl, Nq119, e119, hn119⟩ := hQ119
  have N119 := Fr.app N118 Nq119
  refine OWH.st (B := T119.setTop (mkF m 36 #[.val (.int n1), .val (.long n2), .second, .val (.long n3), .second, .val (.int n4), .val (.int k), .val (.int u118), .val (.int u119), .unset, .unset, .unset, .unset, .unset, .unset, .unset, .unset, .unset] [(.int (2 : Int32)), (.int n4), (.int (32 : Int32)), (.long n2)])) (fun _ kk_ => st119 _ (XS.istore X119.here hx rfl (hb hby at_28) rfl (l' := #[.val (.int n1), .val (.long n2), .second, .val (.long n3), .second, .val (.int n4), .val (.int k), .val (.int u118), .val (.int u119), .unset, .unset, .unset, .unset, .unset, .unset, .unset, .unset, .unset]) rfl (XS.lloadN X119.here hx rfl (hb hby at_30) rfl (XS.bipush X119.here hx rfl (hb hby at_31) (XS.iload X119.here hx rfl (hb hby at_33) rfl (XS.iconst X119.here hx rfl (hb hby at_35) kk_)))))) ?_
  obtain ⟨_, _, ⟨T120, L120, k120, n120⟩, -, X120, ⟨Lc120, hQ120, l120, y120, z120⟩, st120⟩ := Jvm.LawKit.callS X119 hx (y := (⟨"com/example/filter_to_where/filtertowhere/tree/LimitsRelationshipStepsPinLaw", "pick", "(JIII)C"⟩ : MethodName)) hown (mvT hZ (w_1 hw)) (mvT hZ (w_2 hw)) (mvT hZ (w_3 hw)) (mvT hZ (w_4 hw)) (by decide) (backOf (W := 0) (rmPI l Z a0 hw [] n2 (32 : Int32) n4 (2 : Int32) h0 n0 O0 ) hZ (w_4 hw) (w_3 hw) (by decide) (by decide)) (g := (mkF m 36 #[.val (.int n1), .val (.long n2), .second, .val (.long n3), .second, .val (.int n4), .val (.int k), .val (.int u118), .val (.int u119), .unset, .unset, .unset, .unset, .unset, .unset, .unset, .unset, .unset] [(.int (2 : Int32)), (.int n4), (.int (32 : Int32)), (.long n2)])) rfl (by rw [hml]; rfl) (argsL := [(.long n2), (.int (32 : Int32)), (.int n4), (.int (2 : Int32))]) (rest := []) (lenOf pd_18 rfl) rfl (by show 2 * 0 + _ ≤ _; exact Nat.le_of_eq rfl) (hb hby at_36) (fun _ _ => ⟨rfl, e119, (by decide : 0 + 0 ≤ _), (by decide : 0 + 0 ≤ _)⟩)
  dsimp only [Pt.U, Pt.locs, Pt.cells, Pt.slots] at X120 l120 y120 z120 st120 hQ120
  subst l120 y120 z120
  obtain ⟨u120, rfl, Nq120, e120, hn120⟩ := hQ120
  have N120 := Fr.app N119 Nq120
  refine OWH.st (B := T120.setTop (mkF m 47 #[.val (.int n1), .val (.long n2), .second, .val (.long n3), .second, .val (.int n4), .val (.int k), .val (.int u118), .val (.int u119), .val (.int u120), .unset, .unset, .unset, .unset, .unset, .unset, .unset, .unset] [(.int (3 : Int32)), (.int n4), (.int (48 : Int32)), (.long n2)])) (fun _ kk_ => st120 _ (XS.istore X120.here hx rfl (hb hby at_39) rfl (l' := #[.val (.int n1), .val (.long n2), .second, .val (.long n3), .second, .val (.int n4), .val (.int k), .val (.int u118), .val (.int u119), .val (.int u120), .unset, .unset, .unset, .unset, .unset, .unset, .unset, .unset]) rfl (XS.lloadN X120.here hx rfl (hb hby at_41) rfl (XS.bipush X120.here hx rfl (hb hby at_42) (XS.iload X120.here hx rfl (hb hby at_44) rfl (XS.iconst X120.here hx rfl (hb hby at_46) kk_)))))) ?_
  obtain ⟨_, _, ⟨T121, L121, k121, n121⟩, -, X121, ⟨Lc121, hQ121, l121, y121, z121⟩, st121⟩ := Jvm.LawKit.callS X120 hx (y := (⟨"com/example/filter_to_where/filtertowhere/tree/LimitsRelationshipStepsPinLaw", "pick", "(JIII)C"⟩ : MethodName)) hown (mvT hZ (w_1 hw)) (mvT hZ (w_2 hw)) (mvT hZ (w_3 hw)) (mvT hZ (w_4 hw)) (by decide) (backOf (W := 0) (rmPI l Z a0 hw [] n2 (48 : Int32) n4 (3 : Int32) h0 n0 O0 ) hZ (w_4 hw) (w_3 hw) (by decide) (by decide)) (g := (mkF m 47 #[.val (.int n1), .val (.long n2), .second, .val (.long n3), .second, .val (.int n4), .val (.int k), .val (.int u118), .val (.int u119), .val (.int u120), .unset, .unset, .unset, .unset, .unset, .unset, .unset, .unset] [(.int (3 : Int32)), (.int n4), (.int (48 : Int32)), (.long n2)])) rfl (by rw [hml]; rfl) (argsL := [(.long n2), (.int (48 : Int32)), (.int n4), (.int (3 : Int32))]) (rest := []) (lenOf pd_18 rfl) rfl (by show 2 * 0 + _ ≤ _; exact Nat.le_of_eq rfl) (hb hby at_47) (fun _ _ => ⟨rfl, e120, (by decide : 0 + 0 ≤ _), (by decide : 0 + 0 ≤ _)⟩)
  dsimp only [Pt.U, Pt.locs, Pt.cells, Pt.slots] at X121 l121 y121 z121 st121 hQ121
  subst l121 y121 z121
  obtain ⟨u121, rfl, Nq121, e121, hn121⟩ := hQ121
  have N121 := Fr.app N120 Nq121
  refine OWH.st (B := T121.setTop (mkF m 57 #[.val (.int n1), .val (.long n2), .second, .val (.long n3), .second, .val (.int n4), .val (.int k), .val (.int u118), .val (.int u119), .val (.int u120), .val (.int u121), .unset, .unset, .unset, .unset, .unset, .unset, .unset] [(.int (4 : Int32)), (.int n4), (.int (0 : Int32)), (.long n3)])) (fun _ kk_ => st121 _ (XS.istore X121.here hx rfl (hb hby at_50) rfl (l' := #[.val (.int n1), .val (.long n2), .second, .val (.long n3), .second, .val (.int n4), .val (.int k), .val (.int u118), .val (.int u119), .val (.int u120), .val (.int u121), .unset, .unset, .unset, .unset, .unset, .unset, .unset]) rfl (XS.lloadN X121.here hx rfl (hb hby at_52) rfl (XS.iconst X121.here hx rfl (hb hby at_53) (XS.iload X121.here hx rfl (hb hby at_54) rfl (XS.iconst X121.here hx rfl (hb hby at_56) kk_)))))) ?_
  obtain ⟨_, _, ⟨T122, L122, k122, n122⟩, -, X122, ⟨Lc122, hQ122, l122, y122, z122⟩, st122⟩ := Jvm.LawKit.callS X121 hx (y := (⟨"com/example/filter_to_where/filtertowhere/tree/LimitsRelationshipStepsPinLaw", "pick", "(JIII)C"⟩ : MethodName)) hown (mvT hZ (w_1 hw)) (mvT hZ (w_2 hw)) (mvT hZ (w_3 hw)) (mvT hZ (w_4 hw)) (by decide) (backOf (W := 0) (rmPI l Z a0 hw [] n3 (0 : Int32) n4 (4 : Int32) h0 n0 O0 ) hZ (w_4 hw) (w_3 hw) (by decide) (by decide)) (g := (mkF m 57 #[.val (.int n1), .val (.long n2), .second, .val (.long n3), .second, .val (.int n4), .val (.int k), .val (.int u118), .val (.int u119), .val (.int u120), .val (.int u121), .unset, .unset, .unset, .unset, .unset, .unset, .unset] [(.int (4 : Int32)), (.int n4), (.int (0 : Int32)), (.long n3)])) rfl (by rw [hml]; rfl) (argsL := [(.long n3), (.int (0 : Int32)), (.int n4), (.int (4 : Int32))]) (rest := []) (lenOf pd_18 rfl) rfl (by show 2 * 0 + _ ≤ _; exact Nat.le_of_eq rfl) (hb hby at_57) (fun _ _ => ⟨rfl, e121, (by decide : 0 + 0 ≤ _), (by decide : 0 + 0 ≤ _)⟩)
  dsimp only [Pt.U, Pt.locs, Pt.cells, Pt.slots] at X122 l122 y122 z122 st122 hQ122
  subst l122 y122 z122
  obtain ⟨u122, rfl, Nq122, e122, hn122⟩ := hQ122
  have N122 := Fr.app N121 Nq122
  refine OWH.st (B := T122.setTop (mkF m 68 #[.val (.int n1), .val (.long n2), .second, .val (.long n3), .second, .val (.int n4), .val (.int k), .val (.int u118), .val (.int u119), .val (.int u120), .val (.int u121), .val (.int u122), .unset, .unset, .unset, .unset, .unset, .unset] [(.int (5 : Int32)), (.int n4), (.int (16 : Int32)), (.long n3)])) (fun _ kk_ => st122 _ (XS.istore X122.here hx rfl (hb hby at_60) rfl (l' := #[.val (.int n1), .val (.long n2), .second, .val (.long n3), .second, .val (.int n4), .val (.int k), .val (.int u118), .val (.int u119), .val (.int u120), .val (.int u121), .val (.int u122), .unset, .unset, .unset, .unset, .unset, .unset]) rfl (XS.lloadN X122.here hx rfl (hb hby at_62) rfl (XS.bipush X122.here hx rfl (hb hby at_63) (XS.iload X122.here hx rfl (hb hby at_65) rfl (XS.iconst X122.here hx rfl (hb hby at_67) kk_)))))) ?_
  obtain ⟨_, _, ⟨T123, L123, k123, n123⟩, -, X123, ⟨Lc123, hQ123, l123, y123, z123⟩, st123⟩ := Jvm.LawKit.callS X122 hx (y := (⟨"com/example/filter_to_where/filtertowhere/tree/LimitsRelationshipStepsPinLaw", "pick", "(JIII)C"⟩ : MethodName)) hown (mvT hZ (w_1 hw)) (mvT hZ (w_2 hw)) (mvT hZ (w_3 hw)) (mvT hZ (w_4 hw)) (by decide) (backOf (W := 0) (rmPI l Z a0 hw [] n3 (16 : Int32) n4 (5 : Int32) h0 n0 O0 ) hZ (w_4 hw) (w_3 hw) (by decide) (by decide)) (g := (mkF m 68 #[.val (.int n1), .val (.long n2), .second, .val (.long n3), .second, .val (.int n4), .val (.int k), .val (.int u118), .val (.int u119), .val (.int u120), .val (.int u121), .val (.int u122), .unset, .unset, .unset, .unset, .unset, .unset] [(.int (5 : Int32)), (.int n4), (.int (16 : Int32)), (.long n3)])) rfl (by rw [hml]; rfl) (argsL := [(.long n3), (.int (16 : Int32)), (.int n4), (.int (5 : Int32))]) (rest := []) (lenOf pd_18 rfl) rfl (by show 2 * 0 + _ ≤ _; exact Nat.le_of_eq rfl) (hb hby at_68) (fun _ _ => ⟨rfl, e122, (by decide : 0 + 0 ≤ _), (by decide : 0 + 0 ≤ _)⟩)
  dsimp only [Pt.U, Pt.locs, Pt.cells, Pt.slots] at X123 l123 y123 z123 st123 hQ123
  subst l123 y123 z123
  obtain ⟨u123, rfl, Nq123, e123, hn123⟩ := hQ123
  have N123 := Fr.app N122 Nq123
  refine OWH.st (B := T123.setTop (mkF m 80 #[.val (.int n1), .val (.long n2), .second, .val (.long n3), .second, .val (.int n4), .val (.int k), .val (.int u118), .val (.int u119), .val (.int u120), .val (.int u121), .val (.int u122), .val (.int u123), .unset, .unset, .unset, .unset, .unset] [(.int (6 : Int32)), (.int n4), (.int (32 : Int32)), (.long n3)])) (fun _ kk_ => st123 _ (XS.istore X123.here hx rfl (hb hby at_71) rfl (l' := #[.val (.int n1), .val (.long n2), .second, .val (.long n3), .second, .val (.int n4), .val (.int k), .val (.int u118), .val (.int u119), .val (.int u120), .val (.int u121), .val (.int u122), .val (.int u123), .unset, .unset, .unset, .unset, .unset]) rfl (XS.lloadN X123.here hx rfl (hb hby at_73) rfl (XS.bipush X123.here hx rfl (hb hby at_74) (XS.iload X123.here hx rfl (hb hby at_76) rfl (XS.bipush X123.here hx rfl (hb hby at_78) kk_)))))) ?_
  obtain ⟨_, _, ⟨T124, L124, k124, n124⟩, -, X124, ⟨Lc124, hQ124, l124, y124, z124⟩, st124⟩ := Jvm.LawKit.callS X123 hx (y := (⟨"com/example/filter_to_where/filtertowhere/tree/LimitsRelationshipStepsPinLaw", "pick", "(JIII)C"⟩ : MethodName)) hown (mvT hZ (w_1 hw)) (mvT hZ (w_2 hw)) (mvT hZ (w_3 hw)) (mvT hZ (w_4 hw)) (by decide) (backOf (W := 0) (rmPI l Z a0 hw [] n3 (32 : Int32) n4 (6 : Int32) h0 n0 O0 ) hZ (w_4 hw) (w_3 hw) (by decide) (by decide)) (g := (mkF m 80 #[.val (.int n1), .val (.long n2), .second, .val (.long n3), .second, .val (.int n4), .val (.int k), .val (.int u118), .val (.int u119), .val (.int u120), .val (.int u121), .val (.int u122), .val (.int u123), .unset, .unset, .unset, .unset, .unset] [(.int (6 : Int32)), (.int n4), (.int (32 : Int32)), (.long n3)])) rfl (by rw [hml]; rfl) (argsL := [(.long n3), (.int (32 : Int32)), (.int n4), (.int (6 : Int32))]) (rest := []) (lenOf pd_18 rfl) rfl (by show 2 * 0 + _ ≤ _; exact Nat.le_of_eq rfl) (hb hby at_80) (fun _ _ => ⟨rfl, e123, (by decide : 0 + 0 ≤ _), (by decide : 0 + 0 ≤ _)⟩)
  dsimp only [Pt.U, Pt.locs, Pt.cells, Pt.slots] at X124 l124 y124 z124 st124 hQ124
  subst l124 y124 z124
  obtain ⟨u124, rfl, Nq124, e124, hn124⟩ := hQ124
  have N124 := Fr.app N123 Nq124
  refine OWH.st (B := T124.setTop (mkF m 92 #[.val (.int n1), .val (.long n2), .second, .val (.long n3), .second, .val (.int n4), .val (.int k), .val (.int u118), .val (.int u119), .val (.int u120), .val (.int u121), .val (.int u122), .val (.int u123), .val (.int u124), .unset, .unset, .unset, .unset] [(.int (7 : Int32)), (.int n4), (.int (48 : Int32)), (.long n3)])) (fun _ kk_ => st124 _ (XS.istore X124.here hx rfl (hb hby at_83) rfl (l' := #[.val (.int n1), .val (.long n2), .second, .val (.long n3), .second, .val (.int n4), .val (.int k), .val (.int u118), .val (.int u119), .val (.int u120), .val (.int u121), .val (.int u122), .val (.int u123), .val (.int u124), .unset, .unset, .unset, .unset]) rfl (XS.lloadN X124.here hx rfl (hb hby at_85) rfl (XS.bipush X124.here hx rfl (hb hby at_86) (XS.iload X124.here hx rfl (hb hby at_88) rfl (XS.bipush X124.here hx rfl (hb hby at_90) kk_)))))) ?_
  obtain ⟨_, _, ⟨T125, L125, k125, n125⟩, -, X125, ⟨Lc125, hQ125, l125, y125, z125⟩, st125⟩ := Jvm.LawKit.callS X124 hx (y := (⟨"com/example/filter_to_where/filtertowhere/tree/LimitsRelationshipStepsPinLaw", "pick", "(JIII)C"⟩ : MethodName)) hown (mvT hZ (w_1 hw)) (mvT hZ (w_2 hw)) (mvT hZ (w_3 hw)) (mvT hZ (w_4 hw)) (by decide) (backOf (W := 0) (rmPI l Z a0 hw [] n3 (48 : Int32) n4 (7 : Int32) h0 n0 O0 ) hZ (w_4 hw) (w_3 hw) (by decide) (by decide)) (g := (mkF m 92 #[.val (.int n1), .val (.long n2), .second, .val (.long n3), .second, .val (.int n4), .val (.int k), .val (.int u118), .val (.int u119), .val (.int u120), .val (.int u121), .val (.int u122), .val (.int u123), .val (.int u124), .unset, .unset, .unset, .unset] [(.int (7 : Int32)), (.int n4), (.int (48 : Int32)), (.long n3)])) rfl (by rw [hml]; rfl) (argsL := [(.long n3), (.int (48 : Int32)), (.int n4), (.int (7 : Int32))]) (rest := []) (lenOf pd_18 rfl) rfl (by show 2 * 0 + _ ≤ _; exact Nat.le_of_eq rfl) (hb hby at_92) (fun _ _ => ⟨rfl, e124, (by decide : 0 + 0 ≤ _), (by decide : 0 + 0 ≤ _)⟩)
  dsimp only [Pt.U, Pt.locs, Pt.cells, Pt.slots] at X125 l125 y125 z125 st125 hQ125
  subst l125 y125 z125
  obtain ⟨u125, rfl, Nq125, e125, hn125⟩ := hQ125
  have N125 := Fr.app N124 Nq125
  refine OWH.st (B := T125.setTop (mkF m 97 #[.val (.int n1), .val (.long n2), .second, .val (.long n3), .second, .val (.int n4), .val (.int k), .val (.int u118), .val (.int u119), .val (.int u120), .val (.int u121), .val (.int u122), .val (.int u123), .val (.int u124), .val (.int u125), .unset, .unset, .unset] [])) (fun _ kk_ => st125 _ (XS.istore X125.here hx rfl (hb hby at_95) rfl (l' := #[.val (.int n1), .val (.long n2), .second, .val (.long n3), .second, .val (.int n4), .val (.int k), .val (.int u118), .val (.int u119), .val (.int u120), .val (.int u121), .val (.int u122), .val (.int u123), .val (.int u124), .val (.int u125), .unset, .unset, .unset]) rfl kk_)) ?_
  have J126 : ∀ (T126 : State) (L126 : List Loc) (h126 : Heap) (vm126 : Vm) (k126 : Nat) (X126 : Stand p l e room_1 (s.setVm vm126) m #[(.int n1), (.long n2), (.long n3), (.int n4)] below meth c T126 L126 6 42) (N126 : Fr n0 L126) (e126 : T126.heap = h126) (O126 : Old Z n0 h126) (hS126 : s.Since vm126 k126) (hk126 : k126 ≤ h126.size) (hZ126 : Z.Warmed39 (s.setVm vm126).vm) (hown126 : (s.setVm vm126).vm.findClass "com/example/filter_to_where/filtertowhere/tree/LimitsRelationshipStepsPinLaw" = some m.cls) (CR126 : CHr Z consts_1 s.vm h0 vm126 h126) (ca bs : Addr) (cs : List Int32), (OwnSt Z h126 bs cs) → (cs.length ≤ 10) → (OwnChs cs) → (own_cnt cs = ((((((((own_dt u118 (0 : Int32) k) + (own_dt u119 (1 : Int32) k)) + (own_dt u120 (2 : Int32) k)) + (own_dt u121 (3 : Int32) k)) + (own_dt u122 (4 : Int32) k)) + (own_dt u123 (5 : Int32) k)) + (own_dt u124 (6 : Int32) k)) + (own_dt u125 (7 : Int32) k))) → OWH Z consts_1 h0 p e below s (Q0 Z n1 n2 n3 n4 i_COMPACT_STRINGS v_SIOOBE_FORMATTER h0 n0) 6 42 (T126.setTop (mkF m 213 #[.val (.int n1), .val (.long n2), .second, .val (.long n3), .second, .val (.int n4), .val (.int k), .val (.int u118), .val (.int u119), .val (.int u120), .val (.int u121), .val (.int u122), .val (.int u123), .val (.int u124), .val (.int u125), .val (.ref ca), .val (.ref bs), .unset] [])) := by
    intro T126 L126 h126 vm126 k126 X126 N126 e126 O126 hS126 hk126 hZ126 hown126 CR126 ca bs cs HO hmax hch hsum
    refine OWH.st (B := T126.setTop (mkF m 218 #[.val (.int n1), .val (.long n2), .second, .val (.long n3), .second, .val (.int n4), .val (.int k), .val (.int u118), .val (.int u119), .val (.int u120), .val (.int u121), .val (.int u122), .val (.int u123), .val (.int u124), .val (.int u125), .val (.ref ca), .val (.ref bs), .unset] [(.int k), (.int (0 : Int32)), (.int u118)])) (fun _ kk_ => XS.iload X126.here hx rfl (hb hby at_213) rfl (XS.iconst X126.here hx rfl (hb hby at_215) (XS.iload X126.here hx rfl (hb hby at_216) rfl kk_))) ?_
    obtain ⟨_, _, ⟨T127, L127, k127, n127⟩, -, X127, ⟨Lc127, hQ127, l127, y127, z127⟩, st127⟩ := Jvm.LawKit.callS X126 hx (y := (⟨"com/example/filter_to_where/filtertowhere/tree/LimitsRelationshipStepsPinLaw", "dot", "(CII)I"⟩ : MethodName)) hown126 (mvT hZ126 (w_28 hw)) (mvT hZ126 (w_29 hw)) (mvT hZ126 (w_3 hw)) (mvT hZ126 (w_30 hw)) (by decide) (backOf (W := 0) (rmDT l Z a0 hw [] u118 (0 : Int32) k h126 n0 O126 ) hZ126 (w_30 hw) (w_3 hw) (by decide) (by decide)) (g := (mkF m 218 #[.val (.int n1), .val (.long n2), .second, .val (.long n3), .second, .val (.int n4), .val (.int k), .val (.int u118), .val (.int u119), .val (.int u120), .val (.int u121), .val (.int u122), .val (.int u123), .val (.int u124), .val (.int u125), .val (.ref ca), .val (.ref bs), .unset] [(.int k), (.int (0 : Int32)), (.int u118)])) rfl (by rw [hml]; rfl) (argsL := [(.int u118), (.int (0 : Int32)), (.int k)]) (rest := []) (lenOf pd_19 rfl) rfl (by show 2 * 0 + _ ≤ _; exact Nat.le_of_eq rfl) (hb hby at_218) (fun _ _ => ⟨rfl, e126, (by decide : 6 + 0 ≤ _), (by decide : 42 + 0 ≤ _)⟩)
    dsimp only [Pt.U, Pt.locs, Pt.cells, Pt.slots] at X127 l127 y127 z127 st127 hQ127
    subst l127 y127 z127
    obtain ⟨rfl, Nq127, e127⟩ := hQ127
    have N127 := Fr.app N126 Nq127
    refine OWH.st (B := T127.setTop (mkF m 226 #[.val (.int n1), .val (.long n2), .second, .val (.long n3), .second, .val (.int n4), .val (.int k), .val (.int u118), .val (.int u119), .val (.int u120), .val (.int u121), .val (.int u122), .val (.int u123), .val (.int u124), .val (.int u125), .val (.ref ca), .val (.ref bs), .unset] [(.int k), (.int (1 : Int32)), (.int u119), (.int (own_dt u118 (0 : Int32) k))])) (fun _ kk_ => st127 _ (XS.iload X127.here hx rfl (hb hby at_221) rfl (XS.iconst X127.here hx rfl (hb hby at_223) (XS.iload X127.here hx rfl (hb hby at_224) rfl kk_)))) ?_
    obtain ⟨_, _, ⟨T128, L128, k128, n128⟩, -, X128, ⟨Lc128, hQ128, l128, y128, z128⟩, st128⟩ := Jvm.LawKit.callS X127 hx (y := (⟨"com/example/filter_to_where/filtertowhere/tree/LimitsRelationshipStepsPinLaw", "dot", "(CII)I"⟩ : MethodName)) hown126 (mvT hZ126 (w_28 hw)) (mvT hZ126 (w_29 hw)) (mvT hZ126 (w_3 hw)) (mvT hZ126 (w_30 hw)) (by decide) (backOf (W := 1) (rmDT l Z a0 hw [] u119 (1 : Int32) k h126 n0 O126 ) hZ126 (w_30 hw) (w_3 hw) (by decide) (by decide)) (g := (mkF m 226 #[.val (.int n1), .val (.long n2), .second, .val (.long n3), .second, .val (.int n4), .val (.int k), .val (.int u118), .val (.int u119), .val (.int u120), .val (.int u121), .val (.int u122), .val (.int u123), .val (.int u124), .val (.int u125), .val (.ref ca), .val (.ref bs), .unset] [(.int k), (.int (1 : Int32)), (.int u119), (.int (own_dt u118 (0 : Int32) k))])) rfl (by rw [hml]; rfl) (argsL := [(.int u119), (.int (1 : Int32)), (.int k)]) (rest := [(.int (own_dt u118 (0 : Int32) k))]) (lenOf pd_19 rfl) rfl (by show 2 * 0 + _ ≤ _; exact Nat.le_of_eq rfl) (hb hby at_226) (fun _ _ => ⟨rfl, e127, (by decide : 6 + 0 ≤ _), (by decide : 42 + 0 ≤ _)⟩)
    dsimp only [Pt.U, Pt.locs, Pt.cells, Pt.slots] at X128 l128 y128 z128 st128 hQ128
    subst l128 y128 z128
    obtain ⟨rfl, Nq128, e128⟩ := hQ128
    have N128 := Fr.app N127 Nq128
    refine OWH.st (B := T128.setTop (mkF m 235 #[.val (.int n1), .val (.long n2), .second, .val (.long n3), .second, .val (.int n4), .val (.int k), .val (.int u118), .val (.int u119), .val (.int u120), .val (.int u121), .val (.int u122), .val (.int u123), .val (.int u124), .val (.int u125), .val (.ref ca), .val (.ref bs), .unset] [(.int k), (.int (2 : Int32)), (.int u120), (.int ((own_dt u118 (0 : Int32) k) + (own_dt u119 (1 : Int32) k)))])) (fun _ kk_ => st128 _ (XS.iadd X128.here hx rfl (hb hby at_229) rfl (XS.iload X128.here hx rfl (hb hby at_230) rfl (XS.iconst X128.here hx rfl (hb hby at_232) (XS.iload X128.here hx rfl (hb hby at_233) rfl kk_))))) ?_
    obtain ⟨_, _, ⟨T129, L129, k129, n129⟩, -, X129, ⟨Lc129, hQ129, l129, y129, z129⟩, st129⟩ := Jvm.LawKit.callS X128 hx (y := (⟨"com/example/filter_to_where/filtertowhere/tree/LimitsRelationshipStepsPinLaw", "dot", "(CII)I"⟩ : MethodName)) hown126 (mvT hZ126 (w_28 hw)) (mvT hZ126 (w_29 hw)) (mvT hZ126 (w_3 hw)) (mvT hZ126 (w_30 hw)) (by decide) (backOf (W := 1) (rmDT l Z a0 hw [] u120 (2 : Int32) k h126 n0 O126 ) hZ126 (w_30 hw) (w_3 hw) (by decide) (by decide)) (g := (mkF m 235 #[.val (.int n1), .val (.long n2), .second, .val (.long n3), .second, .val (.int n4), .val (.int k), .val (.int u118), .val (.int u119), .val (.int u120), .val (.int u121), .val (.int u122), .val (.int u123), .val (.int u124), .val (.int u125), .val (.ref ca), .val (.ref bs), .unset] [(.int k), (.int (2 : Int32)), (.int u120), (.int ((own_dt u118 (0 : Int32) k) + (own_dt u119 (1 : Int32) k)))])) rfl (by rw [hml]; rfl) (argsL := [(.int u120), (.int (2 : Int32)), (.int k)]) (rest := [(.int ((own_dt u118 (0 : Int32) k) + (own_dt u119 (1 : Int32) k)))]) (lenOf pd_19 rfl) rfl (by show 2 * 0 + _ ≤ _; exact Nat.le_of_eq rfl) (hb hby at_235) (fun _ _ => ⟨rfl, e128, (by decide : 6 + 0 ≤ _), (by decide : 42 + 0 ≤ _)⟩)
    dsimp only [Pt.U, Pt.locs, Pt.cells, Pt.slots] at X129 l129 y129 z129 st129 hQ129
    subst l129 y129 z129
    obtain ⟨rfl, Nq129, e129⟩ := hQ129
    have N129 := Fr.app N128 Nq129
    refine OWH.st (B := T129.setTop (mkF m 244 #[.val (.int n1), .val (.long n2), .second, .val (.long n3), .second, .val (.int n4), .val (.int k), .val (.int u118), .val (.int u119), .val (.int u120), .val (.int u121), .val (.int u122), .val (.int u123), .val (.int u124), .val (.int u125), .val (.ref ca), .val (.ref bs), .unset] [(.int k), (.int (3 : Int32)), (.int u121), (.int (((own_dt u118 (0 : Int32) k) + (own_dt u119 (1 : Int32) k)) + (own_dt u120 (2 : Int32) k)))])) (fun _ kk_ => st129 _ (XS.iadd X129.here hx rfl (hb hby at_238) rfl (XS.iload X129.here hx rfl (hb hby at_239) rfl (XS.iconst X129.here hx rfl (hb hby at_241) (XS.iload X129.here hx rfl (hb hby at_242) rfl kk_))))) ?_
    obtain ⟨_, _, ⟨T130, L130, k130, n130⟩, -, X130, ⟨Lc130, hQ130, l130, y130, z130⟩, st130⟩ := Jvm.LawKit.callS X129 hx (y := (⟨"com/example/filter_to_where/filtertowhere/tree/LimitsRelationshipStepsPinLaw", "dot", "(CII)I"⟩ : MethodName)) hown126 (mvT hZ126 (w_28 hw)) (mvT hZ126 (w_29 hw)) (mvT hZ126 (w_3 hw)) (mvT hZ126 (w_30 hw)) (by decide) (backOf (W := 1) (rmDT l Z a0 hw [] u121 (3 : Int32) k h126 n0 O126 ) hZ126 (w_30 hw) (w_3 hw) (by decide) (by decide)) (g := (mkF m 244 #[.val (.int n1), .val (.long n2), .second, .val (.long n3), .second, .val (.int n4), .val (.int k), .val (.int u118), .val (.int u119), .val (.int u120), .val (.int u121), .val (.int u122), .val (.int u123), .val (.int u124), .val (.int u125), .val (.ref ca), .val (.ref bs), .unset] [(.int k), (.int (3 : Int32)), (.int u121), (.int (((own_dt u118 (0 : Int32) k) + (own_dt u119 (1 : Int32) k)) + (own_dt u120 (2 : Int32) k)))])) rfl (by rw [hml]; rfl) (argsL := [(.int u121), (.int (3 : Int32)), (.int k)]) (rest := [(.int (((own_dt u118 (0 : Int32) k) + (own_dt u119 (1 : Int32) k)) + (own_dt u120 (2 : Int32) k)))]) (lenOf pd_19 rfl) rfl (by show 2 * 0 + _ ≤ _; exact Nat.le_of_eq rfl) (hb hby at_244) (fun _ _ => ⟨rfl, e129, (by decide : 6 + 0 ≤ _), (by decide : 42 + 0 ≤ _)⟩)
    dsimp only [Pt.U, Pt.locs, Pt.cells, Pt.slots] at X130 l130 y130 z130 st130 hQ130
    subst l130 y130 z130
    obtain ⟨rfl, Nq130, e130⟩ := hQ130
    have N130 := Fr.app N129 Nq130
    refine OWH.st (B := T130.setTop (mkF m 253 #[.val (.int n1), .val (.long n2), .second, .val (.long n3), .second, .val (.int n4), .val (.int k), .val (.int u118), .val (.int u119), .val (.int u120), .val (.int u121), .val (.int u122), .val (.int u123), .val (.int u124), .val (.int u125), .val (.ref ca), .val (.ref bs), .unset] [(.int k), (.int (4 : Int32)), (.int u122), (.int ((((own_dt u118 (0 : Int32) k) + (own_dt u119 (1 : Int32) k)) + (own_dt u120 (2 : Int32) k)) + (own_dt u121 (3 : Int32) k)))])) (fun _ kk_ => st130 _ (XS.iadd X130.here hx rfl (hb hby at_247) rfl (XS.iload X130.here hx rfl (hb hby at_248) rfl (XS.iconst X130.here hx rfl (hb hby at_250) (XS.iload X130.here hx rfl (hb hby at_251) rfl kk_))))) ?_
    obtain ⟨_, _, ⟨T131, L131, k131, n131⟩, -, X131, ⟨Lc131, hQ131, l131, y131, z131⟩, st131⟩ := Jvm.LawKit.callS X130 hx (y := (⟨"com/example/filter_to_where/filtertowhere/tree/LimitsRelationshipStepsPinLaw", "dot", "(CII)I"⟩ : MethodName)) hown126 (mvT hZ126 (w_28 hw)) (mvT hZ126 (w_29 hw)) (mvT hZ126 (w_3 hw)) (mvT hZ126 (w_30 hw)) (by decide) (backOf (W := 1) (rmDT l Z a0 hw [] u122 (4 : Int32) k h126 n0 O126 ) hZ126 (w_30 hw) (w_3 hw) (by decide) (by decide)) (g := (mkF m 253 #[.val (.int n1), .val (.long n2), .second, .val (.long n3), .second, .val (.int n4), .val (.int k), .val (.int u118), .val (.int u119), .val (.int u120), .val (.int u121), .val (.int u122), .val (.int u123), .val (.int u124), .val (.int u125), .val (.ref ca), .val (.ref bs), .unset] [(.int k), (.int (4 : Int32)), (.int u122), (.int ((((own_dt u118 (0 : Int32) k) + (own_dt u119 (1 : Int32) k)) + (own_dt u120 (2 : Int32) k)) + (own_dt u121 (3 : Int32) k)))])) rfl (by rw [hml]; rfl) (argsL := [(.int u122), (.int (4 : Int32)), (.int k)]) (rest := [(.int ((((own_dt u118 (0 : Int32) k) + (own_dt u119 (1 : Int32) k)) + (own_dt u120 (2 : Int32) k)) + (own_dt u121 (3 : Int32) k)))]) (lenOf pd_19 rfl) rfl (by show 2 * 0 + _ ≤ _; exact Nat.le_of_eq rfl) (hb hby at_253) (fun _ _ => ⟨rfl, e130, (by decide : 6 + 0 ≤ _), (by decide : 42 + 0 ≤ _)⟩)
    dsimp only [Pt.U, Pt.locs, Pt.cells, Pt.slots] at X131 l131 y131 z131 st131 hQ131
    subst l131 y131 z131
    obtain ⟨rfl, Nq131, e131⟩ := hQ131
    have N131 := Fr.app N130 Nq131
    refine OWH.st (B := T131.setTop (mkF m 262 #[.val (.int n1), .val (.long n2), .second, .val (.long n3), .second, .val (.int n4), .val (.int k), .val (.int u118), .val (.int u119), .val (.int u120), .val (.int u121), .val (.int u122), .val (.int u123), .val (.int u124), .val (.int u125), .val (.ref ca), .val (.ref bs), .unset] [(.int k), (.int (5 : Int32)), (.int u123), (.int (((((own_dt u118 (0 : Int32) k) + (own_dt u119 (1 : Int32) k)) + (own_dt u120 (2 : Int32) k)) + (own_dt u121 (3 : Int32) k)) + (own_dt u122 (4 : Int32) k)))])) (fun _ kk_ => st131 _ (XS.iadd X131.here hx rfl (hb hby at_256) rfl (XS.iload X131.here hx rfl (hb hby at_257) rfl (XS.iconst X131.here hx rfl (hb hby at_259) (XS.iload X131.here hx rfl (hb hby at_260) rfl kk_))))) ?_
    obtain ⟨_, _, ⟨T132, L132, k132, n132⟩, -, X132, ⟨Lc132, hQ132, l132, y132, z132⟩, st132⟩ := Jvm.LawKit.callS X131 hx (y := (⟨"com/example/filter_to_where/filtertowhere/tree/LimitsRelationshipStepsPinLaw", "dot", "(CII)I"⟩ : MethodName)) hown126 (mvT hZ126 (w_28 hw)) (mvT hZ126 (w_29 hw)) (mvT hZ126 (w_3 hw)) (mvT hZ126 (w_30 hw)) (by decide) (backOf (W := 1) (rmDT l Z a0 hw [] u123 (5 : Int32) k h126 n0 O126 ) hZ126 (w_30 hw) (w_3 hw) (by decide) (by decide)) (g := (mkF m 262 #[.val (.int n1), .val (.long n2), .second, .val (.long n3), .second, .val (.int n4), .val (.int k), .val (.int u118), .val (.int u119), .val (.int u120), .val (.int u121), .val (.int u122), .val (.int u123), .val (.int u124), .val (.int u125), .val (.ref ca), .val (.ref bs), .unset] [(.int k), (.int (5 : Int32)), (.int u123), (.int (((((own_dt u118 (0 : Int32) k) + (own_dt u119 (1 : Int32) k)) + (own_dt u120 (2 : Int32) k)) + (own_dt u121 (3 : Int32) k)) + (own_dt u122 (4 : Int32) k)))])) rfl (by rw [hml]; rfl) (argsL := [(.int u123), (.int (5 : Int32)), (.int k)]) (rest := [(.int (((((own_dt u118 (0 : Int32) k) + (own_dt u119 (1 : Int32) k)) + (own_dt u120 (2 : Int32) k)) + (own_dt u121 (3 : Int32) k)) + (own_dt u122 (4 : Int32) k)))]) (lenOf pd_19 rfl) rfl (by show 2 * 0 + _ ≤ _; exact Nat.le_of_eq rfl) (hb hby at_262) (fun _ _ => ⟨rfl, e131, (by decide : 6 + 0 ≤ _), (by decide : 42 + 0 ≤ _)⟩)
    dsimp only [Pt.U, Pt.locs, Pt.cells, Pt.slots] at X132 l132 y132 z132 st132 hQ132
    subst l132 y132 z132
    obtain ⟨rfl, Nq132, e132⟩ := hQ132
    have N132 := Fr.app N131 Nq132
    refine OWH.st (B := T132.setTop (mkF m 272 #[.val (.int n1), .val (.long n2), .second, .val (.long n3), .second, .val (.int n4), .val (.int k), .val (.int u118), .val (.int u119), .val (.int u120), .val (.int u121), .val (.int u122), .val (.int u123), .val (.int u124), .val (.int u125), .val (.ref ca), .val (.ref bs), .unset] [(.int k), (.int (6 : Int32)), (.int u124), (.int ((((((own_dt u118 (0 : Int32) k) + (own_dt u119 (1 : Int32) k)) + (own_dt u120 (2 : Int32) k)) + (own_dt u121 (3 : Int32) k)) + (own_dt u122 (4 : Int32) k)) + (own_dt u123 (5 : Int32) k)))])) (fun _ kk_ => st132 _ (XS.iadd X132.here hx rfl (hb hby at_265) rfl (XS.iload X132.here hx rfl (hb hby at_266) rfl (XS.bipush X132.here hx rfl (hb hby at_268) (XS.iload X132.here hx rfl (hb hby at_270) rfl kk_))))) ?_
    obtain ⟨_, _, ⟨T133, L133, k133, n133⟩, -, X133, ⟨Lc133, hQ133, l133, y133, z133⟩, st133⟩ := Jvm.LawKit.callS X132 hx (y := (⟨"com/example/filter_to_where/filtertowhere/tree/LimitsRelationshipStepsPinLaw", "dot", "(CII)I"⟩ : MethodName)) hown126 (mvT hZ126 (w_28 hw)) (mvT hZ126 (w_29 hw)) (mvT hZ126 (w_3 hw)) (mvT hZ126 (w_30 hw)) (by decide) (backOf (W := 1) (rmDT l Z a0 hw [] u124 (6 : Int32) k h126 n0 O126 ) hZ126 (w_30 hw) (w_3 hw) (by decide) (by decide)) (g := (mkF m 272 #[.val (.int n1), .val (.long n2), .second, .val (.long n3), .second, .val (.int n4), .val (.int k), .val (.int u118), .val (.int u119), .val (.int u120), .val (.int u121), .val (.int u122), .val (.int u123), .val (.int u124), .val (.int u125), .val (.ref ca), .val (.ref bs), .unset] [(.int k), (.int (6 : Int32)), (.int u124), (.int ((((((own_dt u118 (0 : Int32) k) + (own_dt u119 (1 : Int32) k)) + (own_dt u120 (2 : Int32) k)) + (own_dt u121 (3 : Int32) k)) + (own_dt u122 (4 : Int32) k)) + (own_dt u123 (5 : Int32) k)))])) rfl (by rw [hml]; rfl) (argsL := [(.int u124), (.int (6 : Int32)), (.int k)]) (rest := [(.int ((((((own_dt u118 (0 : Int32) k) + (own_dt u119 (1 : Int32) k)) + (own_dt u120 (2 : Int32) k)) + (own_dt u121 (3 : Int32) k)) + (own_dt u122 (4 : Int32) k)) + (own_dt u123 (5 : Int32) k)))]) (lenOf pd_19 rfl) rfl (by show 2 * 0 + _ ≤ _; exact Nat.le_of_eq rfl) (hb hby at_272) (fun _ _ => ⟨rfl, e132, (by decide : 6 + 0 ≤ _), (by decide : 42 + 0 ≤ _)⟩)
    dsimp only [Pt.U, Pt.locs, Pt.cells, Pt.slots] at X133 l133 y133 z133 st133 hQ133
    subst l133 y133 z133
    obtain ⟨rfl, Nq133, e133⟩ := hQ133
    have N133 := Fr.app N132 Nq133
    refine OWH.st (B := T133.setTop (mkF m 282 #[.val (.int n1), .val (.long n2), .second, .val (.long n3), .second, .val (.int n4), .val (.int k), .val (.int u118), .val (.int u119), .val (.int u120), .val (.int u121), .val (.int u122), .val (.int u123), .val (.int u124), .val (.int u125), .val (.ref ca), .val (.ref bs), .unset] [(.int k), (.int (7 : Int32)), (.int u125), (.int (((((((own_dt u118 (0 : Int32) k) + (own_dt u119 (1 : Int32) k)) + (own_dt u120 (2 : Int32) k)) + (own_dt u121 (3 : Int32) k)) + (own_dt u122 (4 : Int32) k)) + (own_dt u123 (5 : Int32) k)) + (own_dt u124 (6 : Int32) k)))])) (fun _ kk_ => st133 _ (XS.iadd X133.here hx rfl (hb hby at_275) rfl (XS.iload X133.here hx rfl (hb hby at_276) rfl (XS.bipush X133.here hx rfl (hb hby at_278) (XS.iload X133.here hx rfl (hb hby at_280) rfl kk_))))) ?_
    obtain ⟨_, _, ⟨T134, L134, k134, n134⟩, -, X134, ⟨Lc134, hQ134, l134, y134, z134⟩, st134⟩ := Jvm.LawKit.callS X133 hx (y := (⟨"com/example/filter_to_where/filtertowhere/tree/LimitsRelationshipStepsPinLaw", "dot", "(CII)I"⟩ : MethodName)) hown126 (mvT hZ126 (w_28 hw)) (mvT hZ126 (w_29 hw)) (mvT hZ126 (w_3 hw)) (mvT hZ126 (w_30 hw)) (by decide) (backOf (W := 1) (rmDT l Z a0 hw [] u125 (7 : Int32) k h126 n0 O126 ) hZ126 (w_30 hw) (w_3 hw) (by decide) (by decide)) (g := (mkF m 282 #[.val (.int n1), .val (.long n2), .second, .val (.long n3), .second, .val (.int n4), .val (.int k), .val (.int u118), .val (.int u119), .val (.int u120), .val (.int u121), .val (.int u122), .val (.int u123), .val (.int u124), .val (.int u125), .val (.ref ca), .val (.ref bs), .unset] [(.int k), (.int (7 : Int32)), (.int u125), (.int (((((((own_dt u118 (0 : Int32) k) + (own_dt u119 (1 : Int32) k)) + (own_dt u120 (2 : Int32) k)) + (own_dt u121 (3 : Int32) k)) + (own_dt u122 (4 : Int32) k)) + (own_dt u123 (5 : Int32) k)) + (own_dt u124 (6 : Int32) k)))])) rfl (by rw [hml]; rfl) (argsL := [(.int u125), (.int (7 : Int32)), (.int k)]) (rest := [(.int (((((((own_dt u118 (0 : Int32) k) + (own_dt u119 (1 : Int32) k)) + (own_dt u120 (2 : Int32) k)) + (own_dt u121 (3 : Int32) k)) + (own_dt u122 (4 : Int32) k)) + (own_dt u123 (5 : Int32) k)) + (own_dt u124 (6 : Int32) k)))]) (lenOf pd_19 rfl) rfl (by show 2 * 0 + _ ≤ _; exact Nat.le_of_eq rfl) (hb hby at_282) (fun _ _ => ⟨rfl, e133, (by decide : 6 + 0 ≤ _), (by decide : 42 + 0 ≤ _)⟩)
    dsimp only [Pt.U, Pt.locs, Pt.cells, Pt.slots] at X134 l134 y134 z134 st134 hQ134
    subst l134 y134 z134
    obtain ⟨rfl, Nq134, e134⟩ := hQ134
    have N134 := Fr.app N133 Nq134
    refine OWH.st (B := T134.setTop (mkF m 290 #[.val (.int n1), .val (.long n2), .second, .val (.long n3), .second, .val (.int n4), .val (.int k), .val (.int u118), .val (.int u119), .val (.int u120), .val (.int u121), .val (.int u122), .val (.int u123), .val (.int u124), .val (.int u125), .val (.ref ca), .val (.ref bs), .val (.int ((((((((own_dt u118 (0 : Int32) k) + (own_dt u119 (1 : Int32) k)) + (own_dt u120 (2 : Int32) k)) + (own_dt u121 (3 : Int32) k)) + (own_dt u122 (4 : Int32) k)) + (own_dt u123 (5 : Int32) k)) + (own_dt u124 (6 : Int32) k)) + (own_dt u125 (7 : Int32) k)))] [(.ref bs)])) (fun _ kk_ => st134 _ (XS.iadd X134.here hx rfl (hb hby at_285) rfl (XS.istore X134.here hx rfl (hb hby at_286) rfl (l' := #[.val (.int n1), .val (.long n2), .second, .val (.long n3), .second, .val (.int n4), .val (.int k), .val (.int u118), .val (.int u119), .val (.int u120), .val (.int u121), .val (.int u122), .val (.int u123), .val (.int u124), .val (.int u125), .val (.ref ca), .val (.ref bs), .val (.int ((((((((own_dt u118 (0 : Int32) k) + (own_dt u119 (1 : Int32) k)) + (own_dt u120 (2 : Int32) k)) + (own_dt u121 (3 : Int32) k)) + (own_dt u122 (4 : Int32) k)) + (own_dt u123 (5 : Int32) k)) + (own_dt u124 (6 : Int32) k)) + (own_dt u125 (7 : Int32) k)))]) rfl (XS.aload X134.here hx rfl (hb hby at_288) rfl rfl kk_)))) ?_
    obtain ⟨_, _, ⟨T135, L135, k135, n135⟩, -, X135, ⟨Lc135, hQ135, l135, y135, z135⟩, st135⟩ := Jvm.LawKit.callS X134 hx (y := (⟨"com/example/filter_to_where/filtertowhere/tree/Limits", "relationshipSteps", "(Ljava/lang/String;)I"⟩ : MethodName)) hown126 (mvT hZ126 (w_31 hw)) (mvT hZ126 (w_32 hw)) (mvT hZ126 (w_33 hw)) (mvT hZ126 (w_34 hw)) (by decide) (backOf (W := 0) (rmRS l Z a0 hw [] bs cs i_COMPACT_STRINGS v_SIOOBE_FORMATTER h126 n0 O126 HO hmax hch hS) hZ126 (w_34 hw) (w_33 hw) (by decide) (by decide)) (g := (mkF m 290 #[.val (.int n1), .val (.long n2), .second, .val (.long n3), .second, .val (.int n4), .val (.int k), .val (.int u118), .val (.int u119), .val (.int u120), .val (.int u121), .val (.int u122), .val (.int u123), .val (.int u124), .val (.int u125), .val (.ref ca), .val (.ref bs), .val (.int ((((((((own_dt u118 (0 : Int32) k) + (own_dt u119 (1 : Int32) k)) + (own_dt u120 (2 : Int32) k)) + (own_dt u121 (3 : Int32) k)) + (own_dt u122 (4 : Int32) k)) + (own_dt u123 (5 : Int32) k)) + (own_dt u124 (6 : Int32) k)) + (own_dt u125 (7 : Int32) k)))] [(.ref bs)])) rfl (by rw [hml]; rfl) (argsL := [(.ref bs)]) (rest := []) (lenOf pd_20 rfl) rfl (by show 2 * 0 + _ ≤ _; exact Nat.le_of_eq rfl) (hb hby at_290) (fun _ _ => ⟨rfl, e134, (by decide : 6 + 0 ≤ _), (by decide : 42 + 0 ≤ _)⟩)
    dsimp only [Pt.U, Pt.locs, Pt.cells, Pt.slots] at X135 l135 y135 z135 st135 hQ135
    subst l135 y135 z135
    obtain ⟨rfl, Nq135, e135⟩ := hQ135
    have N135 := Fr.app N134 Nq135
    refine OWH.st (B := T135.setTop (mkF m 303 #[.val (.int n1), .val (.long n2), .second, .val (.long n3), .second, .val (.int n4), .val (.int k), .val (.int u118), .val (.int u119), .val (.int u120), .val (.int u121), .val (.int u122), .val (.int u123), .val (.int u124), .val (.int u125), .val (.ref ca), .val (.ref bs), .val (.int ((((((((own_dt u118 (0 : Int32) k) + (own_dt u119 (1 : Int32) k)) + (own_dt u120 (2 : Int32) k)) + (own_dt u121 (3 : Int32) k)) + (own_dt u122 (4 : Int32) k)) + (own_dt u123 (5 : Int32) k)) + (own_dt u124 (6 : Int32) k)) + (own_dt u125 (7 : Int32) k)))] [(.int (1 : Int32))])) (fun _ kk_ => st135 _ (XS.iload X135.here hx rfl (hb hby at_293) rfl (XS.icmpNo X135.here hx rfl (hb hby at_295) rfl (teq hsum).2 (XS.iconst X135.here hx rfl (hb hby at_298) (XS.goto X135.here hx rfl (pc0 := 299) (pc' := 303) rfl (hb hby at_299) (by decide) (by decide) kk_))))) ?_
    exact OWH.ret X135 (s := s) (vm0 := vm126) hS126 hk126 hx hlk CR126 hZ126 (own_EW hw) (i := .ireturn) Bd.returns rfl (Or.inl ⟨rfl, Or.inr (Or.inl rfl), _, rfl⟩) (hb hby at_303) e135 (by decide) (by decide) ⟨rfl, N135⟩
  rcases hk with rfl | rfl | rfl | rfl | rfl | rfl | rfl | rfl | rfl
  · refine OWH.st (B := T125.setTop (mkF m 99 #[.val (.int n1), .val (.long n2), .second, .val (.long n3), .second, .val (.int n4), .val (.int (0 : Int32)), .val (.int u118), .val (.int u119), .val (.int u120), .val (.int u121), .val (.int u122), .val (.int u123), .val (.int u124), .val (.int u125), .unset, .unset, .unset] [(.int (0 : Int32))])) (fun _ kk_ => XS.iload X125.here hx rfl (hb hby at_97) rfl kk_) ?_
    obtain ⟨T136, h136, k136, X136, e136, E136, A136, st136⟩ := newP (aty := .char) X125 hx hZ (w_6 hw) e125 (g := (mkF m 99 #[.val (.int n1), .val (.long n2), .second, .val (.long n3), .second, .val (.int n4), .val (.int (0 : Int32)), .val (.int u118), .val (.int u119), .val (.int u120), .val (.int u121), .val (.int u122), .val (.int u123), .val (.int u124), .val (.int u125), .unset, .unset, .unset] [(.int (0 : Int32))])) rfl (hb hby at_99) rfl (by decide) (cap := 0) (by decide +kernel) (by decide +kernel) (by decide +kernel) (by decide +kernel)
    obtain ⟨b136, g136⟩ : ∃ z, z = h0.size := ⟨_, rfl⟩
    rw [← g136] at A136 st136
    have n_b136 : n0 ≤ b136 := Nat.le_trans (own_oldle O0) (Nat.le_of_eq g136.symm)
    have O136 : Old Z n0 h136 := O0.ext E136
    have CS136 : CHr Z consts_1 s.vm h0 s.vm h136 := CHr.ext E136 CR0.1
    have CR136 := CHr.trans CR0 CS136
    have Sf136_b136 : Safe Z consts_1 s.vm h136 b136 := Safe.ext E136 CR0.1 (Safe.new (Nat.le_of_eq g136.symm))
    have V136 : Arv Z h136 b136 k136 .char (0 : Int32) [] (.int (0 : Int32)) := (Arv.new A136 (by decide)).pad (pad_rep [] (.int (0 : Int32)) 0)
    refine OWH.st (B := T136.setTop (mkF m 138 #[.val (.int n1), .val (.long n2), .second, .val (.long n3), .second, .val (.int n4), .val (.int (0 : Int32)), .val (.int u118), .val (.int u119), .val (.int u120), .val (.int u121), .val (.int u122), .val (.int u123), .val (.int u124), .val (.int u125), .val (.ref b136), .unset, .unset] [])) (fun _ kk_ => st136 _ (XS.astore X136.here hx rfl (hb hby at_101) rfl rfl (l' := #[.val (.int n1), .val (.long n2), .second, .val (.long n3), .second, .val (.int n4), .val (.int (0 : Int32)), .val (.int u118), .val (.int u119), .val (.int u120), .val (.int u121), .val (.int u122), .val (.int u123), .val (.int u124), .val (.int u125), .val (.ref b136), .unset, .unset]) rfl (XS.iload X136.here hx rfl (hb hby at_103) rfl (XS.ifYes X136.here hx rfl (pc0 := 105) (pc' := 114) rfl (hb hby at_105) rfl ((if0 _ _).trans (flt (by decide)).2.2.2) (by decide) (by decide) (XS.iload X136.here hx rfl (hb hby at_114) rfl (XS.iconst X136.here hx rfl (hb hby at_116) (XS.icmpYes X136.here hx rfl (pc0 := 117) (pc' := 126) rfl (hb hby at_117) rfl (flt (by decide)).2.2.2 (by decide) (by decide) (XS.iload X136.here hx rfl (hb hby at_126) rfl (XS.iconst X136.here hx rfl (hb hby at_128) (XS.icmpYes X136.here hx rfl (pc0 := 129) (pc' := 138) rfl (hb hby at_129) rfl (flt (by decide)).2.2.2 (by decide) (by decide) kk_)))))))))) ?_
    refine OWH.st (B := T136.setTop (mkF m 176 #[.val (.int n1), .val (.long n2), .second, .val (.long n3), .second, .val (.int n4), .val (.int (0 : Int32)), .val (.int u118), .val (.int u119), .val (.int u120), .val (.int u121), .val (.int u122), .val (.int u123), .val (.int u124), .val (.int u125), .val (.ref b136), .unset, .unset] [(.int (0 : Int32))])) (fun _ kk_ => XS.iload X136.here hx rfl (hb hby at_138) rfl (XS.iconst X136.here hx rfl (hb hby at_140) (XS.icmpYes X136.here hx rfl (pc0 := 141) (pc' := 150) rfl (hb hby at_141) rfl (flt (by decide)).2.2.2 (by decide) (by decide) (XS.iload X136.here hx rfl (hb hby at_150) rfl (XS.iconst X136.here hx rfl (hb hby at_152) (XS.icmpYes X136.here hx rfl (pc0 := 153) (pc' := 162) rfl (hb hby at_153) rfl (flt (by decide)).2.2.2 (by decide) (by decide) (XS.iload X136.here hx rfl (hb hby at_162) rfl (XS.iconst X136.here hx rfl (hb hby at_164) (XS.icmpYes X136.here hx rfl (pc0 := 165) (pc' := 174) rfl (hb hby at_165) rfl (flt (by decide)).2.2.2 (by decide) (by decide) (XS.iload X136.here hx rfl (hb hby at_174) rfl kk_)))))))))) ?_
    refine OWH.st (B := T136.setTop (mkF m 202 #[.val (.int n1), .val (.long n2), .second, .val (.long n3), .second, .val (.int n4), .val (.int (0 : Int32)), .val (.int u118), .val (.int u119), .val (.int u120), .val (.int u121), .val (.int u122), .val (.int u123), .val (.int u124), .val (.int u125), .val (.ref b136), .unset, .unset] [])) (fun _ kk_ => XS.bipush X136.here hx rfl (hb hby at_176) (XS.icmpYes X136.here hx rfl (pc0 := 178) (pc' := 188) rfl (hb hby at_178) rfl (flt (by decide)).2.2.2 (by decide) (by decide) (XS.iload X136.here hx rfl (hb hby at_188) rfl (XS.bipush X136.here hx rfl (hb hby at_190) (XS.icmpYes X136.here hx rfl (pc0 := 192) (pc' := 202) rfl (hb hby at_192) rfl (flt (by decide)).2.2.2 (by decide) (by decide) kk_))))) ?_
    obtain ⟨T137, h137, X137, e137, E137, A137, D137, -, st137⟩ := newO X136 hx hZ hown (w_7 hw) (w_8 hw) (w_9 hw) e136 (g := (mkF m 202 #[.val (.int n1), .val (.long n2), .second, .val (.long n3), .second, .val (.int n4), .val (.int (0 : Int32)), .val (.int u118), .val (.int u119), .val (.int u120), .val (.int u121), .val (.int u122), .val (.int u123), .val (.int u124), .val (.int u125), .val (.ref b136), .unset, .unset] [])) rfl (hb hby at_202) (by decide) (by decide)
    obtain ⟨b137, g137⟩ : ∃ z, z = h136.size := ⟨_, rfl⟩
    rw [← g137] at A137 D137 st137
    have n_b137 : n0 ≤ b137 := Nat.le_trans (own_oldle O136) (Nat.le_of_eq g137.symm)
    have O137 : Old Z n0 h137 := O136.ext E137
    have CS137 : CHr Z consts_1 s.vm h136 s.vm h137 := CHr.ext E137 CR136.1
    have Sf137_b136 := CHr.safe CS137 V136.lt Sf136_b136
    have CR137 := CHr.trans CR136 CS137
    have Sf137_b137 : Safe Z consts_1 s.vm h137 b137 := Safe.ext E137 CR136.1 (Safe.new (Nat.le_of_eq g137.symm))
    have F137_22 : Fld Z h137 b137 "java/lang/String" "value" "[B" .null := D137 (Or.inr (w_22 hw)) (ty := (.array .byte)) (by decide)
    have F137_23 : Fld Z h137 b137 "java/lang/String" "coder" "B" (.int (0 : Int32)) := D137 (Or.inr (w_23 hw)) (ty := .byte) (by decide)
    refine OWH.st (B := T137.setTop (mkF m 208 #[.val (.int n1), .val (.long n2), .second, .val (.long n3), .second, .val (.int n4), .val (.int (0 : Int32)), .val (.int u118), .val (.int u119), .val (.int u120), .val (.int u121), .val (.int u122), .val (.int u123), .val (.int u124), .val (.int u125), .val (.ref b136), .unset, .unset] [(.ref b136), (.ref b137), (.ref b137)])) (fun _ kk_ => st137 _ (XS.dup X137.here hx rfl (hb hby at_205) rfl rfl (XS.aload X137.here hx rfl (hb hby at_206) rfl rfl kk_))) ?_
    obtain ⟨_, _, ⟨T138, L138, k138, n138⟩, -, X138, hs138, hsz138, ⟨Lc138, hQ138, l138, y138, z138, CQ138⟩, st138⟩ := X137.specialBackS hx (y := (⟨"java/lang/String", "<init>", "([C)V"⟩ : MethodName)) rfl hown (mvT hZ (w_10 hw)) (mvT hZ (w_11 hw)) (mvT hZ (w_12 hw)) (by decide) (backOfSH (W := 1) (rmS0_0 l Z a0 hw [] b137 b136 k136 h137 n0 O137 A137 F137_22 F137_23 n_b137 (V136.ext E137)) hZ (w_12 hw) (w_9 hw) (by decide) (by decide) (own_EW hw) CR137.1) (g := (mkF m 208 #[.val (.int n1), .val (.long n2), .second, .val (.long n3), .second, .val (.int n4), .val (.int (0 : Int32)), .val (.int u118), .val (.int u119), .val (.int u120), .val (.int u121), .val (.int u122), .val (.int u123), .val (.int u124), .val (.int u125), .val (.ref b136), .unset, .unset] [(.ref b136), (.ref b137), (.ref b137)])) rfl (by rw [hml]; rfl) (Steps.refl _) (a := b137) (argsL := [(.ref b136)]) (rest := [(.ref b137)]) (lenOf pd_21 rfl) rfl (by show 2 * 0 + _ ≤ _; exact Nat.le_of_eq rfl) (hb hby at_208) (fun _ _ => ⟨rfl, e137, (by decide : 2 + 4 ≤ _), (by decide : 4 + 8 ≤ _)⟩)
    dsimp only [Pt.U, Pt.locs, Pt.cells, Pt.slots] at hs138 hsz138
    have hS138 := foldS hS0 (show _ ≤ T137.heap.size by rw [e137]; exact (Nat.le_trans (Nat.le_trans hk0 E136.1) E137.1)) hs138 hsz138
    have hZ138 : Z.Warmed39 (s.setVm T138.vm).vm := State.Warmed39.trans (t := s) hZ hs138.1
    have hown138 : (s.setVm T138.vm).vm.findClass "com/example/filter_to_where/filtertowhere/tree/LimitsRelationshipStepsPinLaw" = some m.cls := by rw [show (s.setVm T138.vm).vm = T138.vm from rfl, hs138.1.alike.findClass]; exact hown
    dsimp only [Pt.U, Pt.locs, Pt.cells, Pt.slots] at X138 l138 y138 z138 st138 hQ138 CQ138
    subst l138 y138 z138
    obtain ⟨rfl, Nq138, K138, Es138, ba138, kb138, Fc138, Fv138, Vs138⟩ := hQ138
    have N138 := Fr.app N125 Nq138
    have O138 : Old Z n0 T138.heap := O137.keep K138 (allS n_b137 all0)
    have CS138 : CHr Z consts_1 s.vm h137 T138.vm T138.heap := CQ138
    have Sf138_b136 := CHr.safe CS138 (V136.ext E137).lt Sf137_b136
    have Sf138_b137 := CHr.safe CS138 A137.lt Sf137_b137
    have CR138 := CHr.trans CR137 CS138
    have hk138 : T138.heap.size ≤ T138.heap.size := Nat.le_of_eq (by rfl)
    refine OWH.tr (B := T138.setTop (mkF m 211 #[.val (.int n1), .val (.long n2), .second, .val (.long n3), .second, .val (.int n4), .val (.int (0 : Int32)), .val (.int u118), .val (.int u119), .val (.int u120), .val (.int u121), .val (.int u122), .val (.int u123), .val (.int u124), .val (.int u125), .val (.ref b136), .unset, .unset] [(.ref b137)])) (st138) ?_
    refine OWH.st (B := T138.setTop (mkF m 213 #[.val (.int n1), .val (.long n2), .second, .val (.long n3), .second, .val (.int n4), .val (.int (0 : Int32)), .val (.int u118), .val (.int u119), .val (.int u120), .val (.int u121), .val (.int u122), .val (.int u123), .val (.int u124), .val (.int u125), .val (.ref b136), .val (.ref b137), .unset] [])) (fun _ kk_ => XS.astore X138.here hx rfl (hb hby at_211) rfl rfl (l' := #[.val (.int n1), .val (.long n2), .second, .val (.long n3), .second, .val (.int n4), .val (.int (0 : Int32)), .val (.int u118), .val (.int u119), .val (.int u120), .val (.int u121), .val (.int u122), .val (.int u123), .val (.int u124), .val (.int u125), .val (.ref b136), .val (.ref b137), .unset]) rfl kk_) ?_
    exact J126 _ _ _ T138.vm _ (X138.more (by decide) (by decide)) N138 rfl O138 hS138 hk138 hZ138 hown138 CR138 _ _ [] ⟨(A137.keep K138), ba138, kb138, (0 : Int32), Fv138, Or.inl ⟨Fc138, Vs138, OwnLat.nil, rfl⟩⟩ (Nat.le_of_ble_eq_true rfl) OwnChs.nil (by rw [own_dt0 u118 (show ¬ ((0 : Int32) < (0 : Int32)) by decide), own_dt0 u119 (show ¬ ((1 : Int32) < (0 : Int32)) by decide), own_dt0 u120 (show ¬ ((2 : Int32) < (0 : Int32)) by decide), own_dt0 u121 (show ¬ ((3 : Int32) < (0 : Int32)) by decide), own_dt0 u122 (show ¬ ((4 : Int32) < (0 : Int32)) by decide), own_dt0 u123 (show ¬ ((5 : Int32) < (0 : Int32)) by decide), own_dt0 u124 (show ¬ ((6 : Int32) < (0 : Int32)) by decide), own_dt0 u125 (show ¬ ((7 : Int32) < (0 : Int32)) by decide)]; simp only [own_cnt, Int32.add_assoc, Int32.add_zero, Int32.zero_add])
  · refine OWH.st (B := T125.setTop (mkF m 99 #[.val (.int n1), .val (.long n2), .second, .val (.long n3), .second, .val (.int n4), .val (.int (1 : Int32)), .val (.int u118), .val (.int u119), .val (.int u120), .val (.int u121), .val (.int u122), .val (.int u123), .val (.int u124), .val (.int u125), .unset, .unset, .unset] [(.int (1 : Int32))])) (fun _ kk_ => XS.iload X125.here hx rfl (hb hby at_97) rfl kk_) ?_
    obtain ⟨T139, h139, k139, X139, e139, E139, A139, st139⟩ := newP (aty := .char) X125 hx hZ (w_6 hw) e125 (g := (mkF m 99 #[.val (.int n1), .val (.long n2), .second, .val (.long n3), .second, .val (.int n4), .val (.int (1 : Int32)), .val (.int u118), .val (.int u119), .val (.int u120), .val (.int u121), .val (.int u122), .val (.int u123), .val (.int u124), .val (.int u125), .unset, .unset, .unset] [(.int (1 : Int32))])) rfl (hb hby at_99) rfl (by decide) (cap := 1) (by decide +kernel) (by decide +kernel) (by decide +kernel) (by decide +kernel)
    obtain ⟨b139, g139⟩ : ∃ z, z = h0.size := ⟨_, rfl⟩
    rw [← g139] at A139 st139
    have n_b139 : n0 ≤ b139 := Nat.le_trans (own_oldle O0) (Nat.le_of_eq g139.symm)
    have O139 : Old Z n0 h139 := O0.ext E139
    have CS139 : CHr Z consts_1 s.vm h0 s.vm h139 := CHr.ext E139 CR0.1
    have CR139 := CHr.trans CR0 CS139
    have Sf139_b139 : Safe Z consts_1 s.vm h139 b139 := Safe.ext E139 CR0.1 (Safe.new (Nat.le_of_eq g139.symm))
    have V139 : Arv Z h139 b139 k139 .char (1 : Int32) [(.int (0 : Int32))] (.int (0 : Int32)) := (Arv.new A139 (by decide)).pad (pad_rep [] (.int (0 : Int32)) 1)
    refine OWH.st (B := T139.setTop (mkF m 113 #[.val (.int n1), .val (.long n2), .second, .val (.long n3), .second, .val (.int n4), .val (.int (1 : Int32)), .val (.int u118), .val (.int u119), .val (.int u120), .val (.int u121), .val (.int u122), .val (.int u123), .val (.int u124), .val (.int u125), .val (.ref b139), .unset, .unset] [(.int u118), (.int (0 : Int32)), (.ref b139)])) (fun _ kk_ => st139 _ (XS.astore X139.here hx rfl (hb hby at_101) rfl rfl (l' := #[.val (.int n1), .val (.long n2), .second, .val (.long n3), .second, .val (.int n4), .val (.int (1 : Int32)), .val (.int u118), .val (.int u119), .val (.int u120), .val (.int u121), .val (.int u122), .val (.int u123), .val (.int u124), .val (.int u125), .val (.ref b139), .unset, .unset]) rfl (XS.iload X139.here hx rfl (hb hby at_103) rfl (XS.ifNo X139.here hx rfl (hb hby at_105) rfl ((if0 _ _).trans (tlt (by decide)).2.2.2) (XS.aload X139.here hx rfl (hb hby at_108) rfl rfl (XS.iconst X139.here hx rfl (hb hby at_110) (XS.iload X139.here hx rfl (hb hby at_111) rfl kk_))))))) ?_
    obtain ⟨cl140, Ar140, q140, S140, Ng140, Hs140, G140⟩ := id V139
    have hin140 : ¬ ((0 : Int32) < 0 ∨ cl140.slots.size ≤ ((0 : Int32)).toNatClampNeg) := inb_of S140 ⟨by decide, by decide⟩
    obtain ⟨T141, h141, X141, e141, W141, st141⟩ := stC X139 hx hZ e139 Ar140 (j := (0 : Int32)) hin140 (g := (mkF m 113 #[.val (.int n1), .val (.long n2), .second, .val (.long n3), .second, .val (.int n4), .val (.int (1 : Int32)), .val (.int u118), .val (.int u119), .val (.int u120), .val (.int u121), .val (.int u122), .val (.int u123), .val (.int u124), .val (.int u125), .val (.ref b139), .unset, .unset] [(.int u118), (.int (0 : Int32)), (.ref b139)])) rfl rfl (hb hby at_113)
    rw [hn118] at W141
    have N141 := Fr.snoc X141 N125 n_b139
    have O141 : Old Z n0 h141 := O139.wr W141 n_b139
    have CS141 : CHr Z consts_1 s.vm h139 s.vm h141 := CHr.wr W141 (Safe.arv hZ.alike V139 (by decide)) CR139.1
    have Sf141_b139 := CHr.safe CS141 V139.lt Sf139_b139
    have CR141 := CHr.trans CR139 CS141
    have V141 : Arv Z h141 b139 k139 .char (1 : Int32) [(.int u118)] (.int (0 : Int32)) := Arv.set Ar140 q140 S140 Ng140 Hs140 G140 (hn118 ▸ (fits_nar_char _)) W141 0 rfl (Nat.le_of_ble_eq_true rfl)
    refine OWH.st (B := T141.setTop (mkF m 150 #[.val (.int n1), .val (.long n2), .second, .val (.long n3), .second, .val (.int n4), .val (.int (1 : Int32)), .val (.int u118), .val (.int u119), .val (.int u120), .val (.int u121), .val (.int u122), .val (.int u123), .val (.int u124), .val (.int u125), .val (.ref b139), .unset, .unset] [])) (fun _ kk_ => st141 _ (XS.iload X141.here hx rfl (hb hby at_114) rfl (XS.iconst X141.here hx rfl (hb hby at_116) (XS.icmpYes X141.here hx rfl (pc0 := 117) (pc' := 126) rfl (hb hby at_117) rfl (flt (by decide)).2.2.2 (by decide) (by decide) (XS.iload X141.here hx rfl (hb hby at_126) rfl (XS.iconst X141.here hx rfl (hb hby at_128) (XS.icmpYes X141.here hx rfl (pc0 := 129) (pc' := 138) rfl (hb hby at_129) rfl (flt (by decide)).2.2.2 (by decide) (by decide) (XS.iload X141.here hx rfl (hb hby at_138) rfl (XS.iconst X141.here hx rfl (hb hby at_140) (XS.icmpYes X141.here hx rfl (pc0 := 141) (pc' := 150) rfl (hb hby at_141) rfl (flt (by decide)).2.2.2 (by decide) (by decide) kk_)))))))))) ?_
    refine OWH.st (B := T141.setTop (mkF m 190 #[.val (.int n1), .val (.long n2), .second, .val (.long n3), .second, .val (.int n4), .val (.int (1 : Int32)), .val (.int u118), .val (.int u119), .val (.int u120), .val (.int u121), .val (.int u122), .val (.int u123), .val (.int u124), .val (.int u125), .val (.ref b139), .unset, .unset] [(.int (1 : Int32))])) (fun _ kk_ => XS.iload X141.here hx rfl (hb hby at_150) rfl (XS.iconst X141.here hx rfl (hb hby at_152) (XS.icmpYes X141.here hx rfl (pc0 := 153) (pc' := 162) rfl (hb hby at_153) rfl (flt (by decide)).2.2.2 (by decide) (by decide) (XS.iload X141.here hx rfl (hb hby at_162) rfl (XS.iconst X141.here hx rfl (hb hby at_164) (XS.icmpYes X141.here hx rfl (pc0 := 165) (pc' := 174) rfl (hb hby at_165) rfl (flt (by decide)).2.2.2 (by decide) (by decide) (XS.iload X141.here hx rfl (hb hby at_174) rfl (XS.bipush X141.here hx rfl (hb hby at_176) (XS.icmpYes X141.here hx rfl (pc0 := 178) (pc' := 188) rfl (hb hby at_178) rfl (flt (by decide)).2.2.2 (by decide) (by decide) (XS.iload X141.here hx rfl (hb hby at_188) rfl kk_)))))))))) ?_
    refine OWH.st (B := T141.setTop (mkF m 202 #[.val (.int n1), .val (.long n2), .second, .val (.long n3), .second, .val (.int n4), .val (.int (1 : Int32)), .val (.int u118), .val (.int u119), .val (.int u120), .val (.int u121), .val (.int u122), .val (.int u123), .val (.int u124), .val (.int u125), .val (.ref b139), .unset, .unset] [])) (fun _ kk_ => XS.bipush X141.here hx rfl (hb hby at_190) (XS.icmpYes X141.here hx rfl (pc0 := 192) (pc' := 202) rfl (hb hby at_192) rfl (flt (by decide)).2.2.2 (by decide) (by decide) kk_)) ?_
    obtain ⟨T142, h142, X142, e142, E142, A142, D142, -, st142⟩ := newO X141 hx hZ hown (w_7 hw) (w_8 hw) (w_9 hw) e141 (g := (mkF m 202 #[.val (.int n1), .val (.long n2), .second, .val (.long n3), .second, .val (.int n4), .val (.int (1 : Int32)), .val (.int u118), .val (.int u119), .val (.int u120), .val (.int u121), .val (.int u122), .val (.int u123), .val (.int u124), .val (.int u125), .val (.ref b139), .unset, .unset] [])) rfl (hb hby at_202) (by decide) (by decide)
    obtain ⟨b142, g142⟩ : ∃ z, z = h141.size := ⟨_, rfl⟩
    rw [← g142] at A142 D142 st142
    have n_b142 : n0 ≤ b142 := Nat.le_trans (own_oldle O141) (Nat.le_of_eq g142.symm)
    have O142 : Old Z n0 h142 := O141.ext E142
    have CS142 : CHr Z consts_1 s.vm h141 s.vm h142 := CHr.ext E142 CR141.1
    have Sf142_b139 := CHr.safe CS142 V141.lt Sf141_b139
    have CR142 := CHr.trans CR141 CS142
    have Sf142_b142 : Safe Z consts_1 s.vm h142 b142 := Safe.ext E142 CR141.1 (Safe.new (Nat.le_of_eq g142.symm))
    have F142_22 : Fld Z h142 b142 "java/lang/String" "value" "[B" .null := D142 (Or.inr (w_22 hw)) (ty := (.array .byte)) (by decide)
    have F142_23 : Fld Z h142 b142 "java/lang/String" "coder" "B" (.int (0 : Int32)) := D142 (Or.inr (w_23 hw)) (ty := .byte) (by decide)
    refine OWH.st (B := T142.setTop (mkF m 208 #[.val (.int n1), .val (.long n2), .second, .val (.long n3), .second, .val (.int n4), .val (.int (1 : Int32)), .val (.int u118), .val (.int u119), .val (.int u120), .val (.int u121), .val (.int u122), .val (.int u123), .val (.int u124), .val (.int u125), .val (.ref b139), .unset, .unset] [(.ref b139), (.ref b142), (.ref b142)])) (fun _ kk_ => st142 _ (XS.dup X142.here hx rfl (hb hby at_205) rfl rfl (XS.aload X142.here hx rfl (hb hby at_206) rfl rfl kk_))) ?_
    obtain ⟨_, _, ⟨T143, L143, k143, n143⟩, -, X143, ⟨Lc143, hQ143, l143, y143, z143⟩, st143⟩ := X142.specialBack hx (y := (⟨"java/lang/String", "<init>", "([C)V"⟩ : MethodName)) rfl hown (mvT hZ (w_10 hw)) (mvT hZ (w_11 hw)) (mvT hZ (w_12 hw)) (by decide) (backOf (W := 1) (rmS0X l Z a0 hw [] b142 b139 k139 (1 : Int32) [u118] i_COMPACT_STRINGS v_SIOOBE_FORMATTER h142 n0 O142 A142 F142_22 F142_23 n_b142 (V141.ext E142) rfl (Nat.le_of_ble_eq_true rfl) (Nat.zero_lt_succ _) (OwnChs.cons hn118 OwnChs.nil) hS) hZ (w_12 hw) (w_9 hw) (by decide) (by decide)) (g := (mkF m 208 #[.val (.int n1), .val (.long n2), .second, .val (.long n3), .second, .val (.int n4), .val (.int (1 : Int32)), .val (.int u118), .val (.int u119), .val (.int u120), .val (.int u121), .val (.int u122), .val (.int u123), .val (.int u124), .val (.int u125), .val (.ref b139), .unset, .unset] [(.ref b139), (.ref b142), (.ref b142)])) rfl (by rw [hml]; rfl) (Steps.refl _) (a := b142) (argsL := [(.ref b139)]) (rest := [(.ref b142)]) (lenOf pd_21 rfl) rfl (by show 2 * 0 + _ ≤ _; exact Nat.le_of_eq rfl) (hb hby at_208) (fun _ _ => ⟨rfl, e142, (by decide : 2 + 2 ≤ _), (by decide : 5 + 30 ≤ _)⟩)
    dsimp only [Pt.U, Pt.locs, Pt.cells, Pt.slots] at X143 l143 y143 z143 st143 hQ143
    subst l143 y143 z143
    obtain ⟨rfl, Nq143, K143, HO143⟩ := hQ143
    have N143 := Fr.app N141 Nq143
    have O143 : Old Z n0 T143.heap := O142.keep K143 (allS n_b142 all0)
    have CS143 : CHr Z consts_1 s.vm h142 s.vm T143.heap := CHr.keep K143 (allS Sf142_b142 all0) CR142.1
    have Sf143_b139 := CHr.safe CS143 (V141.ext E142).lt Sf142_b139
    have Sf143_b142 := CHr.safe CS143 A142.lt Sf142_b142
    have CR143 := CHr.trans CR142 CS143
    refine OWH.tr (B := T143.setTop (mkF m 211 #[.val (.int n1), .val (.long n2), .second, .val (.long n3), .second, .val (.int n4), .val (.int (1 : Int32)), .val (.int u118), .val (.int u119), .val (.int u120), .val (.int u121), .val (.int u122), .val (.int u123), .val (.int u124), .val (.int u125), .val (.ref b139), .unset, .unset] [(.ref b142)])) (st143) ?_
    refine OWH.st (B := T143.setTop (mkF m 213 #[.val (.int n1), .val (.long n2), .second, .val (.long n3), .second, .val (.int n4), .val (.int (1 : Int32)), .val (.int u118), .val (.int u119), .val (.int u120), .val (.int u121), .val (.int u122), .val (.int u123), .val (.int u124), .val (.int u125), .val (.ref b139), .val (.ref b142), .unset] [])) (fun _ kk_ => XS.astore X143.here hx rfl (hb hby at_211) rfl rfl (l' := #[.val (.int n1), .val (.long n2), .second, .val (.long n3), .second, .val (.int n4), .val (.int (1 : Int32)), .val (.int u118), .val (.int u119), .val (.int u120), .val (.int u121), .val (.int u122), .val (.int u123), .val (.int u124), .val (.int u125), .val (.ref b139), .val (.ref b142), .unset]) rfl kk_) ?_
    exact J126 _ _ _ s.vm _ (X143.more (by decide) (by decide)) N143 rfl O143 hS0 (Nat.le_trans (Nat.le_trans (Nat.le_trans (Nat.le_trans hk0 E139.1) (Keep.of_wr W141).1) E142.1) K143.1) hZ hown CR143 _ _ [u118] HO143 (Nat.le_of_ble_eq_true rfl) (OwnChs.cons hn118 OwnChs.nil) (by rw [own_dt1 u118 (show ((0 : Int32) < (1 : Int32)) by decide), own_dt0 u119 (show ¬ ((1 : Int32) < (1 : Int32)) by decide), own_dt0 u120 (show ¬ ((2 : Int32) < (1 : Int32)) by decide), own_dt0 u121 (show ¬ ((3 : Int32) < (1 : Int32)) by decide), own_dt0 u122 (show ¬ ((4 : Int32) < (1 : Int32)) by decide), own_dt0 u123 (show ¬ ((5 : Int32) < (1 : Int32)) by decide), own_dt0 u124 (show ¬ ((6 : Int32) < (1 : Int32)) by decide), own_dt0 u125 (show ¬ ((7 : Int32) < (1 : Int32)) by decide)]; simp only [own_cnt, Int32.add_assoc, Int32.add_zero, Int32.zero_add])
  · refine OWH.st (B := T125.setTop (mkF m 99 #[.val (.int n1), .val (.long n2), .second, .val (.long n3), .second, .val (.int n4), .val (.int (2 : Int32)), .val (.int u118), .val (.int u119), .val (.int u120), .val (.int u121), .val (.int u122), .val (.int u123), .val (.int u124), .val (.int u125), .unset, .unset, .unset] [(.int (2 : Int32))])) (fun _ kk_ => XS.iload X125.here hx rfl (hb hby at_97) rfl kk_) ?_
    obtain ⟨T144, h144, k144, X144, e144, E144, A144, st144⟩ := newP (aty := .char) X125 hx hZ (w_6 hw) e125 (g := (mkF m 99 #[.val (.int n1), .val (.long n2), .second, .val (.long n3), .second, .val (.int n4), .val (.int (2 : Int32)), .val (.int u118), .val (.int u119), .val (.int u120), .val (.int u121), .val (.int u122), .val (.int u123), .val (.int u124), .val (.int u125), .unset, .unset, .unset] [(.int (2 : Int32))])) rfl (hb hby at_99) rfl (by decide) (cap := 2) (by decide +kernel) (by decide +kernel) (by decide +kernel) (by decide +kernel)
    obtain ⟨b144, g144⟩ : ∃ z, z = h0.size := ⟨_, rfl⟩
    rw [← g144] at A144 st144
    have n_b144 : n0 ≤ b144 := Nat.le_trans (own_oldle O0) (Nat.le_of_eq g144.symm)
    have O144 : Old Z n0 h144 := O0.ext E144
    have CS144 : CHr Z consts_1 s.vm h0 s.vm h144 := CHr.ext E144 CR0.1
    have CR144 := CHr.trans CR0 CS144
    have Sf144_b144 : Safe Z consts_1 s.vm h144 b144 := Safe.ext E144 CR0.1 (Safe.new (Nat.le_of_eq g144.symm))
    have V144 : Arv Z h144 b144 k144 .char (2 : Int32) [(.int (0 : Int32)), (.int (0 : Int32))] (.int (0 : Int32)) := (Arv.new A144 (by decide)).pad (pad_rep [] (.int (0 : Int32)) 2)
    refine OWH.st (B := T144.setTop (mkF m 113 #[.val (.int n1), .val (.long n2), .second, .val (.long n3), .second, .val (.int n4), .val (.int (2 : Int32)), .val (.int u118), .val (.int u119), .val (.int u120), .val (.int u121), .val (.int u122), .val (.int u123), .val (.int u124), .val (.int u125), .val (.ref b144), .unset, .unset] [(.int u118), (.int (0 : Int32)), (.ref b144)])) (fun _ kk_ => st144 _ (XS.astore X144.here hx rfl (hb hby at_101) rfl rfl (l' := #[.val (.int n1), .val (.long n2), .second, .val (.long n3), .second, .val (.int n4), .val (.int (2 : Int32)), .val (.int u118), .val (.int u119), .val (.int u120), .val (.int u121), .val (.int u122), .val (.int u123), .val (.int u124), .val (.int u125), .val (.ref b144), .unset, .unset]) rfl (XS.iload X144.here hx rfl (hb hby at_103) rfl (XS.ifNo X144.here hx rfl (hb hby at_105) rfl ((if0 _ _).trans (tlt (by decide)).2.2.2) (XS.aload X144.here hx rfl (hb hby at_108) rfl rfl (XS.iconst X144.here hx rfl (hb hby at_110) (XS.iload X144.here hx rfl (hb hby at_111) rfl kk_))))))) ?_
    obtain ⟨cl145, Ar145, q145, S145, Ng145, Hs145, G145⟩ := id V144
    have hin145 : ¬ ((0 : Int32) < 0 ∨ cl145.slots.size ≤ ((0 : Int32)).toNatClampNeg) := inb_of S145 ⟨by decide, by decide⟩
    obtain ⟨T146, h146, X146, e146, W146, st146⟩ := stC X144 hx hZ e144 Ar145 (j := (0 : Int32)) hin145 (g := (mkF m 113 #[.val (.int n1), .val (.long n2), .second, .val (.long n3), .second, .val (.int n4), .val (.int (2 : Int32)), .val (.int u118), .val (.int u119), .val (.int u120), .val (.int u121), .val (.int u122), .val (.int u123), .val (.int u124), .val (.int u125), .val (.ref b144), .unset, .unset] [(.int u118), (.int (0 : Int32)), (.ref b144)])) rfl rfl (hb hby at_113)
    rw [hn118] at W146
    have N146 := Fr.snoc X146 N125 n_b144
    have O146 : Old Z n0 h146 := O144.wr W146 n_b144
    have CS146 : CHr Z consts_1 s.vm h144 s.vm h146 := CHr.wr W146 (Safe.arv hZ.alike V144 (by decide)) CR144.1
    have Sf146_b144 := CHr.safe CS146 V144.lt Sf144_b144
    have CR146 := CHr.trans CR144 CS146
    have V146 : Arv Z h146 b144 k144 .char (2 : Int32) [(.int u118), (.int (0 : Int32))] (.int (0 : Int32)) := Arv.set Ar145 q145 S145 Ng145 Hs145 G145 (hn118 ▸ (fits_nar_char _)) W146 0 rfl (Nat.le_of_ble_eq_true rfl)
    refine OWH.st (B := T146.setTop (mkF m 125 #[.val (.int n1), .val (.long n2), .second, .val (.long n3), .second, .val (.int n4), .val (.int (2 : Int32)), .val (.int u118), .val (.int u119), .val (.int u120), .val (.int u121), .val (.int u122), .val (.int u123), .val (.int u124), .val (.int u125), .val (.ref b144), .unset, .unset] [(.int u119), (.int (1 : Int32)), (.ref b144)])) (fun _ kk_ => st146 _ (XS.iload X146.here hx rfl (hb hby at_114) rfl (XS.iconst X146.here hx rfl (hb hby at_116) (XS.icmpNo X146.here hx rfl (hb hby at_117) rfl (tlt (by decide)).2.2.2 (XS.aload X146.here hx rfl (hb hby at_120) rfl rfl (XS.iconst X146.here hx rfl (hb hby at_122) (XS.iload X146.here hx rfl (hb hby at_123) rfl kk_))))))) ?_
    obtain ⟨cl147, Ar147, q147, S147, Ng147, Hs147, G147⟩ := id V146
    have hin147 : ¬ ((1 : Int32) < 0 ∨ cl147.slots.size ≤ ((1 : Int32)).toNatClampNeg) := inb_of S147 ⟨by decide, by decide⟩
    obtain ⟨T148, h148, X148, e148, W148, st148⟩ := stC X146 hx hZ e146 Ar147 (j := (1 : Int32)) hin147 (g := (mkF m 125 #[.val (.int n1), .val (.long n2), .second, .val (.long n3), .second, .val (.int n4), .val (.int (2 : Int32)), .val (.int u118), .val (.int u119), .val (.int u120), .val (.int u121), .val (.int u122), .val (.int u123), .val (.int u124), .val (.int u125), .val (.ref b144), .unset, .unset] [(.int u119), (.int (1 : Int32)), (.ref b144)])) rfl rfl (hb hby at_125)
    rw [hn119] at W148
    have N148 := Fr.snoc X148 N146 n_b144
    have O148 : Old Z n0 h148 := O146.wr W148 n_b144
    have CS148 : CHr Z consts_1 s.vm h146 s.vm h148 := CHr.wr W148 (Safe.arv hZ.alike V146 (by decide)) CR146.1
    have Sf148_b144 := CHr.safe CS148 V146.lt Sf146_b144
    have CR148 := CHr.trans CR146 CS148
    have V148 : Arv Z h148 b144 k144 .char (2 : Int32) [(.int u118), (.int u119)] (.int (0 : Int32)) := Arv.set Ar147 q147 S147 Ng147 Hs147 G147 (hn119 ▸ (fits_nar_char _)) W148 1 rfl (Nat.le_of_ble_eq_true rfl)
    refine OWH.st (B := T148.setTop (mkF m 162 #[.val (.int n1), .val (.long n2), .second, .val (.long n3), .second, .val (.int n4), .val (.int (2 : Int32)), .val (.int u118), .val (.int u119), .val (.int u120), .val (.int u121), .val (.int u122), .val (.int u123), .val (.int u124), .val (.int u125), .val (.ref b144), .unset, .unset] [])) (fun _ kk_ => st148 _ (XS.iload X148.here hx rfl (hb hby at_126) rfl (XS.iconst X148.here hx rfl (hb hby at_128) (XS.icmpYes X148.here hx rfl (pc0 := 129) (pc' := 138) rfl (hb hby at_129) rfl (flt (by decide)).2.2.2 (by decide) (by decide) (XS.iload X148.here hx rfl (hb hby at_138) rfl (XS.iconst X148.here hx rfl (hb hby at_140) (XS.icmpYes X148.here hx rfl (pc0 := 141) (pc' := 150) rfl (hb hby at_141) rfl (flt (by decide)).2.2.2 (by decide) (by decide) (XS.iload X148.here hx rfl (hb hby at_150) rfl (XS.iconst X148.here hx rfl (hb hby at_152) (XS.icmpYes X148.here hx rfl (pc0 := 153) (pc' := 162) rfl (hb hby at_153) rfl (flt (by decide)).2.2.2 (by decide) (by decide) kk_)))))))))) ?_
    refine OWH.st (B := T148.setTop (mkF m 202 #[.val (.int n1), .val (.long n2), .second, .val (.long n3), .second, .val (.int n4), .val (.int (2 : Int32)), .val (.int u118), .val (.int u119), .val (.int u120), .val (.int u121), .val (.int u122), .val (.int u123), .val (.int u124), .val (.int u125), .val (.ref b144), .unset, .unset] [])) (fun _ kk_ => XS.iload X148.here hx rfl (hb hby at_162) rfl (XS.iconst X148.here hx rfl (hb hby at_164) (XS.icmpYes X148.here hx rfl (pc0 := 165) (pc' := 174) rfl (hb hby at_165) rfl (flt (by decide)).2.2.2 (by decide) (by decide) (XS.iload X148.here hx rfl (hb hby at_174) rfl (XS.bipush X148.here hx rfl (hb hby at_176) (XS.icmpYes X148.here hx rfl (pc0 := 178) (pc' := 188) rfl (hb hby at_178) rfl (flt (by decide)).2.2.2 (by decide) (by decide) (XS.iload X148.here hx rfl (hb hby at_188) rfl (XS.bipush X148.here hx rfl (hb hby at_190) (XS.icmpYes X148.here hx rfl (pc0 := 192) (pc' := 202) rfl (hb hby at_192) rfl (flt (by decide)).2.2.2 (by decide) (by decide) kk_))))))))) ?_
    obtain ⟨T149, h149, X149, e149, E149, A149, D149, -, st149⟩ := newO X148 hx hZ hown (w_7 hw) (w_8 hw) (w_9 hw) e148 (g := (mkF m 202 #[.val (.int n1), .val (.long n2), .second, .val (.long n3), .second, .val (.int n4), .val (.int (2 : Int32)), .val (.int u118), .val (.int u119), .val (.int u120), .val (.int u121), .val (.int u122), .val (.int u123), .val (.int u124), .val (.int u125), .val (.ref b144), .unset, .unset] [])) rfl (hb hby at_202) (by decide) (by decide)
    obtain ⟨b149, g149⟩ : ∃ z, z = h148.size := ⟨_, rfl⟩
    rw [← g149] at A149 D149 st149
    have n_b149 : n0 ≤ b149 := Nat.le_trans (own_oldle O148) (Nat.le_of_eq g149.symm)
    have O149 : Old Z n0 h149 := O148.ext E149
    have CS149 : CHr Z consts_1 s.vm h148 s.vm h149 := CHr.ext E149 CR148.1
    have Sf149_b144 := CHr.safe CS149 V148.lt Sf148_b144
    have CR149 := CHr.trans CR148 CS149
    have Sf149_b149 : Safe Z consts_1 s.vm h149 b149 := Safe.ext E149 CR148.1 (Safe.new (Nat.le_of_eq g149.symm))
    have F149_22 : Fld Z h149 b149 "java/lang/String" "value" "[B" .null := D149 (Or.inr (w_22 hw)) (ty := (.array .byte)) (by decide)
    have F149_23 : Fld Z h149 b149 "java/lang/String" "coder" "B" (.int (0 : Int32)) := D149 (Or.inr (w_23 hw)) (ty := .byte) (by decide)
    refine OWH.st (B := T149.setTop (mkF m 208 #[.val (.int n1), .val (.long n2), .second, .val (.long n3), .second, .val (.int n4), .val (.int (2 : Int32)), .val (.int u118), .val (.int u119), .val (.int u120), .val (.int u121), .val (.int u122), .val (.int u123), .val (.int u124), .val (.int u125), .val (.ref b144), .unset, .unset] [(.ref b144), (.ref b149), (.ref b149)])) (fun _ kk_ => st149 _ (XS.dup X149.here hx rfl (hb hby at_205) rfl rfl (XS.aload X149.here hx rfl (hb hby at_206) rfl rfl kk_))) ?_
    obtain ⟨_, _, ⟨T150, L150, k150, n150⟩, -, X150, ⟨Lc150, hQ150, l150, y150, z150⟩, st150⟩ := X149.specialBack hx (y := (⟨"java/lang/String", "<init>", "([C)V"⟩ : MethodName)) rfl hown (mvT hZ (w_10 hw)) (mvT hZ (w_11 hw)) (mvT hZ (w_12 hw)) (by decide) (backOf (W := 1) (rmS0X l Z a0 hw [] b149 b144 k144 (2 : Int32) [u118, u119] i_COMPACT_STRINGS v_SIOOBE_FORMATTER h149 n0 O149 A149 F149_22 F149_23 n_b149 (V148.ext E149) rfl (Nat.le_of_ble_eq_true rfl) (Nat.zero_lt_succ _) (OwnChs.cons hn118 (OwnChs.cons hn119 OwnChs.nil)) hS) hZ (w_12 hw) (w_9 hw) (by decide) (by decide)) (g := (mkF m 208 #[.val (.int n1), .val (.long n2), .second, .val (.long n3), .second, .val (.int n4), .val (.int (2 : Int32)), .val (.int u118), .val (.int u119), .val (.int u120), .val (.int u121), .val (.int u122), .val (.int u123), .val (.int u124), .val (.int u125), .val (.ref b144), .unset, .unset] [(.ref b144), (.ref b149), (.ref b149)])) rfl (by rw [hml]; rfl) (Steps.refl _) (a := b149) (argsL := [(.ref b144)]) (rest := [(.ref b149)]) (lenOf pd_21 rfl) rfl (by show 2 * 0 + _ ≤ _; exact Nat.le_of_eq rfl) (hb hby at_208) (fun _ _ => ⟨rfl, e149, (by decide : 2 + 2 ≤ _), (by decide : 6 + 30 ≤ _)⟩)
    dsimp only [Pt.U, Pt.locs, Pt.cells, Pt.slots] at X150 l150 y150 z150 st150 hQ150
    subst l150 y150 z150
    obtain ⟨rfl, Nq150, K150, HO150⟩ := hQ150
    have N150 := Fr.app N148 Nq150
    have O150 : Old Z n0 T150.heap := O149.keep K150 (allS n_b149 all0)
    have CS150 : CHr Z consts_1 s.vm h149 s.vm T150.heap := CHr.keep K150 (allS Sf149_b149 all0) CR149.1
    have Sf150_b144 := CHr.safe CS150 (V148.ext E149).lt Sf149_b144
    have Sf150_b149 := CHr.safe CS150 A149.lt Sf149_b149
    have CR150 := CHr.trans CR149 CS150
    refine OWH.tr (B := T150.setTop (mkF m 211 #[.val (.int n1), .val (.long n2), .second, .val (.long n3), .second, .val (.int n4), .val (.int (2 : Int32)), .val (.int u118), .val (.int u119), .val (.int u120), .val (.int u121), .val (.int u122), .val (.int u123), .val (.int u124), .val (.int u125), .val (.ref b144), .unset, .unset] [(.ref b149)])) (st150) ?_
    refine OWH.st (B := T150.setTop (mkF m 213 #[.val (.int n1), .val (.long n2), .second, .val (.long n3), .second, .val (.int n4), .val (.int (2 : Int32)), .val (.int u118), .val (.int u119), .val (.int u120), .val (.int u121), .val (.int u122), .val (.int u123), .val (.int u124), .val (.int u125), .val (.ref b144), .val (.ref b149), .unset] [])) (fun _ kk_ => XS.astore X150.here hx rfl (hb hby at_211) rfl rfl (l' := #[.val (.int n1), .val (.long n2), .second, .val (.long n3), .second, .val (.int n4), .val (.int (2 : Int32)), .val (.int u118), .val (.int u119), .val (.int u120), .val (.int u121), .val (.int u122), .val (.int u123), .val (.int u124), .val (.int u125), .val (.ref b144), .val (.ref b149), .unset]) rfl kk_) ?_
    exact J126 _ _ _ s.vm _ (X150.more (by decide) (by decide)) N150 rfl O150 hS0 (Nat.le_trans (Nat.le_trans (Nat.le_trans (Nat.le_trans (Nat.le_trans hk0 E144.1) (Keep.of_wr W146).1) (Keep.of_wr W148).1) E149.1) K150.1) hZ hown CR150 _ _ [u118, u119] HO150 (Nat.le_of_ble_eq_true rfl) (OwnChs.cons hn118 (OwnChs.cons hn119 OwnChs.nil)) (by rw [own_dt1 u118 (show ((0 : Int32) < (2 : Int32)) by decide), own_dt1 u119 (show ((1 : Int32) < (2 : Int32)) by decide), own_dt0 u120 (show ¬ ((2 : Int32) < (2 : Int32)) by decide), own_dt0 u121 (show ¬ ((3 : Int32) < (2 : Int32)) by decide), own_dt0 u122 (show ¬ ((4 : Int32) < (2 : Int32)) by decide), own_dt0 u123 (show ¬ ((5 : Int32) < (2 : Int32)) by decide), own_dt0 u124 (show ¬ ((6 : Int32) < (2 : Int32)) by decide), own_dt0 u125 (show ¬ ((7 : Int32) < (2 : Int32)) by decide)]; simp only [own_cnt, Int32.add_assoc, Int32.add_zero, Int32.zero_add])
  · refine OWH.st (B := T125.setTop (mkF m 99 #[.val (.int n1), .val (.long n2), .second, .val (.long n3), .second, .val (.int n4), .val (.int (3 : Int32)), .val (.int u118), .val (.int u119), .val (.int u120), .val (.int u121), .val (.int u122), .val (.int u123), .val (.int u124), .val (.int u125), .unset, .unset, .unset] [(.int (3 : Int32))])) (fun _ kk_ => XS.iload X125.here hx rfl (hb hby at_97) rfl kk_) ?_
    obtain ⟨T151, h151, k151, X151, e151, E151, A151, st151⟩ := newP (aty := .char) X125 hx hZ (w_6 hw) e125 (g := (mkF m 99 #[.val (.int n1), .val (.long n2), .second, .val (.long n3), .second, .val (.int n4), .val (.int (3 : Int32)), .val (.int u118), .val (.int u119), .val (.int u120), .val (.int u121), .val (.int u122), .val (.int u123), .val (.int u124), .val (.int u125), .unset, .unset, .unset] [(.int (3 : Int32))])) rfl (hb hby at_99) rfl (by decide) (cap := 3) (by decide +kernel) (by decide +kernel) (by decide +kernel) (by decide +kernel)
    obtain ⟨b151, g151⟩ : ∃ z, z = h0.size := ⟨_, rfl⟩
    rw [← g151] at A151 st151
    have n_b151 : n0 ≤ b151 := Nat.le_trans (own_oldle O0) (Nat.le_of_eq g151.symm)
    have O151 : Old Z n0 h151 := O0.ext E151
    have CS151 : CHr Z consts_1 s.vm h0 s.vm h151 := CHr.ext E151 CR0.1
    have CR151 := CHr.trans CR0 CS151
    have Sf151_b151 : Safe Z consts_1 s.vm h151 b151 := Safe.ext E151 CR0.1 (Safe.new (Nat.le_of_eq g151.symm))
    have V151 : Arv Z h151 b151 k151 .char (3 : Int32) [(.int (0 : Int32)), (.int (0 : Int32)), (.int (0 : Int32))] (.int (0 : Int32)) := (Arv.new A151 (by decide)).pad (pad_rep [] (.int (0 : Int32)) 3)
    refine OWH.st (B := T151.setTop (mkF m 113 #[.val (.int n1), .val (.long n2), .second, .val (.long n3), .second, .val (.int n4), .val (.int (3 : Int32)), .val (.int u118), .val (.int u119), .val (.int u120), .val (.int u121), .val (.int u122), .val (.int u123), .val (.int u124), .val (.int u125), .val (.ref b151), .unset, .unset] [(.int u118), (.int (0 : Int32)), (.ref b151)])) (fun _ kk_ => st151 _ (XS.astore X151.here hx rfl (hb hby at_101) rfl rfl (l' := #[.val (.int n1), .val (.long n2), .second, .val (.long n3), .second, .val (.int n4), .val (.int (3 : Int32)), .val (.int u118), .val (.int u119), .val (.int u120), .val (.int u121), .val (.int u122), .val (.int u123), .val (.int u124), .val (.int u125), .val (.ref b151), .unset, .unset]) rfl (XS.iload X151.here hx rfl (hb hby at_103) rfl (XS.ifNo X151.here hx rfl (hb hby at_105) rfl ((if0 _ _).trans (tlt (by decide)).2.2.2) (XS.aload X151.here hx rfl (hb hby at_108) rfl rfl (XS.iconst X151.here hx rfl (hb hby at_110) (XS.iload X151.here hx rfl (hb hby at_111) rfl kk_))))))) ?_
    obtain ⟨cl152, Ar152, q152, S152, Ng152, Hs152, G152⟩ := id V151
    have hin152 : ¬ ((0 : Int32) < 0 ∨ cl152.slots.size ≤ ((0 : Int32)).toNatClampNeg) := inb_of S152 ⟨by decide, by decide⟩
    obtain ⟨T153, h153, X153, e153, W153, st153⟩ := stC X151 hx hZ e151 Ar152 (j := (0 : Int32)) hin152 (g := (mkF m 113 #[.val (.int n1), .val (.long n2), .second, .val (.long n3), .second, .val (.int n4), .val (.int (3 : Int32)), .val (.int u118), .val (.int u119), .val (.int u120), .val (.int u121), .val (.int u122), .val (.int u123), .val (.int u124), .val (.int u125), .val (.ref b151), .unset, .unset] [(.int u118), (.int (0 : Int32)), (.ref b151)])) rfl rfl (hb hby at_113)
    rw [hn118] at W153
    have N153 := Fr.snoc X153 N125 n_b151
    have O153 : Old Z n0 h153 := O151.wr W153 n_b151
    have CS153 : CHr Z consts_1 s.vm h151 s.vm h153 := CHr.wr W153 (Safe.arv hZ.alike V151 (by decide)) CR151.1
    have Sf153_b151 := CHr.safe CS153 V151.lt Sf151_b151
    have CR153 := CHr.trans CR151 CS153
    have V153 : Arv Z h153 b151 k151 .char (3 : Int32) [(.int u118), (.int (0 : Int32)), (.int (0 : Int32))] (.int (0 : Int32)) := Arv.set Ar152 q152 S152 Ng152 Hs152 G152 (hn118 ▸ (fits_nar_char _)) W153 0 rfl (Nat.le_of_ble_eq_true rfl)
    refine OWH.st (B := T153.setTop (mkF m 125 #[.val (.int n1), .val (.long n2), .second, .val (.long n3), .second, .val (.int n4), .val (.int (3 : Int32)), .val (.int u118), .val (.int u119), .val (.int u120), .val (.int u121), .val (.int u122), .val (.int u123), .val (.int u124), .val (.int u125), .val (.ref b151), .unset, .unset] [(.int u119), (.int (1 : Int32)), (.ref b151)])) (fun _ kk_ => st153 _ (XS.iload X153.here hx rfl (hb hby at_114) rfl (XS.iconst X153.here hx rfl (hb hby at_116) (XS.icmpNo X153.here hx rfl (hb hby at_117) rfl (tlt (by decide)).2.2.2 (XS.aload X153.here hx rfl (hb hby at_120) rfl rfl (XS.iconst X153.here hx rfl (hb hby at_122) (XS.iload X153.here hx rfl (hb hby at_123) rfl kk_))))))) ?_
    obtain ⟨cl154, Ar154, q154, S154, Ng154, Hs154, G154⟩ := id V153
    have hin154 : ¬ ((1 : Int32) < 0 ∨ cl154.slots.size ≤ ((1 : Int32)).toNatClampNeg) := inb_of S154 ⟨by decide, by decide⟩
    obtain ⟨T155, h155, X155, e155, W155, st155⟩ := stC X153 hx hZ e153 Ar154 (j := (1 : Int32)) hin154 (g := (mkF m 125 #[.val (.int n1), .val (.long n2), .second, .val (.long n3), .second, .val (.int n4), .val (.int (3 : Int32)), .val (.int u118), .val (.int u119), .val (.int u120), .val (.int u121), .val (.int u122), .val (.int u123), .val (.int u124), .val (.int u125), .val (.ref b151), .unset, .unset] [(.int u119), (.int (1 : Int32)), (.ref b151)])) rfl rfl (hb hby at_125)
    rw [hn119] at W155
    have N155 := Fr.snoc X155 N153 n_b151
    have O155 : Old Z n0 h155 := O153.wr W155 n_b151
    have CS155 : CHr Z consts_1 s.vm h153 s.vm h155 := CHr.wr W155 (Safe.arv hZ.alike V153 (by decide)) CR153.1
    have Sf155_b151 := CHr.safe CS155 V153.lt Sf153_b151
    have CR155 := CHr.trans CR153 CS155
    have V155 : Arv Z h155 b151 k151 .char (3 : Int32) [(.int u118), (.int u119), (.int (0 : Int32))] (.int (0 : Int32)) := Arv.set Ar154 q154 S154 Ng154 Hs154 G154 (hn119 ▸ (fits_nar_char _)) W155 1 rfl (Nat.le_of_ble_eq_true rfl)
    refine OWH.st (B := T155.setTop (mkF m 137 #[.val (.int n1), .val (.long n2), .second, .val (.long n3), .second, .val (.int n4), .val (.int (3 : Int32)), .val (.int u118), .val (.int u119), .val (.int u120), .val (.int u121), .val (.int u122), .val (.int u123), .val (.int u124), .val (.int u125), .val (.ref b151), .unset, .unset] [(.int u120), (.int (2 : Int32)), (.ref b151)])) (fun _ kk_ => st155 _ (XS.iload X155.here hx rfl (hb hby at_126) rfl (XS.iconst X155.here hx rfl (hb hby at_128) (XS.icmpNo X155.here hx rfl (hb hby at_129) rfl (tlt (by decide)).2.2.2 (XS.aload X155.here hx rfl (hb hby at_132) rfl rfl (XS.iconst X155.here hx rfl (hb hby at_134) (XS.iload X155.here hx rfl (hb hby at_135) rfl kk_))))))) ?_
    obtain ⟨cl156, Ar156, q156, S156, Ng156, Hs156, G156⟩ := id V155
    have hin156 : ¬ ((2 : Int32) < 0 ∨ cl156.slots.size ≤ ((2 : Int32)).toNatClampNeg) := inb_of S156 ⟨by decide, by decide⟩
    obtain ⟨T157, h157, X157, e157, W157, st157⟩ := stC X155 hx hZ e155 Ar156 (j := (2 : Int32)) hin156 (g := (mkF m 137 #[.val (.int n1), .val (.long n2), .second, .val (.long n3), .second, .val (.int n4), .val (.int (3 : Int32)), .val (.int u118), .val (.int u119), .val (.int u120), .val (.int u121), .val (.int u122), .val (.int u123), .val (.int u124), .val (.int u125), .val (.ref b151), .unset, .unset] [(.int u120), (.int (2 : Int32)), (.ref b151)])) rfl rfl (hb hby at_137)
    rw [hn120] at W157
    have N157 := Fr.snoc X157 N155 n_b151
    have O157 : Old Z n0 h157 := O155.wr W157 n_b151
    have CS157 : CHr Z consts_1 s.vm h155 s.vm h157 := CHr.wr W157 (Safe.arv hZ.alike V155 (by decide)) CR155.1
    have Sf157_b151 := CHr.safe CS157 V155.lt Sf155_b151
    have CR157 := CHr.trans CR155 CS157
    have V157 : Arv Z h157 b151 k151 .char (3 : Int32) [(.int u118), (.int u119), (.int u120)] (.int (0 : Int32)) := Arv.set Ar156 q156 S156 Ng156 Hs156 G156 (hn120 ▸ (fits_nar_char _)) W157 2 rfl (Nat.le_of_ble_eq_true rfl)
    refine OWH.st (B := T157.setTop (mkF m 174 #[.val (.int n1), .val (.long n2), .second, .val (.long n3), .second, .val (.int n4), .val (.int (3 : Int32)), .val (.int u118), .val (.int u119), .val (.int u120), .val (.int u121), .val (.int u122), .val (.int u123), .val (.int u124), .val (.int u125), .val (.ref b151), .unset, .unset] [])) (fun _ kk_ => st157 _ (XS.iload X157.here hx rfl (hb hby at_138) rfl (XS.iconst X157.here hx rfl (hb hby at_140) (XS.icmpYes X157.here hx rfl (pc0 := 141) (pc' := 150) rfl (hb hby at_141) rfl (flt (by decide)).2.2.2 (by decide) (by decide) (XS.iload X157.here hx rfl (hb hby at_150) rfl (XS.iconst X157.here hx rfl (hb hby at_152) (XS.icmpYes X157.here hx rfl (pc0 := 153) (pc' := 162) rfl (hb hby at_153) rfl (flt (by decide)).2.2.2 (by decide) (by decide) (XS.iload X157.here hx rfl (hb hby at_162) rfl (XS.iconst X157.here hx rfl (hb hby at_164) (XS.icmpYes X157.here hx rfl (pc0 := 165) (pc' := 174) rfl (hb hby at_165) rfl (flt (by decide)).2.2.2 (by decide) (by decide) kk_)))))))))) ?_
    refine OWH.st (B := T157.setTop (mkF m 202 #[.val (.int n1), .val (.long n2), .second, .val (.long n3), .second, .val (.int n4), .val (.int (3 : Int32)), .val (.int u118), .val (.int u119), .val (.int u120), .val (.int u121), .val (.int u122), .val (.int u123), .val (.int u124), .val (.int u125), .val (.ref b151), .unset, .unset] [])) (fun _ kk_ => XS.iload X157.here hx rfl (hb hby at_174) rfl (XS.bipush X157.here hx rfl (hb hby at_176) (XS.icmpYes X157.here hx rfl (pc0 := 178) (pc' := 188) rfl (hb hby at_178) rfl (flt (by decide)).2.2.2 (by decide) (by decide) (XS.iload X157.here hx rfl (hb hby at_188) rfl (XS.bipush X157.here hx rfl (hb hby at_190) (XS.icmpYes X157.here hx rfl (pc0 := 192) (pc' := 202) rfl (hb hby at_192) rfl (flt (by decide)).2.2.2 (by decide) (by decide) kk_)))))) ?_
    obtain ⟨T158, h158, X158, e158, E158, A158, D158, -, st158⟩ := newO X157 hx hZ hown (w_7 hw) (w_8 hw) (w_9 hw) e157 (g := (mkF m 202 #[.val (.int n1), .val (.long n2), .second, .val (.long n3), .second, .val (.int n4), .val (.int (3 : Int32)), .val (.int u118), .val (.int u119), .val (.int u120), .val (.int u121), .val (.int u122), .val (.int u123), .val (.int u124), .val (.int u125), .val (.ref b151), .unset, .unset] [])) rfl (hb hby at_202) (by decide) (by decide)
    obtain ⟨b158, g158⟩ : ∃ z, z = h157.size := ⟨_, rfl⟩
    rw [← g158] at A158 D158 st158
    have n_b158 : n0 ≤ b158 := Nat.le_trans (own_oldle O157) (Nat.le_of_eq g158.symm)
    have O158 : Old Z n0 h158 := O157.ext E158
    have CS158 : CHr Z consts_1 s.vm h157 s.vm h158 := CHr.ext E158 CR157.1
    have Sf158_b151 := CHr.safe CS158 V157.lt Sf157_b151
    have CR158 := CHr.trans CR157 CS158
    have Sf158_b158 : Safe Z consts_1 s.vm h158 b158 := Safe.ext E158 CR157.1 (Safe.new (Nat.le_of_eq g158.symm))
    have F158_22 : Fld Z h158 b158 "java/lang/String" "value" "[B" .null := D158 (Or.inr (w_22 hw)) (ty := (.array .byte)) (by decide)
    have F158_23 : Fld Z h158 b158 "java/lang/String" "coder" "B" (.int (0 : Int32)) := D158 (Or.inr (w_23 hw)) (ty := .byte) (by decide)
    refine OWH.st (B := T158.setTop (mkF m 208 #[.val (.int n1), .val (.long n2), .second, .val (.long n3), .second, .val (.int n4), .val (.int (3 : Int32)), .val (.int u118), .val (.int u119), .val (.int u120), .val (.int u121), .val (.int u122), .val (.int u123), .val (.int u124), .val (.int u125), .val (.ref b151), .unset, .unset] [(.ref b151), (.ref b158), (.ref b158)])) (fun _ kk_ => st158 _ (XS.dup X158.here hx rfl (hb hby at_205) rfl rfl (XS.aload X158.here hx rfl (hb hby at_206) rfl rfl kk_))) ?_
    obtain ⟨_, _, ⟨T159, L159, k159, n159⟩, -, X159, ⟨Lc159, hQ159, l159, y159, z159⟩, st159⟩ := X158.specialBack hx (y := (⟨"java/lang/String", "<init>", "([C)V"⟩ : MethodName)) rfl hown (mvT hZ (w_10 hw)) (mvT hZ (w_11 hw)) (mvT hZ (w_12 hw)) (by decide) (backOf (W := 1) (rmS0X l Z a0 hw [] b158 b151 k151 (3 : Int32) [u118, u119, u120] i_COMPACT_STRINGS v_SIOOBE_FORMATTER h158 n0 O158 A158 F158_22 F158_23 n_b158 (V157.ext E158) rfl (Nat.le_of_ble_eq_true rfl) (Nat.zero_lt_succ _) (OwnChs.cons hn118 (OwnChs.cons hn119 (OwnChs.cons hn120 OwnChs.nil))) hS) hZ (w_12 hw) (w_9 hw) (by decide) (by decide)) (g := (mkF m 208 #[.val (.int n1), .val (.long n2), .second, .val (.long n3), .second, .val (.int n4), .val (.int (3 : Int32)), .val (.int u118), .val (.int u119), .val (.int u120), .val (.int u121), .val (.int u122), .val (.int u123), .val (.int u124), .val (.int u125), .val (.ref b151), .unset, .unset] [(.ref b151), (.ref b158), (.ref b158)])) rfl (by rw [hml]; rfl) (Steps.refl _) (a := b158) (argsL := [(.ref b151)]) (rest := [(.ref b158)]) (lenOf pd_21 rfl) rfl (by show 2 * 0 + _ ≤ _; exact Nat.le_of_eq rfl) (hb hby at_208) (fun _ _ => ⟨rfl, e158, (by decide : 2 + 2 ≤ _), (by decide : 7 + 30 ≤ _)⟩)
    dsimp only [Pt.U, Pt.locs, Pt.cells, Pt.slots] at X159 l159 y159 z159 st159 hQ159
    subst l159 y159 z159
    obtain ⟨rfl, Nq159, K159, HO159⟩ := hQ159
    have N159 := Fr.app N157 Nq159
    have O159 : Old Z n0 T159.heap := O158.keep K159 (allS n_b158 all0)
    have CS159 : CHr Z consts_1 s.vm h158 s.vm T159.heap := CHr.keep K159 (allS Sf158_b158 all0) CR158.1
    have Sf159_b151 := CHr.safe CS159 (V157.ext E158).lt Sf158_b151
    have Sf159_b158 := CHr.safe CS159 A158.lt Sf158_b158
    have CR159 := CHr.trans CR158 CS159
    refine OWH.tr (B := T159.setTop (mkF m 211 #[.val (.int n1), .val (.long n2), .second, .val (.long n3), .second, .val (.int n4), .val (.int (3 : Int32)), .val (.int u118), .val (.int u119), .val (.int u120), .val (.int u121), .val (.int u122), .val (.int u123), .val (.int u124), .val (.int u125), .val (.ref b151), .unset, .unset] [(.ref b158)])) (st159) ?_
    refine OWH.st (B := T159.setTop (mkF m 213 #[.val (.int n1), .val (.long n2), .second, .val (.long n3), .second, .val (.int n4), .val (.int (3 : Int32)), .val (.int u118), .val (.int u119), .val (.int u120), .val (.int u121), .val (.int u122), .val (.int u123), .val (.int u124), .val (.int u125), .val (.ref b151), .val (.ref b158), .unset] [])) (fun _ kk_ => XS.astore X159.here hx rfl (hb hby at_211) rfl rfl (l' := #[.val (.int n1), .val (.long n2), .second, .val (.long n3), .second, .val (.int n4), .val (.int (3 : Int32)), .val (.int u118), .val (.int u119), .val (.int u120), .val (.int u121), .val (.int u122), .val (.int u123), .val (.int u124), .val (.int u125), .val (.ref b151), .val (.ref b158), .unset]) rfl kk_) ?_
    exact J126 _ _ _ s.vm _ (X159.more (by decide) (by decide)) N159 rfl O159 hS0 (Nat.le_trans (Nat.le_trans (Nat.le_trans (Nat.le_trans (Nat.le_trans (Nat.le_trans hk0 E151.1) (Keep.of_wr W153).1) (Keep.of_wr W155).1) (Keep.of_wr W157).1) E158.1) K159.1) hZ hown CR159 _ _ [u118, u119, u120] HO159 (Nat.le_of_ble_eq_true rfl) (OwnChs.cons hn118 (OwnChs.cons hn119 (OwnChs.cons hn120 OwnChs.nil))) (by rw [own_dt1 u118 (show ((0 : Int32) < (3 : Int32)) by decide), own_dt1 u119 (show ((1 : Int32) < (3 : Int32)) by decide), own_dt1 u120 (show ((2 : Int32) < (3 : Int32)) by decide), own_dt0 u121 (show ¬ ((3 : Int32) < (3 : Int32)) by decide), own_dt0 u122 (show ¬ ((4 : Int32) < (3 : Int32)) by decide), own_dt0 u123 (show ¬ ((5 : Int32) < (3 : Int32)) by decide), own_dt0 u124 (show ¬ ((6 : Int32) < (3 : Int32)) by decide), own_dt0 u125 (show ¬ ((7 : Int32) < (3 : Int32)) by decide)]; simp only [own_cnt, Int32.add_assoc, Int32.add_zero, Int32.zero_add])
  · refine OWH.st (B := T125.setTop (mkF m 99 #[.val (.int n1), .val (.long n2), .second, .val (.long n3), .second, .val (.int n4), .val (.int (4 : Int32)), .val (.int u118), .val (.int u119), .val (.int u120), .val (.int u121), .val (.int u122), .val (.int u123), .val (.int u124), .val (.int u125), .unset, .unset, .unset] [(.int (4 : Int32))])) (fun _ kk_ => XS.iload X125.here hx rfl (hb hby at_97) rfl kk_) ?_
    obtain ⟨T160, h160, k160, X160, e160, E160, A160, st160⟩ := newP (aty := .char) X125 hx hZ (w_6 hw) e125 (g := (mkF m 99 #[.val (.int n1), .val (.long n2), .second, .val (.long n3), .second, .val (.int n4), .val (.int (4 : Int32)), .val (.int u118), .val (.int u119), .val (.int u120), .val (.int u121), .val (.int u122), .val (.int u123), .val (.int u124), .val (.int u125), .unset, .unset, .unset] [(.int (4 : Int32))])) rfl (hb hby at_99) rfl (by decide) (cap := 4) (by decide +kernel) (by decide +kernel) (by decide +kernel) (by decide +kernel)
    obtain ⟨b160, g160⟩ : ∃ z, z = h0.size := ⟨_, rfl⟩
    rw [← g160] at A160 st160
    have n_b160 : n0 ≤ b160 := Nat.le_trans (own_oldle O0) (Nat.le_of_eq g160.symm)
    have O160 : Old Z n0 h160 := O0.ext E160
    have CS160 : CHr Z consts_1 s.vm h0 s.vm h160 := CHr.ext E160 CR0.1
    have CR160 := CHr.trans CR0 CS160
    have Sf160_b160 : Safe Z consts_1 s.vm h160 b160 := Safe.ext E160 CR0.1 (Safe.new (Nat.le_of_eq g160.symm))
    have V160 : Arv Z h160 b160 k160 .char (4 : Int32) [(.int (0 : Int32)), (.int (0 : Int32)), (.int (0 : Int32)), (.int (0 : Int32))] (.int (0 : Int32)) := (Arv.new A160 (by decide)).pad (pad_rep [] (.int (0 : Int32)) 4)
    refine OWH.st (B := T160.setTop (mkF m 113 #[.val (.int n1), .val (.long n2), .second, .val (.long n3), .second, .val (.int n4), .val (.int (4 : Int32)), .val (.int u118), .val (.int u119), .val (.int u120), .val (.int u121), .val (.int u122), .val (.int u123), .val (.int u124), .val (.int u125), .val (.ref b160), .unset, .unset] [(.int u118), (.int (0 : Int32)), (.ref b160)])) (fun _ kk_ => st160 _ (XS.astore X160.here hx rfl (hb hby at_101) rfl rfl (l' := #[.val (.int n1), .val (.long n2), .second, .val (.long n3), .second, .val (.int n4), .val (.int (4 : Int32)), .val (.int u118), .val (.int u119), .val (.int u120), .val (.int u121), .val (.int u122), .val (.int u123), .val (.int u124), .val (.int u125), .val (.ref b160), .unset, .unset]) rfl (XS.iload X160.here hx rfl (hb hby at_103) rfl (XS.ifNo X160.here hx rfl (hb hby at_105) rfl ((if0 _ _).trans (tlt (by decide)).2.2.2) (XS.aload X160.here hx rfl (hb hby at_108) rfl rfl (XS.iconst X160.here hx rfl (hb hby at_110) (XS.iload X160.here hx rfl (hb hby at_111) rfl kk_))))))) ?_
    obtain ⟨cl161, Ar161, q161, S161, Ng161, Hs161, G161⟩ := id V160
    have hin161 : ¬ ((0 : Int32) < 0 ∨ cl161.slots.size ≤ ((0 : Int32)).toNatClampNeg) := inb_of S161 ⟨by decide, by decide⟩
    obtain ⟨T162, h162, X162, e162, W162, st162⟩ := stC X160 hx hZ e160 Ar161 (j := (0 : Int32)) hin161 (g := (mkF m 113 #[.val (.int n1), .val (.long n2), .second, .val (.long n3), .second, .val (.int n4), .val (.int (4 : Int32)), .val (.int u118), .val (.int u119), .val (.int u120), .val (.int u121), .val (.int u122), .val (.int u123), .val (.int u124), .val (.int u125), .val (.ref b160), .unset, .unset] [(.int u118), (.int (0 : Int32)), (.ref b160)])) rfl rfl (hb hby at_113)
    rw [hn118] at W162
    have N162 := Fr.snoc X162 N125 n_b160
    have O162 : Old Z n0 h162 := O160.wr W162 n_b160
    have CS162 : CHr Z consts_1 s.vm h160 s.vm h162 := CHr.wr W162 (Safe.arv hZ.alike V160 (by decide)) CR160.1
    have Sf162_b160 := CHr.safe CS162 V160.lt Sf160_b160
    have CR162 := CHr.trans CR160 CS162
    have V162 : Arv Z h162 b160 k160 .char (4 : Int32) [(.int u118), (.int (0 : Int32)), (.int (0 : Int32)), (.int (0 : Int32))] (.int (0 : Int32)) := Arv.set Ar161 q161 S161 Ng161 Hs161 G161 (hn118 ▸ (fits_nar_char _)) W162 0 rfl (Nat.le_of_ble_eq_true rfl)
    refine OWH.st (B := T162.setTop (mkF m 125 #[.val (.int n1), .val (.long n2), .second, .val (.long n3), .second, .val (.int n4), .val (.int (4 : Int32)), .val (.int u118), .val (.int u119), .val (.int u120), .val (.int u121), .val (.int u122), .val (.int u123), .val (.int u124), .val (.int u125), .val (.ref b160), .unset, .unset] [(.int u119), (.int (1 : Int32)), (.ref b160)])) (fun _ kk_ => st162 _ (XS.iload X162.here hx rfl (hb hby at_114) rfl (XS.iconst X162.here hx rfl (hb hby at_116) (XS.icmpNo X162.here hx rfl (hb hby at_117) rfl (tlt (by decide)).2.2.2 (XS.aload X162.here hx rfl (hb hby at_120) rfl rfl (XS.iconst X162.here hx rfl (hb hby at_122) (XS.iload X162.here hx rfl (hb hby at_123) rfl kk_))))))) ?_
    obtain ⟨cl163, Ar163, q163, S163, Ng163, Hs163, G163⟩ := id V162
    have hin163 : ¬ ((1 : Int32) < 0 ∨ cl163.slots.size ≤ ((1 : Int32)).toNatClampNeg) := inb_of S163 ⟨by decide, by decide⟩
    obtain ⟨T164, h164, X164, e164, W164, st164⟩ := stC X162 hx hZ e162 Ar163 (j := (1 : Int32)) hin163 (g := (mkF m 125 #[.val (.int n1), .val (.long n2), .second, .val (.long n3), .second, .val (.int n4), .val (.int (4 : Int32)), .val (.int u118), .val (.int u119), .val (.int u120), .val (.int u121), .val (.int u122), .val (.int u123), .val (.int u124), .val (.int u125), .val (.ref b160), .unset, .unset] [(.int u119), (.int (1 : Int32)), (.ref b160)])) rfl rfl (hb hby at_125)
    rw [hn119] at W164
    have N164 := Fr.snoc X164 N162 n_b160
    have O164 : Old Z n0 h164 := O162.wr W164 n_b160
    have CS164 : CHr Z consts_1 s.vm h162 s.vm h164 := CHr.wr W164 (Safe.arv hZ.alike V162 (by decide)) CR162.1
    have Sf164_b160 := CHr.safe CS164 V162.lt Sf162_b160
    have CR164 := CHr.trans CR162 CS164
    have V164 : Arv Z h164 b160 k160 .char (4 : Int32) [(.int u118), (.int u119), (.int (0 : Int32)), (.int (0 : Int32))] (.int (0 : Int32)) := Arv.set Ar163 q163 S163 Ng163 Hs163 G163 (hn119 ▸ (fits_nar_char _)) W164 1 rfl (Nat.le_of_ble_eq_true rfl)
    refine OWH.st (B := T164.setTop (mkF m 137 #[.val (.int n1), .val (.long n2), .second, .val (.long n3), .second, .val (.int n4), .val (.int (4 : Int32)), .val (.int u118), .val (.int u119), .val (.int u120), .val (.int u121), .val (.int u122), .val (.int u123), .val (.int u124), .val (.int u125), .val (.ref b160), .unset, .unset] [(.int u120), (.int (2 : Int32)), (.ref b160)])) (fun _ kk_ => st164 _ (XS.iload X164.here hx rfl (hb hby at_126) rfl (XS.iconst X164.here hx rfl (hb hby at_128) (XS.icmpNo X164.here hx rfl (hb hby at_129) rfl (tlt (by decide)).2.2.2 (XS.aload X164.here hx rfl (hb hby at_132) rfl rfl (XS.iconst X164.here hx rfl (hb hby at_134) (XS.iload X164.here hx rfl (hb hby at_135) rfl kk_))))))) ?_
    obtain ⟨cl165, Ar165, q165, S165, Ng165, Hs165, G165⟩ := id V164
    have hin165 : ¬ ((2 : Int32) < 0 ∨ cl165.slots.size ≤ ((2 : Int32)).toNatClampNeg) := inb_of S165 ⟨by decide, by decide⟩
    obtain ⟨T166, h166, X166, e166, W166, st166⟩ := stC X164 hx hZ e164 Ar165 (j := (2 : Int32)) hin165 (g := (mkF m 137 #[.val (.int n1), .val (.long n2), .second, .val (.long n3), .second, .val (.int n4), .val (.int (4 : Int32)), .val (.int u118), .val (.int u119), .val (.int u120), .val (.int u121), .val (.int u122), .val (.int u123), .val (.int u124), .val (.int u125), .val (.ref b160), .unset, .unset] [(.int u120), (.int (2 : Int32)), (.ref b160)])) rfl rfl (hb hby at_137)
    rw [hn120] at W166
    have N166 := Fr.snoc X166 N164 n_b160
    have O166 : Old Z n0 h166 := O164.wr W166 n_b160
    have CS166 : CHr Z consts_1 s.vm h164 s.vm h166 := CHr.wr W166 (Safe.arv hZ.alike V164 (by decide)) CR164.1
    have Sf166_b160 := CHr.safe CS166 V164.lt Sf164_b160
    have CR166 := CHr.trans CR164 CS166
    have V166 : Arv Z h166 b160 k160 .char (4 : Int32) [(.int u118), (.int u119), (.int u120), (.int (0 : Int32))] (.int (0 : Int32)) := Arv.set Ar165 q165 S165 Ng165 Hs165 G165 (hn120 ▸ (fits_nar_char _)) W166 2 rfl (Nat.le_of_ble_eq_true rfl)
    refine OWH.st (B := T166.setTop (mkF m 149 #[.val (.int n1), .val (.long n2), .second, .val (.long n3), .second, .val (.int n4), .val (.int (4 : Int32)), .val (.int u118), .val (.int u119), .val (.int u120), .val (.int u121), .val (.int u122), .val (.int u123), .val (.int u124), .val (.int u125), .val (.ref b160), .unset, .unset] [(.int u121), (.int (3 : Int32)), (.ref b160)])) (fun _ kk_ => st166 _ (XS.iload X166.here hx rfl (hb hby at_138) rfl (XS.iconst X166.here hx rfl (hb hby at_140) (XS.icmpNo X166.here hx rfl (hb hby at_141) rfl (tlt (by decide)).2.2.2 (XS.aload X166.here hx rfl (hb hby at_144) rfl rfl (XS.iconst X166.here hx rfl (hb hby at_146) (XS.iload X166.here hx rfl (hb hby at_147) rfl kk_))))))) ?_
    obtain ⟨cl167, Ar167, q167, S167, Ng167, Hs167, G167⟩ := id V166
    have hin167 : ¬ ((3 : Int32) < 0 ∨ cl167.slots.size ≤ ((3 : Int32)).toNatClampNeg) := inb_of S167 ⟨by decide, by decide⟩
    obtain ⟨T168, h168, X168, e168, W168, st168⟩ := stC X166 hx hZ e166 Ar167 (j := (3 : Int32)) hin167 (g := (mkF m 149 #[.val (.int n1), .val (.long n2), .second, .val (.long n3), .second, .val (.int n4), .val (.int (4 : Int32)), .val (.int u118), .val (.int u119), .val (.int u120), .val (.int u121), .val (.int u122), .val (.int u123), .val (.int u124), .val (.int u125), .val (.ref b160), .unset, .unset] [(.int u121), (.int (3 : Int32)), (.ref b160)])) rfl rfl (hb hby at_149)
    rw [hn121] at W168
    have N168 := Fr.snoc X168 N166 n_b160
    have O168 : Old Z n0 h168 := O166.wr W168 n_b160
    have CS168 : CHr Z consts_1 s.vm h166 s.vm h168 := CHr.wr W168 (Safe.arv hZ.alike V166 (by decide)) CR166.1
    have Sf168_b160 := CHr.safe CS168 V166.lt Sf166_b160
    have CR168 := CHr.trans CR166 CS168
    have V168 : Arv Z h168 b160 k160 .char (4 : Int32) [(.int u118), (.int u119), (.int u120), (.int u121)] (.int (0 : Int32)) := Arv.set Ar167 q167 S167 Ng167 Hs167 G167 (hn121 ▸ (fits_nar_char _)) W168 3 rfl (Nat.le_of_ble_eq_true rfl)
    refine OWH.st (B := T168.setTop (mkF m 188 #[.val (.int n1), .val (.long n2), .second, .val (.long n3), .second, .val (.int n4), .val (.int (4 : Int32)), .val (.int u118), .val (.int u119), .val (.int u120), .val (.int u121), .val (.int u122), .val (.int u123), .val (.int u124), .val (.int u125), .val (.ref b160), .unset, .unset] [])) (fun _ kk_ => st168 _ (XS.iload X168.here hx rfl (hb hby at_150) rfl (XS.iconst X168.here hx rfl (hb hby at_152) (XS.icmpYes X168.here hx rfl (pc0 := 153) (pc' := 162) rfl (hb hby at_153) rfl (flt (by decide)).2.2.2 (by decide) (by decide) (XS.iload X168.here hx rfl (hb hby at_162) rfl (XS.iconst X168.here hx rfl (hb hby at_164) (XS.icmpYes X168.here hx rfl (pc0 := 165) (pc' := 174) rfl (hb hby at_165) rfl (flt (by decide)).2.2.2 (by decide) (by decide) (XS.iload X168.here hx rfl (hb hby at_174) rfl (XS.bipush X168.here hx rfl (hb hby at_176) (XS.icmpYes X168.here hx rfl (pc0 := 178) (pc' := 188) rfl (hb hby at_178) rfl (flt (by decide)).2.2.2 (by decide) (by decide) kk_)))))))))) ?_
    refine OWH.st (B := T168.setTop (mkF m 202 #[.val (.int n1), .val (.long n2), .second, .val (.long n3), .second, .val (.int n4), .val (.int (4 : Int32)), .val (.int u118), .val (.int u119), .val (.int u120), .val (.int u121), .val (.int u122), .val (.int u123), .val (.int u124), .val (.int u125), .val (.ref b160), .unset, .unset] [])) (fun _ kk_ => XS.iload X168.here hx rfl (hb hby at_188) rfl (XS.bipush X168.here hx rfl (hb hby at_190) (XS.icmpYes X168.here hx rfl (pc0 := 192) (pc' := 202) rfl (hb hby at_192) rfl (flt (by decide)).2.2.2 (by decide) (by decide) kk_))) ?_
    obtain ⟨T169, h169, X169, e169, E169, A169, D169, -, st169⟩ := newO X168 hx hZ hown (w_7 hw) (w_8 hw) (w_9 hw) e168 (g := (mkF m 202 #[.val (.int n1), .val (.long n2), .second, .val (.long n3), .second, .val (.int n4), .val (.int (4 : Int32)), .val (.int u118), .val (.int u119), .val (.int u120), .val (.int u121), .val (.int u122), .val (.int u123), .val (.int u124), .val (.int u125), .val (.ref b160), .unset, .unset] [])) rfl (hb hby at_202) (by decide) (by decide)
    obtain ⟨b169, g169⟩ : ∃ z, z = h168.size := ⟨_, rfl⟩
    rw [← g169] at A169 D169 st169
    have n_b169 : n0 ≤ b169 := Nat.le_trans (own_oldle O168) (Nat.le_of_eq g169.symm)
    have O169 : Old Z n0 h169 := O168.ext E169
    have CS169 : CHr Z consts_1 s.vm h168 s.vm h169 := CHr.ext E169 CR168.1
    have Sf169_b160 := CHr.safe CS169 V168.lt Sf168_b160
    have CR169 := CHr.trans CR168 CS169
    have Sf169_b169 : Safe Z consts_1 s.vm h169 b169 := Safe.ext E169 CR168.1 (Safe.new (Nat.le_of_eq g169.symm))
    have F169_22 : Fld Z h169 b169 "java/lang/String" "value" "[B" .null := D169 (Or.inr (w_22 hw)) (ty := (.array .byte)) (by decide)
    have F169_23 : Fld Z h169 b169 "java/lang/String" "coder" "B" (.int (0 : Int32)) := D169 (Or.inr (w_23 hw)) (ty := .byte) (by decide)
    refine OWH.st (B := T169.setTop (mkF m 208 #[.val (.int n1), .val (.long n2), .second, .val (.long n3), .second, .val (.int n4), .val (.int (4 : Int32)), .val (.int u118), .val (.int u119), .val (.int u120), .val (.int u121), .val (.int u122), .val (.int u123), .val (.int u124), .val (.int u125), .val (.ref b160), .unset, .unset] [(.ref b160), (.ref b169), (.ref b169)])) (fun _ kk_ => st169 _ (XS.dup X169.here hx rfl (hb hby at_205) rfl rfl (XS.aload X169.here hx rfl (hb hby at_206) rfl rfl kk_))) ?_
    obtain ⟨_, _, ⟨T170, L170, k170, n170⟩, -, X170, ⟨Lc170, hQ170, l170, y170, z170⟩, st170⟩ := X169.specialBack hx (y := (⟨"java/lang/String", "<init>", "([C)V"⟩ : MethodName)) rfl hown (mvT hZ (w_10 hw)) (mvT hZ (w_11 hw)) (mvT hZ (w_12 hw)) (by decide) (backOf (W := 1) (rmS0X l Z a0 hw [] b169 b160 k160 (4 : Int32) [u118, u119, u120, u121] i_COMPACT_STRINGS v_SIOOBE_FORMATTER h169 n0 O169 A169 F169_22 F169_23 n_b169 (V168.ext E169) rfl (Nat.le_of_ble_eq_true rfl) (Nat.zero_lt_succ _) (OwnChs.cons hn118 (OwnChs.cons hn119 (OwnChs.cons hn120 (OwnChs.cons hn121 OwnChs.nil)))) hS) hZ (w_12 hw) (w_9 hw) (by decide) (by decide)) (g := (mkF m 208 #[.val (.int n1), .val (.long n2), .second, .val (.long n3), .second, .val (.int n4), .val (.int (4 : Int32)), .val (.int u118), .val (.int u119), .val (.int u120), .val (.int u121), .val (.int u122), .val (.int u123), .val (.int u124), .val (.int u125), .val (.ref b160), .unset, .unset] [(.ref b160), (.ref b169), (.ref b169)])) rfl (by rw [hml]; rfl) (Steps.refl _) (a := b169) (argsL := [(.ref b160)]) (rest := [(.ref b169)]) (lenOf pd_21 rfl) rfl (by show 2 * 0 + _ ≤ _; exact Nat.le_of_eq rfl) (hb hby at_208) (fun _ _ => ⟨rfl, e169, (by decide : 2 + 2 ≤ _), (by decide : 8 + 30 ≤ _)⟩)
    dsimp only [Pt.U, Pt.locs, Pt.cells, Pt.slots] at X170 l170 y170 z170 st170 hQ170
    subst l170 y170 z170
    obtain ⟨rfl, Nq170, K170, HO170⟩ := hQ170
    have N170 := Fr.app N168 Nq170
    have O170 : Old Z n0 T170.heap := O169.keep K170 (allS n_b169 all0)
    have CS170 : CHr Z consts_1 s.vm h169 s.vm T170.heap := CHr.keep K170 (allS Sf169_b169 all0) CR169.1
    have Sf170_b160 := CHr.safe CS170 (V168.ext E169).lt Sf169_b160
    have Sf170_b169 := CHr.safe CS170 A169.lt Sf169_b169
    have CR170 := CHr.trans CR169 CS170
    refine OWH.tr (B := T170.setTop (mkF m 211 #[.val (.int n1), .val (.long n2), .second, .val (.long n3), .second, .val (.int n4), .val (.int (4 : Int32)), .val (.int u118), .val (.int u119), .val (.int u120), .val (.int u121), .val (.int u122), .val (.int u123), .val (.int u124), .val (.int u125), .val (.ref b160), .unset, .unset] [(.ref b169)])) (st170) ?_
    refine OWH.st (B := T170.setTop (mkF m 213 #[.val (.int n1), .val (.long n2), .second, .val (.long n3), .second, .val (.int n4), .val (.int (4 : Int32)), .val (.int u118), .val (.int u119), .val (.int u120), .val (.int u121), .val (.int u122), .val (.int u123), .val (.int u124), .val (.int u125), .val (.ref b160), .val (.ref b169), .unset] [])) (fun _ kk_ => XS.astore X170.here hx rfl (hb hby at_211) rfl rfl (l' := #[.val (.int n1), .val (.long n2), .second, .val (.long n3), .second, .val (.int n4), .val (.int (4 : Int32)), .val (.int u118), .val (.int u119), .val (.int u120), .val (.int u121), .val (.int u122), .val (.int u123), .val (.int u124), .val (.int u125), .val (.ref b160), .val (.ref b169), .unset]) rfl kk_) ?_
    exact J126 _ _ _ s.vm _ (X170.more (by decide) (by decide)) N170 rfl O170 hS0 (Nat.le_trans (Nat.le_trans (Nat.le_trans (Nat.le_trans (Nat.le_trans (Nat.le_trans (Nat.le_trans hk0 E160.1) (Keep.of_wr W162).1) (Keep.of_wr W164).1) (Keep.of_wr W166).1) (Keep.of_wr W168).1) E169.1) K170.1) hZ hown CR170 _ _ [u118, u119, u120, u121] HO170 (Nat.le_of_ble_eq_true rfl) (OwnChs.cons hn118 (OwnChs.cons hn119 (OwnChs.cons hn120 (OwnChs.cons hn121 OwnChs.nil)))) (by rw [own_dt1 u118 (show ((0 : Int32) < (4 : Int32)) by decide), own_dt1 u119 (show ((1 : Int32) < (4 : Int32)) by decide), own_dt1 u120 (show ((2 : Int32) < (4 : Int32)) by decide), own_dt1 u121 (show ((3 : Int32) < (4 : Int32)) by decide), own_dt0 u122 (show ¬ ((4 : Int32) < (4 : Int32)) by decide), own_dt0 u123 (show ¬ ((5 : Int32) < (4 : Int32)) by decide), own_dt0 u124 (show ¬ ((6 : Int32) < (4 : Int32)) by decide), own_dt0 u125 (show ¬ ((7 : Int32) < (4 : Int32)) by decide)]; simp only [own_cnt, Int32.add_assoc, Int32.add_zero, Int32.zero_add])
  · refine OWH.st (B := T125.setTop (mkF m 99 #[.val (.int n1), .val (.long n2), .second, .val (.long n3), .second, .val (.int n4), .val (.int (5 : Int32)), .val (.int u118), .val (.int u119), .val (.int u120), .val (.int u121), .val (.int u122), .val (.int u123), .val (.int u124), .val (.int u125), .unset, .unset, .unset] [(.int (5 : Int32))])) (fun _ kk_ => XS.iload X125.here hx rfl (hb hby at_97) rfl kk_) ?_
    obtain ⟨T171, h171, k171, X171, e171, E171, A171, st171⟩ := newP (aty := .char) X125 hx hZ (w_6 hw) e125 (g := (mkF m 99 #[.val (.int n1), .val (.long n2), .second, .val (.long n3), .second, .val (.int n4), .val (.int (5 : Int32)), .val (.int u118), .val (.int u119), .val (.int u120), .val (.int u121), .val (.int u122), .val (.int u123), .val (.int u124), .val (.int u125), .unset, .unset, .unset] [(.int (5 : Int32))])) rfl (hb hby at_99) rfl (by decide) (cap := 5) (by decide +kernel) (by decide +kernel) (by decide +kernel) (by decide +kernel)
    obtain ⟨b171, g171⟩ : ∃ z, z = h0.size := ⟨_, rfl⟩
    rw [← g171] at A171 st171
    have n_b171 : n0 ≤ b171 := Nat.le_trans (own_oldle O0) (Nat.le_of_eq g171.symm)
    have O171 : Old Z n0 h171 := O0.ext E171
    have CS171 : CHr Z consts_1 s.vm h0 s.vm h171 := CHr.ext E171 CR0.1
    have CR171 := CHr.trans CR0 CS171
    have Sf171_b171 : Safe Z consts_1 s.vm h171 b171 := Safe.ext E171 CR0.1 (Safe.new (Nat.le_of_eq g171.symm))
    have V171 : Arv Z h171 b171 k171 .char (5 : Int32) [(.int (0 : Int32)), (.int (0 : Int32)), (.int (0 : Int32)), (.int (0 : Int32)), (.int (0 : Int32))] (.int (0 : Int32)) := (Arv.new A171 (by decide)).pad (pad_rep [] (.int (0 : Int32)) 5)
    refine OWH.st (B := T171.setTop (mkF m 113 #[.val (.int n1), .val (.long n2), .second, .val (.long n3), .second, .val (.int n4), .val (.int (5 : Int32)), .val (.int u118), .val (.int u119), .val (.int u120), .val (.int u121), .val (.int u122), .val (.int u123), .val (.int u124), .val (.int u125), .val (.ref b171), .unset, .unset] [(.int u118), (.int (0 : Int32)), (.ref b171)])) (fun _ kk_ => st171 _ (XS.astore X171.here hx rfl (hb hby at_101) rfl rfl (l' := #[.val (.int n1), .val (.long n2), .second, .val (.long n3), .second, .val (.int n4), .val (.int (5 : Int32)), .val (.int u118), .val (.int u119), .val (.int u120), .val (.int u121), .val (.int u122), .val (.int u123), .val (.int u124), .val (.int u125), .val (.ref b171), .unset, .unset]) rfl (XS.iload X171.here hx rfl (hb hby at_103) rfl (XS.ifNo X171.here hx rfl (hb hby at_105) rfl ((if0 _ _).trans (tlt (by decide)).2.2.2) (XS.aload X171.here hx rfl (hb hby at_108) rfl rfl (XS.iconst X171.here hx rfl (hb hby at_110) (XS.iload X171.here hx rfl (hb hby at_111) rfl kk_))))))) ?_
    obtain ⟨cl172, Ar172, q172, S172, Ng172, Hs172, G172⟩ := id V171
    have hin172 : ¬ ((0 : Int32) < 0 ∨ cl172.slots.size ≤ ((0 : Int32)).toNatClampNeg) := inb_of S172 ⟨by decide, by decide⟩
    obtain ⟨T173, h173, X173, e173, W173, st173⟩ := stC X171 hx hZ e171 Ar172 (j := (0 : Int32)) hin172 (g := (mkF m 113 #[.val (.int n1), .val (.long n2), .second, .val (.long n3), .second, .val (.int n4), .val (.int (5 : Int32)), .val (.int u118), .val (.int u119), .val (.int u120), .val (.int u121), .val (.int u122), .val (.int u123), .val (.int u124), .val (.int u125), .val (.ref b171), .unset, .unset] [(.int u118), (.int (0 : Int32)), (.ref b171)])) rfl rfl (hb hby at_113)
    rw [hn118] at W173
    have N173 := Fr.snoc X173 N125 n_b171
    have O173 : Old Z n0 h173 := O171.wr W173 n_b171
    have CS173 : CHr Z consts_1 s.vm h171 s.vm h173 := CHr.wr W173 (Safe.arv hZ.alike V171 (by decide)) CR171.1
    have Sf173_b171 := CHr.safe CS173 V171.lt Sf171_b171
    have CR173 := CHr.trans CR171 CS173
    have V173 : Arv Z h173 b171 k171 .char (5 : Int32) [(.int u118), (.int (0 : Int32)), (.int (0 : Int32)), (.int (0 : Int32)), (.int (0 : Int32))] (.int (0 : Int32)) := Arv.set Ar172 q172 S172 Ng172 Hs172 G172 (hn118 ▸ (fits_nar_char _)) W173 0 rfl (Nat.le_of_ble_eq_true rfl)
    refine OWH.st (B := T173.setTop (mkF m 125 #[.val (.int n1), .val (.long n2), .second, .val (.long n3), .second, .val (.int n4), .val (.int (5 : Int32)), .val (.int u118), .val (.int u119), .val (.int u120), .val (.int u121), .val (.int u122), .val (.int u123), .val (.int u124), .val (.int u125), .val (.ref b171), .unset, .unset] [(.int u119), (.int (1 : Int32)), (.ref b171)])) (fun _ kk_ => st173 _ (XS.iload X173.here hx rfl (hb hby at_114) rfl (XS.iconst X173.here hx rfl (hb hby at_116) (XS.icmpNo X173.here hx rfl (hb hby at_117) rfl (tlt (by decide)).2.2.2 (XS.aload X173.here hx rfl (hb hby at_120) rfl rfl (XS.iconst X173.here hx rfl (hb hby at_122) (XS.iload X173.here hx rfl (hb hby at_123) rfl kk_))))))) ?_
    obtain ⟨cl174, Ar174, q174, S174, Ng174, Hs174, G174⟩ := id V173
    have hin174 : ¬ ((1 : Int32) < 0 ∨ cl174.slots.size ≤ ((1 : Int32)).toNatClampNeg) := inb_of S174 ⟨by decide, by decide⟩
    obtain ⟨T175, h175, X175, e175, W175, st175⟩ := stC X173 hx hZ e173 Ar174 (j := (1 : Int32)) hin174 (g := (mkF m 125 #[.val (.int n1), .val (.long n2), .second, .val (.long n3), .second, .val (.int n4), .val (.int (5 : Int32)), .val (.int u118), .val (.int u119), .val (.int u120), .val (.int u121), .val (.int u122), .val (.int u123), .val (.int u124), .val (.int u125), .val (.ref b171), .unset, .unset] [(.int u119), (.int (1 : Int32)), (.ref b171)])) rfl rfl (hb hby at_125)
    rw [hn119] at W175
    have N175 := Fr.snoc X175 N173 n_b171
    have O175 : Old Z n0 h175 := O173.wr W175 n_b171
    have CS175 : CHr Z consts_1 s.vm h173 s.vm h175 := CHr.wr W175 (Safe.arv hZ.alike V173 (by decide)) CR173.1
    have Sf175_b171 := CHr.safe CS175 V173.lt Sf173_b171
    have CR175 := CHr.trans CR173 CS175
    have V175 : Arv Z h175 b171 k171 .char (5 : Int32) [(.int u118), (.int u119), (.int (0 : Int32)), (.int (0 : Int32)), (.int (0 : Int32))] (.int (0 : Int32)) := Arv.set Ar174 q174 S174 Ng174 Hs174 G174 (hn119 ▸ (fits_nar_char _)) W175 1 rfl (Nat.le_of_ble_eq_true rfl)
    refine OWH.st (B := T175.setTop (mkF m 137 #[.val (.int n1), .val (.long n2), .second, .val (.long n3), .second, .val (.int n4), .val (.int (5 : Int32)), .val (.int u118), .val (.int u119), .val (.int u120), .val (.int u121), .val (.int u122), .val (.int u123), .val (.int u124), .val (.int u125), .val (.ref b171), .unset, .unset] [(.int u120), (.int (2 : Int32)), (.ref b171)])) (fun _ kk_ => st175 _ (XS.iload X175.here hx rfl (hb hby at_126) rfl (XS.iconst X175.here hx rfl (hb hby at_128) (XS.icmpNo X175.here hx rfl (hb hby at_129) rfl (tlt (by decide)).2.2.2 (XS.aload X175.here hx rfl (hb hby at_132) rfl rfl (XS.iconst X175.here hx rfl (hb hby at_134) (XS.iload X175.here hx rfl (hb hby at_135) rfl kk_))))))) ?_
    obtain ⟨cl176, Ar176, q176, S176, Ng176, Hs176, G176⟩ := id V175
    have hin176 : ¬ ((2 : Int32) < 0 ∨ cl176.slots.size ≤ ((2 : Int32)).toNatClampNeg) := inb_of S176 ⟨by decide, by decide⟩
    obtain ⟨T177, h177, X177, e177, W177, st177⟩ := stC X175 hx hZ e175 Ar176 (j := (2 : Int32)) hin176 (g := (mkF m 137 #[.val (.int n1), .val (.long n2), .second, .val (.long n3), .second, .val (.int n4), .val (.int (5 : Int32)), .val (.int u118), .val (.int u119), .val (.int u120), .val (.int u121), .val (.int u122), .val (.int u123), .val (.int u124), .val (.int u125), .val (.ref b171), .unset, .unset] [(.int u120), (.int (2 : Int32)), (.ref b171)])) rfl rfl (hb hby at_137)
    rw [hn120] at W177
    have N177 := Fr.snoc X177 N175 n_b171
    have O177 : Old Z n0 h177 := O175.wr W177 n_b171
    have CS177 : CHr Z consts_1 s.vm h175 s.vm h177 := CHr.wr W177 (Safe.arv hZ.alike V175 (by decide)) CR175.1
    have Sf177_b171 := CHr.safe CS177 V175.lt Sf175_b171
    have CR177 := CHr.trans CR175 CS177
    have V177 : Arv Z h177 b171 k171 .char (5 : Int32) [(.int u118), (.int u119), (.int u120), (.int (0 : Int32)), (.int (0 : Int32))] (.int (0 : Int32)) := Arv.set Ar176 q176 S176 Ng176 Hs176 G176 (hn120 ▸ (fits_nar_char _)) W177 2 rfl (Nat.le_of_ble_eq_true rfl)
    refine OWH.st (B := T177.setTop (mkF m 149 #[.val (.int n1), .val (.long n2), .second, .val (.long n3), .second, .val (.int n4), .val (.int (5 : Int32)), .val (.int u118), .val (.int u119), .val (.int u120), .val (.int u121), .val (.int u122), .val (.int u123), .val (.int u124), .val (.int u125), .val (.ref b171), .unset, .unset] [(.int u121), (.int (3 : Int32)), (.ref b171)])) (fun _ kk_ => st177 _ (XS.iload X177.here hx rfl (hb hby at_138) rfl (XS.iconst X177.here hx rfl (hb hby at_140) (XS.icmpNo X177.here hx rfl (hb hby at_141) rfl (tlt (by decide)).2.2.2 (XS.aload X177.here hx rfl (hb hby at_144) rfl rfl (XS.iconst X177.here hx rfl (hb hby at_146) (XS.iload X177.here hx rfl (hb hby at_147) rfl kk_))))))) ?_
    obtain ⟨cl178, Ar178, q178, S178, Ng178, Hs178, G178⟩ := id V177
    have hin178 : ¬ ((3 : Int32) < 0 ∨ cl178.slots.size ≤ ((3 : Int32)).toNatClampNeg) := inb_of S178 ⟨by decide, by decide⟩
    obtain ⟨T179, h179, X179, e179, W179, st179⟩ := stC X177 hx hZ e177 Ar178 (j := (3 : Int32)) hin178 (g := (mkF m 149 #[.val (.int n1), .val (.long n2), .second, .val (.long n3), .second, .val (.int n4), .val (.int (5 : Int32)), .val (.int u118), .val (.int u119), .val (.int u120), .val (.int u121), .val (.int u122), .val (.int u123), .val (.int u124), .val (.int u125), .val (.ref b171), .unset, .unset] [(.int u121), (.int (3 : Int32)), (.ref b171)])) rfl rfl (hb hby at_149)
    rw [hn121] at W179
    have N179 := Fr.snoc X179 N177 n_b171
    have O179 : Old Z n0 h179 := O177.wr W179 n_b171
    have CS179 : CHr Z consts_1 s.vm h177 s.vm h179 := CHr.wr W179 (Safe.arv hZ.alike V177 (by decide)) CR177.1
    have Sf179_b171 := CHr.safe CS179 V177.lt Sf177_b171
    have CR179 := CHr.trans CR177 CS179
    have V179 : Arv Z h179 b171 k171 .char (5 : Int32) [(.int u118), (.int u119), (.int u120), (.int u121), (.int (0 : Int32))] (.int (0 : Int32)) := Arv.set Ar178 q178 S178 Ng178 Hs178 G178 (hn121 ▸ (fits_nar_char _)) W179 3 rfl (Nat.le_of_ble_eq_true rfl)
    refine OWH.st (B := T179.setTop (mkF m 161 #[.val (.int n1), .val (.long n2), .second, .val (.long n3), .second, .val (.int n4), .val (.int (5 : Int32)), .val (.int u118), .val (.int u119), .val (.int u120), .val (.int u121), .val (.int u122), .val (.int u123), .val (.int u124), .val (.int u125), .val (.ref b171), .unset, .unset] [(.int u122), (.int (4 : Int32)), (.ref b171)])) (fun _ kk_ => st179 _ (XS.iload X179.here hx rfl (hb hby at_150) rfl (XS.iconst X179.here hx rfl (hb hby at_152) (XS.icmpNo X179.here hx rfl (hb hby at_153) rfl (tlt (by decide)).2.2.2 (XS.aload X179.here hx rfl (hb hby at_156) rfl rfl (XS.iconst X179.here hx rfl (hb hby at_158) (XS.iload X179.here hx rfl (hb hby at_159) rfl kk_))))))) ?_
    obtain ⟨cl180, Ar180, q180, S180, Ng180, Hs180, G180⟩ := id V179
    have hin180 : ¬ ((4 : Int32) < 0 ∨ cl180.slots.size ≤ ((4 : Int32)).toNatClampNeg) := inb_of S180 ⟨by decide, by decide⟩
    obtain ⟨T181, h181, X181, e181, W181, st181⟩ := stC X179 hx hZ e179 Ar180 (j := (4 : Int32)) hin180 (g := (mkF m 161 #[.val (.int n1), .val (.long n2), .second, .val (.long n3), .second, .val (.int n4), .val (.int (5 : Int32)), .val (.int u118), .val (.int u119), .val (.int u120), .val (.int u121), .val (.int u122), .val (.int u123), .val (.int u124), .val (.int u125), .val (.ref b171), .unset, .unset] [(.int u122), (.int (4 : Int32)), (.ref b171)])) rfl rfl (hb hby at_161)
    rw [hn122] at W181
    have N181 := Fr.snoc X181 N179 n_b171
    have O181 : Old Z n0 h181 := O179.wr W181 n_b171
    have CS181 : CHr Z consts_1 s.vm h179 s.vm h181 := CHr.wr W181 (Safe.arv hZ.alike V179 (by decide)) CR179.1
    have Sf181_b171 := CHr.safe CS181 V179.lt Sf179_b171
    have CR181 := CHr.trans CR179 CS181
    have V181 : Arv Z h181 b171 k171 .char (5 : Int32) [(.int u118), (.int u119), (.int u120), (.int u121), (.int u122)] (.int (0 : Int32)) := Arv.set Ar180 q180 S180 Ng180 Hs180 G180 (hn122 ▸ (fits_nar_char _)) W181 4 rfl (Nat.le_of_ble_eq_true rfl)
    refine OWH.st (B := T181.setTop (mkF m 202 #[.val (.int n1), .val (.long n2), .second, .val (.long n3), .second, .val (.int n4), .val (.int (5 : Int32)), .val (.int u118), .val (.int u119), .val (.int u120), .val (.int u121), .val (.int u122), .val (.int u123), .val (.int u124), .val (.int u125), .val (.ref b171), .unset, .unset] [])) (fun _ kk_ => st181 _ (XS.iload X181.here hx rfl (hb hby at_162) rfl (XS.iconst X181.here hx rfl (hb hby at_164) (XS.icmpYes X181.here hx rfl (pc0 := 165) (pc' := 174) rfl (hb hby at_165) rfl (flt (by decide)).2.2.2 (by decide) (by decide) (XS.iload X181.here hx rfl (hb hby at_174) rfl (XS.bipush X181.here hx rfl (hb hby at_176) (XS.icmpYes X181.here hx rfl (pc0 := 178) (pc' := 188) rfl (hb hby at_178) rfl (flt (by decide)).2.2.2 (by decide) (by decide) (XS.iload X181.here hx rfl (hb hby at_188) rfl (XS.bipush X181.here hx rfl (hb hby at_190) (XS.icmpYes X181.here hx rfl (pc0 := 192) (pc' := 202) rfl (hb hby at_192) rfl (flt (by decide)).2.2.2 (by decide) (by decide) kk_)))))))))) ?_
    obtain ⟨T182, h182, X182, e182, E182, A182, D182, -, st182⟩ := newO X181 hx hZ hown (w_7 hw) (w_8 hw) (w_9 hw) e181 (g := (mkF m 202 #[.val (.int n1), .val (.long n2), .second, .val (.long n3), .second, .val (.int n4), .val (.int (5 : Int32)), .val (.int u118), .val (.int u119), .val (.int u120), .val (.int u121), .val (.int u122), .val (.int u123), .val (.int u124), .val (.int u125), .val (.ref b171), .unset, .unset] [])) rfl (hb hby at_202) (by decide) (by decide)
    obtain ⟨b182, g182⟩ : ∃ z, z = h181.size := ⟨_, rfl⟩
    rw [← g182] at A182 D182 st182
    have n_b182 : n0 ≤ b182 := Nat.le_trans (own_oldle O181) (Nat.le_of_eq g182.symm)
    have O182 : Old Z n0 h182 := O181.ext E182
    have CS182 : CHr Z consts_1 s.vm h181 s.vm h182 := CHr.ext E182 CR181.1
    have Sf182_b171 := CHr.safe CS182 V181.lt Sf181_b171
    have CR182 := CHr.trans CR181 CS182
    have Sf182_b182 : Safe Z consts_1 s.vm h182 b182 := Safe.ext E182 CR181.1 (Safe.new (Nat.le_of_eq g182.symm))
    have F182_22 : Fld Z h182 b182 "java/lang/String" "value" "[B" .null := D182 (Or.inr (w_22 hw)) (ty := (.array .byte)) (by decide)
    have F182_23 : Fld Z h182 b182 "java/lang/String" "coder" "B" (.int (0 : Int32)) := D182 (Or.inr (w_23 hw)) (ty := .byte) (by decide)
    refine OWH.st (B := T182.setTop (mkF m 208 #[.val (.int n1), .val (.long n2), .second, .val (.long n3), .second, .val (.int n4), .val (.int (5 : Int32)), .val (.int u118), .val (.int u119), .val (.int u120), .val (.int u121), .val (.int u122), .val (.int u123), .val (.int u124), .val (.int u125), .val (.ref b171), .unset, .unset] [(.ref b171), (.ref b182), (.ref b182)])) (fun _ kk_ => st182 _ (XS.dup X182.here hx rfl (hb hby at_205) rfl rfl (XS.aload X182.here hx rfl (hb hby at_206) rfl rfl kk_))) ?_
    obtain ⟨_, _, ⟨T183, L183, k183, n183⟩, -, X183, ⟨Lc183, hQ183, l183, y183, z183⟩, st183⟩ := X182.specialBack hx (y := (⟨"java/lang/String", "<init>", "([C)V"⟩ : MethodName)) rfl hown (mvT hZ (w_10 hw)) (mvT hZ (w_11 hw)) (mvT hZ (w_12 hw)) (by decide) (backOf (W := 1) (rmS0X l Z a0 hw [] b182 b171 k171 (5 : Int32) [u118, u119, u120, u121, u122] i_COMPACT_STRINGS v_SIOOBE_FORMATTER h182 n0 O182 A182 F182_22 F182_23 n_b182 (V181.ext E182) rfl (Nat.le_of_ble_eq_true rfl) (Nat.zero_lt_succ _) (OwnChs.cons hn118 (OwnChs.cons hn119 (OwnChs.cons hn120 (OwnChs.cons hn121 (OwnChs.cons hn122 OwnChs.nil))))) hS) hZ (w_12 hw) (w_9 hw) (by decide) (by decide)) (g := (mkF m 208 #[.val (.int n1), .val (.long n2), .second, .val (.long n3), .second, .val (.int n4), .val (.int (5 : Int32)), .val (.int u118), .val (.int u119), .val (.int u120), .val (.int u121), .val (.int u122), .val (.int u123), .val (.int u124), .val (.int u125), .val (.ref b171), .unset, .unset] [(.ref b171), (.ref b182), (.ref b182)])) rfl (by rw [hml]; rfl) (Steps.refl _) (a := b182) (argsL := [(.ref b171)]) (rest := [(.ref b182)]) (lenOf pd_21 rfl) rfl (by show 2 * 0 + _ ≤ _; exact Nat.le_of_eq rfl) (hb hby at_208) (fun _ _ => ⟨rfl, e182, (by decide : 2 + 2 ≤ _), (by decide : 9 + 30 ≤ _)⟩)
    dsimp only [Pt.U, Pt.locs, Pt.cells, Pt.slots] at X183 l183 y183 z183 st183 hQ183
    subst l183 y183 z183
    obtain ⟨rfl, Nq183, K183, HO183⟩ := hQ183
    have N183 := Fr.app N181 Nq183
    have O183 : Old Z n0 T183.heap := O182.keep K183 (allS n_b182 all0)
    have CS183 : CHr Z consts_1 s.vm h182 s.vm T183.heap := CHr.keep K183 (allS Sf182_b182 all0) CR182.1
    have Sf183_b171 := CHr.safe CS183 (V181.ext E182).lt Sf182_b171
    have Sf183_b182 := CHr.safe CS183 A182.lt Sf182_b182
    have CR183 := CHr.trans CR182 CS183
    refine OWH.tr (B := T183.setTop (mkF m 211 #[.val (.int n1), .val (.long n2), .second, .val (.long n3), .second, .val (.int n4), .val (.int (5 : Int32)), .val (.int u118), .val (.int u119), .val (.int u120), .val (.int u121), .val (.int u122), .val (.int u123), .val (.int u124), .val (.int u125), .val (.ref b171), .unset, .unset] [(.ref b182)])) (st183) ?_
    refine OWH.st (B := T183.setTop (mkF m 213 #[.val (.int n1), .val (.long n2), .second, .val (.long n3), .second, .val (.int n4), .val (.int (5 : Int32)), .val (.int u118), .val (.int u119), .val (.int u120), .val (.int u121), .val (.int u122), .val (.int u123), .val (.int u124), .val (.int u125), .val (.ref b171), .val (.ref b182), .unset] [])) (fun _ kk_ => XS.astore X183.here hx rfl (hb hby at_211) rfl rfl (l' := #[.val (.int n1), .val (.long n2), .second, .val (.long n3), .second, .val (.int n4), .val (.int (5 : Int32)), .val (.int u118), .val (.int u119), .val (.int u120), .val (.int u121), .val (.int u122), .val (.int u123), .val (.int u124), .val (.int u125), .val (.ref b171), .val (.ref b182), .unset]) rfl kk_) ?_
    exact J126 _ _ _ s.vm _ (X183.more (by decide) (by decide)) N183 rfl O183 hS0 (Nat.le_trans (Nat.le_trans (Nat.le_trans (Nat.le_trans (Nat.le_trans (Nat.le_trans (Nat.le_trans (Nat.le_trans hk0 E171.1) (Keep.of_wr W173).1) (Keep.of_wr W175).1) (Keep.of_wr W177).1) (Keep.of_wr W179).1) (Keep.of_wr W181).1) E182.1) K183.1) hZ hown CR183 _ _ [u118, u119, u120, u121, u122] HO183 (Nat.le_of_ble_eq_true rfl) (OwnChs.cons hn118 (OwnChs.cons hn119 (OwnChs.cons hn120 (OwnChs.cons hn121 (OwnChs.cons hn122 OwnChs.nil))))) (by rw [own_dt1 u118 (show ((0 : Int32) < (5 : Int32)) by decide), own_dt1 u119 (show ((1 : Int32) < (5 : Int32)) by decide), own_dt1 u120 (show ((2 : Int32) < (5 : Int32)) by decide), own_dt1 u121 (show ((3 : Int32) < (5 : Int32)) by decide), own_dt1 u122 (show ((4 : Int32) < (5 : Int32)) by decide), own_dt0 u123 (show ¬ ((5 : Int32) < (5 : Int32)) by decide), own_dt0 u124 (show ¬ ((6 : Int32) < (5 : Int32)) by decide), own_dt0 u125 (show ¬ ((7 : Int32) < (5 : Int32)) by decide)]; simp only [own_cnt, Int32.add_assoc, Int32.add_zero, Int32.zero_add])
  · refine OWH.st (B := T125.setTop (mkF m 99 #[.val (.int n1), .val (.long n2), .second, .val (.long n3), .second, .val (.int n4), .val (.int (6 : Int32)), .val (.int u118), .val (.int u119), .val (.int u120), .val (.int u121), .val (.int u122), .val (.int u123), .val (.int u124), .val (.int u125), .unset, .unset, .unset] [(.int (6 : Int32))])) (fun _ kk_ => XS.iload X125.here hx rfl (hb hby at_97) rfl kk_) ?_
    obtain ⟨T184, h184, k184, X184, e184, E184, A184, st184⟩ := newP (aty := .char) X125 hx hZ (w_6 hw) e125 (g := (mkF m 99 #[.val (.int n1), .val (.long n2), .second, .val (.long n3), .second, .val (.int n4), .val (.int (6 : Int32)), .val (.int u118), .val (.int u119), .val (.int u120), .val (.int u121), .val (.int u122), .val (.int u123), .val (.int u124), .val (.int u125), .unset, .unset, .unset] [(.int (6 : Int32))])) rfl (hb hby at_99) rfl (by decide) (cap := 6) (by decide +kernel) (by decide +kernel) (by decide +kernel) (by decide +kernel)
    obtain ⟨b184, g184⟩ : ∃ z, z = h0.size := ⟨_, rfl⟩
    rw [← g184] at A184 st184
    have n_b184 : n0 ≤ b184 := Nat.le_trans (own_oldle O0) (Nat.le_of_eq g184.symm)
    have O184 : Old Z n0 h184 := O0.ext E184
    have CS184 : CHr Z consts_1 s.vm h0 s.vm h184 := CHr.ext E184 CR0.1
    have CR184 := CHr.trans CR0 CS184
    have Sf184_b184 : Safe Z consts_1 s.vm h184 b184 := Safe.ext E184 CR0.1 (Safe.new (Nat.le_of_eq g184.symm))
    have V184 : Arv Z h184 b184 k184 .char (6 : Int32) [(.int (0 : Int32)), (.int (0 : Int32)), (.int (0 : Int32)), (.int (0 : Int32)), (.int (0 : Int32)), (.int (0 : Int32))] (.int (0 : Int32)) := (Arv.new A184 (by decide)).pad (pad_rep [] (.int (0 : Int32)) 6)
    refine OWH.st (B := T184.setTop (mkF m 113 #[.val (.int n1), .val (.long n2), .second, .val (.long n3), .second, .val (.int n4), .val (.int (6 : Int32)), .val (.int u118), .val (.int u119), .val (.int u120), .val (.int u121), .val (.int u122), .val (.int u123), .val (.int u124), .val (.int u125), .val (.ref b184), .unset, .unset] [(.int u118), (.int (0 : Int32)), (.ref b184)])) (fun _ kk_ => st184 _ (XS.astore X184.here hx rfl (hb hby at_101) rfl rfl (l' := #[.val (.int n1), .val (.long n2), .second, .val (.long n3), .second, .val (.int n4), .val (.int (6 : Int32)), .val (.int u118), .val (.int u119), .val (.int u120), .val (.int u121), .val (.int u122), .val (.int u123), .val (.int u124), .val (.int u125), .val (.ref b184), .unset, .unset]) rfl (XS.iload X184.here hx rfl (hb hby at_103) rfl (XS.ifNo X184.here hx rfl (hb hby at_105) rfl ((if0 _ _).trans (tlt (by decide)).2.2.2) (XS.aload X184.here hx rfl (hb hby at_108) rfl rfl (XS.iconst X184.here hx rfl (hb hby at_110) (XS.iload X184.here hx rfl (hb hby at_111) rfl kk_))))))) ?_
    obtain ⟨cl185, Ar185, q185, S185, Ng185, Hs185, G185⟩ := id V184
    have hin185 : ¬ ((0 : Int32) < 0 ∨ cl185.slots.size ≤ ((0 : Int32)).toNatClampNeg) := inb_of S185 ⟨by decide, by decide⟩
    obtain ⟨T186, h186, X186, e186, W186, st186⟩ := stC X184 hx hZ e184 Ar185 (j := (0 : Int32)) hin185 (g := (mkF m 113 #[.val (.int n1), .val (.long n2), .second, .val (.long n3), .second, .val (.int n4), .val (.int (6 : Int32)), .val (.int u118), .val (.int u119), .val (.int u120), .val (.int u121), .val (.int u122), .val (.int u123), .val (.int u124), .val (.int u125), .val (.ref b184), .unset, .unset] [(.int u118), (.int (0 : Int32)), (.ref b184)])) rfl rfl (hb hby at_113)
    rw [hn118] at W186
    have N186 := Fr.snoc X186 N125 n_b184
    have O186 : Old Z n0 h186 := O184.wr W186 n_b184
    have CS186 : CHr Z consts_1 s.vm h184 s.vm h186 := CHr.wr W186 (Safe.arv hZ.alike V184 (by decide)) CR184.1
    have Sf186_b184 := CHr.safe CS186 V184.lt Sf184_b184
    have CR186 := CHr.trans CR184 CS186
    have V186 : Arv Z h186 b184 k184 .char (6 : Int32) [(.int u118), (.int (0 : Int32)), (.int (0 : Int32)), (.int (0 : Int32)), (.int (0 : Int32)), (.int (0 : Int32))] (.int (0 : Int32)) := Arv.set Ar185 q185 S185 Ng185 Hs185 G185 (hn118 ▸ (fits_nar_char _)) W186 0 rfl (Nat.le_of_ble_eq_true rfl)
    refine OWH.st (B := T186.setTop (mkF m 125 #[.val (.int n1), .val (.long n2), .second, .val (.long n3), .second, .val (.int n4), .val (.int (6 : Int32)), .val (.int u118), .val (.int u119), .val (.int u120), .val (.int u121), .val (.int u122), .val (.int u123), .val (.int u124), .val (.int u125), .val (.ref b184), .unset, .unset] [(.int u119), (.int (1 : Int32)), (.ref b184)])) (fun _ kk_ => st186 _ (XS.iload X186.here hx rfl (hb hby at_114) rfl (XS.iconst X186.here hx rfl (hb hby at_116) (XS.icmpNo X186.here hx rfl (hb hby at_117) rfl (tlt (by decide)).2.2.2 (XS.aload X186.here hx rfl (hb hby at_120) rfl rfl (XS.iconst X186.here hx rfl (hb hby at_122) (XS.iload X186.here hx rfl (hb hby at_123) rfl kk_))))))) ?_
    obtain ⟨cl187, Ar187, q187, S187, Ng187, Hs187, G187⟩ := id V186
    have hin187 : ¬ ((1 : Int32) < 0 ∨ cl187.slots.size ≤ ((1 : Int32)).toNatClampNeg) := inb_of S187 ⟨by decide, by decide⟩
    obtain ⟨T188, h188, X188, e188, W188, st188⟩ := stC X186 hx hZ e186 Ar187 (j := (1 : Int32)) hin187 (g := (mkF m 125 #[.val (.int n1), .val (.long n2), .second, .val (.long n3), .second, .val (.int n4), .val (.int (6 : Int32)), .val (.int u118), .val (.int u119), .val (.int u120), .val (.int u121), .val (.int u122), .val (.int u123), .val (.int u124), .val (.int u125), .val (.ref b184), .unset, .unset] [(.int u119), (.int (1 : Int32)), (.ref b184)])) rfl rfl (hb hby at_125)
    rw [hn119] at W188
    have N188 := Fr.snoc X188 N186 n_b184
    have O188 : Old Z n0 h188 := O186.wr W188 n_b184
    have CS188 : CHr Z consts_1 s.vm h186 s.vm h188 := CHr.wr W188 (Safe.arv hZ.alike V186 (by decide)) CR186.1
    have Sf188_b184 := CHr.safe CS188 V186.lt Sf186_b184
    have CR188 := CHr.trans CR186 CS188
    have V188 : Arv Z h188 b184 k184 .char (6 : Int32) [(.int u118), (.int u119), (.int (0 : Int32)), (.int (0 : Int32)), (.int (0 : Int32)), (.int (0 : Int32))] (.int (0 : Int32)) := Arv.set Ar187 q187 S187 Ng187 Hs187 G187 (hn119 ▸ (fits_nar_char _)) W188 1 rfl (Nat.le_of_ble_eq_true rfl)
    refine OWH.st (B := T188.setTop (mkF m 137 #[.val (.int n1), .val (.long n2), .second, .val (.long n3), .second, .val (.int n4), .val (.int (6 : Int32)), .val (.int u118), .val (.int u119), .val (.int u120), .val (.int u121), .val (.int u122), .val (.int u123), .val (.int u124), .val (.int u125), .val (.ref b184), .unset, .unset] [(.int u120), (.int (2 : Int32)), (.ref b184)])) (fun _ kk_ => st188 _ (XS.iload X188.here hx rfl (hb hby at_126) rfl (XS.iconst X188.here hx rfl (hb hby at_128) (XS.icmpNo X188.here hx rfl (hb hby at_129) rfl (tlt (by decide)).2.2.2 (XS.aload X188.here hx rfl (hb hby at_132) rfl rfl (XS.iconst X188.here hx rfl (hb hby at_134) (XS.iload X188.here hx rfl (hb hby at_135) rfl kk_))))))) ?_
    obtain ⟨cl189, Ar189, q189, S189, Ng189, Hs189, G189⟩ := id V188
    have hin189 : ¬ ((2 : Int32) < 0 ∨ cl189.slots.size ≤ ((2 : Int32)).toNatClampNeg) := inb_of S189 ⟨by decide, by decide⟩
    obtain ⟨T190, h190, X190, e190, W190, st190⟩ := stC X188 hx hZ e188 Ar189 (j := (2 : Int32)) hin189 (g := (mkF m 137 #[.val (.int n1), .val (.long n2), .second, .val (.long n3), .second, .val (.int n4), .val (.int (6 : Int32)), .val (.int u118), .val (.int u119), .val (.int u120), .val (.int u121), .val (.int u122), .val (.int u123), .val (.int u124), .val (.int u125), .val (.ref b184), .unset, .unset] [(.int u120), (.int (2 : Int32)), (.ref b184)])) rfl rfl (hb hby at_137)
    rw [hn120] at W190
    have N190 := Fr.snoc X190 N188 n_b184
    have O190 : Old Z n0 h190 := O188.wr W190 n_b184
    have CS190 : CHr Z consts_1 s.vm h188 s.vm h190 := CHr.wr W190 (Safe.arv hZ.alike V188 (by decide)) CR188.1
    have Sf190_b184 := CHr.safe CS190 V188.lt Sf188_b184
    have CR190 := CHr.trans CR188 CS190
    have V190 : Arv Z h190 b184 k184 .char (6 : Int32) [(.int u118), (.int u119), (.int u120), (.int (0 : Int32)), (.int (0 : Int32)), (.int (0 : Int32))] (.int (0 : Int32)) := Arv.set Ar189 q189 S189 Ng189 Hs189 G189 (hn120 ▸ (fits_nar_char _)) W190 2 rfl (Nat.le_of_ble_eq_true rfl)
    refine OWH.st (B := T190.setTop (mkF m 149 #[.val (.int n1), .val (.long n2), .second, .val (.long n3), .second, .val (.int n4), .val (.int (6 : Int32)), .val (.int u118), .val (.int u119), .val (.int u120), .val (.int u121), .val (.int u122), .val (.int u123), .val (.int u124), .val (.int u125), .val (.ref b184), .unset, .unset] [(.int u121), (.int (3 : Int32)), (.ref b184)])) (fun _ kk_ => st190 _ (XS.iload X190.here hx rfl (hb hby at_138) rfl (XS.iconst X190.here hx rfl (hb hby at_140) (XS.icmpNo X190.here hx rfl (hb hby at_141) rfl (tlt (by decide)).2.2.2 (XS.aload X190.here hx rfl (hb hby at_144) rfl rfl (XS.iconst X190.here hx rfl (hb hby at_146) (XS.iload X190.here hx rfl (hb hby at_147) rfl kk_))))))) ?_
    obtain ⟨cl191, Ar191, q191, S191, Ng191, Hs191, G191⟩ := id V190
    have hin191 : ¬ ((3 : Int32) < 0 ∨ cl191.slots.size ≤ ((3 : Int32)).toNatClampNeg) := inb_of S191 ⟨by decide, by decide⟩
    obtain ⟨T192, h192, X192, e192, W192, st192⟩ := stC X190 hx hZ e190 Ar191 (j := (3 : Int32)) hin191 (g := (mkF m 149 #[.val (.int n1), .val (.long n2), .second, .val (.long n3), .second, .val (.int n4), .val (.int (6 : Int32)), .val (.int u118), .val (.int u119), .val (.int u120), .val (.int u121), .val (.int u122), .val (.int u123), .val (.int u124), .val (.int u125), .val (.ref b184), .unset, .unset] [(.int u121), (.int (3 : Int32)), (.ref b184)])) rfl rfl (hb hby at_149)
    rw [hn121] at W192
    have N192 := Fr.snoc X192 N190 n_b184
    have O192 : Old Z n0 h192 := O190.wr W192 n_b184
    have CS192 : CHr Z consts_1 s.vm h190 s.vm h192 := CHr.wr W192 (Safe.arv hZ.alike V190 (by decide)) CR190.1
    have Sf192_b184 := CHr.safe CS192 V190.lt Sf190_b184
    have CR192 := CHr.trans CR190 CS192
    have V192 : Arv Z h192 b184 k184 .char (6 : Int32) [(.int u118), (.int u119), (.int u120), (.int u121), (.int (0 : Int32)), (.int (0 : Int32))] (.int (0 : Int32)) := Arv.set Ar191 q191 S191 Ng191 Hs191 G191 (hn121 ▸ (fits_nar_char _)) W192 3 rfl (Nat.le_of_ble_eq_true rfl)
    refine OWH.st (B := T192.setTop (mkF m 161 #[.val (.int n1), .val (.long n2), .second, .val (.long n3), .second, .val (.int n4), .val (.int (6 : Int32)), .val (.int u118), .val (.int u119), .val (.int u120), .val (.int u121), .val (.int u122), .val (.int u123), .val (.int u124), .val (.int u125), .val (.ref b184), .unset, .unset] [(.int u122), (.int (4 : Int32)), (.ref b184)])) (fun _ kk_ => st192 _ (XS.iload X192.here hx rfl (hb hby at_150) rfl (XS.iconst X192.here hx rfl (hb hby at_152) (XS.icmpNo X192.here hx rfl (hb hby at_153) rfl (tlt (by decide)).2.2.2 (XS.aload X192.here hx rfl (hb hby at_156) rfl rfl (XS.iconst X192.here hx rfl (hb hby at_158) (XS.iload X192.here hx rfl (hb hby at_159) rfl kk_))))))) ?_
    obtain ⟨cl193, Ar193, q193, S193, Ng193, Hs193, G193⟩ := id V192
    have hin193 : ¬ ((4 : Int32) < 0 ∨ cl193.slots.size ≤ ((4 : Int32)).toNatClampNeg) := inb_of S193 ⟨by decide, by decide⟩
    obtain ⟨T194, h194, X194, e194, W194, st194⟩ := stC X192 hx hZ e192 Ar193 (j := (4 : Int32)) hin193 (g := (mkF m 161 #[.val (.int n1), .val (.long n2), .second, .val (.long n3), .second, .val (.int n4), .val (.int (6 : Int32)), .val (.int u118), .val (.int u119), .val (.int u120), .val (.int u121), .val (.int u122), .val (.int u123), .val (.int u124), .val (.int u125), .val (.ref b184), .unset, .unset] [(.int u122), (.int (4 : Int32)), (.ref b184)])) rfl rfl (hb hby at_161)
    rw [hn122] at W194
    have N194 := Fr.snoc X194 N192 n_b184
    have O194 : Old Z n0 h194 := O192.wr W194 n_b184
    have CS194 : CHr Z consts_1 s.vm h192 s.vm h194 := CHr.wr W194 (Safe.arv hZ.alike V192 (by decide)) CR192.1
    have Sf194_b184 := CHr.safe CS194 V192.lt Sf192_b184
    have CR194 := CHr.trans CR192 CS194
    have V194 : Arv Z h194 b184 k184 .char (6 : Int32) [(.int u118), (.int u119), (.int u120), (.int u121), (.int u122), (.int (0 : Int32))] (.int (0 : Int32)) := Arv.set Ar193 q193 S193 Ng193 Hs193 G193 (hn122 ▸ (fits_nar_char _)) W194 4 rfl (Nat.le_of_ble_eq_true rfl)
    refine OWH.st (B := T194.setTop (mkF m 173 #[.val (.int n1), .val (.long n2), .second, .val (.long n3), .second, .val (.int n4), .val (.int (6 : Int32)), .val (.int u118), .val (.int u119), .val (.int u120), .val (.int u121), .val (.int u122), .val (.int u123), .val (.int u124), .val (.int u125), .val (.ref b184), .unset, .unset] [(.int u123), (.int (5 : Int32)), (.ref b184)])) (fun _ kk_ => st194 _ (XS.iload X194.here hx rfl (hb hby at_162) rfl (XS.iconst X194.here hx rfl (hb hby at_164) (XS.icmpNo X194.here hx rfl (hb hby at_165) rfl (tlt (by decide)).2.2.2 (XS.aload X194.here hx rfl (hb hby at_168) rfl rfl (XS.iconst X194.here hx rfl (hb hby at_170) (XS.iload X194.here hx rfl (hb hby at_171) rfl kk_))))))) ?_
    obtain ⟨cl195, Ar195, q195, S195, Ng195, Hs195, G195⟩ := id V194
    have hin195 : ¬ ((5 : Int32) < 0 ∨ cl195.slots.size ≤ ((5 : Int32)).toNatClampNeg) := inb_of S195 ⟨by decide, by decide⟩
    obtain ⟨T196, h196, X196, e196, W196, st196⟩ := stC X194 hx hZ e194 Ar195 (j := (5 : Int32)) hin195 (g := (mkF m 173 #[.val (.int n1), .val (.long n2), .second, .val (.long n3), .second, .val (.int n4), .val (.int (6 : Int32)), .val (.int u118), .val (.int u119), .val (.int u120), .val (.int u121), .val (.int u122), .val (.int u123), .val (.int u124), .val (.int u125), .val (.ref b184), .unset, .unset] [(.int u123), (.int (5 : Int32)), (.ref b184)])) rfl rfl (hb hby at_173)
    rw [hn123] at W196
    have N196 := Fr.snoc X196 N194 n_b184
    have O196 : Old Z n0 h196 := O194.wr W196 n_b184
    have CS196 : CHr Z consts_1 s.vm h194 s.vm h196 := CHr.wr W196 (Safe.arv hZ.alike V194 (by decide)) CR194.1
    have Sf196_b184 := CHr.safe CS196 V194.lt Sf194_b184
    have CR196 := CHr.trans CR194 CS196
    have V196 : Arv Z h196 b184 k184 .char (6 : Int32) [(.int u118), (.int u119), (.int u120), (.int u121), (.int u122), (.int u123)] (.int (0 : Int32)) := Arv.set Ar195 q195 S195 Ng195 Hs195 G195 (hn123 ▸ (fits_nar_char _)) W196 5 rfl (Nat.le_of_ble_eq_true rfl)
    refine OWH.st (B := T196.setTop (mkF m 202 #[.val (.int n1), .val (.long n2), .second, .val (.long n3), .second, .val (.int n4), .val (.int (6 : Int32)), .val (.int u118), .val (.int u119), .val (.int u120), .val (.int u121), .val (.int u122), .val (.int u123), .val (.int u124), .val (.int u125), .val (.ref b184), .unset, .unset] [])) (fun _ kk_ => st196 _ (XS.iload X196.here hx rfl (hb hby at_174) rfl (XS.bipush X196.here hx rfl (hb hby at_176) (XS.icmpYes X196.here hx rfl (pc0 := 178) (pc' := 188) rfl (hb hby at_178) rfl (flt (by decide)).2.2.2 (by decide) (by decide) (XS.iload X196.here hx rfl (hb hby at_188) rfl (XS.bipush X196.here hx rfl (hb hby at_190) (XS.icmpYes X196.here hx rfl (pc0 := 192) (pc' := 202) rfl (hb hby at_192) rfl (flt (by decide)).2.2.2 (by decide) (by decide) kk_))))))) ?_
    obtain ⟨T197, h197, X197, e197, E197, A197, D197, -, st197⟩ := newO X196 hx hZ hown (w_7 hw) (w_8 hw) (w_9 hw) e196 (g := (mkF m 202 #[.val (.int n1), .val (.long n2), .second, .val (.long n3), .second, .val (.int n4), .val (.int (6 : Int32)), .val (.int u118), .val (.int u119), .val (.int u120), .val (.int u121), .val (.int u122), .val (.int u123), .val (.int u124), .val (.int u125), .val (.ref b184), .unset, .unset] [])) rfl (hb hby at_202) (by decide) (by decide)
    obtain ⟨b197, g197⟩ : ∃ z, z = h196.size := ⟨_, rfl⟩
    rw [← g197] at A197 D197 st197
    have n_b197 : n0 ≤ b197 := Nat.le_trans (own_oldle O196) (Nat.le_of_eq g197.symm)
    have O197 : Old Z n0 h197 := O196.ext E197
    have CS197 : CHr Z consts_1 s.vm h196 s.vm h197 := CHr.ext E197 CR196.1
    have Sf197_b184 := CHr.safe CS197 V196.lt Sf196_b184
    have CR197 := CHr.trans CR196 CS197
    have Sf197_b197 : Safe Z consts_1 s.vm h197 b197 := Safe.ext E197 CR196.1 (Safe.new (Nat.le_of_eq g197.symm))
    have F197_22 : Fld Z h197 b197 "java/lang/String" "value" "[B" .null := D197 (Or.inr (w_22 hw)) (ty := (.array .byte)) (by decide)
    have F197_23 : Fld Z h197 b197 "java/lang/String" "coder" "B" (.int (0 : Int32)) := D197 (Or.inr (w_23 hw)) (ty := .byte) (by decide)
    refine OWH.st (B := T197.setTop (mkF m 208 #[.val (.int n1), .val (.long n2), .second, .val (.long n3), .second, .val (.int n4), .val (.int (6 : Int32)), .val (.int u118), .val (.int u119), .val (.int u120), .val (.int u121), .val (.int u122), .val (.int u123), .val (.int u124), .val (.int u125), .val (.ref b184), .unset, .unset] [(.ref b184), (.ref b197), (.ref b197)])) (fun _ kk_ => st197 _ (XS.dup X197.here hx rfl (hb hby at_205) rfl rfl (XS.aload X197.here hx rfl (hb hby at_206) rfl rfl kk_))) ?_
    obtain ⟨_, _, ⟨T198, L198, k198, n198⟩, -, X198, ⟨Lc198, hQ198, l198, y198, z198⟩, st198⟩ := X197.specialBack hx (y := (⟨"java/lang/String", "<init>", "([C)V"⟩ : MethodName)) rfl hown (mvT hZ (w_10 hw)) (mvT hZ (w_11 hw)) (mvT hZ (w_12 hw)) (by decide) (backOf (W := 1) (rmS0X l Z a0 hw [] b197 b184 k184 (6 : Int32) [u118, u119, u120, u121, u122, u123] i_COMPACT_STRINGS v_SIOOBE_FORMATTER h197 n0 O197 A197 F197_22 F197_23 n_b197 (V196.ext E197) rfl (Nat.le_of_ble_eq_true rfl) (Nat.zero_lt_succ _) (OwnChs.cons hn118 (OwnChs.cons hn119 (OwnChs.cons hn120 (OwnChs.cons hn121 (OwnChs.cons hn122 (OwnChs.cons hn123 OwnChs.nil)))))) hS) hZ (w_12 hw) (w_9 hw) (by decide) (by decide)) (g := (mkF m 208 #[.val (.int n1), .val (.long n2), .second, .val (.long n3), .second, .val (.int n4), .val (.int (6 : Int32)), .val (.int u118), .val (.int u119), .val (.int u120), .val (.int u121), .val (.int u122), .val (.int u123), .val (.int u124), .val (.int u125), .val (.ref b184), .unset, .unset] [(.ref b184), (.ref b197), (.ref b197)])) rfl (by rw [hml]; rfl) (Steps.refl _) (a := b197) (argsL := [(.ref b184)]) (rest := [(.ref b197)]) (lenOf pd_21 rfl) rfl (by show 2 * 0 + _ ≤ _; exact Nat.le_of_eq rfl) (hb hby at_208) (fun _ _ => ⟨rfl, e197, (by decide : 2 + 2 ≤ _), (by decide : 10 + 30 ≤ _)⟩)
    dsimp only [Pt.U, Pt.locs, Pt.cells, Pt.slots] at X198 l198 y198 z198 st198 hQ198
    subst l198 y198 z198
    obtain ⟨rfl, Nq198, K198, HO198⟩ := hQ198
    have N198 := Fr.app N196 Nq198
    have O198 : Old Z n0 T198.heap := O197.keep K198 (allS n_b197 all0)
    have CS198 : CHr Z consts_1 s.vm h197 s.vm T198.heap := CHr.keep K198 (allS Sf197_b197 all0) CR197.1
    have Sf198_b184 := CHr.safe CS198 (V196.ext E197).lt Sf197_b184
    have Sf198_b197 := CHr.safe CS198 A197.lt Sf197_b197
    have CR198 := CHr.trans CR197 CS198
    refine OWH.tr (B := T198.setTop (mkF m 211 #[.val (.int n1), .val (.long n2), .second, .val (.long n3), .second, .val (.int n4), .val (.int (6 : Int32)), .val (.int u118), .val (.int u119), .val (.int u120), .val (.int u121), .val (.int u122), .val (.int u123), .val (.int u124), .val (.int u125), .val (.ref b184), .unset, .unset] [(.ref b197)])) (st198) ?_
    refine OWH.st (B := T198.setTop (mkF m 213 #[.val (.int n1), .val (.long n2), .second, .val (.long n3), .second, .val (.int n4), .val (.int (6 : Int32)), .val (.int u118), .val (.int u119), .val (.int u120), .val (.int u121), .val (.int u122), .val (.int u123), .val (.int u124), .val (.int u125), .val (.ref b184), .val (.ref b197), .unset] [])) (fun _ kk_ => XS.astore X198.here hx rfl (hb hby at_211) rfl rfl (l' := #[.val (.int n1), .val (.long n2), .second, .val (.long n3), .second, .val (.int n4), .val (.int (6 : Int32)), .val (.int u118), .val (.int u119), .val (.int u120), .val (.int u121), .val (.int u122), .val (.int u123), .val (.int u124), .val (.int u125), .val (.ref b184), .val (.ref b197), .unset]) rfl kk_) ?_
    exact J126 _ _ _ s.vm _ (X198.more (by decide) (by decide)) N198 rfl O198 hS0 (Nat.le_trans (Nat.le_trans (Nat.le_trans (Nat.le_trans (Nat.le_trans (Nat.le_trans (Nat.le_trans (Nat.le_trans (Nat.le_trans hk0 E184.1) (Keep.of_wr W186).1) (Keep.of_wr W188).1) (Keep.of_wr W190).1) (Keep.of_wr W192).1) (Keep.of_wr W194).1) (Keep.of_wr W196).1) E197.1) K198.1) hZ hown CR198 _ _ [u118, u119, u120, u121, u122, u123] HO198 (Nat.le_of_ble_eq_true rfl) (OwnChs.cons hn118 (OwnChs.cons hn119 (OwnChs.cons hn120 (OwnChs.cons hn121 (OwnChs.cons hn122 (OwnChs.cons hn123 OwnChs.nil)))))) (by rw [own_dt1 u118 (show ((0 : Int32) < (6 : Int32)) by decide), own_dt1 u119 (show ((1 : Int32) < (6 : Int32)) by decide), own_dt1 u120 (show ((2 : Int32) < (6 : Int32)) by decide), own_dt1 u121 (show ((3 : Int32) < (6 : Int32)) by decide), own_dt1 u122 (show ((4 : Int32) < (6 : Int32)) by decide), own_dt1 u123 (show ((5 : Int32) < (6 : Int32)) by decide), own_dt0 u124 (show ¬ ((6 : Int32) < (6 : Int32)) by decide), own_dt0 u125 (show ¬ ((7 : Int32) < (6 : Int32)) by decide)]; simp only [own_cnt, Int32.add_assoc, Int32.add_zero, Int32.zero_add])
  · refine OWH.st (B := T125.setTop (mkF m 99 #[.val (.int n1), .val (.long n2), .second, .val (.long n3), .second, .val (.int n4), .val (.int (7 : Int32)), .val (.int u118), .val (.int u119), .val (.int u120), .val (.int u121), .val (.int u122), .val (.int u123), .val (.int u124), .val (.int u125), .unset, .unset, .unset] [(.int (7 : Int32))])) (fun _ kk_ => XS.iload X125.here hx rfl (hb hby at_97) rfl kk_) ?_
    obtain ⟨T199, h199, k199, X199, e199, E199, A199, st199⟩ := newP (aty := .char) X125 hx hZ (w_6 hw) e125 (g := (mkF m 99 #[.val (.int n1), .val (.long n2), .second, .val (.long n3), .second, .val (.int n4), .val (.int (7 : Int32)), .val (.int u118), .val (.int u119), .val (.int u120), .val (.int u121), .val (.int u122), .val (.int u123), .val (.int u124), .val (.int u125), .unset, .unset, .unset] [(.int (7 : Int32))])) rfl (hb hby at_99) rfl (by decide) (cap := 7) (by decide +kernel) (by decide +kernel) (by decide +kernel) (by decide +kernel)
    obtain ⟨b199, g199⟩ : ∃ z, z = h0.size := ⟨_, rfl⟩
    rw [← g199] at A199 st199
    have n_b199 : n0 ≤ b199 := Nat.le_trans (own_oldle O0) (Nat.le_of_eq g199.symm)
    have O199 : Old Z n0 h199 := O0.ext E199
    have CS199 : CHr Z consts_1 s.vm h0 s.vm h199 := CHr.ext E199 CR0.1
    have CR199 := CHr.trans CR0 CS199
    have Sf199_b199 : Safe Z consts_1 s.vm h199 b199 := Safe.ext E199 CR0.1 (Safe.new (Nat.le_of_eq g199.symm))
    have V199 : Arv Z h199 b199 k199 .char (7 : Int32) [(.int (0 : Int32)), (.int (0 : Int32)), (.int (0 : Int32)), (.int (0 : Int32)), (.int (0 : Int32)), (.int (0 : Int32)), (.int (0 : Int32))] (.int (0 : Int32)) := (Arv.new A199 (by decide)).pad (pad_rep [] (.int (0 : Int32)) 7)
    refine OWH.st (B := T199.setTop (mkF m 113 #[.val (.int n1), .val (.long n2), .second, .val (.long n3), .second, .val (.int n4), .val (.int (7 : Int32)), .val (.int u118), .val (.int u119), .val (.int u120), .val (.int u121), .val (.int u122), .val (.int u123), .val (.int u124), .val (.int u125), .val (.ref b199), .unset, .unset] [(.int u118), (.int (0 : Int32)), (.ref b199)])) (fun _ kk_ => st199 _ (XS.astore X199.here hx rfl (hb hby at_101) rfl rfl (l' := #[.val (.int n1), .val (.long n2), .second, .val (.long n3), .second, .val (.int n4), .val (.int (7 : Int32)), .val (.int u118), .val (.int u119), .val (.int u120), .val (.int u121), .val (.int u122), .val (.int u123), .val (.int u124), .val (.int u125), .val (.ref b199), .unset, .unset]) rfl (XS.iload X199.here hx rfl (hb hby at_103) rfl (XS.ifNo X199.here hx rfl (hb hby at_105) rfl ((if0 _ _).trans (tlt (by decide)).2.2.2) (XS.aload X199.here hx rfl (hb hby at_108) rfl rfl (XS.iconst X199.here hx rfl (hb hby at_110) (XS.iload X199.here hx rfl (hb hby at_111) rfl kk_))))))) ?_
    obtain ⟨cl200, Ar200, q200, S200, Ng200, Hs200, G200⟩ := id V199
    have hin200 : ¬ ((0 : Int32) < 0 ∨ cl200.slots.size ≤ ((0 : Int32)).toNatClampNeg) := inb_of S200 ⟨by decide, by decide⟩
    obtain ⟨T201, h201, X201, e201, W201, st201⟩ := stC X199 hx hZ e199 Ar200 (j := (0 : Int32)) hin200 (g := (mkF m 113 #[.val (.int n1), .val (.long n2), .second, .val (.long n3), .second, .val (.int n4), .val (.int (7 : Int32)), .val (.int u118), .val (.int u119), .val (.int u120), .val (.int u121), .val (.int u122), .val (.int u123), .val (.int u124), .val (.int u125), .val (.ref b199), .unset, .unset] [(.int u118), (.int (0 : Int32)), (.ref b199)])) rfl rfl (hb hby at_113)
    rw [hn118] at W201
    have N201 := Fr.snoc X201 N125 n_b199
    have O201 : Old Z n0 h201 := O199.wr W201 n_b199
    have CS201 : CHr Z consts_1 s.vm h199 s.vm h201 := CHr.wr W201 (Safe.arv hZ.alike V199 (by decide)) CR199.1
    have Sf201_b199 := CHr.safe CS201 V199.lt Sf199_b199
    have CR201 := CHr.trans CR199 CS201
    have V201 : Arv Z h201 b199 k199 .char (7 : Int32) [(.int u118), (.int (0 : Int32)), (.int (0 : Int32)), (.int (0 : Int32)), (.int (0 : Int32)), (.int (0 : Int32)), (.int (0 : Int32))] (.int (0 : Int32)) := Arv.set Ar200 q200 S200 Ng200 Hs200 G200 (hn118 ▸ (fits_nar_char _)) W201 0 rfl (Nat.le_of_ble_eq_true rfl)
    refine OWH.st (B := T201.setTop (mkF m 125 #[.val (.int n1), .val (.long n2), .second, .val (.long n3), .second, .val (.int n4), .val (.int (7 : Int32)), .val (.int u118), .val (.int u119), .val (.int u120), .val (.int u121), .val (.int u122), .val (.int u123), .val (.int u124), .val (.int u125), .val (.ref b199), .unset, .unset] [(.int u119), (.int (1 : Int32)), (.ref b199)])) (fun _ kk_ => st201 _ (XS.iload X201.here hx rfl (hb hby at_114) rfl (XS.iconst X201.here hx rfl (hb hby at_116) (XS.icmpNo X201.here hx rfl (hb hby at_117) rfl (tlt (by decide)).2.2.2 (XS.aload X201.here hx rfl (hb hby at_120) rfl rfl (XS.iconst X201.here hx rfl (hb hby at_122) (XS.iload X201.here hx rfl (hb hby at_123) rfl kk_))))))) ?_
    obtain ⟨cl202, Ar202, q202, S202, Ng202, Hs202, G202⟩ := id V201
    have hin202 : ¬ ((1 : Int32) < 0 ∨ cl202.slots.size ≤ ((1 : Int32)).toNatClampNeg) := inb_of S202 ⟨by decide, by decide⟩
    obtain ⟨T203, h203, X203, e203, W203, st203⟩ := stC X201 hx hZ e201 Ar202 (j := (1 : Int32)) hin202 (g := (mkF m 125 #[.val (.int n1), .val (.long n2), .second, .val (.long n3), .second, .val (.int n4), .val (.int (7 : Int32)), .val (.int u118), .val (.int u119), .val (.int u120), .val (.int u121), .val (.int u122), .val (.int u123), .val (.int u124), .val (.int u125), .val (.ref b199), .unset, .unset] [(.int u119), (.int (1 : Int32)), (.ref b199)])) rfl rfl (hb hby at_125)
    rw [hn119] at W203
    have N203 := Fr.snoc X203 N201 n_b199
    have O203 : Old Z n0 h203 := O201.wr W203 n_b199
    have CS203 : CHr Z consts_1 s.vm h201 s.vm h203 := CHr.wr W203 (Safe.arv hZ.alike V201 (by decide)) CR201.1
    have Sf203_b199 := CHr.safe CS203 V201.lt Sf201_b199
    have CR203 := CHr.trans CR201 CS203
    have V203 : Arv Z h203 b199 k199 .char (7 : Int32) [(.int u118), (.int u119), (.int (0 : Int32)), (.int (0 : Int32)), (.int (0 : Int32)), (.int (0 : Int32)), (.int (0 : Int32))] (.int (0 : Int32)) := Arv.set Ar202 q202 S202 Ng202 Hs202 G202 (hn119 ▸ (fits_nar_char _)) W203 1 rfl (Nat.le_of_ble_eq_true rfl)
    refine OWH.st (B := T203.setTop (mkF m 137 #[.val (.int n1), .val (.long n2), .second, .val (.long n3), .second, .val (.int n4), .val (.int (7 : Int32)), .val (.int u118), .val (.int u119), .val (.int u120), .val (.int u121), .val (.int u122), .val (.int u123), .val (.int u124), .val (.int u125), .val (.ref b199), .unset, .unset] [(.int u120), (.int (2 : Int32)), (.ref b199)])) (fun _ kk_ => st203 _ (XS.iload X203.here hx rfl (hb hby at_126) rfl (XS.iconst X203.here hx rfl (hb hby at_128) (XS.icmpNo X203.here hx rfl (hb hby at_129) rfl (tlt (by decide)).2.2.2 (XS.aload X203.here hx rfl (hb hby at_132) rfl rfl (XS.iconst X203.here hx rfl (hb hby at_134) (XS.iload X203.here hx rfl (hb hby at_135) rfl kk_))))))) ?_
    obtain ⟨cl204, Ar204, q204, S204, Ng204, Hs204, G204⟩ := id V203
    have hin204 : ¬ ((2 : Int32) < 0 ∨ cl204.slots.size ≤ ((2 : Int32)).toNatClampNeg) := inb_of S204 ⟨by decide, by decide⟩
    obtain ⟨T205, h205, X205, e205, W205, st205⟩ := stC X203 hx hZ e203 Ar204 (j := (2 : Int32)) hin204 (g := (mkF m 137 #[.val (.int n1), .val (.long n2), .second, .val (.long n3), .second, .val (.int n4), .val (.int (7 : Int32)), .val (.int u118), .val (.int u119), .val (.int u120), .val (.int u121), .val (.int u122), .val (.int u123), .val (.int u124), .val (.int u125), .val (.ref b199), .unset, .unset] [(.int u120), (.int (2 : Int32)), (.ref b199)])) rfl rfl (hb hby at_137)
    rw [hn120] at W205
    have N205 := Fr.snoc X205 N203 n_b199
    have O205 : Old Z n0 h205 := O203.wr W205 n_b199
    have CS205 : CHr Z consts_1 s.vm h203 s.vm h205 := CHr.wr W205 (Safe.arv hZ.alike V203 (by decide)) CR203.1
    have Sf205_b199 := CHr.safe CS205 V203.lt Sf203_b199
    have CR205 := CHr.trans CR203 CS205
    have V205 : Arv Z h205 b199 k199 .char (7 : Int32) [(.int u118), (.int u119), (.int u120), (.int (0 : Int32)), (.int (0 : Int32)), (.int (0 : Int32)), (.int (0 : Int32))] (.int (0 : Int32)) := Arv.set Ar204 q204 S204 Ng204 Hs204 G204 (hn120 ▸ (fits_nar_char _)) W205 2 rfl (Nat.le_of_ble_eq_true rfl)
    refine OWH.st (B := T205.setTop (mkF m 149 #[.val (.int n1), .val (.long n2), .second, .val (.long n3), .second, .val (.int n4), .val (.int (7 : Int32)), .val (.int u118), .val (.int u119), .val (.int u120), .val (.int u121), .val (.int u122), .val (.int u123), .val (.int u124), .val (.int u125), .val (.ref b199), .unset, .unset] [(.int u121), (.int (3 : Int32)), (.ref b199)])) (fun _ kk_ => st205 _ (XS.iload X205.here hx rfl (hb hby at_138) rfl (XS.iconst X205.here hx rfl (hb hby at_140) (XS.icmpNo X205.here hx rfl (hb hby at_141) rfl (tlt (by decide)).2.2.2 (XS.aload X205.here hx rfl (hb hby at_144) rfl rfl (XS.iconst X205.here hx rfl (hb hby at_146) (XS.iload X205.here hx rfl (hb hby at_147) rfl kk_))))))) ?_
    obtain ⟨cl206, Ar206, q206, S206, Ng206, Hs206, G206⟩ := id V205
    have hin206 : ¬ ((3 : Int32) < 0 ∨ cl206.slots.size ≤ ((3 : Int32)).toNatClampNeg) := inb_of S206 ⟨by decide, by decide⟩
    obtain ⟨T207, h207, X207, e207, W207, st207⟩ := stC X205 hx hZ e205 Ar206 (j := (3 : Int32)) hin206 (g := (mkF m 149 #[.val (.int n1), .val (.long n2), .second, .val (.long n3), .second, .val (.int n4), .val (.int (7 : Int32)), .val (.int u118), .val (.int u119), .val (.int u120), .val (.int u121), .val (.int u122), .val (.int u123), .val (.int u124), .val (.int u125), .val (.ref b199), .unset, .unset] [(.int u121), (.int (3 : Int32)), (.ref b199)])) rfl rfl (hb hby at_149)
    rw [hn121] at W207
    have N207 := Fr.snoc X207 N205 n_b199
    have O207 : Old Z n0 h207 := O205.wr W207 n_b199
    have CS207 : CHr Z consts_1 s.vm h205 s.vm h207 := CHr.wr W207 (Safe.arv hZ.alike V205 (by decide)) CR205.1
    have Sf207_b199 := CHr.safe CS207 V205.lt Sf205_b199
    have CR207 := CHr.trans CR205 CS207
    have V207 : Arv Z h207 b199 k199 .char (7 : Int32) [(.int u118), (.int u119), (.int u120), (.int u121), (.int (0 : Int32)), (.int (0 : Int32)), (.int (0 : Int32))] (.int (0 : Int32)) := Arv.set Ar206 q206 S206 Ng206 Hs206 G206 (hn121 ▸ (fits_nar_char _)) W207 3 rfl (Nat.le_of_ble_eq_true rfl)
    refine OWH.st (B := T207.setTop (mkF m 161 #[.val (.int n1), .val (.long n2), .second, .val (.long n3), .second, .val (.int n4), .val (.int (7 : Int32)), .val (.int u118), .val (.int u119), .val (.int u120), .val (.int u121), .val (.int u122), .val (.int u123), .val (.int u124), .val (.int u125), .val (.ref b199), .unset, .unset] [(.int u122), (.int (4 : Int32)), (.ref b199)])) (fun _ kk_ => st207 _ (XS.iload X207.here hx rfl (hb hby at_150) rfl (XS.iconst X207.here hx rfl (hb hby at_152) (XS.icmpNo X207.here hx rfl (hb hby at_153) rfl (tlt (by decide)).2.2.2 (XS.aload X207.here hx rfl (hb hby at_156) rfl rfl (XS.iconst X207.here hx rfl (hb hby at_158) (XS.iload X207.here hx rfl (hb hby at_159) rfl kk_))))))) ?_
    obtain ⟨cl208, Ar208, q208, S208, Ng208, Hs208, G208⟩ := id V207
    have hin208 : ¬ ((4 : Int32) < 0 ∨ cl208.slots.size ≤ ((4 : Int32)).toNatClampNeg) := inb_of S208 ⟨by decide, by decide⟩
    obtain ⟨T209, h209, X209, e209, W209, st209⟩ := stC X207 hx hZ e207 Ar208 (j := (4 : Int32)) hin208 (g := (mkF m 161 #[.val (.int n1), .val (.long n2), .second, .val (.long n3), .second, .val (.int n4), .val (.int (7 : Int32)), .val (.int u118), .val (.int u119), .val (.int u120), .val (.int u121), .val (.int u122), .val (.int u123), .val (.int u124), .val (.int u125), .val (.ref b199), .unset, .unset] [(.int u122), (.int (4 : Int32)), (.ref b199)])) rfl rfl (hb hby at_161)
    rw [hn122] at W209
    have N209 := Fr.snoc X209 N207 n_b199
    have O209 : Old Z n0 h209 := O207.wr W209 n_b199
    have CS209 : CHr Z consts_1 s.vm h207 s.vm h209 := CHr.wr W209 (Safe.arv hZ.alike V207 (by decide)) CR207.1
    have Sf209_b199 := CHr.safe CS209 V207.lt Sf207_b199
    have CR209 := CHr.trans CR207 CS209
    have V209 : Arv Z h209 b199 k199 .char (7 : Int32) [(.int u118), (.int u119), (.int u120), (.int u121), (.int u122), (.int (0 : Int32)), (.int (0 : Int32))] (.int (0 : Int32)) := Arv.set Ar208 q208 S208 Ng208 Hs208 G208 (hn122 ▸ (fits_nar_char _)) W209 4 rfl (Nat.le_of_ble_eq_true rfl)
    refine OWH.st (B := T209.setTop (mkF m 173 #[.val (.int n1), .val (.long n2), .second, .val (.long n3), .second, .val (.int n4), .val (.int (7 : Int32)), .val (.int u118), .val (.int u119), .val (.int u120), .val (.int u121), .val (.int u122), .val (.int u123), .val (.int u124), .val (.int u125), .val (.ref b199), .unset, .unset] [(.int u123), (.int (5 : Int32)), (.ref b199)])) (fun _ kk_ => st209 _ (XS.iload X209.here hx rfl (hb hby at_162) rfl (XS.iconst X209.here hx rfl (hb hby at_164) (XS.icmpNo X209.here hx rfl (hb hby at_165) rfl (tlt (by decide)).2.2.2 (XS.aload X209.here hx rfl (hb hby at_168) rfl rfl (XS.iconst X209.here hx rfl (hb hby at_170) (XS.iload X209.here hx rfl (hb hby at_171) rfl kk_))))))) ?_
    obtain ⟨cl210, Ar210, q210, S210, Ng210, Hs210, G210⟩ := id V209
    have hin210 : ¬ ((5 : Int32) < 0 ∨ cl210.slots.size ≤ ((5 : Int32)).toNatClampNeg) := inb_of S210 ⟨by decide, by decide⟩
    obtain ⟨T211, h211, X211, e211, W211, st211⟩ := stC X209 hx hZ e209 Ar210 (j := (5 : Int32)) hin210 (g := (mkF m 173 #[.val (.int n1), .val (.long n2), .second, .val (.long n3), .second, .val (.int n4), .val (.int (7 : Int32)), .val (.int u118), .val (.int u119), .val (.int u120), .val (.int u121), .val (.int u122), .val (.int u123), .val (.int u124), .val (.int u125), .val (.ref b199), .unset, .unset] [(.int u123), (.int (5 : Int32)), (.ref b199)])) rfl rfl (hb hby at_173)
    rw [hn123] at W211
    have N211 := Fr.snoc X211 N209 n_b199
    have O211 : Old Z n0 h211 := O209.wr W211 n_b199
    have CS211 : CHr Z consts_1 s.vm h209 s.vm h211 := CHr.wr W211 (Safe.arv hZ.alike V209 (by decide)) CR209.1
    have Sf211_b199 := CHr.safe CS211 V209.lt Sf209_b199
    have CR211 := CHr.trans CR209 CS211
    have V211 : Arv Z h211 b199 k199 .char (7 : Int32) [(.int u118), (.int u119), (.int u120), (.int u121), (.int u122), (.int u123), (.int (0 : Int32))] (.int (0 : Int32)) := Arv.set Ar210 q210 S210 Ng210 Hs210 G210 (hn123 ▸ (fits_nar_char _)) W211 5 rfl (Nat.le_of_ble_eq_true rfl)
    refine OWH.st (B := T211.setTop (mkF m 187 #[.val (.int n1), .val (.long n2), .second, .val (.long n3), .second, .val (.int n4), .val (.int (7 : Int32)), .val (.int u118), .val (.int u119), .val (.int u120), .val (.int u121), .val (.int u122), .val (.int u123), .val (.int u124), .val (.int u125), .val (.ref b199), .unset, .unset] [(.int u124), (.int (6 : Int32)), (.ref b199)])) (fun _ kk_ => st211 _ (XS.iload X211.here hx rfl (hb hby at_174) rfl (XS.bipush X211.here hx rfl (hb hby at_176) (XS.icmpNo X211.here hx rfl (hb hby at_178) rfl (tlt (by decide)).2.2.2 (XS.aload X211.here hx rfl (hb hby at_181) rfl rfl (XS.bipush X211.here hx rfl (hb hby at_183) (XS.iload X211.here hx rfl (hb hby at_185) rfl kk_))))))) ?_
    obtain ⟨cl212, Ar212, q212, S212, Ng212, Hs212, G212⟩ := id V211
    have hin212 : ¬ ((6 : Int32) < 0 ∨ cl212.slots.size ≤ ((6 : Int32)).toNatClampNeg) := inb_of S212 ⟨by decide, by decide⟩
    obtain ⟨T213, h213, X213, e213, W213, st213⟩ := stC X211 hx hZ e211 Ar212 (j := (6 : Int32)) hin212 (g := (mkF m 187 #[.val (.int n1), .val (.long n2), .second, .val (.long n3), .second, .val (.int n4), .val (.int (7 : Int32)), .val (.int u118), .val (.int u119), .val (.int u120), .val (.int u121), .val (.int u122), .val (.int u123), .val (.int u124), .val (.int u125), .val (.ref b199), .unset, .unset] [(.int u124), (.int (6 : Int32)), (.ref b199)])) rfl rfl (hb hby at_187)
    rw [hn124] at W213
    have N213 := Fr.snoc X213 N211 n_b199
    have O213 : Old Z n0 h213 := O211.wr W213 n_b199
    have CS213 : CHr Z consts_1 s.vm h211 s.vm h213 := CHr.wr W213 (Safe.arv hZ.alike V211 (by decide)) CR211.1
    have Sf213_b199 := CHr.safe CS213 V211.lt Sf211_b199
    have CR213 := CHr.trans CR211 CS213
    have V213 : Arv Z h213 b199 k199 .char (7 : Int32) [(.int u118), (.int u119), (.int u120), (.int u121), (.int u122), (.int u123), (.int u124)] (.int (0 : Int32)) := Arv.set Ar212 q212 S212 Ng212 Hs212 G212 (hn124 ▸ (fits_nar_char _)) W213 6 rfl (Nat.le_of_ble_eq_true rfl)
    refine OWH.st (B := T213.setTop (mkF m 202 #[.val (.int n1), .val (.long n2), .second, .val (.long n3), .second, .val (.int n4), .val (.int (7 : Int32)), .val (.int u118), .val (.int u119), .val (.int u120), .val (.int u121), .val (.int u122), .val (.int u123), .val (.int u124), .val (.int u125), .val (.ref b199), .unset, .unset] [])) (fun _ kk_ => st213 _ (XS.iload X213.here hx rfl (hb hby at_188) rfl (XS.bipush X213.here hx rfl (hb hby at_190) (XS.icmpYes X213.here hx rfl (pc0 := 192) (pc' := 202) rfl (hb hby at_192) rfl (flt (by decide)).2.2.2 (by decide) (by decide) kk_)))) ?_
    obtain ⟨T214, h214, X214, e214, E214, A214, D214, -, st214⟩ := newO X213 hx hZ hown (w_7 hw) (w_8 hw) (w_9 hw) e213 (g := (mkF m 202 #[.val (.int n1), .val (.long n2), .second, .val (.long n3), .second, .val (.int n4), .val (.int (7 : Int32)), .val (.int u118), .val (.int u119), .val (.int u120), .val (.int u121), .val (.int u122), .val (.int u123), .val (.int u124), .val (.int u125), .val (.ref b199), .unset, .unset] [])) rfl (hb hby at_202) (by decide) (by decide)
    obtain ⟨b214, g214⟩ : ∃ z, z = h213.size := ⟨_, rfl⟩
    rw [← g214] at A214 D214 st214
    have n_b214 : n0 ≤ b214 := Nat.le_trans (own_oldle O213) (Nat.le_of_eq g214.symm)
    have O214 : Old Z n0 h214 := O213.ext E214
    have CS214 : CHr Z consts_1 s.vm h213 s.vm h214 := CHr.ext E214 CR213.1
    have Sf214_b199 := CHr.safe CS214 V213.lt Sf213_b199
    have CR214 := CHr.trans CR213 CS214
    have Sf214_b214 : Safe Z consts_1 s.vm h214 b214 := Safe.ext E214 CR213.1 (Safe.new (Nat.le_of_eq g214.symm))
    have F214_22 : Fld Z h214 b214 "java/lang/String" "value" "[B" .null := D214 (Or.inr (w_22 hw)) (ty := (.array .byte)) (by decide)
    have F214_23 : Fld Z h214 b214 "java/lang/String" "coder" "B" (.int (0 : Int32)) := D214 (Or.inr (w_23 hw)) (ty := .byte) (by decide)
    refine OWH.st (B := T214.setTop (mkF m 208 #[.val (.int n1), .val (.long n2), .second, .val (.long n3), .second, .val (.int n4), .val (.int (7 : Int32)), .val (.int u118), .val (.int u119), .val (.int u120), .val (.int u121), .val (.int u122), .val (.int u123), .val (.int u124), .val (.int u125), .val (.ref b199), .unset, .unset] [(.ref b199), (.ref b214), (.ref b214)])) (fun _ kk_ => st214 _ (XS.dup X214.here hx rfl (hb hby at_205) rfl rfl (XS.aload X214.here hx rfl (hb hby at_206) rfl rfl kk_))) ?_
    obtain ⟨_, _, ⟨T215, L215, k215, n215⟩, -, X215, ⟨Lc215, hQ215, l215, y215, z215⟩, st215⟩ := X214.specialBack hx (y := (⟨"java/lang/String", "<init>", "([C)V"⟩ : MethodName)) rfl hown (mvT hZ (w_10 hw)) (mvT hZ (w_11 hw)) (mvT hZ (w_12 hw)) (by decide) (backOf (W := 1) (rmS0X l Z a0 hw [] b214 b199 k199 (7 : Int32) [u118, u119, u120, u121, u122, u123, u124] i_COMPACT_STRINGS v_SIOOBE_FORMATTER h214 n0 O214 A214 F214_22 F214_23 n_b214 (V213.ext E214) rfl (Nat.le_of_ble_eq_true rfl) (Nat.zero_lt_succ _) (OwnChs.cons hn118 (OwnChs.cons hn119 (OwnChs.cons hn120 (OwnChs.cons hn121 (OwnChs.cons hn122 (OwnChs.cons hn123 (OwnChs.cons hn124 OwnChs.nil))))))) hS) hZ (w_12 hw) (w_9 hw) (by decide) (by decide)) (g := (mkF m 208 #[.val (.int n1), .val (.long n2), .second, .val (.long n3), .second, .val (.int n4), .val (.int (7 : Int32)), .val (.int u118), .val (.int u119), .val (.int u120), .val (.int u121), .val (.int u122), .val (.int u123), .val (.int u124), .val (.int u125), .val (.ref b199), .unset, .unset] [(.ref b199), (.ref b214), (.ref b214)])) rfl (by rw [hml]; rfl) (Steps.refl _) (a := b214) (argsL := [(.ref b199)]) (rest := [(.ref b214)]) (lenOf pd_21 rfl) rfl (by show 2 * 0 + _ ≤ _; exact Nat.le_of_eq rfl) (hb hby at_208) (fun _ _ => ⟨rfl, e214, (by decide : 2 + 2 ≤ _), (by decide : 11 + 30 ≤ _)⟩)
    dsimp only [Pt.U, Pt.locs, Pt.cells, Pt.slots] at X215 l215 y215 z215 st215 hQ215
    subst l215 y215 z215
    obtain ⟨rfl, Nq215, K215, HO215⟩ := hQ215
    have N215 := Fr.app N213 Nq215
    have O215 : Old Z n0 T215.heap := O214.keep K215 (allS n_b214 all0)
    have CS215 : CHr Z consts_1 s.vm h214 s.vm T215.heap := CHr.keep K215 (allS Sf214_b214 all0) CR214.1
    have Sf215_b199 := CHr.safe CS215 (V213.ext E214).lt Sf214_b199
    have Sf215_b214 := CHr.safe CS215 A214.lt Sf214_b214
    have CR215 := CHr.trans CR214 CS215
    refine OWH.tr (B := T215.setTop (mkF m 211 #[.val (.int n1), .val (.long n2), .second, .val (.long n3), .second, .val (.int n4), .val (.int (7 : Int32)), .val (.int u118), .val (.int u119), .val (.int u120), .val (.int u121), .val (.int u122), .val (.int u123), .val (.int u124), .val (.int u125), .val (.ref b199), .unset, .unset] [(.ref b214)])) (st215) ?_
    refine OWH.st (B := T215.setTop (mkF m 213 #[.val (.int n1), .val (.long n2), .second, .val (.long n3), .second, .val (.int n4), .val (.int (7 : Int32)), .val (.int u118), .val (.int u119), .val (.int u120), .val (.int u121), .val (.int u122), .val (.int u123), .val (.int u124), .val (.int u125), .val (.ref b199), .val (.ref b214), .unset] [])) (fun _ kk_ => XS.astore X215.here hx rfl (hb hby at_211) rfl rfl (l' := #[.val (.int n1), .val (.long n2), .second, .val (.long n3), .second, .val (.int n4), .val (.int (7 : Int32)), .val (.int u118), .val (.int u119), .val (.int u120), .val (.int u121), .val (.int u122), .val (.int u123), .val (.int u124), .val (.int u125), .val (.ref b199), .val (.ref b214), .unset]) rfl kk_) ?_
    exact J126 _ _ _ s.vm _ (X215.more (by decide) (by decide)) N215 rfl O215 hS0 (Nat.le_trans (Nat.le_trans (Nat.le_trans (Nat.le_trans (Nat.le_trans (Nat.le_trans (Nat.le_trans (Nat.le_trans (Nat.le_trans (Nat.le_trans hk0 E199.1) (Keep.of_wr W201).1) (Keep.of_wr W203).1) (Keep.of_wr W205).1) (Keep.of_wr W207).1) (Keep.of_wr W209).1) (Keep.of_wr W211).1) (Keep.of_wr W213).1) E214.1) K215.1) hZ hown CR215 _ _ [u118, u119, u120, u121, u122, u123, u124] HO215 (Nat.le_of_ble_eq_true rfl) (OwnChs.cons hn118 (OwnChs.cons hn119 (OwnChs.cons hn120 (OwnChs.cons hn121 (OwnChs.cons hn122 (OwnChs.cons hn123 (OwnChs.cons hn124 OwnChs.nil))))))) (by rw [own_dt1 u118 (show ((0 : Int32) < (7 : Int32)) by decide), own_dt1 u119 (show ((1 : Int32) < (7 : Int32)) by decide), own_dt1 u120 (show ((2 : Int32) < (7 : Int32)) by decide), own_dt1 u121 (show ((3 : Int32) < (7 : Int32)) by decide), own_dt1 u122 (show ((4 : Int32) < (7 : Int32)) by decide), own_dt1 u123 (show ((5 : Int32) < (7 : Int32)) by decide), own_dt1 u124 (show ((6 : Int32) < (7 : Int32)) by decide), own_dt0 u125 (show ¬ ((7 : Int32) < (7 : Int32)) by decide)]; simp only [own_cnt, Int32.add_assoc, Int32.add_zero, Int32.zero_add])
  · refine OWH.st (B := T125.setTop (mkF m 99 #[.val (.int n1), .val (.long n2), .second, .val (.long n3), .second, .val (.int n4), .val (.int (8 : Int32)), .val (.int u118), .val (.int u119), .val (.int u120), .val (.int u121), .val (.int u122), .val (.int u123), .val (.int u124), .val (.int u125), .unset, .unset, .unset] [(.int (8 : Int32))])) (fun _ kk_ => XS.iload X125.here hx rfl (hb hby at_97) rfl kk_) ?_
    obtain ⟨T216, h216, k216, X216, e216, E216, A216, st216⟩ := newP (aty := .char) X125 hx hZ (w_6 hw) e125 (g := (mkF m 99 #[.val (.int n1), .val (.long n2), .second, .val (.long n3), .second, .val (.int n4), .val (.int (8 : Int32)), .val (.int u118), .val (.int u119), .val (.int u120), .val (.int u121), .val (.int u122), .val (.int u123), .val (.int u124), .val (.int u125), .unset, .unset, .unset] [(.int (8 : Int32))])) rfl (hb hby at_99) rfl (by decide) (cap := 8) (by decide +kernel) (by decide +kernel) (by decide +kernel) (by decide +kernel)
    obtain ⟨b216, g216⟩ : ∃ z, z = h0.size := ⟨_, rfl⟩
    rw [← g216] at A216 st216
    have n_b216 : n0 ≤ b216 := Nat.le_trans (own_oldle O0) (Nat.le_of_eq g216.symm)
    have O216 : Old Z n0 h216 := O0.ext E216
    have CS216 : CHr Z consts_1 s.vm h0 s.vm h216 := CHr.ext E216 CR0.1
    have CR216 := CHr.trans CR0 CS216
    have Sf216_b216 : Safe Z consts_1 s.vm h216 b216 := Safe.ext E216 CR0.1 (Safe.new (Nat.le_of_eq g216.symm))
    have V216 : Arv Z h216 b216 k216 .char (8 : Int32) [(.int (0 : Int32)), (.int (0 : Int32)), (.int (0 : Int32)), (.int (0 : Int32)), (.int (0 : Int32)), (.int (0 : Int32)), (.int (0 : Int32)), (.int (0 : Int32))] (.int (0 : Int32)) := (Arv.new A216 (by decide)).pad (pad_rep [] (.int (0 : Int32)) 8)
    refine OWH.st (B := T216.setTop (mkF m 113 #[.val (.int n1), .val (.long n2), .second, .val (.long n3), .second, .val (.int n4), .val (.int (8 : Int32)), .val (.int u118), .val (.int u119), .val (.int u120), .val (.int u121), .val (.int u122), .val (.int u123), .val (.int u124), .val (.int u125), .val (.ref b216), .unset, .unset] [(.int u118), (.int (0 : Int32)), (.ref b216)])) (fun _ kk_ => st216 _ (XS.astore X216.here hx rfl (hb hby at_101) rfl rfl (l' := #[.val (.int n1), .val (.long n2), .second, .val (.long n3), .second, .val (.int n4), .val (.int (8 : Int32)), .val (.int u118), .val (.int u119), .val (.int u120), .val (.int u121), .val (.int u122), .val (.int u123), .val (.int u124), .val (.int u125), .val (.ref b216), .unset, .unset]) rfl (XS.iload X216.here hx rfl (hb hby at_103) rfl (XS.ifNo X216.here hx rfl (hb hby at_105) rfl ((if0 _ _).trans (tlt (by decide)).2.2.2) (XS.aload X216.here hx rfl (hb hby at_108) rfl rfl (XS.iconst X216.here hx rfl (hb hby at_110) (XS.iload X216.here hx rfl (hb hby at_111) rfl kk_))))))) ?_
    obtain ⟨cl217, Ar217, q217, S217, Ng217, Hs217, G217⟩ := id V216
    have hin217 : ¬ ((0 : Int32) < 0 ∨ cl217.slots.size ≤ ((0 : Int32)).toNatClampNeg) := inb_of S217 ⟨by decide, by decide⟩
    obtain ⟨T218, h218, X218, e218, W218, st218⟩ := stC X216 hx hZ e216 Ar217 (j := (0 : Int32)) hin217 (g := (mkF m 113 #[.val (.int n1), .val (.long n2), .second, .val (.long n3), .second, .val (.int n4), .val (.int (8 : Int32)), .val (.int u118), .val (.int u119), .val (.int u120), .val (.int u121), .val (.int u122), .val (.int u123), .val (.int u124), .val (.int u125), .val (.ref b216), .unset, .unset] [(.int u118), (.int (0 : Int32)), (.ref b216)])) rfl rfl (hb hby at_113)
    rw [hn118] at W218
    have N218 := Fr.snoc X218 N125 n_b216
    have O218 : Old Z n0 h218 := O216.wr W218 n_b216
    have CS218 : CHr Z consts_1 s.vm h216 s.vm h218 := CHr.wr W218 (Safe.arv hZ.alike V216 (by decide)) CR216.1
    have Sf218_b216 := CHr.safe CS218 V216.lt Sf216_b216
    have CR218 := CHr.trans CR216 CS218
    have V218 : Arv Z h218 b216 k216 .char (8 : Int32) [(.int u118), (.int (0 : Int32)), (.int (0 : Int32)), (.int (0 : Int32)), (.int (0 : Int32)), (.int (0 : Int32)), (.int (0 : Int32)), (.int (0 : Int32))] (.int (0 : Int32)) := Arv.set Ar217 q217 S217 Ng217 Hs217 G217 (hn118 ▸ (fits_nar_char _)) W218 0 rfl (Nat.le_of_ble_eq_true rfl)
    refine OWH.st (B := T218.setTop (mkF m 125 #[.val (.int n1), .val (.long n2), .second, .val (.long n3), .second, .val (.int n4), .val (.int (8 : Int32)), .val (.int u118), .val (.int u119), .val (.int u120), .val (.int u121), .val (.int u122), .val (.int u123), .val (.int u124), .val (.int u125), .val (.ref b216), .unset, .unset] [(.int u119), (.int (1 : Int32)), (.ref b216)])) (fun _ kk_ => st218 _ (XS.iload X218.here hx rfl (hb hby at_114) rfl (XS.iconst X218.here hx rfl (hb hby at_116) (XS.icmpNo X218.here hx rfl (hb hby at_117) rfl (tlt (by decide)).2.2.2 (XS.aload X218.here hx rfl (hb hby at_120) rfl rfl (XS.iconst X218.here hx rfl (hb hby at_122) (XS.iload X218.here hx rfl (hb hby at_123) rfl kk_))))))) ?_
    obtain ⟨cl219, Ar219, q219, S219, Ng219, Hs219, G219⟩ := id V218
    have hin219 : ¬ ((1 : Int32) < 0 ∨ cl219.slots.size ≤ ((1 : Int32)).toNatClampNeg) := inb_of S219 ⟨by decide, by decide⟩
    obtain ⟨T220, h220, X220, e220, W220, st220⟩ := stC X218 hx hZ e218 Ar219 (j := (1 : Int32)) hin219 (g := (mkF m 125 #[.val (.int n1), .val (.long n2), .second, .val (.long n3), .second, .val (.int n4), .val (.int (8 : Int32)), .val (.int u118), .val (.int u119), .val (.int u120), .val (.int u121), .val (.int u122), .val (.int u123), .val (.int u124), .val (.int u125), .val (.ref b216), .unset, .unset] [(.int u119), (.int (1 : Int32)), (.ref b216)])) rfl rfl (hb hby at_125)
    rw [hn119] at W220
    have N220 := Fr.snoc X220 N218 n_b216
    have O220 : Old Z n0 h220 := O218.wr W220 n_b216
    have CS220 : CHr Z consts_1 s.vm h218 s.vm h220 := CHr.wr W220 (Safe.arv hZ.alike V218 (by decide)) CR218.1
    have Sf220_b216 := CHr.safe CS220 V218.lt Sf218_b216
    have CR220 := CHr.trans CR218 CS220
    have V220 : Arv Z h220 b216 k216 .char (8 : Int32) [(.int u118), (.int u119), (.int (0 : Int32)), (.int (0 : Int32)), (.int (0 : Int32)), (.int (0 : Int32)), (.int (0 : Int32)), (.int (0 : Int32))] (.int (0 : Int32)) := Arv.set Ar219 q219 S219 Ng219 Hs219 G219 (hn119 ▸ (fits_nar_char _)) W220 1 rfl (Nat.le_of_ble_eq_true rfl)
    refine OWH.st (B := T220.setTop (mkF m 137 #[.val (.int n1), .val (.long n2), .second, .val (.long n3), .second, .val (.int n4), .val (.int (8 : Int32)), .val (.int u118), .val (.int u119), .val (.int u120), .val (.int u121), .val (.int u122), .val (.int u123), .val (.int u124), .val (.int u125), .val (.ref b216), .unset, .unset] [(.int u120), (.int (2 : Int32)), (.ref b216)])) (fun _ kk_ => st220 _ (XS.iload X220.here hx rfl (hb hby at_126) rfl (XS.iconst X220.here hx rfl (hb hby at_128) (XS.icmpNo X220.here hx rfl (hb hby at_129) rfl (tlt (by decide)).2.2.2 (XS.aload X220.here hx rfl (hb hby at_132) rfl rfl (XS.iconst X220.here hx rfl (hb hby at_134) (XS.iload X220.here hx rfl (hb hby at_135) rfl kk_))))))) ?_
    obtain ⟨cl221, Ar221, q221, S221, Ng221, Hs221, G221⟩ := id V220
    have hin221 : ¬ ((2 : Int32) < 0 ∨ cl221.slots.size ≤ ((2 : Int32)).toNatClampNeg) := inb_of S221 ⟨by decide, by decide⟩
    obtain ⟨T222, h222, X222, e222, W222, st222⟩ := stC X220 hx hZ e220 Ar221 (j := (2 : Int32)) hin221 (g := (mkF m 137 #[.val (.int n1), .val (.long n2), .second, .val (.long n3), .second, .val (.int n4), .val (.int (8 : Int32)), .val (.int u118), .val (.int u119), .val (.int u120), .val (.int u121), .val (.int u122), .val (.int u123), .val (.int u124), .val (.int u125), .val (.ref b216), .unset, .unset] [(.int u120), (.int (2 : Int32)), (.ref b216)])) rfl rfl (hb hby at_137)
    rw [hn120] at W222
    have N222 := Fr.snoc X222 N220 n_b216
    have O222 : Old Z n0 h222 := O220.wr W222 n_b216
    have CS222 : CHr Z consts_1 s.vm h220 s.vm h222 := CHr.wr W222 (Safe.arv hZ.alike V220 (by decide)) CR220.1
    have Sf222_b216 := CHr.safe CS222 V220.lt Sf220_b216
    have CR222 := CHr.trans CR220 CS222
    have V222 : Arv Z h222 b216 k216 .char (8 : Int32) [(.int u118), (.int u119), (.int u120), (.int (0 : Int32)), (.int (0 : Int32)), (.int (0 : Int32)), (.int (0 : Int32)), (.int (0 : Int32))] (.int (0 : Int32)) := Arv.set Ar221 q221 S221 Ng221 Hs221 G221 (hn120 ▸ (fits_nar_char _)) W222 2 rfl (Nat.le_of_ble_eq_true rfl)
    refine OWH.st (B := T222.setTop (mkF m 149 #[.val (.int n1), .val (.long n2), .second, .val (.long n3), .second, .val (.int n4), .val (.int (8 : Int32)), .val (.int u118), .val (.int u119), .val (.int u120), .val (.int u121), .val (.int u122), .val (.int u123), .val (.int u124), .val (.int u125), .val (.ref b216), .unset, .unset] [(.int u121), (.int (3 : Int32)), (.ref b216)])) (fun _ kk_ => st222 _ (XS.iload X222.here hx rfl (hb hby at_138) rfl (XS.iconst X222.here hx rfl (hb hby at_140) (XS.icmpNo X222.here hx rfl (hb hby at_141) rfl (tlt (by decide)).2.2.2 (XS.aload X222.here hx rfl (hb hby at_144) rfl rfl (XS.iconst X222.here hx rfl (hb hby at_146) (XS.iload X222.here hx rfl (hb hby at_147) rfl kk_))))))) ?_
    obtain ⟨cl223, Ar223, q223, S223, Ng223, Hs223, G223⟩ := id V222
    have hin223 : ¬ ((3 : Int32) < 0 ∨ cl223.slots.size ≤ ((3 : Int32)).toNatClampNeg) := inb_of S223 ⟨by decide, by decide⟩
    obtain ⟨T224, h224, X224, e224, W224, st224⟩ := stC X222 hx hZ e222 Ar223 (j := (3 : Int32)) hin223 (g := (mkF m 149 #[.val (.int n1), .val (.long n2), .second, .val (.long n3), .second, .val (.int n4), .val (.int (8 : Int32)), .val (.int u118), .val (.int u119), .val (.int u120), .val (.int u121), .val (.int u122), .val (.int u123), .val (.int u124), .val (.int u125), .val (.ref b216), .unset, .unset] [(.int u121), (.int (3 : Int32)), (.ref b216)])) rfl rfl (hb hby at_149)
    rw [hn121] at W224
    have N224 := Fr.snoc X224 N222 n_b216
    have O224 : Old Z n0 h224 := O222.wr W224 n_b216
    have CS224 : CHr Z consts_1 s.vm h222 s.vm h224 := CHr.wr W224 (Safe.arv hZ.alike V222 (by decide)) CR222.1
    have Sf224_b216 := CHr.safe CS224 V222.lt Sf222_b216
    have CR224 := CHr.trans CR222 CS224
    have V224 : Arv Z h224 b216 k216 .char (8 : Int32) [(.int u118), (.int u119), (.int u120), (.int u121), (.int (0 : Int32)), (.int (0 : Int32)), (.int (0 : Int32)), (.int (0 : Int32))] (.int (0 : Int32)) := Arv.set Ar223 q223 S223 Ng223 Hs223 G223 (hn121 ▸ (fits_nar_char _)) W224 3 rfl (Nat.le_of_ble_eq_true rfl)
    refine OWH.st (B := T224.setTop (mkF m 161 #[.val (.int n1), .val (.long n2), .second, .val (.long n3), .second, .val (.int n4), .val (.int (8 : Int32)), .val (.int u118), .val (.int u119), .val (.int u120), .val (.int u121), .val (.int u122), .val (.int u123), .val (.int u124), .val (.int u125), .val (.ref b216), .unset, .unset] [(.int u122), (.int (4 : Int32)), (.ref b216)])) (fun _ kk_ => st224 _ (XS.iload X224.here hx rfl (hb hby at_150) rfl (XS.iconst X224.here hx rfl (hb hby at_152) (XS.icmpNo X224.here hx rfl (hb hby at_153) rfl (tlt (by decide)).2.2.2 (XS.aload X224.here hx rfl (hb hby at_156) rfl rfl (XS.iconst X224.here hx rfl (hb hby at_158) (XS.iload X224.here hx rfl (hb hby at_159) rfl kk_))))))) ?_
    obtain ⟨cl225, Ar225, q225, S225, Ng225, Hs225, G225⟩ := id V224
    have hin225 : ¬ ((4 : Int32) < 0 ∨ cl225.slots.size ≤ ((4 : Int32)).toNatClampNeg) := inb_of S225 ⟨by decide, by decide⟩
    obtain ⟨T226, h226, X226, e226, W226, st226⟩ := stC X224 hx hZ e224 Ar225 (j := (4 : Int32)) hin225 (g := (mkF m 161 #[.val (.int n1), .val (.long n2), .second, .val (.long n3), .second, .val (.int n4), .val (.int (8 : Int32)), .val (.int u118), .val (.int u119), .val (.int u120), .val (.int u121), .val (.int u122), .val (.int u123), .val (.int u124), .val (.int u125), .val (.ref b216), .unset, .unset] [(.int u122), (.int (4 : Int32)), (.ref b216)])) rfl rfl (hb hby at_161)
    rw [hn122] at W226
    have N226 := Fr.snoc X226 N224 n_b216
    have O226 : Old Z n0 h226 := O224.wr W226 n_b216
    have CS226 : CHr Z consts_1 s.vm h224 s.vm h226 := CHr.wr W226 (Safe.arv hZ.alike V224 (by decide)) CR224.1
    have Sf226_b216 := CHr.safe CS226 V224.lt Sf224_b216
    have CR226 := CHr.trans CR224 CS226
    have V226 : Arv Z h226 b216 k216 .char (8 : Int32) [(.int u118), (.int u119), (.int u120), (.int u121), (.int u122), (.int (0 : Int32)), (.int (0 : Int32)), (.int (0 : Int32))] (.int (0 : Int32)) := Arv.set Ar225 q225 S225 Ng225 Hs225 G225 (hn122 ▸ (fits_nar_char _)) W226 4 rfl (Nat.le_of_ble_eq_true rfl)
    refine OWH.st (B := T226.setTop (mkF m 173 #[.val (.int n1), .val (.long n2), .second, .val (.long n3), .second, .val (.int n4), .val (.int (8 : Int32)), .val (.int u118), .val (.int u119), .val (.int u120), .val (.int u121), .val (.int u122), .val (.int u123), .val (.int u124), .val (.int u125), .val (.ref b216), .unset, .unset] [(.int u123), (.int (5 : Int32)), (.ref b216)])) (fun _ kk_ => st226 _ (XS.iload X226.here hx rfl (hb hby at_162) rfl (XS.iconst X226.here hx rfl (hb hby at_164) (XS.icmpNo X226.here hx rfl (hb hby at_165) rfl (tlt (by decide)).2.2.2 (XS.aload X226.here hx rfl (hb hby at_168) rfl rfl (XS.iconst X226.here hx rfl (hb hby at_170) (XS.iload X226.here hx rfl (hb hby at_171) rfl kk_))))))) ?_
    obtain ⟨cl227, Ar227, q227, S227, Ng227, Hs227, G227⟩ := id V226
    have hin227 : ¬ ((5 : Int32) < 0 ∨ cl227.slots.size ≤ ((5 : Int32)).toNatClampNeg) := inb_of S227 ⟨by decide, by decide⟩
    obtain ⟨T228, h228, X228, e228, W228, st228⟩ := stC X226 hx hZ e226 Ar227 (j := (5 : Int32)) hin227 (g := (mkF m 173 #[.val (.int n1), .val (.long n2), .second, .val (.long n3), .second, .val (.int n4), .val (.int (8 : Int32)), .val (.int u118), .val (.int u119), .val (.int u120), .val (.int u121), .val (.int u122), .val (.int u123), .val (.int u124), .val (.int u125), .val (.ref b216), .unset, .unset] [(.int u123), (.int (5 : Int32)), (.ref b216)])) rfl rfl (hb hby at_173)
    rw [hn123] at W228
    have N228 := Fr.snoc X228 N226 n_b216
    have O228 : Old Z n0 h228 := O226.wr W228 n_b216
    have CS228 : CHr Z consts_1 s.vm h226 s.vm h228 := CHr.wr W228 (Safe.arv hZ.alike V226 (by decide)) CR226.1
    have Sf228_b216 := CHr.safe CS228 V226.lt Sf226_b216
    have CR228 := CHr.trans CR226 CS228
    have V228 : Arv Z h228 b216 k216 .char (8 : Int32) [(.int u118), (.int u119), (.int u120), (.int u121), (.int u122), (.int u123), (.int (0 : Int32)), (.int (0 : Int32))] (.int (0 : Int32)) := Arv.set Ar227 q227 S227 Ng227 Hs227 G227 (hn123 ▸ (fits_nar_char _)) W228 5 rfl (Nat.le_of_ble_eq_true rfl)
    refine OWH.st (B := T228.setTop (mkF m 187 #[.val (.int n1), .val (.long n2), .second, .val (.long n3), .second, .val (.int n4), .val (.int (8 : Int32)), .val (.int u118), .val (.int u119), .val (.int u120), .val (.int u121), .val (.int u122), .val (.int u123), .val (.int u124), .val (.int u125), .val (.ref b216), .unset, .unset] [(.int u124), (.int (6 : Int32)), (.ref b216)])) (fun _ kk_ => st228 _ (XS.iload X228.here hx rfl (hb hby at_174) rfl (XS.bipush X228.here hx rfl (hb hby at_176) (XS.icmpNo X228.here hx rfl (hb hby at_178) rfl (tlt (by decide)).2.2.2 (XS.aload X228.here hx rfl (hb hby at_181) rfl rfl (XS.bipush X228.here hx rfl (hb hby at_183) (XS.iload X228.here hx rfl (hb hby at_185) rfl kk_))))))) ?_
    obtain ⟨cl229, Ar229, q229, S229, Ng229, Hs229, G229⟩ := id V228
    have hin229 : ¬ ((6 : Int32) < 0 ∨ cl229.slots.size ≤ ((6 : Int32)).toNatClampNeg) := inb_of S229 ⟨by decide, by decide⟩
    obtain ⟨T230, h230, X230, e230, W230, st230⟩ := stC X228 hx hZ e228 Ar229 (j := (6 : Int32)) hin229 (g := (mkF m 187 #[.val (.int n1), .val (.long n2), .second, .val (.long n3), .second, .val (.int n4), .val (.int (8 : Int32)), .val (.int u118), .val (.int u119), .val (.int u120), .val (.int u121), .val (.int u122), .val (.int u123), .val (.int u124), .val (.int u125), .val (.ref b216), .unset, .unset] [(.int u124), (.int (6 : Int32)), (.ref b216)])) rfl rfl (hb hby at_187)
    rw [hn124] at W230
    have N230 := Fr.snoc X230 N228 n_b216
    have O230 : Old Z n0 h230 := O228.wr W230 n_b216
    have CS230 : CHr Z consts_1 s.vm h228 s.vm h230 := CHr.wr W230 (Safe.arv hZ.alike V228 (by decide)) CR228.1
    have Sf230_b216 := CHr.safe CS230 V228.lt Sf228_b216
    have CR230 := CHr.trans CR228 CS230
    have V230 : Arv Z h230 b216 k216 .char (8 : Int32) [(.int u118), (.int u119), (.int u120), (.int u121), (.int u122), (.int u123), (.int u124), (.int (0 : Int32))] (.int (0 : Int32)) := Arv.set Ar229 q229 S229 Ng229 Hs229 G229 (hn124 ▸ (fits_nar_char _)) W230 6 rfl (Nat.le_of_ble_eq_true rfl)
    refine OWH.st (B := T230.setTop (mkF m 201 #[.val (.int n1), .val (.long n2), .second, .val (.long n3), .second, .val (.int n4), .val (.int (8 : Int32)), .val (.int u118), .val (.int u119), .val (.int u120), .val (.int u121), .val (.int u122), .val (.int u123), .val (.int u124), .val (.int u125), .val (.ref b216), .unset, .unset] [(.int u125), (.int (7 : Int32)), (.ref b216)])) (fun _ kk_ => st230 _ (XS.iload X230.here hx rfl (hb hby at_188) rfl (XS.bipush X230.here hx rfl (hb hby at_190) (XS.icmpNo X230.here hx rfl (hb hby at_192) rfl (tlt (by decide)).2.2.2 (XS.aload X230.here hx rfl (hb hby at_195) rfl rfl (XS.bipush X230.here hx rfl (hb hby at_197) (XS.iload X230.here hx rfl (hb hby at_199) rfl kk_))))))) ?_
    obtain ⟨cl231, Ar231, q231, S231, Ng231, Hs231, G231⟩ := id V230
    have hin231 : ¬ ((7 : Int32) < 0 ∨ cl231.slots.size ≤ ((7 : Int32)).toNatClampNeg) := inb_of S231 ⟨by decide, by decide⟩
    obtain ⟨T232, h232, X232, e232, W232, st232⟩ := stC X230 hx hZ e230 Ar231 (j := (7 : Int32)) hin231 (g := (mkF m 201 #[.val (.int n1), .val (.long n2), .second, .val (.long n3), .second, .val (.int n4), .val (.int (8 : Int32)), .val (.int u118), .val (.int u119), .val (.int u120), .val (.int u121), .val (.int u122), .val (.int u123), .val (.int u124), .val (.int u125), .val (.ref b216), .unset, .unset] [(.int u125), (.int (7 : Int32)), (.ref b216)])) rfl rfl (hb hby at_201)
    rw [hn125] at W232
    have N232 := Fr.snoc X232 N230 n_b216
    have O232 : Old Z n0 h232 := O230.wr W232 n_b216
    have CS232 : CHr Z consts_1 s.vm h230 s.vm h232 := CHr.wr W232 (Safe.arv hZ.alike V230 (by decide)) CR230.1
    have Sf232_b216 := CHr.safe CS232 V230.lt Sf230_b216
    have CR232 := CHr.trans CR230 CS232
    have V232 : Arv Z h232 b216 k216 .char (8 : Int32) [(.int u118), (.int u119), (.int u120), (.int u121), (.int u122), (.int u123), (.int u124), (.int u125)] (.int (0 : Int32)) := Arv.set Ar231 q231 S231 Ng231 Hs231 G231 (hn125 ▸ (fits_nar_char _)) W232 7 rfl (Nat.le_of_ble_eq_true rfl)
    refine OWH.st (B := T232.setTop (mkF m 202 #[.val (.int n1), .val (.long n2), .second, .val (.long n3), .second, .val (.int n4), .val (.int (8 : Int32)), .val (.int u118), .val (.int u119), .val (.int u120), .val (.int u121), .val (.int u122), .val (.int u123), .val (.int u124), .val (.int u125), .val (.ref b216), .unset, .unset] [])) (fun _ kk_ => st232 _ kk_) ?_
    obtain ⟨T233, h233, X233, e233, E233, A233, D233, -, st233⟩ := newO X232 hx hZ hown (w_7 hw) (w_8 hw) (w_9 hw) e232 (g := (mkF m 202 #[.val (.int n1), .val (.long n2), .second, .val (.long n3), .second, .val (.int n4), .val (.int (8 : Int32)), .val (.int u118), .val (.int u119), .val (.int u120), .val (.int u121), .val (.int u122), .val (.int u123), .val (.int u124), .val (.int u125), .val (.ref b216), .unset, .unset] [])) rfl (hb hby at_202) (by decide) (by decide)
    obtain ⟨b233, g233⟩ : ∃ z, z = h232.size := ⟨_, rfl⟩
    rw [← g233] at A233 D233 st233
    have n_b233 : n0 ≤ b233 := Nat.le_trans (own_oldle O232) (Nat.le_of_eq g233.symm)
    have O233 : Old Z n0 h233 := O232.ext E233
    have CS233 : CHr Z consts_1 s.vm h232 s.vm h233 := CHr.ext E233 CR232.1
    have Sf233_b216 := CHr.safe CS233 V232.lt Sf232_b216
    have CR233 := CHr.trans CR232 CS233
    have Sf233_b233 : Safe Z consts_1 s.vm h233 b233 := Safe.ext E233 CR232.1 (Safe.new (Nat.le_of_eq g233.symm))
    have F233_22 : Fld Z h233 b233 "java/lang/String" "value" "[B" .null := D233 (Or.inr (w_22 hw)) (ty := (.array .byte)) (by decide)
    have F233_23 : Fld Z h233 b233 "java/lang/String" "coder" "B" (.int (0 : Int32)) := D233 (Or.inr (w_23 hw)) (ty := .byte) (by decide)
    refine OWH.st (B := T233.setTop (mkF m 208 #[.val (.int n1), .val (.long n2), .second, .val (.long n3), .second, .val (.int n4), .val (.int (8 : Int32)), .val (.int u118), .val (.int u119), .val (.int u120), .val (.int u121), .val (.int u122), .val (.int u123), .val (.int u124), .val (.int u125), .val (.ref b216), .unset, .unset] [(.ref b216), (.ref b233), (.ref b233)])) (fun _ kk_ => st233 _ (XS.dup X233.here hx rfl (hb hby at_205) rfl rfl (XS.aload X233.here hx rfl (hb hby at_206) rfl rfl kk_))) ?_
    obtain ⟨_, _, ⟨T234, L234, k234, n234⟩, -, X234, ⟨Lc234, hQ234, l234, y234, z234⟩, st234⟩ := X233.specialBack hx (y := (⟨"java/lang/String", "<init>", "([C)V"⟩ : MethodName)) rfl hown (mvT hZ (w_10 hw)) (mvT hZ (w_11 hw)) (mvT hZ (w_12 hw)) (by decide) (backOf (W := 1) (rmS0X l Z a0 hw [] b233 b216 k216 (8 : Int32) [u118, u119, u120, u121, u122, u123, u124, u125] i_COMPACT_STRINGS v_SIOOBE_FORMATTER h233 n0 O233 A233 F233_22 F233_23 n_b233 (V232.ext E233) rfl (Nat.le_of_ble_eq_true rfl) (Nat.zero_lt_succ _) (OwnChs.cons hn118 (OwnChs.cons hn119 (OwnChs.cons hn120 (OwnChs.cons hn121 (OwnChs.cons hn122 (OwnChs.cons hn123 (OwnChs.cons hn124 (OwnChs.cons hn125 OwnChs.nil)))))))) hS) hZ (w_12 hw) (w_9 hw) (by decide) (by decide)) (g := (mkF m 208 #[.val (.int n1), .val (.long n2), .second, .val (.long n3), .second, .val (.int n4), .val (.int (8 : Int32)), .val (.int u118), .val (.int u119), .val (.int u120), .val (.int u121), .val (.int u122), .val (.int u123), .val (.int u124), .val (.int u125), .val (.ref b216), .unset, .unset] [(.ref b216), (.ref b233), (.ref b233)])) rfl (by rw [hml]; rfl) (Steps.refl _) (a := b233) (argsL := [(.ref b216)]) (rest := [(.ref b233)]) (lenOf pd_21 rfl) rfl (by show 2 * 0 + _ ≤ _; exact Nat.le_of_eq rfl) (hb hby at_208) (fun _ _ => ⟨rfl, e233, (by decide : 2 + 2 ≤ _), (by decide : 12 + 30 ≤ _)⟩)
    dsimp only [Pt.U, Pt.locs, Pt.cells, Pt.slots] at X234 l234 y234 z234 st234 hQ234
    subst l234 y234 z234
    obtain ⟨rfl, Nq234, K234, HO234⟩ := hQ234
    have N234 := Fr.app N232 Nq234
    have O234 : Old Z n0 T234.heap := O233.keep K234 (allS n_b233 all0)
    have CS234 : CHr Z consts_1 s.vm h233 s.vm T234.heap := CHr.keep K234 (allS Sf233_b233 all0) CR233.1
    have Sf234_b216 := CHr.safe CS234 (V232.ext E233).lt Sf233_b216
    have Sf234_b233 := CHr.safe CS234 A233.lt Sf233_b233
    have CR234 := CHr.trans CR233 CS234
    refine OWH.tr (B := T234.setTop (mkF m 211 #[.val (.int n1), .val (.long n2), .second, .val (.long n3), .second, .val (.int n4), .val (.int (8 : Int32)), .val (.int u118), .val (.int u119), .val (.int u120), .val (.int u121), .val (.int u122), .val (.int u123), .val (.int u124), .val (.int u125), .val (.ref b216), .unset, .unset] [(.ref b233)])) (st234) ?_
    refine OWH.st (B := T234.setTop (mkF m 213 #[.val (.int n1), .val (.long n2), .second, .val (.long n3), .second, .val (.int n4), .val (.int (8 : Int32)), .val (.int u118), .val (.int u119), .val (.int u120), .val (.int u121), .val (.int u122), .val (.int u123), .val (.int u124), .val (.int u125), .val (.ref b216), .val (.ref b233), .unset] [])) (fun _ kk_ => XS.astore X234.here hx rfl (hb hby at_211) rfl rfl (l' := #[.val (.int n1), .val (.long n2), .second, .val (.long n3), .second, .val (.int n4), .val (.int (8 : Int32)), .val (.int u118), .val (.int u119), .val (.int u120), .val (.int u121), .val (.int u122), .val (.int u123), .val (.int u124), .val (.int u125), .val (.ref b216), .val (.ref b233), .unset]) rfl kk_) ?_
    exact J126 _ _ _ s.vm _ (X234.more (by decide) (by decide)) N234 rfl O234 hS0 (Nat.le_trans (Nat.le_trans (Nat.le_trans (Nat.le_trans (Nat.le_trans (Nat.le_trans (Nat.le_trans (Nat.le_trans (Nat.le_trans (Nat.le_trans (Nat.le_trans hk0 E216.1) (Keep.of_wr W218).1) (Keep.of_wr W220).1) (Keep.of_wr W222).1) (Keep.of_wr W224).1) (Keep.of_wr W226).1) (Keep.of_wr W228).1) (Keep.of_wr W230).1) (Keep.of_wr W232).1) E233.1) K234.1) hZ hown CR234 _ _ [u118, u119, u120, u121, u122, u123, u124, u125] HO234 (Nat.le_of_ble_eq_true rfl) (OwnChs.cons hn118 (OwnChs.cons hn119 (OwnChs.cons hn120 (OwnChs.cons hn121 (OwnChs.cons hn122 (OwnChs.cons hn123 (OwnChs.cons hn124 (OwnChs.cons hn125 OwnChs.nil)))))))) (by rw [own_dt1 u118 (show ((0 : Int32) < (8 : Int32)) by decide), own_dt1 u119 (show ((1 : Int32) < (8 : Int32)) by decide), own_dt1 u120 (show ((2 : Int32) < (8 : Int32)) by decide), own_dt1 u121 (show ((3 : Int32) < (8 : Int32)) by decide), own_dt1 u122 (show ((4 : Int32) < (8 : Int32)) by decide), own_dt1 u123 (show ((5 : Int32) < (8 : Int32)) by decide), own_dt1 u124 (show ((6 : Int32) < (8 : Int32)) by decide), own_dt1 u125 (show ((7 : Int32) < (8 : Int32)) by decide)]; simp only [own_cnt, Int32.add_assoc, Int32.add_zero, Int32.zero_add])
set_option maxRecDepth 65536 in
set_option maxHeartbeats 40000000 in
theorem comes_1 {Post : Tables → Env → Array Value → State → Outcome → State → Prop} (hpost : ∀ tb e args s v u, (limb_1_1.after args s (.returned v) u = true ∧ limb_1_2.after args s (.returned v) u = true ∧ True) → ReturnedEndW s (.returned v) u (Jvm.fieldLocs frame_1_writes args s ++ Jvm.arrayLocs frame_1_arrays args s ++ Jvm.staticLocs frame_1_statics s) 24 1216 → Post tb e args s (.returned v) u) :
    ArmFor flags0 classFile x code maxLocals ret World_1 tables_1 room_1 Calls_1 rest_1 Pre_1 Post := by
  intro l hfl _ _ p e ha hc hk s m args below hf hA hF happ hP
  obtain ⟨hcalls, hrest, hpre⟩ := hP
  obtain ⟨-, -, -, hnamed, -, -, -, hat⟩ := (Spec.applies_iff hf).mp happ
  obtain ⟨hg, hn⟩ := and_e (Cond.before_iff.mp (show (Jvm.Cond.and given_1 narrow_1).before args s = true from hpre))
  obtain ⟨k235, k236⟩ := and_e hg
  obtain ⟨k237, k238⟩ := and_e k236
  obtain ⟨k239, k240⟩ := and_e k238
  obtain ⟨k241, k242⟩ := and_e k240
  obtain ⟨w0, w1, w2, w3, rfl⟩ : ∃ w0 w1 w2 w3 : Value, args = #[w0, w1, w2, w3] := by
    have hs : args.size = 4 := by simpa [Cond.value, given_1] using k235
    obtain ⟨L⟩ := args
    match L, hs with
    | [w0, w1, w2, w3], _ => exact ⟨w0, w1, w2, w3, rfl⟩
  have hw := fun d (hd : d ∈ tables_1) => atoms_spec (ws := Jvm.Cond.code x code maxLocals ret :: tables_1) hat d (List.mem_cons_of_mem _ hd)
  have hfit : Fit s := fun {y c} hc i hi => by
    obtain ⟨ha, rfl⟩ := Array.getElem?_eq_some_iff.mp hc
    have q := List.all_eq_true.mp ((Array.all_eq_true_iff_forall_mem.mp hF) _ (Array.getElem_mem ha)) i (List.mem_range.mpr hi)
    simpa [Array.getElem?_eq_getElem hi] using q
  obtain ⟨i0, ei0⟩ := is_v k237
  obtain rfl : w0 = (.int i0) := Option.some.inj ei0
  obtain ⟨i1, ei1⟩ := isL_v k239
  obtain rfl : w1 = (.long i1) := Option.some.inj ei1
  obtain ⟨i2, ei2⟩ := isL_v k241
  obtain rfl : w2 = (.long i2) := Option.some.inj ei2
  obtain ⟨i3, ei3⟩ := is_v k242
  obtain rfl : w3 = (.int i3) := Option.some.inj ei3
  obtain ⟨hsets, hown0⟩ := atoms_of _ (rest_1_c_eq ▸ (show rest_1_c.before _ s = true from hrest))
  have hr0 := Cond.before_iff.mp hown0
  obtain ⟨i_COMPACT_STRINGS, evi_COMPACT_STRINGS⟩ := is_v (Cond.before_iff.mp (hsets _ (List.mem_of_getElem? (i := 1) rfl)))
  obtain ⟨v_SIOOBE_FORMATTER, evv_SIOOBE_FORMATTER, rvv_SIOOBE_FORMATTER⟩ := isR_v (Cond.before_iff.mp (hsets _ (List.mem_of_getElem? (i := 8) rfl)))
  have hS : OwnS s i_COMPACT_STRINGS v_SIOOBE_FORMATTER := ⟨Sta.start evi_COMPACT_STRINGS (Or.inl (hsets _ (List.mem_of_getElem? (i := 0) rfl))), Sta.start evv_SIOOBE_FORMATTER (Or.inl (hsets _ (List.mem_of_getElem? (i := 7) rfl))), rvv_SIOOBE_FORMATTER, Sta.start (own_eq_int (Cond.before_iff.mp (hsets _ (List.mem_of_getElem? (i := 12) rfl)))) (Or.inl (hsets _ (List.mem_of_getElem? (i := 11) rfl))), Sta.start (own_eq_int (Cond.before_iff.mp (hsets _ (List.mem_of_getElem? (i := 15) rfl)))) (Or.inl (hsets _ (List.mem_of_getElem? (i := 14) rfl))), Sta.start (own_eq_int (Cond.before_iff.mp (hsets _ (List.mem_of_getElem? (i := 18) rfl)))) (Or.inl (hsets _ (List.mem_of_getElem? (i := 17) rfl))), gotF (Cond.eq_ints evi_COMPACT_STRINGS (Term.int_eval (0 : Int32))) (not_v (Cond.before_iff.mp (hsets _ (List.mem_of_getElem? (i := 2) rfl))))⟩
  have hCH : CHv s consts_1 s.vm s.heap := CHv.start (own_EW hw) (fun q hq => hcalls.1 q hq) (show Jvm.Lit.compactW.before _ s = true from (hsets _ (List.mem_of_getElem? (i := 2) rfl))) (w_21 hw) (w_8 hw)
  obtain ⟨n, o, h1, h2, h3, _, L, rfl, ⟨rfl, N⟩, -, hq⟩ := rm0 l s _ hw tables_1 i0 i1 i2 i3 i_COMPACT_STRINGS v_SIOOBE_FORMATTER s.heap s.heap.size (Old.start s) hS p e ha hc hk s m _ below hf ((Spec.applies_iff_loose hf).mp happ).1 ⟨rfl, State.Warmed39.refl s, rfl, hCH⟩ trivial
  refine ⟨n, _, h1, h2, h3, hpost _ _ _ _ _ _ ⟨Cond.after_iff.mpr rfl, Cond.after_iff.mpr (eq_i res_at (Term.int_eval (1)) rfl), trivial⟩ ⟨hq.1, hq.2.1, hq.2.2.1, (hq.2.2.2.sift fun y hy => Or.inr (N y hy)).mono (by decide) (by decide)⟩⟩
theorem main_1_1 : Claimed_1_1 := comes_1 fun _ _ _ _ _ _ h hF => ⟨h.1, hF⟩
theorem main_1_2 : Claimed_1_2 := comes_1 fun _ _ _ _ _ _ h hF => ⟨h.2.1, hF⟩
end Jvm.Pilot.@@N@@
namespace Jvm.Pilot.@@N@@
open Jvm Jvm.ClassFile Sem Op Lib Jvm.Free Jvm.Stand Jvm.Pilot.@@N@@.Jvm.D
/-! MADE BY PROGRAM (witnessworld.py) out of the Statement's table words and the real class files: 22 classes; the members and pool entries that the words name. The judged class is class 1, her method 3. -/
namespace start1
open Jvm.ClassFile
def u (s : String) : CpInfo := .utf8 (stringToUtf16 s)
/-- a pool by its gaps: so many unusable entries, then the entry; so many at the end -/
def gap : Nat → List CpInfo → List CpInfo
  | 0, r => r
  | n + 1, r => .unusable :: gap n r
def poolList (es : List (Nat × CpInfo)) (last : Nat) : List CpInfo := es.foldr (fun e r => gap e.1 (e.2 :: r)) (gap last [])
def pool (es : List (Nat × CpInfo)) (last : Nat) : Array CpInfo := ⟨poolList es last⟩
def fileOf (pool : Array CpInfo) (this : Nat) (attrs : Array Attribute := #[]) (ms : Array MethodInfo := #[]) (fl : Nat := 33) (sup : Nat := 0) (ifs : Array Nat := #[]) (fds : Array FieldInfo := #[]) : ClassFile where
  minorVersion := 0
  majorVersion := 65
  constantPool := pool
  accessFlags := fl
  thisClass := this
  superClass := sup
  interfaces := ifs
  fields := fds
  methods := ms
  attributes := attrs
def plain (name : String) (sup : Option ClassId) : Class where
  name := name
  kind := .ordinary
  loader := none
  accessFlags := 33
  super := sup
  interfaces := #[]
  cf := none
  fields := #[]
  methods := #[]
  instanceTypes := #[]
  staticTypes := #[]
  resolved := #[]
  callSites := []
  init := .initialized
  statics := none
  mirror := none

def pool0 : Array CpInfo := pool [(5, u "<init>"), (0, u "()V"), (1, .class_ 10), (1, u "java/lang/Object")] 113

def k0c0 : Code := { maxStack := 0, maxLocals := 1, code := object_method_1_code, exceptionTable := #[], attributes := #[] }
def k0m0 : Method := { name := "<init>", desc := "()V", sig := { parameters := [], returnType := none }, accessFlags := 1, code := some k0c0 }
/-- java/lang/Object -/
def k0 : Class := { plain "java/lang/Object" none with
  accessFlags := 33
  interfaces := #[]
  cf := some (fileOf pool0 8 #[] #[{ accessFlags := 1, nameIndex := 5, descriptorIndex := 6, attributes := #[] }] 33 0 #[] #[])
  fields := #[]
  methods := #[k0m0]
  instanceTypes := #[]
  staticTypes := #[]
  resolved := Array.replicate 124 none
  statics := none }

def pool1 : Array CpInfo := pool [(2, .class_ 4), (1, u "java/lang/Object"), (0, u "<init>"), (0, u "()V"), (0, .long 65535), (1, .integer 2147483647), (0, .methodref 11 12), (0, .class_ 13), (0, .nameAndType 14 15), (0, u "com/example/filter_to_where/filtertowhere/tree/LimitsRelationshipStepsPinLaw"), (0, u "pick"), (0, u "(JIII)C"), (0, .class_ 17), (0, u "java/lang/String"), (0, .methodref 16 19), (0, .nameAndType 5 20), (0, u "([C)V"), (0, .methodref 11 22), (0, .nameAndType 23 24), (0, u "dot"), (0, u "(CII)I"), (0, .methodref 26 27), (0, .class_ 28), (0, .nameAndType 29 30), (0, u "com/example/filter_to_where/filtertowhere/tree/Limits"), (0, u "relationshipSteps"), (0, u "(Ljava/lang/String;)I"), (3, u "law"), (0, u "(IJJI)Z")] 4

def k1m0 : Method := { name := "<init>", desc := "()V", sig := { parameters := [], returnType := none }, accessFlags := 1, code := none }
def k1c1 : Code := { maxStack := 4, maxLocals := 5, code := method_2_code, exceptionTable := #[], attributes := #[] }
def k1m1 : Method := { name := "pick", desc := "(JIII)C", sig := { parameters := [.long, .int, .int, .int], returnType := some .char }, accessFlags := 10, code := some k1c1 }
def k1c2 : Code := { maxStack := 2, maxLocals := 3, code := method_3_code, exceptionTable := #[], attributes := #[] }
def k1m2 : Method := { name := "dot", desc := "(CII)I", sig := { parameters := [.char, .int, .int], returnType := some .int }, accessFlags := 10, code := some k1c2 }
def k1c3 : Code := { maxStack := 5, maxLocals := 18, code := code, exceptionTable := #[], attributes := #[] }
def k1m3 : Method := { name := "law", desc := "(IJJI)Z", sig := { parameters := [.int, .long, .long, .int], returnType := some .boolean }, accessFlags := 9, code := some k1c3 }
/-- com/example/filter_to_where/filtertowhere/tree/LimitsRelationshipStepsPinLaw -/
def k1 : Class := { plain "com/example/filter_to_where/filtertowhere/tree/LimitsRelationshipStepsPinLaw" (some 0) with
  accessFlags := 49
  interfaces := #[]
  cf := some (fileOf pool1 11 #[] #[{ accessFlags := 1, nameIndex := 5, descriptorIndex := 6, attributes := #[] }, { accessFlags := 10, nameIndex := 14, descriptorIndex := 15, attributes := #[] }, { accessFlags := 10, nameIndex := 23, descriptorIndex := 24, attributes := #[] }, { accessFlags := 9, nameIndex := 34, descriptorIndex := 35, attributes := #[] }] 49 2 #[] #[])
  fields := #[]
  methods := #[k1m0, k1m1, k1m2, k1m3]
  instanceTypes := #[]
  staticTypes := #[]
  resolved := Array.replicate 40 none
  statics := none }

def pool2 : Array CpInfo := pool [(1, .class_ 2), (0, u "java/io/Serializable"), (0, .class_ 4), (0, u "java/lang/Object")] 2

/-- java/io/Serializable -/
def k2 : Class := { plain "java/io/Serializable" (some 0) with
  accessFlags := 1537
  interfaces := #[]
  cf := some (fileOf pool2 1 #[] #[] 1537 3 #[] #[])
  fields := #[]
  methods := #[]
  instanceTypes := #[]
  staticTypes := #[]
  resolved := Array.replicate 7 none
  statics := none }

def pool3 : Array CpInfo := pool [(1, .class_ 2), (0, u "java/lang/Comparable"), (0, .class_ 4), (0, u "java/lang/Object")] 7

/-- java/lang/Comparable -/
def k3 : Class := { plain "java/lang/Comparable" (some 0) with
  accessFlags := 1537
  interfaces := #[]
  cf := some (fileOf pool3 1 #[] #[] 1537 3 #[] #[])
  fields := #[]
  methods := #[]
  instanceTypes := #[]
  staticTypes := #[]
  resolved := Array.replicate 12 none
  statics := none }

def pool4 : Array CpInfo := pool [(2, .class_ 4), (1, u "java/lang/CharSequence"), (42, .class_ 48), (0, u "java/lang/CharSequence$1CodePointIterator"), (10, .class_ 60), (0, u "java/lang/CharSequence$1CharIterator"), (5, .class_ 67), (0, u "java/lang/Object")] 63

/-- java/lang/CharSequence -/
def k4 : Class := { plain "java/lang/CharSequence" (some 0) with
  accessFlags := 1537
  interfaces := #[]
  cf := some (fileOf pool4 2 #[.nestMembers #[47, 59]] #[] 1537 66 #[] #[])
  fields := #[]
  methods := #[]
  instanceTypes := #[]
  staticTypes := #[]
  resolved := Array.replicate 131 none
  statics := none }

def pool5 : Array CpInfo := pool [(1, .class_ 2), (0, u "java/lang/constant/Constable"), (0, .class_ 4), (0, u "java/lang/Object")] 6

/-- java/lang/constant/Constable -/
def k5 : Class := { plain "java/lang/constant/Constable" (some 0) with
  accessFlags := 1537
  interfaces := #[]
  cf := some (fileOf pool5 1 #[] #[] 1537 3 #[] #[])
  fields := #[]
  methods := #[]
  instanceTypes := #[]
  staticTypes := #[]
  resolved := Array.replicate 11 none
  statics := none }

def pool6 : Array CpInfo := pool [(1, .class_ 2), (0, u "java/lang/constant/ConstantDesc"), (0, .class_ 4), (0, u "java/lang/Object")] 32

/-- java/lang/constant/ConstantDesc -/
def k6 : Class := { plain "java/lang/constant/ConstantDesc" (some 0) with
  accessFlags := 1537
  interfaces := #[]
  cf := some (fileOf pool6 1 #[] #[] 1537 3 #[] #[])
  fields := #[]
  methods := #[]
  instanceTypes := #[]
  staticTypes := #[]
  resolved := Array.replicate 37 none
  statics := none }

def pool7 : Array CpInfo := pool [(1, .methodref 2 3), (0, .class_ 4), (0, .nameAndType 5 6), (0, u "java/lang/Object"), (0, u "<init>"), (0, u "()V"), (0, .string 8), (0, u ""), (0, .fieldref 10 11), (0, .class_ 12), (0, .nameAndType 13 14), (0, u "java/lang/String"), (0, u "value"), (0, u "[B"), (0, .fieldref 10 16), (0, .nameAndType 17 18), (0, u "coder"), (0, u "B"), (2, u "hash"), (0, u "I"), (2, u "hashIsZero"), (0, u "Z"), (0, .methodref 10 28), (0, .nameAndType 5 29), (0, u "([CIILjava/lang/Void;)V"), (8, .fieldref 10 39), (0, .nameAndType 40 26), (0, u "COMPACT_STRINGS"), (1, .class_ 44), (1, u "java/lang/StringUTF16"), (0, u "compress"), (1, .methodref 42 48), (0, .nameAndType 49 50), (0, u "coderFromArrayLen"), (0, u "([BI)B"), (56, .class_ 109), (1, u "java/lang/StringLatin1"), (32, u "()Z"), (34, .methodref 42 178), (0, .nameAndType 45 179), (0, u "([CII)[B"), (154, u "()I"), (0, .methodref 10 336), (0, .nameAndType 17 337), (0, u "()B"), (154, .methodref 10 493), (0, .nameAndType 494 142), (0, u "isLatin1"), (10, .methodref 10 506), (0, .nameAndType 507 334), (0, u "length"), (5, u "checkFromToIndex"), (9, u "checkBoundsBeginEnd"), (0, u "(III)V"), (50, .class_ 576), (0, u "java/lang/CharSequence"), (22, u "CASE_INSENSITIVE_ORDER"), (0, u "Ljava/util/Comparator;"), (32, .methodref 10 634), (0, .nameAndType 635 636), (0, u "indexOf"), (0, u "(II)I"), (0, .methodref 107 638), (0, .nameAndType 635 639), (0, u "([BIII)I"), (0, .methodref 42 638), (124, u "(I)I"), (244, u "([C)V"), (42, .fieldref 1054 1055), (0, .class_ 1056), (0, .nameAndType 1057 1058), (0, u "jdk/internal/util/Preconditions"), (0, u "SIOOBE_FORMATTER"), (0, u "Ljava/util/function/BiFunction;"), (3, .methodref 1054 1063), (0, .nameAndType 513 1064), (0, u "(IIILjava/util/function/BiFunction;)I"), (36, u "serialPersistentFields"), (0, u "[Ljava/io/ObjectStreamField;"), (0, .class_ 1104), (0, u "java/lang/String$CaseInsensitiveComparator"), (1, .class_ 1107), (0, u "java/io/Serializable"), (0, .class_ 1109), (0, u "java/lang/Comparable"), (0, .class_ 1111), (0, u "java/lang/constant/Constable"), (0, .class_ 1113), (0, u "java/lang/constant/ConstantDesc"), (2, u "serialVersionUID"), (0, u "J"), (3, u "REPL"), (0, u "C"), (2, u "LATIN1"), (1, u "UTF16")] 323

def k7m0 : Method := { name := "<init>", desc := "()V", sig := { parameters := [], returnType := none }, accessFlags := 1, code := none }
def k7c1 : Code := { maxStack := 5, maxLocals := 2, code := jdk_42_method_3_code, exceptionTable := #[], attributes := #[] }
def k7m1 : Method := { name := "<init>", desc := "([C)V", sig := { parameters := [(.array .char)], returnType := none }, accessFlags := 1, code := some k7c1 }
def k7c2 : Code := { maxStack := 2, maxLocals := 1, code := jdk_42_method_54_code, exceptionTable := #[], attributes := #[] }
def k7m2 : Method := { name := "length", desc := "()I", sig := { parameters := [], returnType := some .int }, accessFlags := 1, code := some k7c2 }
def k7c3 : Code := { maxStack := 3, maxLocals := 2, code := jdk_42_method_79_code, exceptionTable := #[], attributes := #[] }
def k7m3 : Method := { name := "indexOf", desc := "(I)I", sig := { parameters := [.int], returnType := some .int }, accessFlags := 1, code := some k7c3 }
def k7c4 : Code := { maxStack := 4, maxLocals := 3, code := jdk_42_method_80_code, exceptionTable := #[], attributes := #[] }
def k7m4 : Method := { name := "indexOf", desc := "(II)I", sig := { parameters := [.int, .int], returnType := some .int }, accessFlags := 1, code := some k7c4 }
def k7c5 : Code := { maxStack := 4, maxLocals := 6, code := jdk_42_method_149_code, exceptionTable := #[], attributes := #[] }
def k7m5 : Method := { name := "<init>", desc := "([CIILjava/lang/Void;)V", sig := { parameters := [(.array .char), .int, .int, (.object "java/lang/Void")], returnType := none }, accessFlags := 2, code := some k7c5 }
def k7c6 : Code := { maxStack := 1, maxLocals := 1, code := jdk_42_method_152_code, exceptionTable := #[], attributes := #[] }
def k7m6 : Method := { name := "coder", desc := "()B", sig := { parameters := [], returnType := some .byte }, accessFlags := 0, code := some k7c6 }
def k7c7 : Code := { maxStack := 1, maxLocals := 1, code := jdk_42_method_154_code, exceptionTable := #[], attributes := #[] }
def k7m7 : Method := { name := "isLatin1", desc := "()Z", sig := { parameters := [], returnType := some .boolean }, accessFlags := 0, code := some k7c7 }
def k7c8 : Code := { maxStack := 4, maxLocals := 3, code := jdk_42_method_158_code, exceptionTable := #[], attributes := #[] }
def k7m8 : Method := { name := "checkBoundsBeginEnd", desc := "(III)V", sig := { parameters := [.int, .int, .int], returnType := none }, accessFlags := 8, code := some k7c8 }
/-- java/lang/String -/
def k7 : Class := { plain "java/lang/String" (some 0) with
  accessFlags := 49
  interfaces := #[2, 3, 4, 5, 6]
  cf := some (fileOf pool7 10 #[.nestMembers #[1103]] #[{ accessFlags := 1, nameIndex := 5, descriptorIndex := 6, attributes := #[] }, { accessFlags := 1, nameIndex := 5, descriptorIndex := 1010, attributes := #[] }, { accessFlags := 1, nameIndex := 507, descriptorIndex := 334, attributes := #[] }, { accessFlags := 1, nameIndex := 635, descriptorIndex := 765, attributes := #[] }, { accessFlags := 1, nameIndex := 635, descriptorIndex := 636, attributes := #[] }, { accessFlags := 2, nameIndex := 5, descriptorIndex := 29, attributes := #[] }, { accessFlags := 0, nameIndex := 17, descriptorIndex := 337, attributes := #[] }, { accessFlags := 0, nameIndex := 494, descriptorIndex := 142, attributes := #[] }, { accessFlags := 8, nameIndex := 523, descriptorIndex := 524, attributes := #[] }] 49 2 #[1106, 1108, 575, 1110, 1112] #[{ accessFlags := 18, nameIndex := 13, descriptorIndex := 14, attributes := #[] }, { accessFlags := 18, nameIndex := 17, descriptorIndex := 18, attributes := #[] }, { accessFlags := 2, nameIndex := 21, descriptorIndex := 22, attributes := #[] }, { accessFlags := 2, nameIndex := 25, descriptorIndex := 26, attributes := #[] }, { accessFlags := 26, nameIndex := 1116, descriptorIndex := 1117, attributes := #[] }, { accessFlags := 24, nameIndex := 40, descriptorIndex := 26, attributes := #[] }, { accessFlags := 26, nameIndex := 1101, descriptorIndex := 1102, attributes := #[] }, { accessFlags := 26, nameIndex := 1121, descriptorIndex := 1122, attributes := #[] }, { accessFlags := 25, nameIndex := 599, descriptorIndex := 600, attributes := #[] }, { accessFlags := 24, nameIndex := 1125, descriptorIndex := 18, attributes := #[] }, { accessFlags := 24, nameIndex := 1127, descriptorIndex := 18, attributes := #[] }])
  fields := #[{ name := "value", type := (.array .byte), accessFlags := 18, slot := 0, constantValue := 0 }, { name := "coder", type := .byte, accessFlags := 18, slot := 1, constantValue := 0 }, { name := "hash", type := .int, accessFlags := 2, slot := 2, constantValue := 0 }, { name := "hashIsZero", type := .boolean, accessFlags := 2, slot := 3, constantValue := 0 }, { name := "serialVersionUID", type := .long, accessFlags := 26, slot := 0, constantValue := 0 }, { name := "COMPACT_STRINGS", type := .boolean, accessFlags := 24, slot := 1, constantValue := 0 }, { name := "serialPersistentFields", type := (.array (.object "java/io/ObjectStreamField")), accessFlags := 26, slot := 2, constantValue := 0 }, { name := "REPL", type := .char, accessFlags := 26, slot := 3, constantValue := 0 }, { name := "CASE_INSENSITIVE_ORDER", type := (.object "java/util/Comparator"), accessFlags := 25, slot := 4, constantValue := 0 }, { name := "LATIN1", type := .byte, accessFlags := 24, slot := 5, constantValue := 0 }, { name := "UTF16", type := .byte, accessFlags := 24, slot := 6, constantValue := 0 }]
  methods := #[k7m0, k7m1, k7m2, k7m3, k7m4, k7m5, k7m6, k7m7, k7m8]
  instanceTypes := #[(.array .byte), .byte, .int, .boolean]
  staticTypes := #[.long, .boolean, (.array (.object "java/io/ObjectStreamField")), .char, (.object "java/util/Comparator"), .byte, .byte]
  resolved := Array.replicate 1451 none
  statics := some 0 }

def pool8 : Array CpInfo := pool [(2, .class_ 4), (1, u "java/lang/Object"), (0, u "<init>"), (0, u "()V"), (0, .class_ 8), (0, u "java/lang/Record")] 13

def k8m0 : Method := { name := "<init>", desc := "()V", sig := { parameters := [], returnType := none }, accessFlags := 4, code := none }
/-- java/lang/Record -/
def k8 : Class := { plain "java/lang/Record" (some 0) with
  accessFlags := 1057
  interfaces := #[]
  cf := some (fileOf pool8 7 #[] #[{ accessFlags := 4, nameIndex := 5, descriptorIndex := 6, attributes := #[] }] 1057 2 #[] #[])
  fields := #[]
  methods := #[k8m0]
  instanceTypes := #[]
  staticTypes := #[]
  resolved := Array.replicate 22 none
  statics := none }

def pool9 : Array CpInfo := pool [(2, .class_ 4), (1, u "java/lang/Record"), (26, .class_ 33), (1, u "com/example/filter_to_where/filtertowhere/tree/Limits"), (0, u "maxTextLength"), (0, u "I"), (2, u "maxConditions"), (2, u "maxDepth"), (2, u "maxListMembers"), (2, u "maxPathElements"), (2, u "maxRelationshipSteps"), (0, .methodref 52 53), (0, .class_ 54), (0, .nameAndType 55 56), (0, u "java/lang/String"), (0, u "indexOf"), (0, u "(I)I"), (0, .methodref 52 58), (0, .nameAndType 55 59), (0, u "(II)I"), (18, u "DEFAULT"), (0, u "Lcom/example/filter_to_where/filtertowhere/tree/Limits;"), (4, u "relationshipSteps"), (0, u "(Ljava/lang/String;)I")] 57

def k9c0 : Code := { maxStack := 4, maxLocals := 3, code := prog_52_method_2_code, exceptionTable := #[], attributes := #[] }
def k9m0 : Method := { name := "relationshipSteps", desc := "(Ljava/lang/String;)I", sig := { parameters := [(.object "java/lang/String")], returnType := some .int }, accessFlags := 9, code := some k9c0 }
/-- com/example/filter_to_where/filtertowhere/tree/Limits -/
def k9 : Class := { plain "com/example/filter_to_where/filtertowhere/tree/Limits" (some 8) with
  accessFlags := 49
  interfaces := #[]
  cf := some (fileOf pool9 31 #[] #[{ accessFlags := 9, nameIndex := 84, descriptorIndex := 85, attributes := #[] }] 49 2 #[] #[{ accessFlags := 18, nameIndex := 34, descriptorIndex := 35, attributes := #[] }, { accessFlags := 18, nameIndex := 38, descriptorIndex := 35, attributes := #[] }, { accessFlags := 18, nameIndex := 41, descriptorIndex := 35, attributes := #[] }, { accessFlags := 18, nameIndex := 44, descriptorIndex := 35, attributes := #[] }, { accessFlags := 18, nameIndex := 47, descriptorIndex := 35, attributes := #[] }, { accessFlags := 18, nameIndex := 50, descriptorIndex := 35, attributes := #[] }, { accessFlags := 25, nameIndex := 78, descriptorIndex := 79, attributes := #[] }])
  fields := #[{ name := "maxTextLength", type := .int, accessFlags := 18, slot := 0, constantValue := 0 }, { name := "maxConditions", type := .int, accessFlags := 18, slot := 1, constantValue := 0 }, { name := "maxDepth", type := .int, accessFlags := 18, slot := 2, constantValue := 0 }, { name := "maxListMembers", type := .int, accessFlags := 18, slot := 3, constantValue := 0 }, { name := "maxPathElements", type := .int, accessFlags := 18, slot := 4, constantValue := 0 }, { name := "maxRelationshipSteps", type := .int, accessFlags := 18, slot := 5, constantValue := 0 }, { name := "DEFAULT", type := (.object "com/example/filter_to_where/filtertowhere/tree/Limits"), accessFlags := 25, slot := 0, constantValue := 0 }]
  methods := #[k9m0]
  instanceTypes := #[.int, .int, .int, .int, .int, .int]
  staticTypes := #[(.object "com/example/filter_to_where/filtertowhere/tree/Limits")]
  resolved := Array.replicate 143 none
  statics := none }

def pool10 : Array CpInfo := pool [(4, .class_ 6), (1, u "java/lang/Object"), (0, u "<init>"), (0, u "()V"), (5, .class_ 16), (1, u "java/lang/StringLatin1"), (21, .methodref 39 40), (0, .class_ 41), (0, .nameAndType 42 43), (0, u "java/lang/Math"), (0, u "min"), (0, u "(II)I"), (44, .methodref 14 89), (0, .nameAndType 90 91), (0, u "canEncode"), (0, u "(I)Z"), (0, .methodref 39 93), (0, .nameAndType 94 43), (0, u "max"), (0, .methodref 14 96), (0, .nameAndType 97 98), (0, u "indexOfChar"), (0, u "([BIII)I"), (2, u "indexOf"), (19, u "$assertionsDisabled"), (0, u "Z"), (98, .class_ 223), (1, u "java/lang/StringLatin1$LinesSpliterator"), (166, .class_ 391), (0, u "java/lang/StringLatin1$CharsSpliterator")] 3

def k10m0 : Method := { name := "<init>", desc := "()V", sig := { parameters := [], returnType := none }, accessFlags := 0, code := none }
def k10c1 : Code := { maxStack := 2, maxLocals := 1, code := jdk_43_method_4_code, exceptionTable := #[], attributes := #[] }
def k10m1 : Method := { name := "canEncode", desc := "(I)Z", sig := { parameters := [.int], returnType := some .boolean }, accessFlags := 9, code := some k10c1 }
def k10c2 : Code := { maxStack := 4, maxLocals := 4, code := jdk_43_method_22_code, exceptionTable := #[], attributes := #[] }
def k10m2 : Method := { name := "indexOf", desc := "([BIII)I", sig := { parameters := [(.array .byte), .int, .int, .int], returnType := some .int }, accessFlags := 9, code := some k10c2 }
def k10c3 : Code := { maxStack := 2, maxLocals := 6, code := jdk_43_method_23_code, exceptionTable := #[], attributes := #[] }
def k10m3 : Method := { name := "indexOfChar", desc := "([BIII)I", sig := { parameters := [(.array .byte), .int, .int, .int], returnType := some .int }, accessFlags := 10, code := some k10c3 }
/-- java/lang/StringLatin1 -/
def k10 : Class := { plain "java/lang/StringLatin1" (some 0) with
  accessFlags := 48
  interfaces := #[]
  cf := some (fileOf pool10 14 #[.nestMembers #[390, 221]] #[{ accessFlags := 0, nameIndex := 7, descriptorIndex := 8, attributes := #[] }, { accessFlags := 9, nameIndex := 90, descriptorIndex := 91, attributes := #[] }, { accessFlags := 9, nameIndex := 101, descriptorIndex := 98, attributes := #[] }, { accessFlags := 10, nameIndex := 97, descriptorIndex := 98, attributes := #[] }] 48 4 #[] #[{ accessFlags := 4120, nameIndex := 121, descriptorIndex := 122, attributes := #[] }])
  fields := #[{ name := "$assertionsDisabled", type := .boolean, accessFlags := 4120, slot := 0, constantValue := 0 }]
  methods := #[k10m0, k10m1, k10m2, k10m3]
  instanceTypes := #[]
  staticTypes := #[.boolean]
  resolved := Array.replicate 395 none
  statics := none }

def pool11 : Array CpInfo := pool [(1, .class_ 2), (0, u "java/lang/Math"), (1, .class_ 6), (1, u "java/lang/Object"), (0, u "<init>"), (0, u "()V"), (89, .class_ 100), (1, u "java/lang/Math$RandomNumberGeneratorHolder"), (71, u "negativeZeroFloatBits"), (0, u "J"), (2, u "negativeZeroDoubleBits"), (21, u "max"), (2, u "min"), (43, u "$assertionsDisabled"), (0, u "Z"), (88, u "(II)I"), (2, u "twoToTheDoubleScaleDown"), (0, u "D"), (4, u "twoToTheDoubleScaleUp"), (9, u "E"), (3, u "PI"), (2, u "TAU"), (2, u "DEGREES_TO_RADIANS"), (0, u "RADIANS_TO_DEGREES")] 94

def k11m0 : Method := { name := "<init>", desc := "()V", sig := { parameters := [], returnType := none }, accessFlags := 2, code := none }
def k11c1 : Code := { maxStack := 2, maxLocals := 2, code := jdk_29_method_65_code, exceptionTable := #[], attributes := #[] }
def k11m1 : Method := { name := "max", desc := "(II)I", sig := { parameters := [.int, .int], returnType := some .int }, accessFlags := 9, code := some k11c1 }
def k11c2 : Code := { maxStack := 2, maxLocals := 2, code := jdk_29_method_69_code, exceptionTable := #[], attributes := #[] }
def k11m2 : Method := { name := "min", desc := "(II)I", sig := { parameters := [.int, .int], returnType := some .int }, accessFlags := 9, code := some k11c2 }
/-- java/lang/Math -/
def k11 : Class := { plain "java/lang/Math" (some 0) with
  accessFlags := 49
  interfaces := #[]
  cf := some (fileOf pool11 1 #[.nestMembers #[98]] #[{ accessFlags := 2, nameIndex := 7, descriptorIndex := 8, attributes := #[] }, { accessFlags := 9, nameIndex := 198, descriptorIndex := 335, attributes := #[] }, { accessFlags := 9, nameIndex := 201, descriptorIndex := 335, attributes := #[] }] 49 4 #[] #[{ accessFlags := 25, nameIndex := 354, descriptorIndex := 339, attributes := #[] }, { accessFlags := 25, nameIndex := 358, descriptorIndex := 339, attributes := #[] }, { accessFlags := 25, nameIndex := 361, descriptorIndex := 339, attributes := #[] }, { accessFlags := 26, nameIndex := 364, descriptorIndex := 339, attributes := #[] }, { accessFlags := 26, nameIndex := 365, descriptorIndex := 339, attributes := #[] }, { accessFlags := 26, nameIndex := 172, descriptorIndex := 173, attributes := #[] }, { accessFlags := 26, nameIndex := 176, descriptorIndex := 173, attributes := #[] }, { accessFlags := 8, nameIndex := 344, descriptorIndex := 339, attributes := #[] }, { accessFlags := 8, nameIndex := 338, descriptorIndex := 339, attributes := #[] }, { accessFlags := 4120, nameIndex := 245, descriptorIndex := 246, attributes := #[] }])
  fields := #[{ name := "E", type := .double, accessFlags := 25, slot := 0, constantValue := 0 }, { name := "PI", type := .double, accessFlags := 25, slot := 1, constantValue := 0 }, { name := "TAU", type := .double, accessFlags := 25, slot := 2, constantValue := 0 }, { name := "DEGREES_TO_RADIANS", type := .double, accessFlags := 26, slot := 3, constantValue := 0 }, { name := "RADIANS_TO_DEGREES", type := .double, accessFlags := 26, slot := 4, constantValue := 0 }, { name := "negativeZeroFloatBits", type := .long, accessFlags := 26, slot := 5, constantValue := 0 }, { name := "negativeZeroDoubleBits", type := .long, accessFlags := 26, slot := 6, constantValue := 0 }, { name := "twoToTheDoubleScaleUp", type := .double, accessFlags := 8, slot := 7, constantValue := 0 }, { name := "twoToTheDoubleScaleDown", type := .double, accessFlags := 8, slot := 8, constantValue := 0 }, { name := "$assertionsDisabled", type := .boolean, accessFlags := 4120, slot := 9, constantValue := 0 }]
  methods := #[k11m0, k11m1, k11m2]
  instanceTypes := #[]
  staticTypes := #[.double, .double, .double, .double, .double, .long, .long, .double, .double, .boolean]
  resolved := Array.replicate 460 none
  statics := none }

def pool12 : Array CpInfo := pool [(3, .class_ 4), (0, u "java/lang/String"), (1, .class_ 8), (1, u "java/lang/Object"), (0, u "<init>"), (0, u "()V"), (0, .methodref 12 13), (0, .class_ 14), (0, .nameAndType 15 16), (0, u "java/lang/StringUTF16"), (0, u "newBytesLength"), (0, u "(I)I"), (3, .integer 1073741823), (23, .fieldref 12 45), (0, .nameAndType 46 47), (0, u "$assertionsDisabled"), (0, u "Z"), (0, .methodref 12 49), (0, .nameAndType 50 51), (0, u "length"), (0, u "([B)I"), (7, .fieldref 12 60), (0, .nameAndType 61 62), (0, u "HI_BYTE_SHIFT"), (0, u "I"), (0, .fieldref 12 64), (0, .nameAndType 65 62), (0, u "LO_BYTE_SHIFT"), (5, .methodref 12 72), (0, .nameAndType 73 74), (0, u "getChar"), (0, u "([BI)C"), (21, .methodref 12 97), (0, .nameAndType 98 99), (0, u "checkBoundsBeginEnd"), (0, u "(II[B)V"), (7, .methodref 12 108), (0, .nameAndType 109 110), (0, u "newBytesFor"), (0, u "(I)[B"), (0, .methodref 12 112), (0, .nameAndType 113 114), (0, u "putChar"), (0, u "([BII)V"), (0, .methodref 12 116), (0, .nameAndType 117 118), (0, u "compress"), (0, u "([CI[BII)I"), (0, .methodref 12 120), (0, .nameAndType 121 122), (0, u "toBytes"), (0, u "([CII)[B"), (60, .methodref 184 185), (0, .class_ 186), (0, .nameAndType 187 188), (0, u "java/lang/Math"), (0, u "min"), (0, u "(II)I"), (35, .methodref 184 225), (0, .nameAndType 226 188), (0, u "max"), (0, .integer 65536), (0, .methodref 12 229), (0, .nameAndType 230 231), (0, u "indexOfChar"), (0, u "([BIII)I"), (9, .methodref 3 242), (0, .nameAndType 98 243), (0, u "(III)V"), (0, .methodref 12 245), (0, .nameAndType 246 231), (0, u "indexOfCharUnsafe"), (14, u "coderFromArrayLen"), (0, u "([BI)B"), (5, u "indexOf"), (100, .class_ 371), (1, u "java/lang/StringUTF16$LinesSpliterator"), (58, u "MAX_LENGTH"), (196, .class_ 628), (0, u "java/lang/StringUTF16$CodePointsSpliterator"), (0, .class_ 630), (0, u "java/lang/StringUTF16$CharsSpliterator")] 4

def k12m0 : Method := { name := "<init>", desc := "()V", sig := { parameters := [], returnType := none }, accessFlags := 0, code := none }
def k12c1 : Code := { maxStack := 1, maxLocals := 1, code := jdk_52_method_2_code, exceptionTable := #[], attributes := #[] }
def k12m1 : Method := { name := "newBytesFor", desc := "(I)[B", sig := { parameters := [.int], returnType := some (.array .byte) }, accessFlags := 9, code := some k12c1 }
def k12c2 : Code := { maxStack := 4, maxLocals := 1, code := jdk_52_method_3_code, exceptionTable := #[], attributes := #[] }
def k12m2 : Method := { name := "newBytesLength", desc := "(I)I", sig := { parameters := [.int], returnType := some .int }, accessFlags := 9, code := some k12c2 }
def k12c3 : Code := { maxStack := 4, maxLocals := 3, code := jdk_52_method_4_code, exceptionTable := #[], attributes := #[] }
def k12m3 : Method := { name := "putChar", desc := "([BII)V", sig := { parameters := [(.array .byte), .int, .int], returnType := none }, accessFlags := 8, code := some k12c3 }
def k12c4 : Code := { maxStack := 3, maxLocals := 2, code := jdk_52_method_5_code, exceptionTable := #[], attributes := #[] }
def k12m4 : Method := { name := "getChar", desc := "([BI)C", sig := { parameters := [(.array .byte), .int], returnType := some .char }, accessFlags := 8, code := some k12c4 }
def k12c5 : Code := { maxStack := 2, maxLocals := 1, code := jdk_52_method_6_code, exceptionTable := #[], attributes := #[] }
def k12m5 : Method := { name := "length", desc := "([B)I", sig := { parameters := [(.array .byte)], returnType := some .int }, accessFlags := 9, code := some k12c5 }
def k12c6 : Code := { maxStack := 4, maxLocals := 5, code := jdk_52_method_14_code, exceptionTable := #[], attributes := #[] }
def k12m6 : Method := { name := "toBytes", desc := "([CII)[B", sig := { parameters := [(.array .char), .int, .int], returnType := some (.array .byte) }, accessFlags := 9, code := some k12c6 }
def k12c7 : Code := { maxStack := 2, maxLocals := 2, code := jdk_52_method_15_code, exceptionTable := #[], attributes := #[] }
def k12m7 : Method := { name := "coderFromArrayLen", desc := "([BI)B", sig := { parameters := [(.array .byte), .int], returnType := some .byte }, accessFlags := 8, code := some k12c7 }
def k12c8 : Code := { maxStack := 5, maxLocals := 6, code := jdk_52_method_16_code, exceptionTable := #[], attributes := #[] }
def k12m8 : Method := { name := "compress", desc := "([CII)[B", sig := { parameters := [(.array .char), .int, .int], returnType := some (.array .byte) }, accessFlags := 9, code := some k12c8 }
def k12c9 : Code := { maxStack := 3, maxLocals := 7, code := jdk_52_method_21_code, exceptionTable := #[], attributes := #[] }
def k12m9 : Method := { name := "compress", desc := "([CI[BII)I", sig := { parameters := [(.array .char), .int, (.array .byte), .int, .int], returnType := some .int }, accessFlags := 9, code := some k12c9 }
def k12c10 : Code := { maxStack := 4, maxLocals := 4, code := jdk_52_method_40_code, exceptionTable := #[], attributes := #[] }
def k12m10 : Method := { name := "indexOf", desc := "([BIII)I", sig := { parameters := [(.array .byte), .int, .int, .int], returnType := some .int }, accessFlags := 9, code := some k12c10 }
def k12c11 : Code := { maxStack := 4, maxLocals := 4, code := jdk_52_method_47_code, exceptionTable := #[], attributes := #[] }
def k12m11 : Method := { name := "indexOfChar", desc := "([BIII)I", sig := { parameters := [(.array .byte), .int, .int, .int], returnType := some .int }, accessFlags := 10, code := some k12c11 }
def k12c12 : Code := { maxStack := 2, maxLocals := 5, code := jdk_52_method_48_code, exceptionTable := #[], attributes := #[] }
def k12m12 : Method := { name := "indexOfCharUnsafe", desc := "([BIII)I", sig := { parameters := [(.array .byte), .int, .int, .int], returnType := some .int }, accessFlags := 10, code := some k12c12 }
def k12c13 : Code := { maxStack := 3, maxLocals := 3, code := jdk_52_method_93_code, exceptionTable := #[], attributes := #[] }
def k12m13 : Method := { name := "checkBoundsBeginEnd", desc := "(II[B)V", sig := { parameters := [.int, .int, (.array .byte)], returnType := none }, accessFlags := 9, code := some k12c13 }
/-- java/lang/StringUTF16 -/
def k12 : Class := { plain "java/lang/StringUTF16" (some 0) with
  accessFlags := 48
  interfaces := #[]
  cf := some (fileOf pool12 12 #[.nestMembers #[627, 629, 369]] #[{ accessFlags := 0, nameIndex := 9, descriptorIndex := 10, attributes := #[] }, { accessFlags := 9, nameIndex := 109, descriptorIndex := 110, attributes := #[] }, { accessFlags := 9, nameIndex := 15, descriptorIndex := 16, attributes := #[] }, { accessFlags := 8, nameIndex := 113, descriptorIndex := 114, attributes := #[] }, { accessFlags := 8, nameIndex := 73, descriptorIndex := 74, attributes := #[] }, { accessFlags := 9, nameIndex := 50, descriptorIndex := 51, attributes := #[] }, { accessFlags := 9, nameIndex := 121, descriptorIndex := 122, attributes := #[] }, { accessFlags := 8, nameIndex := 261, descriptorIndex := 262, attributes := #[] }, { accessFlags := 9, nameIndex := 117, descriptorIndex := 122, attributes := #[] }, { accessFlags := 9, nameIndex := 117, descriptorIndex := 118, attributes := #[] }, { accessFlags := 9, nameIndex := 268, descriptorIndex := 231, attributes := #[] }, { accessFlags := 10, nameIndex := 230, descriptorIndex := 231, attributes := #[] }, { accessFlags := 10, nameIndex := 246, descriptorIndex := 231, attributes := #[] }, { accessFlags := 9, nameIndex := 98, descriptorIndex := 99, attributes := #[] }] 48 6 #[] #[{ accessFlags := 26, nameIndex := 61, descriptorIndex := 62, attributes := #[] }, { accessFlags := 26, nameIndex := 65, descriptorIndex := 62, attributes := #[] }, { accessFlags := 24, nameIndex := 430, descriptorIndex := 62, attributes := #[] }, { accessFlags := 4120, nameIndex := 46, descriptorIndex := 47, attributes := #[] }])
  fields := #[{ name := "HI_BYTE_SHIFT", type := .int, accessFlags := 26, slot := 0, constantValue := 0 }, { name := "LO_BYTE_SHIFT", type := .int, accessFlags := 26, slot := 1, constantValue := 0 }, { name := "MAX_LENGTH", type := .int, accessFlags := 24, slot := 2, constantValue := 0 }, { name := "$assertionsDisabled", type := .boolean, accessFlags := 4120, slot := 3, constantValue := 0 }]
  methods := #[k12m0, k12m1, k12m2, k12m3, k12m4, k12m5, k12m6, k12m7, k12m8, k12m9, k12m10, k12m11, k12m12, k12m13]
  instanceTypes := #[]
  staticTypes := #[.int, .int, .int, .boolean]
  resolved := Array.replicate 635 none
  statics := some 1 }

def pool13 : Array CpInfo := pool [(2, .class_ 4), (1, u "java/lang/Object"), (0, u "<init>"), (0, u "()V"), (17, .class_ 26), (1, u "jdk/internal/util/Preconditions"), (20, u "checkFromToIndex"), (7, .class_ 56), (0, u "jdk/internal/util/Preconditions$4"), (57, .class_ 115), (0, u "jdk/internal/util/Preconditions$1"), (7, u "SIOOBE_FORMATTER"), (0, u "Ljava/util/function/BiFunction;"), (0, .class_ 126), (0, u "jdk/internal/util/Preconditions$2"), (3, u "AIOOBE_FORMATTER"), (0, .class_ 132), (0, u "jdk/internal/util/Preconditions$3"), (3, u "IOOBE_FORMATTER"), (46, u "(IIILjava/util/function/BiFunction;)I")] 10

def k13m0 : Method := { name := "<init>", desc := "()V", sig := { parameters := [], returnType := none }, accessFlags := 1, code := none }
def k13c1 : Code := { maxStack := 4, maxLocals := 4, code := jdk_41_method_12_code, exceptionTable := #[], attributes := #[] }
def k13m1 : Method := { name := "checkFromToIndex", desc := "(IIILjava/util/function/BiFunction;)I", sig := { parameters := [.int, .int, .int, (.object "java/util/function/BiFunction")], returnType := some .int }, accessFlags := 9, code := some k13c1 }
/-- jdk/internal/util/Preconditions -/
def k13 : Class := { plain "jdk/internal/util/Preconditions" (some 0) with
  accessFlags := 33
  interfaces := #[]
  cf := some (fileOf pool13 24 #[.nestMembers #[55, 131, 125, 114]] #[{ accessFlags := 1, nameIndex := 5, descriptorIndex := 6, attributes := #[] }, { accessFlags := 9, nameIndex := 47, descriptorIndex := 183, attributes := #[] }] 33 2 #[] #[{ accessFlags := 25, nameIndex := 123, descriptorIndex := 124, attributes := #[] }, { accessFlags := 25, nameIndex := 130, descriptorIndex := 124, attributes := #[] }, { accessFlags := 25, nameIndex := 136, descriptorIndex := 124, attributes := #[] }])
  fields := #[{ name := "SIOOBE_FORMATTER", type := (.object "java/util/function/BiFunction"), accessFlags := 25, slot := 0, constantValue := 0 }, { name := "AIOOBE_FORMATTER", type := (.object "java/util/function/BiFunction"), accessFlags := 25, slot := 1, constantValue := 0 }, { name := "IOOBE_FORMATTER", type := (.object "java/util/function/BiFunction"), accessFlags := 25, slot := 2, constantValue := 0 }]
  methods := #[k13m0, k13m1]
  instanceTypes := #[]
  staticTypes := #[(.object "java/util/function/BiFunction"), (.object "java/util/function/BiFunction"), (.object "java/util/function/BiFunction")]
  resolved := Array.replicate 194 none
  statics := some 2 }

def pool14 : Array CpInfo := pool [(9, u "<init>"), (6, .class_ 18), (1, u "java/lang/Object"), (0, u "()V"), (1, .class_ 23), (1, u "jdk/internal/util/ArraysSupport"), (0, u "LOG2_ARRAY_LONG_INDEX_SCALE"), (0, u "I"), (2, u "U"), (0, u "Ljdk/internal/misc/Unsafe;"), (8, u "BIG_ENDIAN"), (0, u "Z"), (8, u "LOG2_BYTE_BIT_SIZE"), (4, u "LOG2_ARRAY_INT_INDEX_SCALE"), (54, u "JLA"), (0, u "Ljdk/internal/access/JavaLangAccess;"), (11, u "LOG2_ARRAY_BOOLEAN_INDEX_SCALE"), (9, u "LOG2_ARRAY_BYTE_INDEX_SCALE"), (5, u "LOG2_ARRAY_CHAR_INDEX_SCALE"), (5, u "LOG2_ARRAY_SHORT_INDEX_SCALE"), (18, u "LOG2_ARRAY_FLOAT_INDEX_SCALE"), (24, u "LOG2_ARRAY_DOUBLE_INDEX_SCALE"), (89, u "T_BOOLEAN"), (2, u "T_CHAR"), (1, u "T_FLOAT"), (1, u "T_DOUBLE"), (1, u "T_BYTE"), (1, u "T_SHORT"), (1, u "T_INT"), (1, u "T_LONG"), (1, u "SOFT_MAX_ARRAY_LENGTH")] 83

def k14m0 : Method := { name := "<init>", desc := "()V", sig := { parameters := [], returnType := none }, accessFlags := 2, code := none }
/-- jdk/internal/util/ArraysSupport -/
def k14 : Class := { plain "jdk/internal/util/ArraysSupport" (some 0) with
  accessFlags := 33
  interfaces := #[]
  cf := some (fileOf pool14 21 #[] #[{ accessFlags := 2, nameIndex := 9, descriptorIndex := 19, attributes := #[] }] 33 16 #[] #[{ accessFlags := 24, nameIndex := 28, descriptorIndex := 29, attributes := #[] }, { accessFlags := 26, nameIndex := 38, descriptorIndex := 39, attributes := #[] }, { accessFlags := 25, nameIndex := 121, descriptorIndex := 25, attributes := #[] }, { accessFlags := 25, nameIndex := 131, descriptorIndex := 25, attributes := #[] }, { accessFlags := 25, nameIndex := 137, descriptorIndex := 25, attributes := #[] }, { accessFlags := 25, nameIndex := 143, descriptorIndex := 25, attributes := #[] }, { accessFlags := 25, nameIndex := 53, descriptorIndex := 25, attributes := #[] }, { accessFlags := 25, nameIndex := 24, descriptorIndex := 25, attributes := #[] }, { accessFlags := 25, nameIndex := 162, descriptorIndex := 25, attributes := #[] }, { accessFlags := 25, nameIndex := 187, descriptorIndex := 25, attributes := #[] }, { accessFlags := 26, nameIndex := 48, descriptorIndex := 25, attributes := #[] }, { accessFlags := 25, nameIndex := 277, descriptorIndex := 25, attributes := #[] }, { accessFlags := 25, nameIndex := 280, descriptorIndex := 25, attributes := #[] }, { accessFlags := 25, nameIndex := 282, descriptorIndex := 25, attributes := #[] }, { accessFlags := 25, nameIndex := 284, descriptorIndex := 25, attributes := #[] }, { accessFlags := 25, nameIndex := 286, descriptorIndex := 25, attributes := #[] }, { accessFlags := 25, nameIndex := 288, descriptorIndex := 25, attributes := #[] }, { accessFlags := 25, nameIndex := 290, descriptorIndex := 25, attributes := #[] }, { accessFlags := 25, nameIndex := 292, descriptorIndex := 25, attributes := #[] }, { accessFlags := 26, nameIndex := 108, descriptorIndex := 109, attributes := #[] }, { accessFlags := 25, nameIndex := 294, descriptorIndex := 25, attributes := #[] }])
  fields := #[{ name := "U", type := (.object "jdk/internal/misc/Unsafe"), accessFlags := 24, slot := 0, constantValue := 0 }, { name := "BIG_ENDIAN", type := .boolean, accessFlags := 26, slot := 1, constantValue := 0 }, { name := "LOG2_ARRAY_BOOLEAN_INDEX_SCALE", type := .int, accessFlags := 25, slot := 2, constantValue := 0 }, { name := "LOG2_ARRAY_BYTE_INDEX_SCALE", type := .int, accessFlags := 25, slot := 3, constantValue := 0 }, { name := "LOG2_ARRAY_CHAR_INDEX_SCALE", type := .int, accessFlags := 25, slot := 4, constantValue := 0 }, { name := "LOG2_ARRAY_SHORT_INDEX_SCALE", type := .int, accessFlags := 25, slot := 5, constantValue := 0 }, { name := "LOG2_ARRAY_INT_INDEX_SCALE", type := .int, accessFlags := 25, slot := 6, constantValue := 0 }, { name := "LOG2_ARRAY_LONG_INDEX_SCALE", type := .int, accessFlags := 25, slot := 7, constantValue := 0 }, { name := "LOG2_ARRAY_FLOAT_INDEX_SCALE", type := .int, accessFlags := 25, slot := 8, constantValue := 0 }, { name := "LOG2_ARRAY_DOUBLE_INDEX_SCALE", type := .int, accessFlags := 25, slot := 9, constantValue := 0 }, { name := "LOG2_BYTE_BIT_SIZE", type := .int, accessFlags := 26, slot := 10, constantValue := 0 }, { name := "T_BOOLEAN", type := .int, accessFlags := 25, slot := 11, constantValue := 0 }, { name := "T_CHAR", type := .int, accessFlags := 25, slot := 12, constantValue := 0 }, { name := "T_FLOAT", type := .int, accessFlags := 25, slot := 13, constantValue := 0 }, { name := "T_DOUBLE", type := .int, accessFlags := 25, slot := 14, constantValue := 0 }, { name := "T_BYTE", type := .int, accessFlags := 25, slot := 15, constantValue := 0 }, { name := "T_SHORT", type := .int, accessFlags := 25, slot := 16, constantValue := 0 }, { name := "T_INT", type := .int, accessFlags := 25, slot := 17, constantValue := 0 }, { name := "T_LONG", type := .int, accessFlags := 25, slot := 18, constantValue := 0 }, { name := "JLA", type := (.object "jdk/internal/access/JavaLangAccess"), accessFlags := 26, slot := 19, constantValue := 0 }, { name := "SOFT_MAX_ARRAY_LENGTH", type := .int, accessFlags := 25, slot := 20, constantValue := 0 }]
  methods := #[k14m0]
  instanceTypes := #[]
  staticTypes := #[(.object "jdk/internal/misc/Unsafe"), .boolean, .int, .int, .int, .int, .int, .int, .int, .int, .int, .int, .int, .int, .int, .int, .int, .int, .int, (.object "jdk/internal/access/JavaLangAccess"), .int]
  resolved := Array.replicate 378 none
  statics := none }

def pool15 : Array CpInfo := pool [(1, u "java/lang/Cloneable"), (0, .class_ 1), (0, u "java/lang/Object"), (0, .class_ 3)] 3

/-- java/lang/Cloneable -/
def k15 : Class := { plain "java/lang/Cloneable" (some 0) with
  accessFlags := 1537
  interfaces := #[]
  cf := some (fileOf pool15 2 #[] #[] 1537 4 #[] #[])
  fields := #[]
  methods := #[]
  instanceTypes := #[]
  staticTypes := #[]
  resolved := Array.replicate 8 none
  statics := none }

/-- the primitive byte -/
def k16 : Class := { plain "byte" none with kind := .primitive 'B', accessFlags := 0x411 }
/-- [B -/
def k17 : Class := { plain "[B" (some 0) with kind := .array 16 .byte, interfaces := #[15, 2], accessFlags := 1041 }

/-- the primitive char -/
def k18 : Class := { plain "char" none with kind := .primitive 'C', accessFlags := 0x411 }
/-- [C -/
def k19 : Class := { plain "[C" (some 0) with kind := .array 18 .char, interfaces := #[15, 2], accessFlags := 1041 }

/-- the primitive int -/
def k20 : Class := { plain "int" none with kind := .primitive 'I', accessFlags := 0x411 }
/-- [I -/
def k21 : Class := { plain "[I" (some 0) with kind := .array 20 .int, interfaces := #[15, 2], accessFlags := 1041 }

def heap : Heap := #[{ cls := 7, slots := #[.long 0, .int 1, .null, .int 0, .null, .int 0, .int 0], vm := .statics 7 },
  { cls := 12, slots := #[.int 0, .int 8, .int 0, .int 1], vm := .statics 12 },
  { cls := 13, slots := #[.null, .null, .null], vm := .statics 13 }]
def classes : Array Class := #[k0, k1, k2, k3, k4, k5, k6, k7, k8, k9, k10, k11, k12, k13, k14, k15, k16, k17, k18, k19, k20, k21]
def interned : List (Array UInt16 × Addr) := []
def slotsUsed : Nat := 14
def theMethod : MethodId := ⟨1, 3⟩
def args0 : Array Value := #[.int 5, .long 7, .long 1, .int 2]
def aboutOver (below : List Frame) : State where
  vm := { classes := classes, interned := interned.toArray }
  heap := heap
  slotsUsed := slotsUsed
  threads := #[{ frames := .invoking theMethod args0 :: below }]
def below0 : List Frame := [.native { method := ⟨0, 0⟩, args := #[] }]
def about1 : State := aboutOver below0
def p0 : Program := .bare "" "" ""
def e0 : Env := launch0.env 0 0 0
theorem w_frames : about1.frames = Frame.invoking theMethod args0 :: below0 := rfl
set_option maxRecDepth 65536 in
theorem w_args : argsFit about1.vm theMethod args0 = true := by decide +kernel
set_option maxRecDepth 65536 in
theorem w_heap : heapFits about1 = true := by decide +kernel
set_option maxRecDepth 65536 in
theorem w_runnable : about1.curStatus? = some .runnable := by decide +kernel
set_option maxRecDepth 65536 in
theorem w_alone : about1.alone = true := by decide +kernel
set_option maxRecDepth 65536 in
theorem w_named : about1.methodNamed? x = some theMethod := by decide +kernel
set_option maxRecDepth 65536 in
theorem w_hears : about1.hears theMethod below0 = true := by decide +kernel
set_option maxRecDepth 65536 in
theorem w_ripe : about1.ripe theMethod args0 below0 = true := by decide +kernel
theorem w_running : about1.status = .running := rfl
set_option maxRecDepth 65536 in
theorem w_room : about1.hasRoom e0.platform room_1 = true :=
  launch0.hasRoom_least _ room_1 (by decide +kernel) (by decide +kernel) (by decide +kernel) (by decide +kernel) (by decide +kernel) (by decide +kernel)
theorem allAtoms_all (ts : List Jvm.Cond) (a : Array Jvm.Value) (st : Jvm.State) : (allAtoms ts).before a st = ts.all (fun c => c.before a st) := by
  induction ts with
  | nil => rfl
  | cons c t ih =>
    show (Jvm.Cond.and c (allAtoms t)).before a st = _
    rw [Jvm.Cond.before_and, ih, List.all_cons]
def words1 : List Jvm.Cond := Jvm.Cond.code x code maxLocals ret :: tables_1
/-- a 'code' word, met by the world's own term for the bytes: nothing is compared byte by byte -/
theorem code_word {y : MethodName} {bytes : ByteArray} {mx : Nat} {rt : Option FieldType} {a : Array Value} {s : State} {m : MethodId} {meth : Method} {c : Code} (h1 : s.methodNamed? y = some m) (h2 : s.vm.method? m = some meth) (h3 : meth.code = some c) (h4 : c.code = bytes)
    (h5 : (c.maxLocals == mx && c.exceptionTable.isEmpty && decide (c.maxStack ≤ mostOperands) && decide (meth.sig.returnType = rt) && !meth.locks && decide (parseMethodDescriptor y.desc = some meth.sig)) = true) : (Jvm.Cond.code y bytes mx rt).before a s = true := by
  simp only [Bool.and_eq_true, beq_iff_eq, Bool.not_eq_true', decide_eq_true_eq] at h5
  obtain ⟨⟨⟨⟨⟨g1, g2⟩, g3⟩, g4⟩, g5⟩, g6⟩ := h5
  simp [Cond.before, Cond.holds, Cond.value, h1, h2, h3, h4, g1, g2, g3, g4, g5, g6]
def isCode : Jvm.Cond → Bool
  | .code _ _ _ _ => true
  | _ => false
theorem all_split {L : List Jvm.Cond} {P : Jvm.Cond → Bool} (h1 : L.all (fun c => isCode c || P c) = true) (h2 : ∀ c ∈ L.filter isCode, P c = true) : L.all P = true := by
  refine List.all_eq_true.mpr fun c hc => ?_
  have h := List.all_eq_true.mp h1 c hc
  rcases Bool.eq_false_or_eq_true (isCode c) with hi | hi
  · exact h2 c (List.mem_filter.mpr ⟨hc, hi⟩)
  · simpa [hi] using h
set_option maxRecDepth 65536 in
theorem w_c0 : (Jvm.Cond.code x code maxLocals ret).before args0 about1 = true := code_word (m := ⟨1, 3⟩) (meth := k1m3) (c := k1c3) (by decide +kernel) rfl rfl rfl (by decide +kernel)
set_option maxRecDepth 65536 in
theorem w_c1 : (Jvm.Cond.code ({ cls := "com/example/filter_to_where/filtertowhere/tree/LimitsRelationshipStepsPinLaw", name := "pick", desc := "(JIII)C" } : Jvm.MethodName) method_2_code (5 : Nat) (Option.some Jvm.ClassFile.FieldType.char)).before args0 about1 = true := code_word (m := ⟨1, 1⟩) (meth := k1m1) (c := k1c1) (by decide +kernel) rfl rfl rfl (by decide +kernel)
set_option maxRecDepth 65536 in
theorem w_c2 : (Jvm.Cond.code ({ cls := "java/lang/String", name := "<init>", desc := "([C)V" } : Jvm.MethodName) jdk_42_method_3_code (2 : Nat) (Option.none : Option Jvm.ClassFile.FieldType)).before args0 about1 = true := code_word (m := ⟨7, 1⟩) (meth := k7m1) (c := k7c1) (by decide +kernel) rfl rfl rfl (by decide +kernel)
set_option maxRecDepth 65536 in
theorem w_c3 : (Jvm.Cond.code ({ cls := "java/lang/String", name := "<init>", desc := "([CIILjava/lang/Void;)V" } : Jvm.MethodName) jdk_42_method_149_code (6 : Nat) (Option.none : Option Jvm.ClassFile.FieldType)).before args0 about1 = true := code_word (m := ⟨7, 5⟩) (meth := k7m5) (c := k7c5) (by decide +kernel) rfl rfl rfl (by decide +kernel)
set_option maxRecDepth 65536 in
theorem w_c4 : (Jvm.Cond.code ({ cls := "java/lang/Object", name := "<init>", desc := "()V" } : Jvm.MethodName) object_method_1_code (1 : Nat) (Option.none : Option Jvm.ClassFile.FieldType)).before args0 about1 = true := code_word (m := ⟨0, 0⟩) (meth := k0m0) (c := k0c0) (by decide +kernel) rfl rfl rfl (by decide +kernel)
set_option maxRecDepth 65536 in
theorem w_c5 : (Jvm.Cond.code ({ cls := "com/example/filter_to_where/filtertowhere/tree/LimitsRelationshipStepsPinLaw", name := "dot", desc := "(CII)I" } : Jvm.MethodName) method_3_code (3 : Nat) (Option.some Jvm.ClassFile.FieldType.int)).before args0 about1 = true := code_word (m := ⟨1, 2⟩) (meth := k1m2) (c := k1c2) (by decide +kernel) rfl rfl rfl (by decide +kernel)
set_option maxRecDepth 65536 in
theorem w_c6 : (Jvm.Cond.code ({ cls := "com/example/filter_to_where/filtertowhere/tree/Limits", name := "relationshipSteps", desc := "(Ljava/lang/String;)I" } : Jvm.MethodName) prog_52_method_2_code (3 : Nat) (Option.some Jvm.ClassFile.FieldType.int)).before args0 about1 = true := code_word (m := ⟨9, 0⟩) (meth := k9m0) (c := k9c0) (by decide +kernel) rfl rfl rfl (by decide +kernel)
set_option maxRecDepth 65536 in
theorem w_c7 : (Jvm.Cond.code ({ cls := "java/lang/String", name := "indexOf", desc := "(I)I" } : Jvm.MethodName) jdk_42_method_79_code (2 : Nat) (Option.some Jvm.ClassFile.FieldType.int)).before args0 about1 = true := code_word (m := ⟨7, 3⟩) (meth := k7m3) (c := k7c3) (by decide +kernel) rfl rfl rfl (by decide +kernel)
set_option maxRecDepth 65536 in
theorem w_c8 : (Jvm.Cond.code ({ cls := "java/lang/String", name := "indexOf", desc := "(II)I" } : Jvm.MethodName) jdk_42_method_80_code (3 : Nat) (Option.some Jvm.ClassFile.FieldType.int)).before args0 about1 = true := code_word (m := ⟨7, 4⟩) (meth := k7m4) (c := k7c4) (by decide +kernel) rfl rfl rfl (by decide +kernel)
set_option maxRecDepth 65536 in
theorem w_c9 : (Jvm.Cond.code ({ cls := "java/lang/String", name := "isLatin1", desc := "()Z" } : Jvm.MethodName) jdk_42_method_154_code (1 : Nat) (Option.some Jvm.ClassFile.FieldType.boolean)).before args0 about1 = true := code_word (m := ⟨7, 7⟩) (meth := k7m7) (c := k7c7) (by decide +kernel) rfl rfl rfl (by decide +kernel)
set_option maxRecDepth 65536 in
theorem w_c10 : (Jvm.Cond.code ({ cls := "java/lang/String", name := "length", desc := "()I" } : Jvm.MethodName) jdk_42_method_54_code (1 : Nat) (Option.some Jvm.ClassFile.FieldType.int)).before args0 about1 = true := code_word (m := ⟨7, 2⟩) (meth := k7m2) (c := k7c2) (by decide +kernel) rfl rfl rfl (by decide +kernel)
set_option maxRecDepth 65536 in
theorem w_c11 : (Jvm.Cond.code ({ cls := "java/lang/String", name := "coder", desc := "()B" } : Jvm.MethodName) jdk_42_method_152_code (1 : Nat) (Option.some Jvm.ClassFile.FieldType.byte)).before args0 about1 = true := code_word (m := ⟨7, 6⟩) (meth := k7m6) (c := k7c6) (by decide +kernel) rfl rfl rfl (by decide +kernel)
set_option maxRecDepth 65536 in
theorem w_c12 : (Jvm.Cond.code ({ cls := "java/lang/StringLatin1", name := "indexOf", desc := "([BIII)I" } : Jvm.MethodName) jdk_43_method_22_code (4 : Nat) (Option.some Jvm.ClassFile.FieldType.int)).before args0 about1 = true := code_word (m := ⟨10, 2⟩) (meth := k10m2) (c := k10c2) (by decide +kernel) rfl rfl rfl (by decide +kernel)
set_option maxRecDepth 65536 in
theorem w_c13 : (Jvm.Cond.code ({ cls := "java/lang/StringLatin1", name := "canEncode", desc := "(I)Z" } : Jvm.MethodName) jdk_43_method_4_code (1 : Nat) (Option.some Jvm.ClassFile.FieldType.boolean)).before args0 about1 = true := code_word (m := ⟨10, 1⟩) (meth := k10m1) (c := k10c1) (by decide +kernel) rfl rfl rfl (by decide +kernel)
set_option maxRecDepth 65536 in
theorem w_c14 : (Jvm.Cond.code ({ cls := "java/lang/Math", name := "max", desc := "(II)I" } : Jvm.MethodName) jdk_29_method_65_code (2 : Nat) (Option.some Jvm.ClassFile.FieldType.int)).before args0 about1 = true := code_word (m := ⟨11, 1⟩) (meth := k11m1) (c := k11c1) (by decide +kernel) rfl rfl rfl (by decide +kernel)
set_option maxRecDepth 65536 in
theorem w_c15 : (Jvm.Cond.code ({ cls := "java/lang/Math", name := "min", desc := "(II)I" } : Jvm.MethodName) jdk_29_method_69_code (2 : Nat) (Option.some Jvm.ClassFile.FieldType.int)).before args0 about1 = true := code_word (m := ⟨11, 2⟩) (meth := k11m2) (c := k11c2) (by decide +kernel) rfl rfl rfl (by decide +kernel)
set_option maxRecDepth 65536 in
theorem w_c16 : (Jvm.Cond.code ({ cls := "java/lang/StringUTF16", name := "compress", desc := "([CII)[B" } : Jvm.MethodName) jdk_52_method_16_code (6 : Nat) (Option.some (Jvm.ClassFile.FieldType.array Jvm.ClassFile.FieldType.byte))).before args0 about1 = true := code_word (m := ⟨12, 8⟩) (meth := k12m8) (c := k12c8) (by decide +kernel) rfl rfl rfl (by decide +kernel)
set_option maxRecDepth 65536 in
theorem w_c17 : (Jvm.Cond.code ({ cls := "java/lang/StringUTF16", name := "compress", desc := "([CI[BII)I" } : Jvm.MethodName) jdk_52_method_21_code (7 : Nat) (Option.some Jvm.ClassFile.FieldType.int)).before args0 about1 = true := code_word (m := ⟨12, 9⟩) (meth := k12m9) (c := k12c9) (by decide +kernel) rfl rfl rfl (by decide +kernel)
set_option maxRecDepth 65536 in
theorem w_c18 : (Jvm.Cond.code ({ cls := "java/lang/StringUTF16", name := "coderFromArrayLen", desc := "([BI)B" } : Jvm.MethodName) jdk_52_method_15_code (2 : Nat) (Option.some Jvm.ClassFile.FieldType.byte)).before args0 about1 = true := code_word (m := ⟨12, 7⟩) (meth := k12m7) (c := k12c7) (by decide +kernel) rfl rfl rfl (by decide +kernel)
set_option maxRecDepth 65536 in
theorem w_c19 : (Jvm.Cond.code ({ cls := "java/lang/StringLatin1", name := "indexOfChar", desc := "([BIII)I" } : Jvm.MethodName) jdk_43_method_23_code (6 : Nat) (Option.some Jvm.ClassFile.FieldType.int)).before args0 about1 = true := code_word (m := ⟨10, 3⟩) (meth := k10m3) (c := k10c3) (by decide +kernel) rfl rfl rfl (by decide +kernel)
set_option maxRecDepth 65536 in
theorem w_c20 : (Jvm.Cond.code ({ cls := "java/lang/StringUTF16", name := "toBytes", desc := "([CII)[B" } : Jvm.MethodName) jdk_52_method_14_code (5 : Nat) (Option.some (Jvm.ClassFile.FieldType.array Jvm.ClassFile.FieldType.byte))).before args0 about1 = true := code_word (m := ⟨12, 6⟩) (meth := k12m6) (c := k12c6) (by decide +kernel) rfl rfl rfl (by decide +kernel)
set_option maxRecDepth 65536 in
theorem w_c21 : (Jvm.Cond.code ({ cls := "java/lang/StringUTF16", name := "newBytesFor", desc := "(I)[B" } : Jvm.MethodName) jdk_52_method_2_code (1 : Nat) (Option.some (Jvm.ClassFile.FieldType.array Jvm.ClassFile.FieldType.byte))).before args0 about1 = true := code_word (m := ⟨12, 1⟩) (meth := k12m1) (c := k12c1) (by decide +kernel) rfl rfl rfl (by decide +kernel)
set_option maxRecDepth 65536 in
theorem w_c22 : (Jvm.Cond.code ({ cls := "java/lang/StringUTF16", name := "newBytesLength", desc := "(I)I" } : Jvm.MethodName) jdk_52_method_3_code (1 : Nat) (Option.some Jvm.ClassFile.FieldType.int)).before args0 about1 = true := code_word (m := ⟨12, 2⟩) (meth := k12m2) (c := k12c2) (by decide +kernel) rfl rfl rfl (by decide +kernel)
set_option maxRecDepth 65536 in
theorem w_c23 : (Jvm.Cond.code ({ cls := "java/lang/StringUTF16", name := "putChar", desc := "([BII)V" } : Jvm.MethodName) jdk_52_method_4_code (3 : Nat) (Option.none : Option Jvm.ClassFile.FieldType)).before args0 about1 = true := code_word (m := ⟨12, 3⟩) (meth := k12m3) (c := k12c3) (by decide +kernel) rfl rfl rfl (by decide +kernel)
set_option maxRecDepth 65536 in
theorem w_c24 : (Jvm.Cond.code ({ cls := "java/lang/StringUTF16", name := "getChar", desc := "([BI)C" } : Jvm.MethodName) jdk_52_method_5_code (2 : Nat) (Option.some Jvm.ClassFile.FieldType.char)).before args0 about1 = true := code_word (m := ⟨12, 4⟩) (meth := k12m4) (c := k12c4) (by decide +kernel) rfl rfl rfl (by decide +kernel)
set_option maxRecDepth 65536 in
theorem w_c25 : (Jvm.Cond.code ({ cls := "java/lang/StringUTF16", name := "indexOf", desc := "([BIII)I" } : Jvm.MethodName) jdk_52_method_40_code (4 : Nat) (Option.some Jvm.ClassFile.FieldType.int)).before args0 about1 = true := code_word (m := ⟨12, 10⟩) (meth := k12m10) (c := k12c10) (by decide +kernel) rfl rfl rfl (by decide +kernel)
set_option maxRecDepth 65536 in
theorem w_c26 : (Jvm.Cond.code ({ cls := "java/lang/StringUTF16", name := "indexOfChar", desc := "([BIII)I" } : Jvm.MethodName) jdk_52_method_47_code (4 : Nat) (Option.some Jvm.ClassFile.FieldType.int)).before args0 about1 = true := code_word (m := ⟨12, 11⟩) (meth := k12m11) (c := k12c11) (by decide +kernel) rfl rfl rfl (by decide +kernel)
set_option maxRecDepth 65536 in
theorem w_c27 : (Jvm.Cond.code ({ cls := "java/lang/StringUTF16", name := "checkBoundsBeginEnd", desc := "(II[B)V" } : Jvm.MethodName) jdk_52_method_93_code (3 : Nat) (Option.none : Option Jvm.ClassFile.FieldType)).before args0 about1 = true := code_word (m := ⟨12, 13⟩) (meth := k12m13) (c := k12c13) (by decide +kernel) rfl rfl rfl (by decide +kernel)
set_option maxRecDepth 65536 in
theorem w_c28 : (Jvm.Cond.code ({ cls := "java/lang/StringUTF16", name := "length", desc := "([B)I" } : Jvm.MethodName) jdk_52_method_6_code (1 : Nat) (Option.some Jvm.ClassFile.FieldType.int)).before args0 about1 = true := code_word (m := ⟨12, 5⟩) (meth := k12m5) (c := k12c5) (by decide +kernel) rfl rfl rfl (by decide +kernel)
set_option maxRecDepth 65536 in
theorem w_c29 : (Jvm.Cond.code ({ cls := "java/lang/String", name := "checkBoundsBeginEnd", desc := "(III)V" } : Jvm.MethodName) jdk_42_method_158_code (3 : Nat) (Option.none : Option Jvm.ClassFile.FieldType)).before args0 about1 = true := code_word (m := ⟨7, 8⟩) (meth := k7m8) (c := k7c8) (by decide +kernel) rfl rfl rfl (by decide +kernel)
set_option maxRecDepth 65536 in
theorem w_c30 : (Jvm.Cond.code ({ cls := "jdk/internal/util/Preconditions", name := "checkFromToIndex", desc := "(IIILjava/util/function/BiFunction;)I" } : Jvm.MethodName) jdk_41_method_12_code (4 : Nat) (Option.some Jvm.ClassFile.FieldType.int)).before args0 about1 = true := code_word (m := ⟨13, 1⟩) (meth := k13m1) (c := k13c1) (by decide +kernel) rfl rfl rfl (by decide +kernel)
set_option maxRecDepth 65536 in
theorem w_c31 : (Jvm.Cond.code ({ cls := "java/lang/StringUTF16", name := "indexOfCharUnsafe", desc := "([BIII)I" } : Jvm.MethodName) jdk_52_method_48_code (5 : Nat) (Option.some Jvm.ClassFile.FieldType.int)).before args0 about1 = true := code_word (m := ⟨12, 12⟩) (meth := k12m12) (c := k12c12) (by decide +kernel) rfl rfl rfl (by decide +kernel)
def codes1 : List Jvm.Cond := [Jvm.Cond.code x code maxLocals ret, Jvm.Cond.code ({ cls := "com/example/filter_to_where/filtertowhere/tree/LimitsRelationshipStepsPinLaw", name := "pick", desc := "(JIII)C" } : Jvm.MethodName) method_2_code (5 : Nat) (Option.some Jvm.ClassFile.FieldType.char), Jvm.Cond.code ({ cls := "java/lang/String", name := "<init>", desc := "([C)V" } : Jvm.MethodName) jdk_42_method_3_code (2 : Nat) (Option.none : Option Jvm.ClassFile.FieldType), Jvm.Cond.code ({ cls := "java/lang/String", name := "<init>", desc := "([CIILjava/lang/Void;)V" } : Jvm.MethodName) jdk_42_method_149_code (6 : Nat) (Option.none : Option Jvm.ClassFile.FieldType), Jvm.Cond.code ({ cls := "java/lang/Object", name := "<init>", desc := "()V" } : Jvm.MethodName) object_method_1_code (1 : Nat) (Option.none : Option Jvm.ClassFile.FieldType), Jvm.Cond.code ({ cls := "com/example/filter_to_where/filtertowhere/tree/LimitsRelationshipStepsPinLaw", name := "dot", desc := "(CII)I" } : Jvm.MethodName) method_3_code (3 : Nat) (Option.some Jvm.ClassFile.FieldType.int), Jvm.Cond.code ({ cls := "com/example/filter_to_where/filtertowhere/tree/Limits", name := "relationshipSteps", desc := "(Ljava/lang/String;)I" } : Jvm.MethodName) prog_52_method_2_code (3 : Nat) (Option.some Jvm.ClassFile.FieldType.int), Jvm.Cond.code ({ cls := "java/lang/String", name := "indexOf", desc := "(I)I" } : Jvm.MethodName) jdk_42_method_79_code (2 : Nat) (Option.some Jvm.ClassFile.FieldType.int), Jvm.Cond.code ({ cls := "java/lang/String", name := "indexOf", desc := "(II)I" } : Jvm.MethodName) jdk_42_method_80_code (3 : Nat) (Option.some Jvm.ClassFile.FieldType.int), Jvm.Cond.code ({ cls := "java/lang/String", name := "isLatin1", desc := "()Z" } : Jvm.MethodName) jdk_42_method_154_code (1 : Nat) (Option.some Jvm.ClassFile.FieldType.boolean), Jvm.Cond.code ({ cls := "java/lang/String", name := "length", desc := "()I" } : Jvm.MethodName) jdk_42_method_54_code (1 : Nat) (Option.some Jvm.ClassFile.FieldType.int), Jvm.Cond.code ({ cls := "java/lang/String", name := "coder", desc := "()B" } : Jvm.MethodName) jdk_42_method_152_code (1 : Nat) (Option.some Jvm.ClassFile.FieldType.byte), Jvm.Cond.code ({ cls := "java/lang/StringLatin1", name := "indexOf", desc := "([BIII)I" } : Jvm.MethodName) jdk_43_method_22_code (4 : Nat) (Option.some Jvm.ClassFile.FieldType.int), Jvm.Cond.code ({ cls := "java/lang/StringLatin1", name := "canEncode", desc := "(I)Z" } : Jvm.MethodName) jdk_43_method_4_code (1 : Nat) (Option.some Jvm.ClassFile.FieldType.boolean), Jvm.Cond.code ({ cls := "java/lang/Math", name := "max", desc := "(II)I" } : Jvm.MethodName) jdk_29_method_65_code (2 : Nat) (Option.some Jvm.ClassFile.FieldType.int), Jvm.Cond.code ({ cls := "java/lang/Math", name := "min", desc := "(II)I" } : Jvm.MethodName) jdk_29_method_69_code (2 : Nat) (Option.some Jvm.ClassFile.FieldType.int), Jvm.Cond.code ({ cls := "java/lang/StringUTF16", name := "compress", desc := "([CII)[B" } : Jvm.MethodName) jdk_52_method_16_code (6 : Nat) (Option.some (Jvm.ClassFile.FieldType.array Jvm.ClassFile.FieldType.byte)), Jvm.Cond.code ({ cls := "java/lang/StringUTF16", name := "compress", desc := "([CI[BII)I" } : Jvm.MethodName) jdk_52_method_21_code (7 : Nat) (Option.some Jvm.ClassFile.FieldType.int), Jvm.Cond.code ({ cls := "java/lang/StringUTF16", name := "coderFromArrayLen", desc := "([BI)B" } : Jvm.MethodName) jdk_52_method_15_code (2 : Nat) (Option.some Jvm.ClassFile.FieldType.byte), Jvm.Cond.code ({ cls := "java/lang/StringLatin1", name := "indexOfChar", desc := "([BIII)I" } : Jvm.MethodName) jdk_43_method_23_code (6 : Nat) (Option.some Jvm.ClassFile.FieldType.int), Jvm.Cond.code ({ cls := "java/lang/StringUTF16", name := "toBytes", desc := "([CII)[B" } : Jvm.MethodName) jdk_52_method_14_code (5 : Nat) (Option.some (Jvm.ClassFile.FieldType.array Jvm.ClassFile.FieldType.byte)), Jvm.Cond.code ({ cls := "java/lang/StringUTF16", name := "newBytesFor", desc := "(I)[B" } : Jvm.MethodName) jdk_52_method_2_code (1 : Nat) (Option.some (Jvm.ClassFile.FieldType.array Jvm.ClassFile.FieldType.byte)), Jvm.Cond.code ({ cls := "java/lang/StringUTF16", name := "newBytesLength", desc := "(I)I" } : Jvm.MethodName) jdk_52_method_3_code (1 : Nat) (Option.some Jvm.ClassFile.FieldType.int), Jvm.Cond.code ({ cls := "java/lang/StringUTF16", name := "putChar", desc := "([BII)V" } : Jvm.MethodName) jdk_52_method_4_code (3 : Nat) (Option.none : Option Jvm.ClassFile.FieldType), Jvm.Cond.code ({ cls := "java/lang/StringUTF16", name := "getChar", desc := "([BI)C" } : Jvm.MethodName) jdk_52_method_5_code (2 : Nat) (Option.some Jvm.ClassFile.FieldType.char), Jvm.Cond.code ({ cls := "java/lang/StringUTF16", name := "indexOf", desc := "([BIII)I" } : Jvm.MethodName) jdk_52_method_40_code (4 : Nat) (Option.some Jvm.ClassFile.FieldType.int), Jvm.Cond.code ({ cls := "java/lang/StringUTF16", name := "indexOfChar", desc := "([BIII)I" } : Jvm.MethodName) jdk_52_method_47_code (4 : Nat) (Option.some Jvm.ClassFile.FieldType.int), Jvm.Cond.code ({ cls := "java/lang/StringUTF16", name := "checkBoundsBeginEnd", desc := "(II[B)V" } : Jvm.MethodName) jdk_52_method_93_code (3 : Nat) (Option.none : Option Jvm.ClassFile.FieldType), Jvm.Cond.code ({ cls := "java/lang/StringUTF16", name := "length", desc := "([B)I" } : Jvm.MethodName) jdk_52_method_6_code (1 : Nat) (Option.some Jvm.ClassFile.FieldType.int), Jvm.Cond.code ({ cls := "java/lang/String", name := "checkBoundsBeginEnd", desc := "(III)V" } : Jvm.MethodName) jdk_42_method_158_code (3 : Nat) (Option.none : Option Jvm.ClassFile.FieldType), Jvm.Cond.code ({ cls := "jdk/internal/util/Preconditions", name := "checkFromToIndex", desc := "(IIILjava/util/function/BiFunction;)I" } : Jvm.MethodName) jdk_41_method_12_code (4 : Nat) (Option.some Jvm.ClassFile.FieldType.int), Jvm.Cond.code ({ cls := "java/lang/StringUTF16", name := "indexOfCharUnsafe", desc := "([BIII)I" } : Jvm.MethodName) jdk_52_method_48_code (5 : Nat) (Option.some Jvm.ClassFile.FieldType.int)]
set_option maxRecDepth 65536 in
theorem codes_eq : words1.filter isCode = codes1 := rfl
theorem w_codes : ∀ c ∈ words1.filter isCode, c.before args0 about1 = true := by
  rw [codes_eq]
  intro c hc
  simp only [codes1, List.mem_cons, List.not_mem_nil, or_false] at hc
  rcases hc with rfl | rfl | rfl | rfl | rfl | rfl | rfl | rfl | rfl | rfl | rfl | rfl | rfl | rfl | rfl | rfl | rfl | rfl | rfl | rfl | rfl | rfl | rfl | rfl | rfl | rfl | rfl | rfl | rfl | rfl | rfl | rfl
  · exact w_c0
  · exact w_c1
  · exact w_c2
  · exact w_c3
  · exact w_c4
  · exact w_c5
  · exact w_c6
  · exact w_c7
  · exact w_c8
  · exact w_c9
  · exact w_c10
  · exact w_c11
  · exact w_c12
  · exact w_c13
  · exact w_c14
  · exact w_c15
  · exact w_c16
  · exact w_c17
  · exact w_c18
  · exact w_c19
  · exact w_c20
  · exact w_c21
  · exact w_c22
  · exact w_c23
  · exact w_c24
  · exact w_c25
  · exact w_c26
  · exact w_c27
  · exact w_c28
  · exact w_c29
  · exact w_c30
  · exact w_c31
set_option maxRecDepth 65536 in
theorem w_t1 : (words1.take 24).all (fun c => isCode c || c.before args0 about1) = true := by decide +kernel
set_option maxRecDepth 65536 in
theorem w_t2 : ((words1.drop 24).take 24).all (fun c => isCode c || c.before args0 about1) = true := by decide +kernel
set_option maxRecDepth 65536 in
theorem w_t3 : (((words1.drop 24).drop 24).take 24).all (fun c => isCode c || c.before args0 about1) = true := by decide +kernel
set_option maxRecDepth 65536 in
theorem w_t4 : ((((words1.drop 24).drop 24).drop 24).take 24).all (fun c => isCode c || c.before args0 about1) = true := by decide +kernel
set_option maxRecDepth 65536 in
theorem w_t5 : (((((words1.drop 24).drop 24).drop 24).drop 24).take 24).all (fun c => isCode c || c.before args0 about1) = true := by decide +kernel
set_option maxRecDepth 65536 in
theorem w_t6 : (((((words1.drop 24).drop 24).drop 24).drop 24).drop 24).all (fun c => isCode c || c.before args0 about1) = true := by decide +kernel
theorem w_tables : (allAtoms (Jvm.Cond.code x code maxLocals ret :: tables_1)).before args0 about1 = true := by
  rw [allAtoms_all]
  show words1.all (fun c => c.before args0 about1) = true
  refine all_split ?_ w_codes
  rw [← List.take_append_drop 24 words1, List.all_append, w_t1, ← List.take_append_drop 24 (words1.drop 24), List.all_append, w_t2, ← List.take_append_drop 24 ((words1.drop 24).drop 24), List.all_append, w_t3, ← List.take_append_drop 24 (((words1.drop 24).drop 24).drop 24), List.all_append, w_t4, ← List.take_append_drop 24 ((((words1.drop 24).drop 24).drop 24).drop 24), List.all_append, w_t5, w_t6]
  rfl
set_option maxRecDepth 65536 in
theorem w_rest : rest_1_c.before args0 about1 = true := by decide +kernel
set_option maxRecDepth 65536 in
theorem w_case : (Jvm.Cond.and given_1 narrow_1).before args0 about1 = true := by decide +kernel
set_option maxRecDepth 65536 in
theorem w_consts : constsHeld consts_1 about1 := Jvm.Lit.constsHeldB_iff.mp (by decide +kernel)
theorem w_applies : (headSpec (Jvm.Cond.code x code maxLocals ret :: tables_1) room_1).applies x e0.platform about1 = true :=
  (Spec.applies_iff w_frames).mpr ⟨w_running, w_runnable, w_alone, w_named, w_hears, w_ripe, w_room, w_tables⟩
theorem atStart : AtStart classFile x code maxLocals ret World_1 tables_1 room_1 Calls_1 rest_1 Pre_1 launch0 p0 e0 about1 theMethod args0 below0 :=
  ⟨lists_1, trivial, launch0.admits_env _ _ _, launch0.least_env, fairChoices_fair.cas, fairChoices_fair.clock, w_frames, w_args, w_heap, w_applies, ⟨w_consts, trivial⟩, w_rest, w_case⟩
end start1
theorem witness_1 : WitnessClaimed_1 := ⟨start1.p0, start1.e0, start1.about1, start1.theMethod, start1.args0, start1.below0, start1.atStart⟩
end Jvm.Pilot.@@N@@
