import JvmDerived
import JvmDerived.Pilot.@@N@@Statement
import JvmDerived.Pilot.@@N@@Code
set_option linter.unusedVariables false
set_option linter.unusedSimpArgs false
namespace Jvm.Pilot.@@N@@
open Jvm Jvm.ClassFile Sem Op Lib Jvm.Free Jvm.Stand Jvm.LawKit Jvm.RoadKit Bundle Jvm.Pilot.@@N@@.Jvm.D
section OwnKit
variable {p : Program} {l : Launch} {e : Env} {R : Room} {s : State} {m : MethodId} {args : Array Value} {below : List Frame} {meth : Method} {c : Code} {T : State} {locs : List Loc} {cells slots kc ks : Nat} {Q : Option Value → Heap → List Loc → Prop} {A B : State}
/-- the rest of a walk: from the state A the run comes to a return that Q describes -/
def OW (p : Program) (e : Env) (below : List Frame) (s : State) (Q : Option Value → Heap → List Loc → Prop) (kc ks : Nat) (A : State) : Prop :=
  ∃ s₂ o, Steps p.tables e below A s₂ ∧ s₂.status = .running ∧ Ended s₂ below o ∧ ∃ v L, o = .returned v ∧ Q v s₂.heap L ∧ FrameEnd s o s₂ L kc ks
theorem OW.st (h : ∀ t, Steps p.tables e below B t → Steps p.tables e below A t) (k : OW p e below s Q kc ks B) : OW p e below s Q kc ks A := by
  obtain ⟨a, o, h1, h2⟩ := k; exact ⟨a, o, h _ h1, h2⟩
theorem OW.tr (h : Steps p.tables e below A B) (k : OW p e below s Q kc ks B) : OW p e below s Q kc ks A := by
  obtain ⟨a, o, h1, h2⟩ := k; exact ⟨a, o, h.trans h1, h2⟩
theorem OW.ret (X : Stand p l e R s m args below meth c T locs cells slots) (hx : p.tables.exec = Jvm.exec) (hlk : meth.locks = false) {pc : Nat} {Ls : Array Slot} {w : Value} {t : FieldType} {i : Instr} {rest : List Value} (hret : meth.sig.returnType = some t) (hn : narrow t w = w)
    (hi : (i = .ireturn ∧ (t = .int ∨ t = .boolean ∨ t = .byte ∨ t = .char ∨ t = .short) ∧ ∃ z, w = .int z) ∨ (i = .lreturn ∧ t = .long ∧ ∃ z, w = .long z) ∨ (i = .dreturn ∧ t = .double ∧ ∃ z, w = .double z) ∨ (i = .freturn ∧ t = .float ∧ ∃ z, w = .float z) ∨ (i = .areturn ∧ t.isReference = true ∧ w.isRef = true))
    (hd : decode c.code pc = .ok (i, 1)) {h : Heap} (eT : T.heap = h) (hc : cells ≤ kc) (hs : slots ≤ ks) (q : Q (some w) h locs) : OW p e below s Q kc ks (T.setTop (mkF m pc Ls (w :: rest))) := by
  obtain ⟨fs, hr, hrun, hended, hW, hsame⟩ := X.leave (v := some w) (fun h => by rw [hret] at h; cases h) hlk
  subst eT
  exact ⟨_, _, retOut X hx hret hn hi hd hr, hrun, hended, _, _, rfl, q, ⟨_, rfl⟩, hW, hsame.mono hc hs⟩
theorem OW.retV (X : Stand p l e R s m args below meth c T locs cells slots) (hx : p.tables.exec = Jvm.exec) (hlk : meth.locks = false) {pc : Nat} {Ls : Array Slot} (hret : meth.sig.returnType = none)
    (hd : decode c.code pc = .ok (.return_, 1)) {h : Heap} (eT : T.heap = h) (hc : cells ≤ kc) (hs : slots ≤ ks) (q : Q none h locs) : OW p e below s Q kc ks (T.setTop (mkF m pc Ls [])) := by
  obtain ⟨fs, hr, hrun, hended, hW, hsame⟩ := X.leave (v := none) (fun _ => rfl) hlk
  subst eT
  exact ⟨_, _, X.returnOut hx hret hd hr, hrun, hended, _, _, rfl, q, ⟨_, rfl⟩, hW, hsame.mono hc hs⟩
/-- the same for a walk that may intern: its Stand is over 's.setVm vm0' -/
def OWW (p : Program) (e : Env) (below : List Frame) (s : State) (Q : Option Value → Heap → List Loc → Prop) (kc ks : Nat) (A : State) : Prop :=
  ∃ s₂ o, Steps p.tables e below A s₂ ∧ s₂.status = .running ∧ Ended s₂ below o ∧ ∃ v L, o = .returned v ∧ Q v s₂.heap L ∧ ReturnedEndW s o s₂ L kc ks
theorem OWW.st (h : ∀ t, Steps p.tables e below B t → Steps p.tables e below A t) (k : OWW p e below s Q kc ks B) : OWW p e below s Q kc ks A := by
  obtain ⟨a, o, h1, h2⟩ := k; exact ⟨a, o, h _ h1, h2⟩
theorem OWW.tr (h : Steps p.tables e below A B) (k : OWW p e below s Q kc ks B) : OWW p e below s Q kc ks A := by
  obtain ⟨a, o, h1, h2⟩ := k; exact ⟨a, o, h.trans h1, h2⟩
theorem OWW.ret {vm0 : Vm} {k0 : Nat} (X : Stand p l e R (s.setVm vm0) m args below meth c T locs cells slots) {h : Heap} (hS : s.Since vm0 k0) (hk : k0 ≤ h.size) (hx : p.tables.exec = Jvm.exec) (hlk : meth.locks = false) {pc : Nat} {Ls : Array Slot} {w : Value} {t : FieldType} {i : Instr} {rest : List Value} (hret : meth.sig.returnType = some t) (hn : narrow t w = w)
    (hi : (i = .ireturn ∧ (t = .int ∨ t = .boolean ∨ t = .byte ∨ t = .char ∨ t = .short) ∧ ∃ z, w = .int z) ∨ (i = .lreturn ∧ t = .long ∧ ∃ z, w = .long z) ∨ (i = .dreturn ∧ t = .double ∧ ∃ z, w = .double z) ∨ (i = .freturn ∧ t = .float ∧ ∃ z, w = .float z) ∨ (i = .areturn ∧ t.isReference = true ∧ w.isRef = true))
    (hd : decode c.code pc = .ok (i, 1)) (eT : T.heap = h) (hc : cells ≤ kc) (hs : slots ≤ ks) (q : Q (some w) h locs) : OWW p e below s Q kc ks (T.setTop (mkF m pc Ls (w :: rest))) := by
  obtain ⟨fs, hr, hrun, hended, hW, hsame⟩ := X.leave (v := some w) (fun h => by rw [hret] at h; cases h) hlk
  subst eT
  obtain ⟨g1, g2, g3⟩ := hS.ended (U := T.setFrames fs) hW hk hsame
  exact ⟨_, _, retOut X hx hret hn hi hd hr, hrun, hended, _, _, rfl, q, ⟨_, rfl⟩, g1, g2, g3.mono hc hs⟩
theorem OWW.retV {vm0 : Vm} {k0 : Nat} (X : Stand p l e R (s.setVm vm0) m args below meth c T locs cells slots) {h : Heap} (hS : s.Since vm0 k0) (hk : k0 ≤ h.size) (hx : p.tables.exec = Jvm.exec) (hlk : meth.locks = false) {pc : Nat} {Ls : Array Slot} (hret : meth.sig.returnType = none)
    (hd : decode c.code pc = .ok (.return_, 1)) (eT : T.heap = h) (hc : cells ≤ kc) (hs : slots ≤ ks) (q : Q none h locs) : OWW p e below s Q kc ks (T.setTop (mkF m pc Ls [])) := by
  obtain ⟨fs, hr, hrun, hended, hW, hsame⟩ := X.leave (v := none) (fun _ => rfl) hlk
  subst eT
  obtain ⟨g1, g2, g3⟩ := hS.ended (U := T.setFrames fs) hW hk hsame
  exact ⟨_, _, X.returnOut hx hret hd hr, hrun, hended, _, _, rfl, q, ⟨_, rfl⟩, g1, g2, g3.mono hc hs⟩
end OwnKit
section OwnWords
variable {args : Array Value} {first s : State} {o : Option Outcome} {idx : List Nat} {t : Term}
theorem own_eq_int {k : Int32} (h : (Jvm.Cond.eq t (.int k)).value args first o s idx = some true) : t.eval args first o idx s = some (.int k) := by
  obtain ⟨x, y, h1, h2, k1, k2⟩ := cmp_v (Or.inl h)
  rw [Term.int_eval] at h2
  cases h2
  obtain ⟨z, rfl⟩ := k2
  rw [h1, gotT (Cond.eq_ints h1 (Term.int_eval k)) h]
theorem own_eq_ref {u : Term} {a : Addr} (h : (Jvm.Cond.eq t u).value args first o s idx = some true) (hu : u.eval args first o idx s = some (.ref a)) : t.eval args first o idx s = some (.ref a) := by
  obtain ⟨x, y, h1, h2, k1, k2⟩ := cmp_v (Or.inl h)
  cases hu.symm.trans h2
  have q := gotT (eq_R h1 hu k2.2 rfl) h
  rw [h1, q]
theorem own_eq_dbl {n : Int64} {b : UInt64} (hb : Jvm.Unary.bitsD.apply (.long n) = some (.double b)) (h : (Jvm.Cond.eq t (.op1 .bitsD (.long n))).value args first o s idx = some true) : t.eval args first o idx s = some (.double b) := by
  obtain ⟨x, y, h1, h2, k1, k2⟩ := cmp_v (Or.inl h)
  rw [op1_f (long_at n), hb] at h2
  cases h2
  obtain ⟨z, rfl⟩ := k2
  have h3 : (Term.op1 Jvm.Unary.bitsD (.long n)).eval args first o idx s = some (.double b) := by rw [op1_f (long_at n), hb]
  simp only [Cond.value, h1, h3, Option.some.injEq, decide_eq_true_eq] at h
  rw [h1, h]
theorem own_arr {ty : FieldType} {a : Addr} {z : Int32} (ev : t.eval args s none [] s = some (.ref a)) (ha : (Jvm.Cond.arrayOf t ty).value args s none s [] = some true) (hl : (Term.length t).eval args s none [] s = some (.int z)) :
    ∃ cl : Cell, Arr s s.heap a cl ty ∧ cl.slots.size < 2 ^ 31 ∧ cl.slots.size.toInt32 = z ∧ ∀ j : Int32, ¬ j < 0 → ∀ v, (Term.elem t (.int j)).eval args s none [] s = some v → cl.slots[j.toNatClampNeg]? = some v := by
  obtain ⟨cl, A⟩ := Arr.start ev ha
  have hat := A.fin (Vm.Alike.refl _)
  have hlt : cl.slots.size < 2 ^ 31 := by
    refine Decidable.byContradiction fun q => ?_
    simp [Term.eval, ev, hat, q] at hl
  refine ⟨cl, A, hlt, ?_, fun j hj v hv => ?_⟩
  · rw [len_f ev hat hlt] at hl; exact Value.int.inj (Option.some.inj hl)
  · rw [elem_f ev (Term.int_eval j) hat hj] at hv; exact hv
end OwnWords
theorem own_oldle {Z : State} {n0 : Nat} {h : Heap} (X : Old Z n0 h) : n0 ≤ h.size := X.1 ▸ X.2.1
theorem own_cat {v : Value} (h : v.isRef = true) : v.category = 1 := by cases v <;> first | rfl | simp [Value.isRef] at h
theorem own_nar {v : Value} {t : FieldType} (h : v.isRef = true) (ht : t.isReference = true) : narrow t v = v := by cases t <;> first | (cases ht; done) | (cases v <;> first | rfl | simp [Value.isRef] at h)
theorem own_fit {v : Value} {t : FieldType} (h : v.isRef = true) (ht : t.isReference = true) : fits t v = true := by cases t <;> first | (cases ht; done) | (cases v <;> first | rfl | simp [Value.isRef] at h)

theorem own_nz {r : Int32} (h : r = 0 ∨ r = 1) : narrow .boolean (.int r) = .int r := by rcases h with rfl | rfl <;> rfl
theorem own_fz {r : Int32} (h : r = 0 ∨ r = 1) : fits .boolean (.int r) = true := by rcases h with rfl | rfl <;> rfl
theorem own_catI (z : Int32) : (Value.int z).category = 1 := rfl
theorem own_catJ (z : Int64) : (Value.long z).category = 2 := rfl
theorem own_catD (z : UInt64) : (Value.double z).category = 2 := rfl
theorem own_catR (z : Addr) : (Value.ref z).category = 1 := rfl
theorem own_catN : (Value.null).category = 1 := rfl
section OwnHeld
open Jvm.Free.SB Jvm.Free.SBG
variable {p : Program} {l : Launch} {e : Env} {R : Room} {s : State} {m : MethodId} {args : Array Value} {below : List Frame} {meth : Method} {c : Code} {T : State} {locs : List Loc} {cells slots kc ks : Nat} {Q : Option Value → Heap → List Loc → Prop} {A B : State} {Z : State} {EL : List (String × Nat)} {h0 : Heap} {a0 : Array Value}
/-- the rest of a walk that may intern, and keeps what is held of the String constants EL -/
def OWH (Z : State) (EL : List (String × Nat)) (h0 : Heap) (p : Program) (e : Env) (below : List Frame) (s : State) (Q : Option Value → Heap → List Loc → Prop) (kc ks : Nat) (A : State) : Prop :=
  ∃ s₂ o, Steps p.tables e below A s₂ ∧ s₂.status = .running ∧ Ended s₂ below o ∧ ∃ v L, o = .returned v ∧ Q v s₂.heap L ∧ CHr Z EL s.vm h0 s₂.vm s₂.heap ∧ ReturnedEndW s o s₂ L kc ks
theorem OWH.st (h : ∀ t, Steps p.tables e below B t → Steps p.tables e below A t) (k : OWH Z EL h0 p e below s Q kc ks B) : OWH Z EL h0 p e below s Q kc ks A := by
  obtain ⟨a, o, h1, h2⟩ := k; exact ⟨a, o, h _ h1, h2⟩
theorem OWH.tr (h : Steps p.tables e below A B) (k : OWH Z EL h0 p e below s Q kc ks B) : OWH Z EL h0 p e below s Q kc ks A := by
  obtain ⟨a, o, h1, h2⟩ := k; exact ⟨a, o, h.trans h1, h2⟩
theorem OWH.ret {vm0 : Vm} {k0 : Nat} (X : Stand p l e R (s.setVm vm0) m args below meth c T locs cells slots) {h : Heap} (hS : s.Since vm0 k0) (hk : k0 ≤ h.size) (hx : p.tables.exec = Jvm.exec) (hlk : meth.locks = false) (CR : CHr Z EL s.vm h0 vm0 h) (hZ : Z.Warmed39 vm0) (hEL : EW Z a0 EL) {pc : Nat} {Ls : Array Slot} {w : Value} {t : FieldType} {i : Instr} {rest : List Value} (hret : meth.sig.returnType = some t) (hn : narrow t w = w)
    (hi : (i = .ireturn ∧ (t = .int ∨ t = .boolean ∨ t = .byte ∨ t = .char ∨ t = .short) ∧ ∃ z, w = .int z) ∨ (i = .lreturn ∧ t = .long ∧ ∃ z, w = .long z) ∨ (i = .dreturn ∧ t = .double ∧ ∃ z, w = .double z) ∨ (i = .freturn ∧ t = .float ∧ ∃ z, w = .float z) ∨ (i = .areturn ∧ t.isReference = true ∧ w.isRef = true))
    (hd : decode c.code pc = .ok (i, 1)) (eT : T.heap = h) (hc : cells ≤ kc) (hs : slots ≤ ks) (q : Q (some w) h locs) : OWH Z EL h0 p e below s Q kc ks (T.setTop (mkF m pc Ls (w :: rest))) := by
  obtain ⟨fs, hr, hrun, hended, hW, hsame⟩ := X.leave (v := some w) (fun h => by rw [hret] at h; cases h) hlk
  subst eT
  have CA := CHv.at X hZ hEL CR.1
  obtain ⟨g1, g2, g3⟩ := hS.ended (U := T.setFrames fs) hW hk hsame
  exact ⟨_, _, retOut X hx hret hn hi hd hr, hrun, hended, _, _, rfl, q, CR.trans CA, ⟨_, rfl⟩, g1, g2, g3.mono hc hs⟩
theorem OWH.retV {vm0 : Vm} {k0 : Nat} (X : Stand p l e R (s.setVm vm0) m args below meth c T locs cells slots) {h : Heap} (hS : s.Since vm0 k0) (hk : k0 ≤ h.size) (hx : p.tables.exec = Jvm.exec) (hlk : meth.locks = false) (CR : CHr Z EL s.vm h0 vm0 h) (hZ : Z.Warmed39 vm0) (hEL : EW Z a0 EL) {pc : Nat} {Ls : Array Slot} (hret : meth.sig.returnType = none)
    (hd : decode c.code pc = .ok (.return_, 1)) (eT : T.heap = h) (hc : cells ≤ kc) (hs : slots ≤ ks) (q : Q none h locs) : OWH Z EL h0 p e below s Q kc ks (T.setTop (mkF m pc Ls [])) := by
  obtain ⟨fs, hr, hrun, hended, hW, hsame⟩ := X.leave (v := none) (fun _ => rfl) hlk
  subst eT
  have CA := CHv.at X hZ hEL CR.1
  obtain ⟨g1, g2, g3⟩ := hS.ended (U := T.setFrames fs) hW hk hsame
  exact ⟨_, _, X.returnOut hx hret hd hr, hrun, hended, _, _, rfl, q, CR.trans CA, ⟨_, rfl⟩, g1, g2, g3.mono hc hs⟩
/-- a String whose value isn't set yet is none of the booked ones -/
theorem own_safeS {vm : Vm} {h : Heap} {x : Addr} (hal : Z.vm.Alike vm) (E : Exa Z h x "java/lang/String") (F : Fld Z h x "java/lang/String" "value" "[B" .null) : Safe Z EL vm h x := fun Bx => by
  obtain ⟨q0, -, u, a, -, q, -, S, rfl | rfl⟩ := Bx
  · obtain ⟨cS, ⟨⟨s1, s2, s3, ⟨cv, kv, iv, s4, s4'⟩, -, s6, -, s8, -⟩, -⟩, -⟩ := S
    obtain ⟨cell, cf, k, i, f, e1, e2, e3, e4, e5, e6, e7⟩ := F
    cases (show h[q.sa]? = some q.sC from s1).symm.trans e1
    obtain ⟨kv', z4⟩ := ff_back (U := Wst Z vm h) hal s4
    have z5 := z4.symm.trans e2
    simp only [Option.some.injEq, Prod.mk.injEq] at z5
    rw [← z5.2.2.2, s8] at e7
    cases e7
  · obtain ⟨cell, k, e1, e2, e3, -, -⟩ := E
    cases (show h[q.sd]? = some q.SA from S.hd).symm.trans e1
    obtain ⟨cS, -, -, f, -⟩ := S
    have f' : vm.findClass "[B" = some q.SA.cls := f
    rw [hal.findClass] at f'
    obtain ⟨k1, q1, q2⟩ := Vm.findClass_spec f'
    obtain ⟨k2, q3, q4⟩ := Vm.findClass_spec e2
    cases q1.symm.trans q3
    exact absurd (q2.symm.trans q4) (by decide)
theorem own_neTy {h : Heap} {a b : Addr} {k1 k2 : ClassId} {t1 t2 : FieldType} {z1 z2 : Int32} {v1 v2 : List Value} {d1 d2 : Value} (A : Arv Z h a k1 t1 z1 v1 d1) (B : Arv Z h b k2 t2 z2 v2 d2) (ht : t1 ≠ t2) : a ≠ b := fun q => by
  subst q
  obtain ⟨c1, ⟨e1, ⟨-, ka, ha, ca, na⟩, -⟩, -⟩ := A
  obtain ⟨c2, ⟨e2, ⟨-, kb, hb, cb, nb⟩, -⟩, -⟩ := B
  cases e1.symm.trans e2
  cases ha.symm.trans hb
  have := na.symm.trans nb
  injection this with _ e
  exact ht e
end OwnHeld
theorem w_0 {a0 : Array Value} {Z : State} (hw : ∀ d ∈ tables_1, d.before a0 Z = true) : (Jvm.Cond.methodLink "tenorbook/book/CusipIsValidPinLaw" (7 : Nat) ({ cls := "tenorbook/book/CusipIsValidPinLaw", name := "draw", desc := "(I)C" } : Jvm.MethodName)).before a0 Z = true := hw _ (List.mem_of_getElem? (i := 0) rfl)
theorem w_1 {a0 : Array Value} {Z : State} (hw : ∀ d ∈ tables_1, d.before a0 Z = true) : (Jvm.Cond.static ({ cls := "tenorbook/book/CusipIsValidPinLaw", name := "draw", desc := "(I)C" } : Jvm.MethodName)).before a0 Z = true := hw _ (List.mem_of_getElem? (i := 1) rfl)
theorem w_2 {a0 : Array Value} {Z : State} (hw : ∀ d ∈ tables_1, d.before a0 Z = true) : (Jvm.Cond.initialized "tenorbook/book/CusipIsValidPinLaw").before a0 Z = true := hw _ (List.mem_of_getElem? (i := 2) rfl)
theorem w_3 {a0 : Array Value} {Z : State} (hw : ∀ d ∈ tables_1, d.before a0 Z = true) : (Jvm.Cond.code ({ cls := "tenorbook/book/CusipIsValidPinLaw", name := "draw", desc := "(I)C" } : Jvm.MethodName) method_3_code (1 : Nat) (Option.some Jvm.ClassFile.FieldType.char)).before a0 Z = true := hw _ (List.mem_of_getElem? (i := 3) rfl)
theorem w_4 {a0 : Array Value} {Z : State} (hw : ∀ d ∈ tables_1, d.before a0 Z = true) : (Jvm.Cond.constant "tenorbook/book/CusipIsValidPinLaw" (13 : Nat) (65535 : Int32)).before a0 Z = true := hw _ (List.mem_of_getElem? (i := 4) rfl)
theorem w_5 {a0 : Array Value} {Z : State} (hw : ∀ d ∈ tables_1, d.before a0 Z = true) : (Jvm.Cond.classLink "tenorbook/book/CusipIsValidPinLaw" (14 : Nat) "java/lang/String").before a0 Z = true := hw _ (List.mem_of_getElem? (i := 5) rfl)
theorem w_6 {a0 : Array Value} {Z : State} (hw : ∀ d ∈ tables_1, d.before a0 Z = true) : (Jvm.Cond.instantiable "java/lang/String" (4 : Nat)).before a0 Z = true := hw _ (List.mem_of_getElem? (i := 6) rfl)
theorem w_7 {a0 : Array Value} {Z : State} (hw : ∀ d ∈ tables_1, d.before a0 Z = true) : (Jvm.Cond.initialized "java/lang/String").before a0 Z = true := hw _ (List.mem_of_getElem? (i := 7) rfl)
theorem w_8 {a0 : Array Value} {Z : State} (hw : ∀ d ∈ tables_1, d.before a0 Z = true) : (Jvm.Cond.arrayClass Jvm.ClassFile.FieldType.char).before a0 Z = true := hw _ (List.mem_of_getElem? (i := 8) rfl)
theorem w_9 {a0 : Array Value} {Z : State} (hw : ∀ d ∈ tables_1, d.before a0 Z = true) : (Jvm.Cond.methodLink "tenorbook/book/CusipIsValidPinLaw" (16 : Nat) ({ cls := "java/lang/String", name := "<init>", desc := "([C)V" } : Jvm.MethodName)).before a0 Z = true := hw _ (List.mem_of_getElem? (i := 9) rfl)
theorem w_10 {a0 : Array Value} {Z : State} (hw : ∀ d ∈ tables_1, d.before a0 Z = true) : (Jvm.Cond.instanceMethod ({ cls := "java/lang/String", name := "<init>", desc := "([C)V" } : Jvm.MethodName)).before a0 Z = true := hw _ (List.mem_of_getElem? (i := 10) rfl)
theorem w_11 {a0 : Array Value} {Z : State} (hw : ∀ d ∈ tables_1, d.before a0 Z = true) : (Jvm.Cond.code ({ cls := "java/lang/String", name := "<init>", desc := "([C)V" } : Jvm.MethodName) jdk_42_method_3_code (2 : Nat) (Option.none : Option Jvm.ClassFile.FieldType)).before a0 Z = true := hw _ (List.mem_of_getElem? (i := 11) rfl)
theorem w_12 {a0 : Array Value} {Z : State} (hw : ∀ d ∈ tables_1, d.before a0 Z = true) : (Jvm.Cond.methodLink "java/lang/String" (27 : Nat) ({ cls := "java/lang/String", name := "<init>", desc := "([CIILjava/lang/Void;)V" } : Jvm.MethodName)).before a0 Z = true := hw _ (List.mem_of_getElem? (i := 12) rfl)
theorem w_13 {a0 : Array Value} {Z : State} (hw : ∀ d ∈ tables_1, d.before a0 Z = true) : (Jvm.Cond.instanceMethod ({ cls := "java/lang/String", name := "<init>", desc := "([CIILjava/lang/Void;)V" } : Jvm.MethodName)).before a0 Z = true := hw _ (List.mem_of_getElem? (i := 13) rfl)
theorem w_15 {a0 : Array Value} {Z : State} (hw : ∀ d ∈ tables_1, d.before a0 Z = true) : (Jvm.Cond.code ({ cls := "java/lang/String", name := "<init>", desc := "([CIILjava/lang/Void;)V" } : Jvm.MethodName) jdk_42_method_149_code (6 : Nat) (Option.none : Option Jvm.ClassFile.FieldType)).before a0 Z = true := hw _ (List.mem_of_getElem? (i := 15) rfl)
theorem w_16 {a0 : Array Value} {Z : State} (hw : ∀ d ∈ tables_1, d.before a0 Z = true) : (Jvm.Cond.methodLink "java/lang/String" (1 : Nat) ({ cls := "java/lang/Object", name := "<init>", desc := "()V" } : Jvm.MethodName)).before a0 Z = true := hw _ (List.mem_of_getElem? (i := 16) rfl)
theorem w_17 {a0 : Array Value} {Z : State} (hw : ∀ d ∈ tables_1, d.before a0 Z = true) : (Jvm.Cond.instanceMethod ({ cls := "java/lang/Object", name := "<init>", desc := "()V" } : Jvm.MethodName)).before a0 Z = true := hw _ (List.mem_of_getElem? (i := 17) rfl)
theorem w_18 {a0 : Array Value} {Z : State} (hw : ∀ d ∈ tables_1, d.before a0 Z = true) : (Jvm.Cond.code ({ cls := "java/lang/Object", name := "<init>", desc := "()V" } : Jvm.MethodName) object_method_1_code (1 : Nat) (Option.none : Option Jvm.ClassFile.FieldType)).before a0 Z = true := hw _ (List.mem_of_getElem? (i := 18) rfl)
theorem w_19 {a0 : Array Value} {Z : State} (hw : ∀ d ∈ tables_1, d.before a0 Z = true) : (Jvm.Cond.fieldLink "java/lang/String" (38 : Nat) "java/lang/String" "COMPACT_STRINGS" "Z").before a0 Z = true := hw _ (List.mem_of_getElem? (i := 19) rfl)
theorem w_20 {a0 : Array Value} {Z : State} (hw : ∀ d ∈ tables_1, d.before a0 Z = true) : (Jvm.Cond.methodLink "java/lang/String" (177 : Nat) ({ cls := "java/lang/StringUTF16", name := "compress", desc := "([CII)[B" } : Jvm.MethodName)).before a0 Z = true := hw _ (List.mem_of_getElem? (i := 20) rfl)
theorem w_21 {a0 : Array Value} {Z : State} (hw : ∀ d ∈ tables_1, d.before a0 Z = true) : (Jvm.Cond.static ({ cls := "java/lang/StringUTF16", name := "compress", desc := "([CII)[B" } : Jvm.MethodName)).before a0 Z = true := hw _ (List.mem_of_getElem? (i := 21) rfl)
theorem w_22 {a0 : Array Value} {Z : State} (hw : ∀ d ∈ tables_1, d.before a0 Z = true) : (Jvm.Cond.initialized "java/lang/StringUTF16").before a0 Z = true := hw _ (List.mem_of_getElem? (i := 22) rfl)
theorem w_23 {a0 : Array Value} {Z : State} (hw : ∀ d ∈ tables_1, d.before a0 Z = true) : (Jvm.Cond.code ({ cls := "java/lang/StringUTF16", name := "compress", desc := "([CII)[B" } : Jvm.MethodName) jdk_52_method_16_code (6 : Nat) (Option.some (Jvm.ClassFile.FieldType.array Jvm.ClassFile.FieldType.byte))).before a0 Z = true := hw _ (List.mem_of_getElem? (i := 23) rfl)
theorem w_24 {a0 : Array Value} {Z : State} (hw : ∀ d ∈ tables_1, d.before a0 Z = true) : (Jvm.Cond.arrayClass Jvm.ClassFile.FieldType.byte).before a0 Z = true := hw _ (List.mem_of_getElem? (i := 24) rfl)
theorem w_25 {a0 : Array Value} {Z : State} (hw : ∀ d ∈ tables_1, d.before a0 Z = true) : (Jvm.Cond.methodLink "java/lang/StringUTF16" (115 : Nat) ({ cls := "java/lang/StringUTF16", name := "compress", desc := "([CI[BII)I" } : Jvm.MethodName)).before a0 Z = true := hw _ (List.mem_of_getElem? (i := 25) rfl)
theorem w_26 {a0 : Array Value} {Z : State} (hw : ∀ d ∈ tables_1, d.before a0 Z = true) : (Jvm.Cond.static ({ cls := "java/lang/StringUTF16", name := "compress", desc := "([CI[BII)I" } : Jvm.MethodName)).before a0 Z = true := hw _ (List.mem_of_getElem? (i := 26) rfl)
theorem w_27 {a0 : Array Value} {Z : State} (hw : ∀ d ∈ tables_1, d.before a0 Z = true) : (Jvm.Cond.code ({ cls := "java/lang/StringUTF16", name := "compress", desc := "([CI[BII)I" } : Jvm.MethodName) jdk_52_method_21_code (7 : Nat) (Option.some Jvm.ClassFile.FieldType.int)).before a0 Z = true := hw _ (List.mem_of_getElem? (i := 27) rfl)
theorem w_28 {a0 : Array Value} {Z : State} (hw : ∀ d ∈ tables_1, d.before a0 Z = true) : (Jvm.Cond.methodLink "java/lang/StringUTF16" (119 : Nat) ({ cls := "java/lang/StringUTF16", name := "toBytes", desc := "([CII)[B" } : Jvm.MethodName)).before a0 Z = true := hw _ (List.mem_of_getElem? (i := 28) rfl)
theorem w_29 {a0 : Array Value} {Z : State} (hw : ∀ d ∈ tables_1, d.before a0 Z = true) : (Jvm.Cond.static ({ cls := "java/lang/StringUTF16", name := "toBytes", desc := "([CII)[B" } : Jvm.MethodName)).before a0 Z = true := hw _ (List.mem_of_getElem? (i := 29) rfl)
theorem w_30 {a0 : Array Value} {Z : State} (hw : ∀ d ∈ tables_1, d.before a0 Z = true) : (Jvm.Cond.code ({ cls := "java/lang/StringUTF16", name := "toBytes", desc := "([CII)[B" } : Jvm.MethodName) jdk_52_method_14_code (5 : Nat) (Option.some (Jvm.ClassFile.FieldType.array Jvm.ClassFile.FieldType.byte))).before a0 Z = true := hw _ (List.mem_of_getElem? (i := 30) rfl)
theorem w_31 {a0 : Array Value} {Z : State} (hw : ∀ d ∈ tables_1, d.before a0 Z = true) : (Jvm.Cond.methodLink "java/lang/StringUTF16" (107 : Nat) ({ cls := "java/lang/StringUTF16", name := "newBytesFor", desc := "(I)[B" } : Jvm.MethodName)).before a0 Z = true := hw _ (List.mem_of_getElem? (i := 31) rfl)
theorem w_32 {a0 : Array Value} {Z : State} (hw : ∀ d ∈ tables_1, d.before a0 Z = true) : (Jvm.Cond.static ({ cls := "java/lang/StringUTF16", name := "newBytesFor", desc := "(I)[B" } : Jvm.MethodName)).before a0 Z = true := hw _ (List.mem_of_getElem? (i := 32) rfl)
theorem w_33 {a0 : Array Value} {Z : State} (hw : ∀ d ∈ tables_1, d.before a0 Z = true) : (Jvm.Cond.code ({ cls := "java/lang/StringUTF16", name := "newBytesFor", desc := "(I)[B" } : Jvm.MethodName) jdk_52_method_2_code (1 : Nat) (Option.some (Jvm.ClassFile.FieldType.array Jvm.ClassFile.FieldType.byte))).before a0 Z = true := hw _ (List.mem_of_getElem? (i := 33) rfl)
theorem w_34 {a0 : Array Value} {Z : State} (hw : ∀ d ∈ tables_1, d.before a0 Z = true) : (Jvm.Cond.methodLink "java/lang/StringUTF16" (11 : Nat) ({ cls := "java/lang/StringUTF16", name := "newBytesLength", desc := "(I)I" } : Jvm.MethodName)).before a0 Z = true := hw _ (List.mem_of_getElem? (i := 34) rfl)
theorem w_35 {a0 : Array Value} {Z : State} (hw : ∀ d ∈ tables_1, d.before a0 Z = true) : (Jvm.Cond.static ({ cls := "java/lang/StringUTF16", name := "newBytesLength", desc := "(I)I" } : Jvm.MethodName)).before a0 Z = true := hw _ (List.mem_of_getElem? (i := 35) rfl)
theorem w_36 {a0 : Array Value} {Z : State} (hw : ∀ d ∈ tables_1, d.before a0 Z = true) : (Jvm.Cond.code ({ cls := "java/lang/StringUTF16", name := "newBytesLength", desc := "(I)I" } : Jvm.MethodName) jdk_52_method_3_code (1 : Nat) (Option.some Jvm.ClassFile.FieldType.int)).before a0 Z = true := hw _ (List.mem_of_getElem? (i := 36) rfl)
theorem w_37 {a0 : Array Value} {Z : State} (hw : ∀ d ∈ tables_1, d.before a0 Z = true) : (Jvm.Cond.constant "java/lang/StringUTF16" (20 : Nat) (1073741823 : Int32)).before a0 Z = true := hw _ (List.mem_of_getElem? (i := 37) rfl)
theorem w_38 {a0 : Array Value} {Z : State} (hw : ∀ d ∈ tables_1, d.before a0 Z = true) : (Jvm.Cond.methodLink "java/lang/StringUTF16" (111 : Nat) ({ cls := "java/lang/StringUTF16", name := "putChar", desc := "([BII)V" } : Jvm.MethodName)).before a0 Z = true := hw _ (List.mem_of_getElem? (i := 38) rfl)
theorem w_39 {a0 : Array Value} {Z : State} (hw : ∀ d ∈ tables_1, d.before a0 Z = true) : (Jvm.Cond.static ({ cls := "java/lang/StringUTF16", name := "putChar", desc := "([BII)V" } : Jvm.MethodName)).before a0 Z = true := hw _ (List.mem_of_getElem? (i := 39) rfl)
theorem w_40 {a0 : Array Value} {Z : State} (hw : ∀ d ∈ tables_1, d.before a0 Z = true) : (Jvm.Cond.code ({ cls := "java/lang/StringUTF16", name := "putChar", desc := "([BII)V" } : Jvm.MethodName) jdk_52_method_4_code (3 : Nat) (Option.none : Option Jvm.ClassFile.FieldType)).before a0 Z = true := hw _ (List.mem_of_getElem? (i := 40) rfl)
theorem w_41 {a0 : Array Value} {Z : State} (hw : ∀ d ∈ tables_1, d.before a0 Z = true) : (Jvm.Cond.fieldLink "java/lang/StringUTF16" (44 : Nat) "java/lang/StringUTF16" "$assertionsDisabled" "Z").before a0 Z = true := hw _ (List.mem_of_getElem? (i := 41) rfl)
theorem w_42 {a0 : Array Value} {Z : State} (hw : ∀ d ∈ tables_1, d.before a0 Z = true) : (Jvm.Cond.fieldLink "java/lang/StringUTF16" (59 : Nat) "java/lang/StringUTF16" "HI_BYTE_SHIFT" "I").before a0 Z = true := hw _ (List.mem_of_getElem? (i := 42) rfl)
theorem w_43 {a0 : Array Value} {Z : State} (hw : ∀ d ∈ tables_1, d.before a0 Z = true) : (Jvm.Cond.fieldLink "java/lang/StringUTF16" (63 : Nat) "java/lang/StringUTF16" "LO_BYTE_SHIFT" "I").before a0 Z = true := hw _ (List.mem_of_getElem? (i := 43) rfl)
theorem w_44 {a0 : Array Value} {Z : State} (hw : ∀ d ∈ tables_1, d.before a0 Z = true) : (Jvm.Cond.methodLink "java/lang/StringUTF16" (71 : Nat) ({ cls := "java/lang/StringUTF16", name := "getChar", desc := "([BI)C" } : Jvm.MethodName)).before a0 Z = true := hw _ (List.mem_of_getElem? (i := 44) rfl)
theorem w_45 {a0 : Array Value} {Z : State} (hw : ∀ d ∈ tables_1, d.before a0 Z = true) : (Jvm.Cond.static ({ cls := "java/lang/StringUTF16", name := "getChar", desc := "([BI)C" } : Jvm.MethodName)).before a0 Z = true := hw _ (List.mem_of_getElem? (i := 45) rfl)
theorem w_46 {a0 : Array Value} {Z : State} (hw : ∀ d ∈ tables_1, d.before a0 Z = true) : (Jvm.Cond.code ({ cls := "java/lang/StringUTF16", name := "getChar", desc := "([BI)C" } : Jvm.MethodName) jdk_52_method_5_code (2 : Nat) (Option.some Jvm.ClassFile.FieldType.char)).before a0 Z = true := hw _ (List.mem_of_getElem? (i := 46) rfl)
theorem w_47 {a0 : Array Value} {Z : State} (hw : ∀ d ∈ tables_1, d.before a0 Z = true) : (Jvm.Cond.methodLink "java/lang/String" (47 : Nat) ({ cls := "java/lang/StringUTF16", name := "coderFromArrayLen", desc := "([BI)B" } : Jvm.MethodName)).before a0 Z = true := hw _ (List.mem_of_getElem? (i := 47) rfl)
theorem w_48 {a0 : Array Value} {Z : State} (hw : ∀ d ∈ tables_1, d.before a0 Z = true) : (Jvm.Cond.static ({ cls := "java/lang/StringUTF16", name := "coderFromArrayLen", desc := "([BI)B" } : Jvm.MethodName)).before a0 Z = true := hw _ (List.mem_of_getElem? (i := 48) rfl)
theorem w_49 {a0 : Array Value} {Z : State} (hw : ∀ d ∈ tables_1, d.before a0 Z = true) : (Jvm.Cond.code ({ cls := "java/lang/StringUTF16", name := "coderFromArrayLen", desc := "([BI)B" } : Jvm.MethodName) jdk_52_method_15_code (2 : Nat) (Option.some Jvm.ClassFile.FieldType.byte)).before a0 Z = true := hw _ (List.mem_of_getElem? (i := 49) rfl)
theorem w_50 {a0 : Array Value} {Z : State} (hw : ∀ d ∈ tables_1, d.before a0 Z = true) : (Jvm.Cond.fieldLink "java/lang/String" (15 : Nat) "java/lang/String" "coder" "B").before a0 Z = true := hw _ (List.mem_of_getElem? (i := 50) rfl)
theorem w_51 {a0 : Array Value} {Z : State} (hw : ∀ d ∈ tables_1, d.before a0 Z = true) : (Jvm.Cond.laysFinal "java/lang/String" "java/lang/String" "coder" "B").before a0 Z = true := hw _ (List.mem_of_getElem? (i := 51) rfl)
theorem w_52 {a0 : Array Value} {Z : State} (hw : ∀ d ∈ tables_1, d.before a0 Z = true) : (Jvm.Cond.fieldLink "java/lang/String" (9 : Nat) "java/lang/String" "value" "[B").before a0 Z = true := hw _ (List.mem_of_getElem? (i := 52) rfl)
theorem w_53 {a0 : Array Value} {Z : State} (hw : ∀ d ∈ tables_1, d.before a0 Z = true) : (Jvm.Cond.laysFinal "java/lang/String" "java/lang/String" "value" "[B").before a0 Z = true := hw _ (List.mem_of_getElem? (i := 53) rfl)
theorem w_54 {a0 : Array Value} {Z : State} (hw : ∀ d ∈ tables_1, d.before a0 Z = true) : (Jvm.Cond.methodLink "tenorbook/book/CusipIsValidPinLaw" (19 : Nat) ({ cls := "tenorbook/book/CusipIsValidPinLaw", name := "reference", desc := "(CCCCCCCCC)Z" } : Jvm.MethodName)).before a0 Z = true := hw _ (List.mem_of_getElem? (i := 54) rfl)
theorem w_55 {a0 : Array Value} {Z : State} (hw : ∀ d ∈ tables_1, d.before a0 Z = true) : (Jvm.Cond.static ({ cls := "tenorbook/book/CusipIsValidPinLaw", name := "reference", desc := "(CCCCCCCCC)Z" } : Jvm.MethodName)).before a0 Z = true := hw _ (List.mem_of_getElem? (i := 55) rfl)
theorem w_56 {a0 : Array Value} {Z : State} (hw : ∀ d ∈ tables_1, d.before a0 Z = true) : (Jvm.Cond.code ({ cls := "tenorbook/book/CusipIsValidPinLaw", name := "reference", desc := "(CCCCCCCCC)Z" } : Jvm.MethodName) method_7_code (18 : Nat) (Option.some Jvm.ClassFile.FieldType.boolean)).before a0 Z = true := hw _ (List.mem_of_getElem? (i := 56) rfl)
theorem w_57 {a0 : Array Value} {Z : State} (hw : ∀ d ∈ tables_1, d.before a0 Z = true) : (Jvm.Cond.methodLink "tenorbook/book/CusipIsValidPinLaw" (32 : Nat) ({ cls := "tenorbook/book/CusipIsValidPinLaw", name := "refValue", desc := "(C)I" } : Jvm.MethodName)).before a0 Z = true := hw _ (List.mem_of_getElem? (i := 57) rfl)
theorem w_58 {a0 : Array Value} {Z : State} (hw : ∀ d ∈ tables_1, d.before a0 Z = true) : (Jvm.Cond.static ({ cls := "tenorbook/book/CusipIsValidPinLaw", name := "refValue", desc := "(C)I" } : Jvm.MethodName)).before a0 Z = true := hw _ (List.mem_of_getElem? (i := 58) rfl)
theorem w_59 {a0 : Array Value} {Z : State} (hw : ∀ d ∈ tables_1, d.before a0 Z = true) : (Jvm.Cond.code ({ cls := "tenorbook/book/CusipIsValidPinLaw", name := "refValue", desc := "(C)I" } : Jvm.MethodName) method_5_code (1 : Nat) (Option.some Jvm.ClassFile.FieldType.int)).before a0 Z = true := hw _ (List.mem_of_getElem? (i := 59) rfl)
theorem w_60 {a0 : Array Value} {Z : State} (hw : ∀ d ∈ tables_1, d.before a0 Z = true) : (Jvm.Cond.methodLink "tenorbook/book/CusipIsValidPinLaw" (23 : Nat) ({ cls := "tenorbook/book/Cusip", name := "isValid", desc := "(Ljava/lang/String;)Z" } : Jvm.MethodName)).before a0 Z = true := hw _ (List.mem_of_getElem? (i := 60) rfl)
theorem w_61 {a0 : Array Value} {Z : State} (hw : ∀ d ∈ tables_1, d.before a0 Z = true) : (Jvm.Cond.static ({ cls := "tenorbook/book/Cusip", name := "isValid", desc := "(Ljava/lang/String;)Z" } : Jvm.MethodName)).before a0 Z = true := hw _ (List.mem_of_getElem? (i := 61) rfl)
theorem w_62 {a0 : Array Value} {Z : State} (hw : ∀ d ∈ tables_1, d.before a0 Z = true) : (Jvm.Cond.initialized "tenorbook/book/Cusip").before a0 Z = true := hw _ (List.mem_of_getElem? (i := 62) rfl)
theorem w_63 {a0 : Array Value} {Z : State} (hw : ∀ d ∈ tables_1, d.before a0 Z = true) : (Jvm.Cond.code ({ cls := "tenorbook/book/Cusip", name := "isValid", desc := "(Ljava/lang/String;)Z" } : Jvm.MethodName) prog_8_method_2_code (5 : Nat) (Option.some Jvm.ClassFile.FieldType.boolean)).before a0 Z = true := hw _ (List.mem_of_getElem? (i := 63) rfl)
theorem w_64 {a0 : Array Value} {Z : State} (hw : ∀ d ∈ tables_1, d.before a0 Z = true) : (Jvm.Cond.methodLink "tenorbook/book/Cusip" (7 : Nat) ({ cls := "java/lang/String", name := "length", desc := "()I" } : Jvm.MethodName)).before a0 Z = true := hw _ (List.mem_of_getElem? (i := 64) rfl)
theorem w_65 {a0 : Array Value} {Z : State} (hw : ∀ d ∈ tables_1, d.before a0 Z = true) : (Jvm.Cond.declares ({ cls := "java/lang/String", name := "length", desc := "()I" } : Jvm.MethodName)).before a0 Z = true := hw _ (List.mem_of_getElem? (i := 65) rfl)
theorem w_66 {a0 : Array Value} {Z : State} (hw : ∀ d ∈ tables_1, d.before a0 Z = true) : (Jvm.Cond.instanceMethod ({ cls := "java/lang/String", name := "length", desc := "()I" } : Jvm.MethodName)).before a0 Z = true := hw _ (List.mem_of_getElem? (i := 66) rfl)
theorem w_67 {a0 : Array Value} {Z : State} (hw : ∀ d ∈ tables_1, d.before a0 Z = true) : (Jvm.Cond.selects "java/lang/String" ({ cls := "java/lang/String", name := "length", desc := "()I" } : Jvm.MethodName) ({ cls := "java/lang/String", name := "length", desc := "()I" } : Jvm.MethodName)).before a0 Z = true := hw _ (List.mem_of_getElem? (i := 67) rfl)
theorem w_68 {a0 : Array Value} {Z : State} (hw : ∀ d ∈ tables_1, d.before a0 Z = true) : (Jvm.Cond.code ({ cls := "java/lang/String", name := "length", desc := "()I" } : Jvm.MethodName) jdk_42_method_54_code (1 : Nat) (Option.some Jvm.ClassFile.FieldType.int)).before a0 Z = true := hw _ (List.mem_of_getElem? (i := 68) rfl)
theorem w_69 {a0 : Array Value} {Z : State} (hw : ∀ d ∈ tables_1, d.before a0 Z = true) : (Jvm.Cond.methodLink "java/lang/String" (335 : Nat) ({ cls := "java/lang/String", name := "coder", desc := "()B" } : Jvm.MethodName)).before a0 Z = true := hw _ (List.mem_of_getElem? (i := 69) rfl)
theorem w_70 {a0 : Array Value} {Z : State} (hw : ∀ d ∈ tables_1, d.before a0 Z = true) : (Jvm.Cond.declares ({ cls := "java/lang/String", name := "coder", desc := "()B" } : Jvm.MethodName)).before a0 Z = true := hw _ (List.mem_of_getElem? (i := 70) rfl)
theorem w_71 {a0 : Array Value} {Z : State} (hw : ∀ d ∈ tables_1, d.before a0 Z = true) : (Jvm.Cond.instanceMethod ({ cls := "java/lang/String", name := "coder", desc := "()B" } : Jvm.MethodName)).before a0 Z = true := hw _ (List.mem_of_getElem? (i := 71) rfl)
theorem w_72 {a0 : Array Value} {Z : State} (hw : ∀ d ∈ tables_1, d.before a0 Z = true) : (Jvm.Cond.selects "java/lang/String" ({ cls := "java/lang/String", name := "coder", desc := "()B" } : Jvm.MethodName) ({ cls := "java/lang/String", name := "coder", desc := "()B" } : Jvm.MethodName)).before a0 Z = true := hw _ (List.mem_of_getElem? (i := 72) rfl)
theorem w_73 {a0 : Array Value} {Z : State} (hw : ∀ d ∈ tables_1, d.before a0 Z = true) : (Jvm.Cond.code ({ cls := "java/lang/String", name := "coder", desc := "()B" } : Jvm.MethodName) jdk_42_method_152_code (1 : Nat) (Option.some Jvm.ClassFile.FieldType.byte)).before a0 Z = true := hw _ (List.mem_of_getElem? (i := 73) rfl)
theorem w_74 {a0 : Array Value} {Z : State} (hw : ∀ d ∈ tables_1, d.before a0 Z = true) : (Jvm.Cond.methodLink "tenorbook/book/Cusip" (15 : Nat) ({ cls := "java/lang/String", name := "charAt", desc := "(I)C" } : Jvm.MethodName)).before a0 Z = true := hw _ (List.mem_of_getElem? (i := 74) rfl)
theorem w_75 {a0 : Array Value} {Z : State} (hw : ∀ d ∈ tables_1, d.before a0 Z = true) : (Jvm.Cond.declares ({ cls := "java/lang/String", name := "charAt", desc := "(I)C" } : Jvm.MethodName)).before a0 Z = true := hw _ (List.mem_of_getElem? (i := 75) rfl)
theorem w_76 {a0 : Array Value} {Z : State} (hw : ∀ d ∈ tables_1, d.before a0 Z = true) : (Jvm.Cond.instanceMethod ({ cls := "java/lang/String", name := "charAt", desc := "(I)C" } : Jvm.MethodName)).before a0 Z = true := hw _ (List.mem_of_getElem? (i := 76) rfl)
theorem w_77 {a0 : Array Value} {Z : State} (hw : ∀ d ∈ tables_1, d.before a0 Z = true) : (Jvm.Cond.selects "java/lang/String" ({ cls := "java/lang/String", name := "charAt", desc := "(I)C" } : Jvm.MethodName) ({ cls := "java/lang/String", name := "charAt", desc := "(I)C" } : Jvm.MethodName)).before a0 Z = true := hw _ (List.mem_of_getElem? (i := 77) rfl)
theorem w_78 {a0 : Array Value} {Z : State} (hw : ∀ d ∈ tables_1, d.before a0 Z = true) : (Jvm.Cond.code ({ cls := "java/lang/String", name := "charAt", desc := "(I)C" } : Jvm.MethodName) jdk_42_method_56_code (2 : Nat) (Option.some Jvm.ClassFile.FieldType.char)).before a0 Z = true := hw _ (List.mem_of_getElem? (i := 78) rfl)
theorem w_79 {a0 : Array Value} {Z : State} (hw : ∀ d ∈ tables_1, d.before a0 Z = true) : (Jvm.Cond.methodLink "java/lang/String" (492 : Nat) ({ cls := "java/lang/String", name := "isLatin1", desc := "()Z" } : Jvm.MethodName)).before a0 Z = true := hw _ (List.mem_of_getElem? (i := 79) rfl)
theorem w_80 {a0 : Array Value} {Z : State} (hw : ∀ d ∈ tables_1, d.before a0 Z = true) : (Jvm.Cond.declares ({ cls := "java/lang/String", name := "isLatin1", desc := "()Z" } : Jvm.MethodName)).before a0 Z = true := hw _ (List.mem_of_getElem? (i := 80) rfl)
theorem w_81 {a0 : Array Value} {Z : State} (hw : ∀ d ∈ tables_1, d.before a0 Z = true) : (Jvm.Cond.instanceMethod ({ cls := "java/lang/String", name := "isLatin1", desc := "()Z" } : Jvm.MethodName)).before a0 Z = true := hw _ (List.mem_of_getElem? (i := 81) rfl)
theorem w_82 {a0 : Array Value} {Z : State} (hw : ∀ d ∈ tables_1, d.before a0 Z = true) : (Jvm.Cond.selects "java/lang/String" ({ cls := "java/lang/String", name := "isLatin1", desc := "()Z" } : Jvm.MethodName) ({ cls := "java/lang/String", name := "isLatin1", desc := "()Z" } : Jvm.MethodName)).before a0 Z = true := hw _ (List.mem_of_getElem? (i := 82) rfl)
theorem w_83 {a0 : Array Value} {Z : State} (hw : ∀ d ∈ tables_1, d.before a0 Z = true) : (Jvm.Cond.code ({ cls := "java/lang/String", name := "isLatin1", desc := "()Z" } : Jvm.MethodName) jdk_42_method_154_code (1 : Nat) (Option.some Jvm.ClassFile.FieldType.boolean)).before a0 Z = true := hw _ (List.mem_of_getElem? (i := 83) rfl)
theorem w_84 {a0 : Array Value} {Z : State} (hw : ∀ d ∈ tables_1, d.before a0 Z = true) : (Jvm.Cond.methodLink "java/lang/String" (498 : Nat) ({ cls := "java/lang/StringUTF16", name := "charAt", desc := "([BI)C" } : Jvm.MethodName)).before a0 Z = true := hw _ (List.mem_of_getElem? (i := 84) rfl)
theorem w_85 {a0 : Array Value} {Z : State} (hw : ∀ d ∈ tables_1, d.before a0 Z = true) : (Jvm.Cond.static ({ cls := "java/lang/StringUTF16", name := "charAt", desc := "([BI)C" } : Jvm.MethodName)).before a0 Z = true := hw _ (List.mem_of_getElem? (i := 85) rfl)
theorem w_86 {a0 : Array Value} {Z : State} (hw : ∀ d ∈ tables_1, d.before a0 Z = true) : (Jvm.Cond.code ({ cls := "java/lang/StringUTF16", name := "charAt", desc := "([BI)C" } : Jvm.MethodName) jdk_52_method_83_code (2 : Nat) (Option.some Jvm.ClassFile.FieldType.char)).before a0 Z = true := hw _ (List.mem_of_getElem? (i := 86) rfl)
theorem w_87 {a0 : Array Value} {Z : State} (hw : ∀ d ∈ tables_1, d.before a0 Z = true) : (Jvm.Cond.methodLink "java/lang/StringUTF16" (67 : Nat) ({ cls := "java/lang/StringUTF16", name := "checkIndex", desc := "(I[B)V" } : Jvm.MethodName)).before a0 Z = true := hw _ (List.mem_of_getElem? (i := 87) rfl)
theorem w_88 {a0 : Array Value} {Z : State} (hw : ∀ d ∈ tables_1, d.before a0 Z = true) : (Jvm.Cond.static ({ cls := "java/lang/StringUTF16", name := "checkIndex", desc := "(I[B)V" } : Jvm.MethodName)).before a0 Z = true := hw _ (List.mem_of_getElem? (i := 88) rfl)
theorem w_89 {a0 : Array Value} {Z : State} (hw : ∀ d ∈ tables_1, d.before a0 Z = true) : (Jvm.Cond.code ({ cls := "java/lang/StringUTF16", name := "checkIndex", desc := "(I[B)V" } : Jvm.MethodName) jdk_52_method_91_code (2 : Nat) (Option.none : Option Jvm.ClassFile.FieldType)).before a0 Z = true := hw _ (List.mem_of_getElem? (i := 89) rfl)
theorem w_90 {a0 : Array Value} {Z : State} (hw : ∀ d ∈ tables_1, d.before a0 Z = true) : (Jvm.Cond.methodLink "java/lang/StringUTF16" (48 : Nat) ({ cls := "java/lang/StringUTF16", name := "length", desc := "([B)I" } : Jvm.MethodName)).before a0 Z = true := hw _ (List.mem_of_getElem? (i := 90) rfl)
theorem w_91 {a0 : Array Value} {Z : State} (hw : ∀ d ∈ tables_1, d.before a0 Z = true) : (Jvm.Cond.static ({ cls := "java/lang/StringUTF16", name := "length", desc := "([B)I" } : Jvm.MethodName)).before a0 Z = true := hw _ (List.mem_of_getElem? (i := 91) rfl)
theorem w_92 {a0 : Array Value} {Z : State} (hw : ∀ d ∈ tables_1, d.before a0 Z = true) : (Jvm.Cond.code ({ cls := "java/lang/StringUTF16", name := "length", desc := "([B)I" } : Jvm.MethodName) jdk_52_method_6_code (1 : Nat) (Option.some Jvm.ClassFile.FieldType.int)).before a0 Z = true := hw _ (List.mem_of_getElem? (i := 92) rfl)
theorem w_93 {a0 : Array Value} {Z : State} (hw : ∀ d ∈ tables_1, d.before a0 Z = true) : (Jvm.Cond.methodLink "java/lang/StringUTF16" (414 : Nat) ({ cls := "java/lang/String", name := "checkIndex", desc := "(II)V" } : Jvm.MethodName)).before a0 Z = true := hw _ (List.mem_of_getElem? (i := 93) rfl)
theorem w_94 {a0 : Array Value} {Z : State} (hw : ∀ d ∈ tables_1, d.before a0 Z = true) : (Jvm.Cond.static ({ cls := "java/lang/String", name := "checkIndex", desc := "(II)V" } : Jvm.MethodName)).before a0 Z = true := hw _ (List.mem_of_getElem? (i := 94) rfl)
theorem w_95 {a0 : Array Value} {Z : State} (hw : ∀ d ∈ tables_1, d.before a0 Z = true) : (Jvm.Cond.code ({ cls := "java/lang/String", name := "checkIndex", desc := "(II)V" } : Jvm.MethodName) jdk_42_method_155_code (2 : Nat) (Option.none : Option Jvm.ClassFile.FieldType)).before a0 Z = true := hw _ (List.mem_of_getElem? (i := 95) rfl)
theorem w_96 {a0 : Array Value} {Z : State} (hw : ∀ d ∈ tables_1, d.before a0 Z = true) : (Jvm.Cond.fieldLink "java/lang/String" (1053 : Nat) "jdk/internal/util/Preconditions" "SIOOBE_FORMATTER" "Ljava/util/function/BiFunction;").before a0 Z = true := hw _ (List.mem_of_getElem? (i := 96) rfl)
theorem w_97 {a0 : Array Value} {Z : State} (hw : ∀ d ∈ tables_1, d.before a0 Z = true) : (Jvm.Cond.initialized "jdk/internal/util/Preconditions").before a0 Z = true := hw _ (List.mem_of_getElem? (i := 97) rfl)
theorem w_98 {a0 : Array Value} {Z : State} (hw : ∀ d ∈ tables_1, d.before a0 Z = true) : (Jvm.Cond.methodLink "java/lang/String" (1059 : Nat) ({ cls := "jdk/internal/util/Preconditions", name := "checkIndex", desc := "(IILjava/util/function/BiFunction;)I" } : Jvm.MethodName)).before a0 Z = true := hw _ (List.mem_of_getElem? (i := 98) rfl)
theorem w_99 {a0 : Array Value} {Z : State} (hw : ∀ d ∈ tables_1, d.before a0 Z = true) : (Jvm.Cond.static ({ cls := "jdk/internal/util/Preconditions", name := "checkIndex", desc := "(IILjava/util/function/BiFunction;)I" } : Jvm.MethodName)).before a0 Z = true := hw _ (List.mem_of_getElem? (i := 99) rfl)
theorem w_100 {a0 : Array Value} {Z : State} (hw : ∀ d ∈ tables_1, d.before a0 Z = true) : (Jvm.Cond.code ({ cls := "jdk/internal/util/Preconditions", name := "checkIndex", desc := "(IILjava/util/function/BiFunction;)I" } : Jvm.MethodName) jdk_41_method_11_code (3 : Nat) (Option.some Jvm.ClassFile.FieldType.int)).before a0 Z = true := hw _ (List.mem_of_getElem? (i := 100) rfl)
theorem w_101 {a0 : Array Value} {Z : State} (hw : ∀ d ∈ tables_1, d.before a0 Z = true) : (Jvm.Cond.methodLink "tenorbook/book/Cusip" (19 : Nat) ({ cls := "tenorbook/book/Cusip", name := "value", desc := "(C)I" } : Jvm.MethodName)).before a0 Z = true := hw _ (List.mem_of_getElem? (i := 101) rfl)
theorem w_102 {a0 : Array Value} {Z : State} (hw : ∀ d ∈ tables_1, d.before a0 Z = true) : (Jvm.Cond.static ({ cls := "tenorbook/book/Cusip", name := "value", desc := "(C)I" } : Jvm.MethodName)).before a0 Z = true := hw _ (List.mem_of_getElem? (i := 102) rfl)
theorem w_103 {a0 : Array Value} {Z : State} (hw : ∀ d ∈ tables_1, d.before a0 Z = true) : (Jvm.Cond.code ({ cls := "tenorbook/book/Cusip", name := "value", desc := "(C)I" } : Jvm.MethodName) prog_8_method_3_code (1 : Nat) (Option.some Jvm.ClassFile.FieldType.int)).before a0 Z = true := hw _ (List.mem_of_getElem? (i := 103) rfl)
theorem w_104 {a0 : Array Value} {Z : State} (hw : ∀ d ∈ tables_1, d.before a0 Z = true) : (Jvm.Cond.methodLink "tenorbook/book/CusipIsValidPinLaw" (29 : Nat) ({ cls := "tenorbook/book/CusipIsValidPinLaw", name := "alpha", desc := "(I)C" } : Jvm.MethodName)).before a0 Z = true := hw _ (List.mem_of_getElem? (i := 104) rfl)
theorem w_105 {a0 : Array Value} {Z : State} (hw : ∀ d ∈ tables_1, d.before a0 Z = true) : (Jvm.Cond.static ({ cls := "tenorbook/book/CusipIsValidPinLaw", name := "alpha", desc := "(I)C" } : Jvm.MethodName)).before a0 Z = true := hw _ (List.mem_of_getElem? (i := 105) rfl)
theorem w_106 {a0 : Array Value} {Z : State} (hw : ∀ d ∈ tables_1, d.before a0 Z = true) : (Jvm.Cond.code ({ cls := "tenorbook/book/CusipIsValidPinLaw", name := "alpha", desc := "(I)C" } : Jvm.MethodName) method_4_code (1 : Nat) (Option.some Jvm.ClassFile.FieldType.char)).before a0 Z = true := hw _ (List.mem_of_getElem? (i := 106) rfl)
theorem w_107 {a0 : Array Value} {Z : State} (hw : ∀ d ∈ tables_1, d.before a0 Z = true) : (Jvm.Cond.stringLink "java/lang/String" (7 : Nat) "").before a0 Z = true := hw _ (List.mem_of_getElem? (i := 107) rfl)
theorem w_108 {a0 : Array Value} {Z : State} (hw : ∀ d ∈ tables_1, d.before a0 Z = true) : (Jvm.Cond.soleField "java/lang/String" "value").before a0 Z = true := hw _ (List.mem_of_getElem? (i := 108) rfl)
theorem w_109 {a0 : Array Value} {Z : State} (hw : ∀ d ∈ tables_1, d.before a0 Z = true) : (Jvm.Cond.soleField "java/lang/String" "coder").before a0 Z = true := hw _ (List.mem_of_getElem? (i := 109) rfl)
theorem w_110 {a0 : Array Value} {Z : State} (hw : ∀ d ∈ tables_1, d.before a0 Z = true) : (Jvm.Cond.methodLink "java/lang/String" (495 : Nat) ({ cls := "java/lang/StringLatin1", name := "charAt", desc := "([BI)C" } : Jvm.MethodName)).before a0 Z = true := hw _ (List.mem_of_getElem? (i := 110) rfl)
theorem w_111 {a0 : Array Value} {Z : State} (hw : ∀ d ∈ tables_1, d.before a0 Z = true) : (Jvm.Cond.static ({ cls := "java/lang/StringLatin1", name := "charAt", desc := "([BI)C" } : Jvm.MethodName)).before a0 Z = true := hw _ (List.mem_of_getElem? (i := 111) rfl)
theorem w_112 {a0 : Array Value} {Z : State} (hw : ∀ d ∈ tables_1, d.before a0 Z = true) : (Jvm.Cond.initialized "java/lang/StringLatin1").before a0 Z = true := hw _ (List.mem_of_getElem? (i := 112) rfl)
theorem w_113 {a0 : Array Value} {Z : State} (hw : ∀ d ∈ tables_1, d.before a0 Z = true) : (Jvm.Cond.code ({ cls := "java/lang/StringLatin1", name := "charAt", desc := "([BI)C" } : Jvm.MethodName) jdk_43_method_2_code (2 : Nat) (Option.some Jvm.ClassFile.FieldType.char)).before a0 Z = true := hw _ (List.mem_of_getElem? (i := 113) rfl)
theorem w_114 {a0 : Array Value} {Z : State} (hw : ∀ d ∈ tables_1, d.before a0 Z = true) : (Jvm.Cond.methodLink "java/lang/StringLatin1" (9 : Nat) ({ cls := "java/lang/String", name := "checkIndex", desc := "(II)V" } : Jvm.MethodName)).before a0 Z = true := hw _ (List.mem_of_getElem? (i := 114) rfl)
theorem w_115 {a0 : Array Value} {Z : State} (hw : ∀ d ∈ tables_1, d.before a0 Z = true) : (Jvm.Cond.methodLink "tenorbook/book/CusipIsValidPinLaw" (36 : Nat) ({ cls := "tenorbook/book/CusipIsValidPinLaw", name := "ds", desc := "(I)I" } : Jvm.MethodName)).before a0 Z = true := hw _ (List.mem_of_getElem? (i := 115) rfl)
theorem w_116 {a0 : Array Value} {Z : State} (hw : ∀ d ∈ tables_1, d.before a0 Z = true) : (Jvm.Cond.static ({ cls := "tenorbook/book/CusipIsValidPinLaw", name := "ds", desc := "(I)I" } : Jvm.MethodName)).before a0 Z = true := hw _ (List.mem_of_getElem? (i := 116) rfl)
theorem w_117 {a0 : Array Value} {Z : State} (hw : ∀ d ∈ tables_1, d.before a0 Z = true) : (Jvm.Cond.code ({ cls := "tenorbook/book/CusipIsValidPinLaw", name := "ds", desc := "(I)I" } : Jvm.MethodName) method_6_code (1 : Nat) (Option.some Jvm.ClassFile.FieldType.int)).before a0 Z = true := hw _ (List.mem_of_getElem? (i := 117) rfl)
theorem d1_0 : decode method_3_code 0 = .ok (.iload_n 0, 1) := by decide +kernel
theorem d1_1 : decode method_3_code 1 = .ok (.bipush 16, 2) := by decide +kernel
theorem d1_3 : decode method_3_code 3 = .ok (.iushr, 1) := by decide +kernel
theorem d1_4 : decode method_3_code 4 = .ok (.iconst 1, 1) := by decide +kernel
theorem d1_5 : decode method_3_code 5 = .ok (.iand, 1) := by decide +kernel
theorem d1_6 : decode method_3_code 6 = .ok (.ifCond .eq 14, 3) := by decide +kernel
theorem d1_9 : decode method_3_code 9 = .ok (.iload_n 0, 1) := by decide +kernel
theorem d1_10 : decode method_3_code 10 = .ok (.ldc 13, 2) := by decide +kernel
theorem d1_12 : decode method_3_code 12 = .ok (.iand, 1) := by decide +kernel
theorem d1_13 : decode method_3_code 13 = .ok (.bipush 39, 2) := by decide +kernel
theorem d1_15 : decode method_3_code 15 = .ok (.irem, 1) := by decide +kernel
theorem d1_16 : decode method_3_code 16 = .ok (.invokestatic 29, 3) := by decide +kernel
theorem d1_19 : decode method_3_code 19 = .ok (.ireturn, 1) := by decide +kernel
theorem d1_20 : decode method_3_code 20 = .ok (.iload_n 0, 1) := by decide +kernel
theorem d1_21 : decode method_3_code 21 = .ok (.ldc 13, 2) := by decide +kernel
theorem d1_23 : decode method_3_code 23 = .ok (.iand, 1) := by decide +kernel
theorem d1_24 : decode method_3_code 24 = .ok (.i2c, 1) := by decide +kernel
theorem d1_25 : decode method_3_code 25 = .ok (.ireturn, 1) := by decide +kernel
theorem d2_0 : decode jdk_42_method_3_code 0 = .ok (.aload_n 0, 1) := by decide +kernel
theorem d2_1 : decode jdk_42_method_3_code 1 = .ok (.aload_n 1, 1) := by decide +kernel
theorem d2_2 : decode jdk_42_method_3_code 2 = .ok (.iconst 0, 1) := by decide +kernel
theorem d2_3 : decode jdk_42_method_3_code 3 = .ok (.aload_n 1, 1) := by decide +kernel
theorem d2_4 : decode jdk_42_method_3_code 4 = .ok (.arraylength, 1) := by decide +kernel
theorem d2_5 : decode jdk_42_method_3_code 5 = .ok (.aconst_null, 1) := by decide +kernel
theorem d2_6 : decode jdk_42_method_3_code 6 = .ok (.invokespecial 27, 3) := by decide +kernel
theorem d2_9 : decode jdk_42_method_3_code 9 = .ok (.return_, 1) := by decide +kernel
theorem d3_0 : decode jdk_42_method_149_code 0 = .ok (.aload_n 0, 1) := by decide +kernel
theorem d3_1 : decode jdk_42_method_149_code 1 = .ok (.invokespecial 1, 3) := by decide +kernel
theorem d3_4 : decode jdk_42_method_149_code 4 = .ok (.iload_n 3, 1) := by decide +kernel
theorem d3_5 : decode jdk_42_method_149_code 5 = .ok (.ifCond .ne 22, 3) := by decide +kernel
theorem d3_8 : decode jdk_42_method_149_code 8 = .ok (.aload_n 0, 1) := by decide +kernel
theorem d3_9 : decode jdk_42_method_149_code 9 = .ok (.ldc 7, 2) := by decide +kernel
theorem d3_11 : decode jdk_42_method_149_code 11 = .ok (.getfield 9, 3) := by decide +kernel
theorem d3_14 : decode jdk_42_method_149_code 14 = .ok (.putfield 9, 3) := by decide +kernel
theorem d3_17 : decode jdk_42_method_149_code 17 = .ok (.aload_n 0, 1) := by decide +kernel
theorem d3_18 : decode jdk_42_method_149_code 18 = .ok (.ldc 7, 2) := by decide +kernel
theorem d3_20 : decode jdk_42_method_149_code 20 = .ok (.getfield 15, 3) := by decide +kernel
theorem d3_23 : decode jdk_42_method_149_code 23 = .ok (.putfield 15, 3) := by decide +kernel
theorem d3_26 : decode jdk_42_method_149_code 26 = .ok (.return_, 1) := by decide +kernel
theorem d3_27 : decode jdk_42_method_149_code 27 = .ok (.getstatic 38, 3) := by decide +kernel
theorem d3_30 : decode jdk_42_method_149_code 30 = .ok (.ifCond .eq 28, 3) := by decide +kernel
theorem d3_33 : decode jdk_42_method_149_code 33 = .ok (.aload_n 1, 1) := by decide +kernel
theorem d3_34 : decode jdk_42_method_149_code 34 = .ok (.iload_n 2, 1) := by decide +kernel
theorem d3_35 : decode jdk_42_method_149_code 35 = .ok (.iload_n 3, 1) := by decide +kernel
theorem d3_36 : decode jdk_42_method_149_code 36 = .ok (.invokestatic 177, 3) := by decide +kernel
theorem d3_39 : decode jdk_42_method_149_code 39 = .ok (.astore 5, 2) := by decide +kernel
theorem d3_41 : decode jdk_42_method_149_code 41 = .ok (.aload_n 0, 1) := by decide +kernel
theorem d3_42 : decode jdk_42_method_149_code 42 = .ok (.aload 5, 2) := by decide +kernel
theorem d3_44 : decode jdk_42_method_149_code 44 = .ok (.iload_n 3, 1) := by decide +kernel
theorem d3_45 : decode jdk_42_method_149_code 45 = .ok (.invokestatic 47, 3) := by decide +kernel
theorem d3_48 : decode jdk_42_method_149_code 48 = .ok (.putfield 15, 3) := by decide +kernel
theorem d3_51 : decode jdk_42_method_149_code 51 = .ok (.aload_n 0, 1) := by decide +kernel
theorem d3_52 : decode jdk_42_method_149_code 52 = .ok (.aload 5, 2) := by decide +kernel
theorem d3_54 : decode jdk_42_method_149_code 54 = .ok (.putfield 9, 3) := by decide +kernel
theorem d3_57 : decode jdk_42_method_149_code 57 = .ok (.return_, 1) := by decide +kernel
theorem d5_0 : decode jdk_52_method_16_code 0 = .ok (.iload_n 2, 1) := by decide +kernel
theorem d5_1 : decode jdk_52_method_16_code 1 = .ok (.newarray .byte, 2) := by decide +kernel
theorem d5_3 : decode jdk_52_method_16_code 3 = .ok (.astore_n 3, 1) := by decide +kernel
theorem d5_4 : decode jdk_52_method_16_code 4 = .ok (.aload_n 0, 1) := by decide +kernel
theorem d5_5 : decode jdk_52_method_16_code 5 = .ok (.iload_n 1, 1) := by decide +kernel
theorem d5_6 : decode jdk_52_method_16_code 6 = .ok (.aload_n 3, 1) := by decide +kernel
theorem d5_7 : decode jdk_52_method_16_code 7 = .ok (.iconst 0, 1) := by decide +kernel
theorem d5_8 : decode jdk_52_method_16_code 8 = .ok (.iload_n 2, 1) := by decide +kernel
theorem d5_9 : decode jdk_52_method_16_code 9 = .ok (.invokestatic 115, 3) := by decide +kernel
theorem d5_12 : decode jdk_52_method_16_code 12 = .ok (.istore 4, 2) := by decide +kernel
theorem d5_14 : decode jdk_52_method_16_code 14 = .ok (.iload 4, 2) := by decide +kernel
theorem d5_16 : decode jdk_52_method_16_code 16 = .ok (.iload_n 2, 1) := by decide +kernel
theorem d5_17 : decode jdk_52_method_16_code 17 = .ok (.if_icmp .eq 40, 3) := by decide +kernel
theorem d5_20 : decode jdk_52_method_16_code 20 = .ok (.aload_n 0, 1) := by decide +kernel
theorem d5_21 : decode jdk_52_method_16_code 21 = .ok (.iload_n 1, 1) := by decide +kernel
theorem d5_22 : decode jdk_52_method_16_code 22 = .ok (.iload_n 2, 1) := by decide +kernel
theorem d5_23 : decode jdk_52_method_16_code 23 = .ok (.invokestatic 119, 3) := by decide +kernel
theorem d5_26 : decode jdk_52_method_16_code 26 = .ok (.astore 5, 2) := by decide +kernel
theorem d5_28 : decode jdk_52_method_16_code 28 = .ok (.aload 5, 2) := by decide +kernel
theorem d5_30 : decode jdk_52_method_16_code 30 = .ok (.iload 4, 2) := by decide +kernel
theorem d5_32 : decode jdk_52_method_16_code 32 = .ok (.invokestatic 71, 3) := by decide +kernel
theorem d5_35 : decode jdk_52_method_16_code 35 = .ok (.sipush 255, 3) := by decide +kernel
theorem d5_38 : decode jdk_52_method_16_code 38 = .ok (.if_icmp .gt 16, 3) := by decide +kernel
theorem d5_54 : decode jdk_52_method_16_code 54 = .ok (.aload 5, 2) := by decide +kernel
theorem d5_56 : decode jdk_52_method_16_code 56 = .ok (.areturn, 1) := by decide +kernel
theorem d5_57 : decode jdk_52_method_16_code 57 = .ok (.aload_n 3, 1) := by decide +kernel
theorem d5_58 : decode jdk_52_method_16_code 58 = .ok (.areturn, 1) := by decide +kernel
theorem d6_0 : decode jdk_52_method_21_code 0 = .ok (.iconst 0, 1) := by decide +kernel
theorem d6_1 : decode jdk_52_method_21_code 1 = .ok (.istore 5, 2) := by decide +kernel
theorem d6_3 : decode jdk_52_method_21_code 3 = .ok (.iload 5, 2) := by decide +kernel
theorem d6_5 : decode jdk_52_method_21_code 5 = .ok (.iload 4, 2) := by decide +kernel
theorem d6_7 : decode jdk_52_method_21_code 7 = .ok (.if_icmp .ge 37, 3) := by decide +kernel
theorem d6_10 : decode jdk_52_method_21_code 10 = .ok (.aload_n 0, 1) := by decide +kernel
theorem d6_11 : decode jdk_52_method_21_code 11 = .ok (.iload_n 1, 1) := by decide +kernel
theorem d6_12 : decode jdk_52_method_21_code 12 = .ok (.caload, 1) := by decide +kernel
theorem d6_13 : decode jdk_52_method_21_code 13 = .ok (.istore 6, 2) := by decide +kernel
theorem d6_15 : decode jdk_52_method_21_code 15 = .ok (.iload 6, 2) := by decide +kernel
theorem d6_17 : decode jdk_52_method_21_code 17 = .ok (.sipush 255, 3) := by decide +kernel
theorem d6_20 : decode jdk_52_method_21_code 20 = .ok (.if_icmp .le 6, 3) := by decide +kernel
theorem d6_23 : decode jdk_52_method_21_code 23 = .ok (.iload 5, 2) := by decide +kernel
theorem d6_25 : decode jdk_52_method_21_code 25 = .ok (.ireturn, 1) := by decide +kernel
theorem d6_26 : decode jdk_52_method_21_code 26 = .ok (.aload_n 2, 1) := by decide +kernel
theorem d6_27 : decode jdk_52_method_21_code 27 = .ok (.iload_n 3, 1) := by decide +kernel
theorem d6_28 : decode jdk_52_method_21_code 28 = .ok (.iload 6, 2) := by decide +kernel
theorem d6_30 : decode jdk_52_method_21_code 30 = .ok (.i2b, 1) := by decide +kernel
theorem d6_31 : decode jdk_52_method_21_code 31 = .ok (.bastore, 1) := by decide +kernel
theorem d6_32 : decode jdk_52_method_21_code 32 = .ok (.iinc 1 1, 3) := by decide +kernel
theorem d6_35 : decode jdk_52_method_21_code 35 = .ok (.iinc 3 1, 3) := by decide +kernel
theorem d6_38 : decode jdk_52_method_21_code 38 = .ok (.iinc 5 1, 3) := by decide +kernel
theorem d6_41 : decode jdk_52_method_21_code 41 = .ok (.goto (-38), 3) := by decide +kernel
theorem d6_44 : decode jdk_52_method_21_code 44 = .ok (.iload 4, 2) := by decide +kernel
theorem d6_46 : decode jdk_52_method_21_code 46 = .ok (.ireturn, 1) := by decide +kernel
theorem d7_0 : decode jdk_52_method_14_code 0 = .ok (.iload_n 2, 1) := by decide +kernel
theorem d7_1 : decode jdk_52_method_14_code 1 = .ok (.invokestatic 107, 3) := by decide +kernel
theorem d7_4 : decode jdk_52_method_14_code 4 = .ok (.astore_n 3, 1) := by decide +kernel
theorem d7_5 : decode jdk_52_method_14_code 5 = .ok (.iconst 0, 1) := by decide +kernel
theorem d7_6 : decode jdk_52_method_14_code 6 = .ok (.istore 4, 2) := by decide +kernel
theorem d7_8 : decode jdk_52_method_14_code 8 = .ok (.iload 4, 2) := by decide +kernel
theorem d7_10 : decode jdk_52_method_14_code 10 = .ok (.iload_n 2, 1) := by decide +kernel
theorem d7_11 : decode jdk_52_method_14_code 11 = .ok (.if_icmp .ge 21, 3) := by decide +kernel
theorem d7_14 : decode jdk_52_method_14_code 14 = .ok (.aload_n 3, 1) := by decide +kernel
theorem d7_15 : decode jdk_52_method_14_code 15 = .ok (.iload 4, 2) := by decide +kernel
theorem d7_17 : decode jdk_52_method_14_code 17 = .ok (.aload_n 0, 1) := by decide +kernel
theorem d7_18 : decode jdk_52_method_14_code 18 = .ok (.iload_n 1, 1) := by decide +kernel
theorem d7_19 : decode jdk_52_method_14_code 19 = .ok (.caload, 1) := by decide +kernel
theorem d7_20 : decode jdk_52_method_14_code 20 = .ok (.invokestatic 111, 3) := by decide +kernel
theorem d7_23 : decode jdk_52_method_14_code 23 = .ok (.iinc 1 1, 3) := by decide +kernel
theorem d7_26 : decode jdk_52_method_14_code 26 = .ok (.iinc 4 1, 3) := by decide +kernel
theorem d7_29 : decode jdk_52_method_14_code 29 = .ok (.goto (-21), 3) := by decide +kernel
theorem d7_32 : decode jdk_52_method_14_code 32 = .ok (.aload_n 3, 1) := by decide +kernel
theorem d7_33 : decode jdk_52_method_14_code 33 = .ok (.areturn, 1) := by decide +kernel
theorem d8_0 : decode jdk_52_method_2_code 0 = .ok (.iload_n 0, 1) := by decide +kernel
theorem d8_1 : decode jdk_52_method_2_code 1 = .ok (.invokestatic 11, 3) := by decide +kernel
theorem d8_4 : decode jdk_52_method_2_code 4 = .ok (.newarray .byte, 2) := by decide +kernel
theorem d8_6 : decode jdk_52_method_2_code 6 = .ok (.areturn, 1) := by decide +kernel
theorem d9_0 : decode jdk_52_method_3_code 0 = .ok (.iload_n 0, 1) := by decide +kernel
theorem d9_1 : decode jdk_52_method_3_code 1 = .ok (.ifCond .ge 11, 3) := by decide +kernel
theorem d9_12 : decode jdk_52_method_3_code 12 = .ok (.iload_n 0, 1) := by decide +kernel
theorem d9_13 : decode jdk_52_method_3_code 13 = .ok (.ldc 20, 2) := by decide +kernel
theorem d9_15 : decode jdk_52_method_3_code 15 = .ok (.if_icmp .lt 40, 3) := by decide +kernel
theorem d9_55 : decode jdk_52_method_3_code 55 = .ok (.iload_n 0, 1) := by decide +kernel
theorem d9_56 : decode jdk_52_method_3_code 56 = .ok (.iconst 1, 1) := by decide +kernel
theorem d9_57 : decode jdk_52_method_3_code 57 = .ok (.ishl, 1) := by decide +kernel
theorem d9_58 : decode jdk_52_method_3_code 58 = .ok (.ireturn, 1) := by decide +kernel
theorem d10_0 : decode jdk_52_method_4_code 0 = .ok (.getstatic 44, 3) := by decide +kernel
theorem d10_3 : decode jdk_52_method_4_code 3 = .ok (.ifCond .ne 25, 3) := by decide +kernel
theorem d10_28 : decode jdk_52_method_4_code 28 = .ok (.iload_n 1, 1) := by decide +kernel
theorem d10_29 : decode jdk_52_method_4_code 29 = .ok (.iconst 1, 1) := by decide +kernel
theorem d10_30 : decode jdk_52_method_4_code 30 = .ok (.ishl, 1) := by decide +kernel
theorem d10_31 : decode jdk_52_method_4_code 31 = .ok (.istore_n 1, 1) := by decide +kernel
theorem d10_32 : decode jdk_52_method_4_code 32 = .ok (.aload_n 0, 1) := by decide +kernel
theorem d10_33 : decode jdk_52_method_4_code 33 = .ok (.iload_n 1, 1) := by decide +kernel
theorem d10_34 : decode jdk_52_method_4_code 34 = .ok (.iinc 1 1, 3) := by decide +kernel
theorem d10_37 : decode jdk_52_method_4_code 37 = .ok (.iload_n 2, 1) := by decide +kernel
theorem d10_38 : decode jdk_52_method_4_code 38 = .ok (.getstatic 59, 3) := by decide +kernel
theorem d10_41 : decode jdk_52_method_4_code 41 = .ok (.ishr, 1) := by decide +kernel
theorem d10_42 : decode jdk_52_method_4_code 42 = .ok (.i2b, 1) := by decide +kernel
theorem d10_43 : decode jdk_52_method_4_code 43 = .ok (.bastore, 1) := by decide +kernel
theorem d10_44 : decode jdk_52_method_4_code 44 = .ok (.aload_n 0, 1) := by decide +kernel
theorem d10_45 : decode jdk_52_method_4_code 45 = .ok (.iload_n 1, 1) := by decide +kernel
theorem d10_46 : decode jdk_52_method_4_code 46 = .ok (.iload_n 2, 1) := by decide +kernel
theorem d10_47 : decode jdk_52_method_4_code 47 = .ok (.getstatic 63, 3) := by decide +kernel
theorem d10_50 : decode jdk_52_method_4_code 50 = .ok (.ishr, 1) := by decide +kernel
theorem d10_51 : decode jdk_52_method_4_code 51 = .ok (.i2b, 1) := by decide +kernel
theorem d10_52 : decode jdk_52_method_4_code 52 = .ok (.bastore, 1) := by decide +kernel
theorem d10_53 : decode jdk_52_method_4_code 53 = .ok (.return_, 1) := by decide +kernel
theorem d11_0 : decode jdk_52_method_5_code 0 = .ok (.getstatic 44, 3) := by decide +kernel
theorem d11_3 : decode jdk_52_method_5_code 3 = .ok (.ifCond .ne 25, 3) := by decide +kernel
theorem d11_28 : decode jdk_52_method_5_code 28 = .ok (.iload_n 1, 1) := by decide +kernel
theorem d11_29 : decode jdk_52_method_5_code 29 = .ok (.iconst 1, 1) := by decide +kernel
theorem d11_30 : decode jdk_52_method_5_code 30 = .ok (.ishl, 1) := by decide +kernel
theorem d11_31 : decode jdk_52_method_5_code 31 = .ok (.istore_n 1, 1) := by decide +kernel
theorem d11_32 : decode jdk_52_method_5_code 32 = .ok (.aload_n 0, 1) := by decide +kernel
theorem d11_33 : decode jdk_52_method_5_code 33 = .ok (.iload_n 1, 1) := by decide +kernel
theorem d11_34 : decode jdk_52_method_5_code 34 = .ok (.iinc 1 1, 3) := by decide +kernel
theorem d11_37 : decode jdk_52_method_5_code 37 = .ok (.baload, 1) := by decide +kernel
theorem d11_38 : decode jdk_52_method_5_code 38 = .ok (.sipush 255, 3) := by decide +kernel
theorem d11_41 : decode jdk_52_method_5_code 41 = .ok (.iand, 1) := by decide +kernel
theorem d11_42 : decode jdk_52_method_5_code 42 = .ok (.getstatic 59, 3) := by decide +kernel
theorem d11_45 : decode jdk_52_method_5_code 45 = .ok (.ishl, 1) := by decide +kernel
theorem d11_46 : decode jdk_52_method_5_code 46 = .ok (.aload_n 0, 1) := by decide +kernel
theorem d11_47 : decode jdk_52_method_5_code 47 = .ok (.iload_n 1, 1) := by decide +kernel
theorem d11_48 : decode jdk_52_method_5_code 48 = .ok (.baload, 1) := by decide +kernel
theorem d11_49 : decode jdk_52_method_5_code 49 = .ok (.sipush 255, 3) := by decide +kernel
theorem d11_52 : decode jdk_52_method_5_code 52 = .ok (.iand, 1) := by decide +kernel
theorem d11_53 : decode jdk_52_method_5_code 53 = .ok (.getstatic 63, 3) := by decide +kernel
theorem d11_56 : decode jdk_52_method_5_code 56 = .ok (.ishl, 1) := by decide +kernel
theorem d11_57 : decode jdk_52_method_5_code 57 = .ok (.ior, 1) := by decide +kernel
theorem d11_58 : decode jdk_52_method_5_code 58 = .ok (.i2c, 1) := by decide +kernel
theorem d11_59 : decode jdk_52_method_5_code 59 = .ok (.ireturn, 1) := by decide +kernel
theorem d12_0 : decode jdk_52_method_15_code 0 = .ok (.iload_n 1, 1) := by decide +kernel
theorem d12_1 : decode jdk_52_method_15_code 1 = .ok (.aload_n 0, 1) := by decide +kernel
theorem d12_2 : decode jdk_52_method_15_code 2 = .ok (.arraylength, 1) := by decide +kernel
theorem d12_3 : decode jdk_52_method_15_code 3 = .ok (.isub, 1) := by decide +kernel
theorem d12_4 : decode jdk_52_method_15_code 4 = .ok (.bipush 31, 2) := by decide +kernel
theorem d12_6 : decode jdk_52_method_15_code 6 = .ok (.iushr, 1) := by decide +kernel
theorem d12_7 : decode jdk_52_method_15_code 7 = .ok (.i2b, 1) := by decide +kernel
theorem d12_8 : decode jdk_52_method_15_code 8 = .ok (.ireturn, 1) := by decide +kernel
theorem d13_0 : decode method_7_code 0 = .ok (.iload_n 0, 1) := by decide +kernel
theorem d13_1 : decode method_7_code 1 = .ok (.invokestatic 32, 3) := by decide +kernel
theorem d13_4 : decode method_7_code 4 = .ok (.istore 9, 2) := by decide +kernel
theorem d13_6 : decode method_7_code 6 = .ok (.iload_n 1, 1) := by decide +kernel
theorem d13_7 : decode method_7_code 7 = .ok (.invokestatic 32, 3) := by decide +kernel
theorem d13_10 : decode method_7_code 10 = .ok (.istore 10, 2) := by decide +kernel
theorem d13_12 : decode method_7_code 12 = .ok (.iload_n 2, 1) := by decide +kernel
theorem d13_13 : decode method_7_code 13 = .ok (.invokestatic 32, 3) := by decide +kernel
theorem d13_16 : decode method_7_code 16 = .ok (.istore 11, 2) := by decide +kernel
theorem d13_18 : decode method_7_code 18 = .ok (.iload_n 3, 1) := by decide +kernel
theorem d13_19 : decode method_7_code 19 = .ok (.invokestatic 32, 3) := by decide +kernel
theorem d13_22 : decode method_7_code 22 = .ok (.istore 12, 2) := by decide +kernel
theorem d13_24 : decode method_7_code 24 = .ok (.iload 4, 2) := by decide +kernel
theorem d13_26 : decode method_7_code 26 = .ok (.invokestatic 32, 3) := by decide +kernel
theorem d13_29 : decode method_7_code 29 = .ok (.istore 13, 2) := by decide +kernel
theorem d13_31 : decode method_7_code 31 = .ok (.iload 5, 2) := by decide +kernel
theorem d13_33 : decode method_7_code 33 = .ok (.invokestatic 32, 3) := by decide +kernel
theorem d13_36 : decode method_7_code 36 = .ok (.istore 14, 2) := by decide +kernel
theorem d13_38 : decode method_7_code 38 = .ok (.iload 6, 2) := by decide +kernel
theorem d13_40 : decode method_7_code 40 = .ok (.invokestatic 32, 3) := by decide +kernel
theorem d13_43 : decode method_7_code 43 = .ok (.istore 15, 2) := by decide +kernel
theorem d13_45 : decode method_7_code 45 = .ok (.iload 7, 2) := by decide +kernel
theorem d13_47 : decode method_7_code 47 = .ok (.invokestatic 32, 3) := by decide +kernel
theorem d13_50 : decode method_7_code 50 = .ok (.istore 16, 2) := by decide +kernel
theorem d13_52 : decode method_7_code 52 = .ok (.iload 9, 2) := by decide +kernel
theorem d13_54 : decode method_7_code 54 = .ok (.ifCond .lt 38, 3) := by decide +kernel
theorem d13_57 : decode method_7_code 57 = .ok (.iload 10, 2) := by decide +kernel
theorem d13_59 : decode method_7_code 59 = .ok (.ifCond .lt 33, 3) := by decide +kernel
theorem d13_62 : decode method_7_code 62 = .ok (.iload 11, 2) := by decide +kernel
theorem d13_64 : decode method_7_code 64 = .ok (.ifCond .lt 28, 3) := by decide +kernel
theorem d13_67 : decode method_7_code 67 = .ok (.iload 12, 2) := by decide +kernel
theorem d13_69 : decode method_7_code 69 = .ok (.ifCond .lt 23, 3) := by decide +kernel
theorem d13_72 : decode method_7_code 72 = .ok (.iload 13, 2) := by decide +kernel
theorem d13_74 : decode method_7_code 74 = .ok (.ifCond .lt 18, 3) := by decide +kernel
theorem d13_77 : decode method_7_code 77 = .ok (.iload 14, 2) := by decide +kernel
theorem d13_79 : decode method_7_code 79 = .ok (.ifCond .lt 13, 3) := by decide +kernel
theorem d13_82 : decode method_7_code 82 = .ok (.iload 15, 2) := by decide +kernel
theorem d13_84 : decode method_7_code 84 = .ok (.ifCond .lt 8, 3) := by decide +kernel
theorem d13_87 : decode method_7_code 87 = .ok (.iload 16, 2) := by decide +kernel
theorem d13_89 : decode method_7_code 89 = .ok (.ifCond .ge 5, 3) := by decide +kernel
theorem d13_92 : decode method_7_code 92 = .ok (.iconst 0, 1) := by decide +kernel
theorem d13_93 : decode method_7_code 93 = .ok (.ireturn, 1) := by decide +kernel
theorem d13_94 : decode method_7_code 94 = .ok (.iload 8, 2) := by decide +kernel
theorem d13_96 : decode method_7_code 96 = .ok (.bipush 48, 2) := by decide +kernel
theorem d13_98 : decode method_7_code 98 = .ok (.if_icmp .lt 10, 3) := by decide +kernel
theorem d13_101 : decode method_7_code 101 = .ok (.iload 8, 2) := by decide +kernel
theorem d13_103 : decode method_7_code 103 = .ok (.bipush 57, 2) := by decide +kernel
theorem d13_105 : decode method_7_code 105 = .ok (.if_icmp .le 5, 3) := by decide +kernel
theorem d13_108 : decode method_7_code 108 = .ok (.iconst 0, 1) := by decide +kernel
theorem d13_109 : decode method_7_code 109 = .ok (.ireturn, 1) := by decide +kernel
theorem d13_110 : decode method_7_code 110 = .ok (.iload 9, 2) := by decide +kernel
theorem d13_112 : decode method_7_code 112 = .ok (.invokestatic 36, 3) := by decide +kernel
theorem d13_115 : decode method_7_code 115 = .ok (.iconst 2, 1) := by decide +kernel
theorem d13_116 : decode method_7_code 116 = .ok (.iload 10, 2) := by decide +kernel
theorem d13_118 : decode method_7_code 118 = .ok (.imul, 1) := by decide +kernel
theorem d13_119 : decode method_7_code 119 = .ok (.invokestatic 36, 3) := by decide +kernel
theorem d13_122 : decode method_7_code 122 = .ok (.iadd, 1) := by decide +kernel
theorem d13_123 : decode method_7_code 123 = .ok (.iload 11, 2) := by decide +kernel
theorem d13_125 : decode method_7_code 125 = .ok (.invokestatic 36, 3) := by decide +kernel
theorem d13_128 : decode method_7_code 128 = .ok (.iadd, 1) := by decide +kernel
theorem d13_129 : decode method_7_code 129 = .ok (.iconst 2, 1) := by decide +kernel
theorem d13_130 : decode method_7_code 130 = .ok (.iload 12, 2) := by decide +kernel
theorem d13_132 : decode method_7_code 132 = .ok (.imul, 1) := by decide +kernel
theorem d13_133 : decode method_7_code 133 = .ok (.invokestatic 36, 3) := by decide +kernel
theorem d13_136 : decode method_7_code 136 = .ok (.iadd, 1) := by decide +kernel
theorem d13_137 : decode method_7_code 137 = .ok (.iload 13, 2) := by decide +kernel
theorem d13_139 : decode method_7_code 139 = .ok (.invokestatic 36, 3) := by decide +kernel
theorem d13_142 : decode method_7_code 142 = .ok (.iadd, 1) := by decide +kernel
theorem d13_143 : decode method_7_code 143 = .ok (.iconst 2, 1) := by decide +kernel
theorem d13_144 : decode method_7_code 144 = .ok (.iload 14, 2) := by decide +kernel
theorem d13_146 : decode method_7_code 146 = .ok (.imul, 1) := by decide +kernel
theorem d13_147 : decode method_7_code 147 = .ok (.invokestatic 36, 3) := by decide +kernel
theorem d13_150 : decode method_7_code 150 = .ok (.iadd, 1) := by decide +kernel
theorem d13_151 : decode method_7_code 151 = .ok (.iload 15, 2) := by decide +kernel
theorem d13_153 : decode method_7_code 153 = .ok (.invokestatic 36, 3) := by decide +kernel
theorem d13_156 : decode method_7_code 156 = .ok (.iadd, 1) := by decide +kernel
theorem d13_157 : decode method_7_code 157 = .ok (.iconst 2, 1) := by decide +kernel
theorem d13_158 : decode method_7_code 158 = .ok (.iload 16, 2) := by decide +kernel
theorem d13_160 : decode method_7_code 160 = .ok (.imul, 1) := by decide +kernel
theorem d13_161 : decode method_7_code 161 = .ok (.invokestatic 36, 3) := by decide +kernel
theorem d13_164 : decode method_7_code 164 = .ok (.iadd, 1) := by decide +kernel
theorem d13_165 : decode method_7_code 165 = .ok (.iload 8, 2) := by decide +kernel
theorem d13_167 : decode method_7_code 167 = .ok (.bipush 48, 2) := by decide +kernel
theorem d13_169 : decode method_7_code 169 = .ok (.isub, 1) := by decide +kernel
theorem d13_170 : decode method_7_code 170 = .ok (.iadd, 1) := by decide +kernel
theorem d13_171 : decode method_7_code 171 = .ok (.istore 17, 2) := by decide +kernel
theorem d13_173 : decode method_7_code 173 = .ok (.iload 17, 2) := by decide +kernel
theorem d13_175 : decode method_7_code 175 = .ok (.bipush 10, 2) := by decide +kernel
theorem d13_177 : decode method_7_code 177 = .ok (.irem, 1) := by decide +kernel
theorem d13_178 : decode method_7_code 178 = .ok (.ifCond .ne 7, 3) := by decide +kernel
theorem d13_181 : decode method_7_code 181 = .ok (.iconst 1, 1) := by decide +kernel
theorem d13_182 : decode method_7_code 182 = .ok (.goto 4, 3) := by decide +kernel
theorem d13_185 : decode method_7_code 185 = .ok (.iconst 0, 1) := by decide +kernel
theorem d13_186 : decode method_7_code 186 = .ok (.ireturn, 1) := by decide +kernel
theorem d14_0 : decode method_5_code 0 = .ok (.iload_n 0, 1) := by decide +kernel
theorem d14_1 : decode method_5_code 1 = .ok (.bipush 48, 2) := by decide +kernel
theorem d14_3 : decode method_5_code 3 = .ok (.if_icmp .lt 14, 3) := by decide +kernel
theorem d14_6 : decode method_5_code 6 = .ok (.iload_n 0, 1) := by decide +kernel
theorem d14_7 : decode method_5_code 7 = .ok (.bipush 57, 2) := by decide +kernel
theorem d14_9 : decode method_5_code 9 = .ok (.if_icmp .gt 8, 3) := by decide +kernel
theorem d14_12 : decode method_5_code 12 = .ok (.iload_n 0, 1) := by decide +kernel
theorem d14_13 : decode method_5_code 13 = .ok (.bipush 48, 2) := by decide +kernel
theorem d14_15 : decode method_5_code 15 = .ok (.isub, 1) := by decide +kernel
theorem d14_16 : decode method_5_code 16 = .ok (.ireturn, 1) := by decide +kernel
theorem d14_17 : decode method_5_code 17 = .ok (.iload_n 0, 1) := by decide +kernel
theorem d14_18 : decode method_5_code 18 = .ok (.bipush 65, 2) := by decide +kernel
theorem d14_20 : decode method_5_code 20 = .ok (.if_icmp .lt 17, 3) := by decide +kernel
theorem d14_23 : decode method_5_code 23 = .ok (.iload_n 0, 1) := by decide +kernel
theorem d14_24 : decode method_5_code 24 = .ok (.bipush 90, 2) := by decide +kernel
theorem d14_26 : decode method_5_code 26 = .ok (.if_icmp .gt 11, 3) := by decide +kernel
theorem d14_29 : decode method_5_code 29 = .ok (.iload_n 0, 1) := by decide +kernel
theorem d14_30 : decode method_5_code 30 = .ok (.bipush 65, 2) := by decide +kernel
theorem d14_32 : decode method_5_code 32 = .ok (.isub, 1) := by decide +kernel
theorem d14_33 : decode method_5_code 33 = .ok (.bipush 10, 2) := by decide +kernel
theorem d14_35 : decode method_5_code 35 = .ok (.iadd, 1) := by decide +kernel
theorem d14_36 : decode method_5_code 36 = .ok (.ireturn, 1) := by decide +kernel
theorem d14_37 : decode method_5_code 37 = .ok (.iload_n 0, 1) := by decide +kernel
theorem d14_38 : decode method_5_code 38 = .ok (.bipush 42, 2) := by decide +kernel
theorem d14_40 : decode method_5_code 40 = .ok (.if_icmp .ne 6, 3) := by decide +kernel
theorem d14_43 : decode method_5_code 43 = .ok (.bipush 36, 2) := by decide +kernel
theorem d14_45 : decode method_5_code 45 = .ok (.ireturn, 1) := by decide +kernel
theorem d14_46 : decode method_5_code 46 = .ok (.iload_n 0, 1) := by decide +kernel
theorem d14_47 : decode method_5_code 47 = .ok (.bipush 64, 2) := by decide +kernel
theorem d14_49 : decode method_5_code 49 = .ok (.if_icmp .ne 6, 3) := by decide +kernel
theorem d14_52 : decode method_5_code 52 = .ok (.bipush 37, 2) := by decide +kernel
theorem d14_54 : decode method_5_code 54 = .ok (.ireturn, 1) := by decide +kernel
theorem d14_55 : decode method_5_code 55 = .ok (.iload_n 0, 1) := by decide +kernel
theorem d14_56 : decode method_5_code 56 = .ok (.bipush 35, 2) := by decide +kernel
theorem d14_58 : decode method_5_code 58 = .ok (.if_icmp .ne 6, 3) := by decide +kernel
theorem d14_61 : decode method_5_code 61 = .ok (.bipush 38, 2) := by decide +kernel
theorem d14_63 : decode method_5_code 63 = .ok (.ireturn, 1) := by decide +kernel
theorem d14_64 : decode method_5_code 64 = .ok (.iconst (-1), 1) := by decide +kernel
theorem d14_65 : decode method_5_code 65 = .ok (.ireturn, 1) := by decide +kernel
theorem d15_0 : decode prog_8_method_2_code 0 = .ok (.aload_n 0, 1) := by decide +kernel
theorem d15_1 : decode prog_8_method_2_code 1 = .ok (.invokevirtual 7, 3) := by decide +kernel
theorem d15_4 : decode prog_8_method_2_code 4 = .ok (.bipush 9, 2) := by decide +kernel
theorem d15_6 : decode prog_8_method_2_code 6 = .ok (.if_icmp .eq 5, 3) := by decide +kernel
theorem d15_9 : decode prog_8_method_2_code 9 = .ok (.iconst 0, 1) := by decide +kernel
theorem d15_10 : decode prog_8_method_2_code 10 = .ok (.ireturn, 1) := by decide +kernel
theorem d15_11 : decode prog_8_method_2_code 11 = .ok (.iconst 0, 1) := by decide +kernel
theorem d15_12 : decode prog_8_method_2_code 12 = .ok (.istore_n 1, 1) := by decide +kernel
theorem d15_13 : decode prog_8_method_2_code 13 = .ok (.iconst 0, 1) := by decide +kernel
theorem d15_14 : decode prog_8_method_2_code 14 = .ok (.istore_n 2, 1) := by decide +kernel
theorem d15_15 : decode prog_8_method_2_code 15 = .ok (.iload_n 2, 1) := by decide +kernel
theorem d15_16 : decode prog_8_method_2_code 16 = .ok (.bipush 8, 2) := by decide +kernel
theorem d15_18 : decode prog_8_method_2_code 18 = .ok (.if_icmp .ge 54, 3) := by decide +kernel
theorem d15_21 : decode prog_8_method_2_code 21 = .ok (.aload_n 0, 1) := by decide +kernel
theorem d15_22 : decode prog_8_method_2_code 22 = .ok (.iload_n 2, 1) := by decide +kernel
theorem d15_23 : decode prog_8_method_2_code 23 = .ok (.invokevirtual 15, 3) := by decide +kernel
theorem d15_26 : decode prog_8_method_2_code 26 = .ok (.invokestatic 19, 3) := by decide +kernel
theorem d15_29 : decode prog_8_method_2_code 29 = .ok (.istore_n 3, 1) := by decide +kernel
theorem d15_30 : decode prog_8_method_2_code 30 = .ok (.iload_n 3, 1) := by decide +kernel
theorem d15_31 : decode prog_8_method_2_code 31 = .ok (.ifCond .ge 5, 3) := by decide +kernel
theorem d15_34 : decode prog_8_method_2_code 34 = .ok (.iconst 0, 1) := by decide +kernel
theorem d15_35 : decode prog_8_method_2_code 35 = .ok (.ireturn, 1) := by decide +kernel
theorem d15_36 : decode prog_8_method_2_code 36 = .ok (.iload_n 2, 1) := by decide +kernel
theorem d15_37 : decode prog_8_method_2_code 37 = .ok (.iconst 2, 1) := by decide +kernel
theorem d15_38 : decode prog_8_method_2_code 38 = .ok (.irem, 1) := by decide +kernel
theorem d15_39 : decode prog_8_method_2_code 39 = .ok (.iconst 1, 1) := by decide +kernel
theorem d15_40 : decode prog_8_method_2_code 40 = .ok (.if_icmp .ne 9, 3) := by decide +kernel
theorem d15_43 : decode prog_8_method_2_code 43 = .ok (.iconst 2, 1) := by decide +kernel
theorem d15_44 : decode prog_8_method_2_code 44 = .ok (.iload_n 3, 1) := by decide +kernel
theorem d15_45 : decode prog_8_method_2_code 45 = .ok (.imul, 1) := by decide +kernel
theorem d15_46 : decode prog_8_method_2_code 46 = .ok (.goto 4, 3) := by decide +kernel
theorem d15_49 : decode prog_8_method_2_code 49 = .ok (.iload_n 3, 1) := by decide +kernel
theorem d15_50 : decode prog_8_method_2_code 50 = .ok (.istore 4, 2) := by decide +kernel
theorem d15_52 : decode prog_8_method_2_code 52 = .ok (.iload_n 1, 1) := by decide +kernel
theorem d15_53 : decode prog_8_method_2_code 53 = .ok (.iload 4, 2) := by decide +kernel
theorem d15_55 : decode prog_8_method_2_code 55 = .ok (.bipush 10, 2) := by decide +kernel
theorem d15_57 : decode prog_8_method_2_code 57 = .ok (.idiv, 1) := by decide +kernel
theorem d15_58 : decode prog_8_method_2_code 58 = .ok (.iload 4, 2) := by decide +kernel
theorem d15_60 : decode prog_8_method_2_code 60 = .ok (.bipush 10, 2) := by decide +kernel
theorem d15_62 : decode prog_8_method_2_code 62 = .ok (.irem, 1) := by decide +kernel
theorem d15_63 : decode prog_8_method_2_code 63 = .ok (.iadd, 1) := by decide +kernel
theorem d15_64 : decode prog_8_method_2_code 64 = .ok (.iadd, 1) := by decide +kernel
theorem d15_65 : decode prog_8_method_2_code 65 = .ok (.istore_n 1, 1) := by decide +kernel
theorem d15_66 : decode prog_8_method_2_code 66 = .ok (.iinc 2 1, 3) := by decide +kernel
theorem d15_69 : decode prog_8_method_2_code 69 = .ok (.goto (-54), 3) := by decide +kernel
theorem d15_72 : decode prog_8_method_2_code 72 = .ok (.aload_n 0, 1) := by decide +kernel
theorem d15_73 : decode prog_8_method_2_code 73 = .ok (.bipush 8, 2) := by decide +kernel
theorem d15_75 : decode prog_8_method_2_code 75 = .ok (.invokevirtual 15, 3) := by decide +kernel
theorem d15_78 : decode prog_8_method_2_code 78 = .ok (.bipush 48, 2) := by decide +kernel
theorem d15_80 : decode prog_8_method_2_code 80 = .ok (.bipush 10, 2) := by decide +kernel
theorem d15_82 : decode prog_8_method_2_code 82 = .ok (.iload_n 1, 1) := by decide +kernel
theorem d15_83 : decode prog_8_method_2_code 83 = .ok (.bipush 10, 2) := by decide +kernel
theorem d15_85 : decode prog_8_method_2_code 85 = .ok (.irem, 1) := by decide +kernel
theorem d15_86 : decode prog_8_method_2_code 86 = .ok (.isub, 1) := by decide +kernel
theorem d15_87 : decode prog_8_method_2_code 87 = .ok (.bipush 10, 2) := by decide +kernel
theorem d15_89 : decode prog_8_method_2_code 89 = .ok (.irem, 1) := by decide +kernel
theorem d15_90 : decode prog_8_method_2_code 90 = .ok (.iadd, 1) := by decide +kernel
theorem d15_91 : decode prog_8_method_2_code 91 = .ok (.i2c, 1) := by decide +kernel
theorem d15_92 : decode prog_8_method_2_code 92 = .ok (.if_icmp .ne 7, 3) := by decide +kernel
theorem d15_95 : decode prog_8_method_2_code 95 = .ok (.iconst 1, 1) := by decide +kernel
theorem d15_96 : decode prog_8_method_2_code 96 = .ok (.goto 4, 3) := by decide +kernel
theorem d15_99 : decode prog_8_method_2_code 99 = .ok (.iconst 0, 1) := by decide +kernel
theorem d15_100 : decode prog_8_method_2_code 100 = .ok (.ireturn, 1) := by decide +kernel
theorem d16_0 : decode jdk_42_method_54_code 0 = .ok (.aload_n 0, 1) := by decide +kernel
theorem d16_1 : decode jdk_42_method_54_code 1 = .ok (.getfield 9, 3) := by decide +kernel
theorem d16_4 : decode jdk_42_method_54_code 4 = .ok (.arraylength, 1) := by decide +kernel
theorem d16_5 : decode jdk_42_method_54_code 5 = .ok (.aload_n 0, 1) := by decide +kernel
theorem d16_6 : decode jdk_42_method_54_code 6 = .ok (.invokevirtual 335, 3) := by decide +kernel
theorem d16_9 : decode jdk_42_method_54_code 9 = .ok (.ishr, 1) := by decide +kernel
theorem d16_10 : decode jdk_42_method_54_code 10 = .ok (.ireturn, 1) := by decide +kernel
theorem d17_0 : decode jdk_42_method_152_code 0 = .ok (.getstatic 38, 3) := by decide +kernel
theorem d17_3 : decode jdk_42_method_152_code 3 = .ok (.ifCond .eq 10, 3) := by decide +kernel
theorem d17_6 : decode jdk_42_method_152_code 6 = .ok (.aload_n 0, 1) := by decide +kernel
theorem d17_7 : decode jdk_42_method_152_code 7 = .ok (.getfield 15, 3) := by decide +kernel
theorem d17_10 : decode jdk_42_method_152_code 10 = .ok (.goto 4, 3) := by decide +kernel
theorem d17_14 : decode jdk_42_method_152_code 14 = .ok (.ireturn, 1) := by decide +kernel
theorem d18_0 : decode jdk_42_method_56_code 0 = .ok (.aload_n 0, 1) := by decide +kernel
theorem d18_1 : decode jdk_42_method_56_code 1 = .ok (.invokevirtual 492, 3) := by decide +kernel
theorem d18_4 : decode jdk_42_method_56_code 4 = .ok (.ifCond .eq 12, 3) := by decide +kernel
theorem d18_7 : decode jdk_42_method_56_code 7 = .ok (.aload_n 0, 1) := by decide +kernel
theorem d18_8 : decode jdk_42_method_56_code 8 = .ok (.getfield 9, 3) := by decide +kernel
theorem d18_11 : decode jdk_42_method_56_code 11 = .ok (.iload_n 1, 1) := by decide +kernel
theorem d18_12 : decode jdk_42_method_56_code 12 = .ok (.invokestatic 495, 3) := by decide +kernel
theorem d18_15 : decode jdk_42_method_56_code 15 = .ok (.ireturn, 1) := by decide +kernel
theorem d18_16 : decode jdk_42_method_56_code 16 = .ok (.aload_n 0, 1) := by decide +kernel
theorem d18_17 : decode jdk_42_method_56_code 17 = .ok (.getfield 9, 3) := by decide +kernel
theorem d18_20 : decode jdk_42_method_56_code 20 = .ok (.iload_n 1, 1) := by decide +kernel
theorem d18_21 : decode jdk_42_method_56_code 21 = .ok (.invokestatic 498, 3) := by decide +kernel
theorem d18_24 : decode jdk_42_method_56_code 24 = .ok (.ireturn, 1) := by decide +kernel
theorem d19_0 : decode jdk_42_method_154_code 0 = .ok (.getstatic 38, 3) := by decide +kernel
theorem d19_3 : decode jdk_42_method_154_code 3 = .ok (.ifCond .eq 14, 3) := by decide +kernel
theorem d19_6 : decode jdk_42_method_154_code 6 = .ok (.aload_n 0, 1) := by decide +kernel
theorem d19_7 : decode jdk_42_method_154_code 7 = .ok (.getfield 15, 3) := by decide +kernel
theorem d19_10 : decode jdk_42_method_154_code 10 = .ok (.ifCond .ne 7, 3) := by decide +kernel
theorem d19_13 : decode jdk_42_method_154_code 13 = .ok (.iconst 1, 1) := by decide +kernel
theorem d19_14 : decode jdk_42_method_154_code 14 = .ok (.goto 4, 3) := by decide +kernel
theorem d19_17 : decode jdk_42_method_154_code 17 = .ok (.iconst 0, 1) := by decide +kernel
theorem d19_18 : decode jdk_42_method_154_code 18 = .ok (.ireturn, 1) := by decide +kernel
theorem d20_0 : decode jdk_52_method_83_code 0 = .ok (.iload_n 1, 1) := by decide +kernel
theorem d20_1 : decode jdk_52_method_83_code 1 = .ok (.aload_n 0, 1) := by decide +kernel
theorem d20_2 : decode jdk_52_method_83_code 2 = .ok (.invokestatic 67, 3) := by decide +kernel
theorem d20_5 : decode jdk_52_method_83_code 5 = .ok (.aload_n 0, 1) := by decide +kernel
theorem d20_6 : decode jdk_52_method_83_code 6 = .ok (.iload_n 1, 1) := by decide +kernel
theorem d20_7 : decode jdk_52_method_83_code 7 = .ok (.invokestatic 71, 3) := by decide +kernel
theorem d20_10 : decode jdk_52_method_83_code 10 = .ok (.ireturn, 1) := by decide +kernel
theorem d21_0 : decode jdk_52_method_91_code 0 = .ok (.iload_n 0, 1) := by decide +kernel
theorem d21_1 : decode jdk_52_method_91_code 1 = .ok (.aload_n 1, 1) := by decide +kernel
theorem d21_2 : decode jdk_52_method_91_code 2 = .ok (.invokestatic 48, 3) := by decide +kernel
theorem d21_5 : decode jdk_52_method_91_code 5 = .ok (.invokestatic 414, 3) := by decide +kernel
theorem d21_8 : decode jdk_52_method_91_code 8 = .ok (.return_, 1) := by decide +kernel
theorem d22_0 : decode jdk_52_method_6_code 0 = .ok (.aload_n 0, 1) := by decide +kernel
theorem d22_1 : decode jdk_52_method_6_code 1 = .ok (.arraylength, 1) := by decide +kernel
theorem d22_2 : decode jdk_52_method_6_code 2 = .ok (.iconst 1, 1) := by decide +kernel
theorem d22_3 : decode jdk_52_method_6_code 3 = .ok (.ishr, 1) := by decide +kernel
theorem d22_4 : decode jdk_52_method_6_code 4 = .ok (.ireturn, 1) := by decide +kernel
theorem d23_0 : decode jdk_42_method_155_code 0 = .ok (.iload_n 0, 1) := by decide +kernel
theorem d23_1 : decode jdk_42_method_155_code 1 = .ok (.iload_n 1, 1) := by decide +kernel
theorem d23_2 : decode jdk_42_method_155_code 2 = .ok (.getstatic 1053, 3) := by decide +kernel
theorem d23_5 : decode jdk_42_method_155_code 5 = .ok (.invokestatic 1059, 3) := by decide +kernel
theorem d23_8 : decode jdk_42_method_155_code 8 = .ok (.pop, 1) := by decide +kernel
theorem d23_9 : decode jdk_42_method_155_code 9 = .ok (.return_, 1) := by decide +kernel
theorem d24_0 : decode jdk_41_method_11_code 0 = .ok (.iload_n 0, 1) := by decide +kernel
theorem d24_1 : decode jdk_41_method_11_code 1 = .ok (.ifCond .lt 8, 3) := by decide +kernel
theorem d24_4 : decode jdk_41_method_11_code 4 = .ok (.iload_n 0, 1) := by decide +kernel
theorem d24_5 : decode jdk_41_method_11_code 5 = .ok (.iload_n 1, 1) := by decide +kernel
theorem d24_6 : decode jdk_41_method_11_code 6 = .ok (.if_icmp .lt 10, 3) := by decide +kernel
theorem d24_16 : decode jdk_41_method_11_code 16 = .ok (.iload_n 0, 1) := by decide +kernel
theorem d24_17 : decode jdk_41_method_11_code 17 = .ok (.ireturn, 1) := by decide +kernel
theorem d25_0 : decode prog_8_method_3_code 0 = .ok (.iload_n 0, 1) := by decide +kernel
theorem d25_1 : decode prog_8_method_3_code 1 = .ok (.bipush 48, 2) := by decide +kernel
theorem d25_3 : decode prog_8_method_3_code 3 = .ok (.if_icmp .lt 14, 3) := by decide +kernel
theorem d25_6 : decode prog_8_method_3_code 6 = .ok (.iload_n 0, 1) := by decide +kernel
theorem d25_7 : decode prog_8_method_3_code 7 = .ok (.bipush 57, 2) := by decide +kernel
theorem d25_9 : decode prog_8_method_3_code 9 = .ok (.if_icmp .gt 8, 3) := by decide +kernel
theorem d25_12 : decode prog_8_method_3_code 12 = .ok (.iload_n 0, 1) := by decide +kernel
theorem d25_13 : decode prog_8_method_3_code 13 = .ok (.bipush 48, 2) := by decide +kernel
theorem d25_15 : decode prog_8_method_3_code 15 = .ok (.isub, 1) := by decide +kernel
theorem d25_16 : decode prog_8_method_3_code 16 = .ok (.ireturn, 1) := by decide +kernel
theorem d25_17 : decode prog_8_method_3_code 17 = .ok (.iload_n 0, 1) := by decide +kernel
theorem d25_18 : decode prog_8_method_3_code 18 = .ok (.bipush 65, 2) := by decide +kernel
theorem d25_20 : decode prog_8_method_3_code 20 = .ok (.if_icmp .lt 17, 3) := by decide +kernel
theorem d25_23 : decode prog_8_method_3_code 23 = .ok (.iload_n 0, 1) := by decide +kernel
theorem d25_24 : decode prog_8_method_3_code 24 = .ok (.bipush 90, 2) := by decide +kernel
theorem d25_26 : decode prog_8_method_3_code 26 = .ok (.if_icmp .gt 11, 3) := by decide +kernel
theorem d25_29 : decode prog_8_method_3_code 29 = .ok (.iload_n 0, 1) := by decide +kernel
theorem d25_30 : decode prog_8_method_3_code 30 = .ok (.bipush 65, 2) := by decide +kernel
theorem d25_32 : decode prog_8_method_3_code 32 = .ok (.isub, 1) := by decide +kernel
theorem d25_33 : decode prog_8_method_3_code 33 = .ok (.bipush 10, 2) := by decide +kernel
theorem d25_35 : decode prog_8_method_3_code 35 = .ok (.iadd, 1) := by decide +kernel
theorem d25_36 : decode prog_8_method_3_code 36 = .ok (.ireturn, 1) := by decide +kernel
theorem d25_37 : decode prog_8_method_3_code 37 = .ok (.iload_n 0, 1) := by decide +kernel
theorem d25_38 : decode prog_8_method_3_code 38 = .ok (.lookupswitch 49 #[(35, 44), (42, 34), (64, 39)], 34) := by decide +kernel
theorem d25_72 : decode prog_8_method_3_code 72 = .ok (.bipush 36, 2) := by decide +kernel
theorem d25_74 : decode prog_8_method_3_code 74 = .ok (.goto 14, 3) := by decide +kernel
theorem d25_77 : decode prog_8_method_3_code 77 = .ok (.bipush 37, 2) := by decide +kernel
theorem d25_79 : decode prog_8_method_3_code 79 = .ok (.goto 9, 3) := by decide +kernel
theorem d25_82 : decode prog_8_method_3_code 82 = .ok (.bipush 38, 2) := by decide +kernel
theorem d25_84 : decode prog_8_method_3_code 84 = .ok (.goto 4, 3) := by decide +kernel
theorem d25_87 : decode prog_8_method_3_code 87 = .ok (.iconst (-1), 1) := by decide +kernel
theorem d25_88 : decode prog_8_method_3_code 88 = .ok (.ireturn, 1) := by decide +kernel
theorem d26_0 : decode method_4_code 0 = .ok (.iload_n 0, 1) := by decide +kernel
theorem d26_1 : decode method_4_code 1 = .ok (.bipush 10, 2) := by decide +kernel
theorem d26_3 : decode method_4_code 3 = .ok (.if_icmp .ge 9, 3) := by decide +kernel
theorem d26_6 : decode method_4_code 6 = .ok (.bipush 48, 2) := by decide +kernel
theorem d26_8 : decode method_4_code 8 = .ok (.iload_n 0, 1) := by decide +kernel
theorem d26_9 : decode method_4_code 9 = .ok (.iadd, 1) := by decide +kernel
theorem d26_10 : decode method_4_code 10 = .ok (.i2c, 1) := by decide +kernel
theorem d26_11 : decode method_4_code 11 = .ok (.ireturn, 1) := by decide +kernel
theorem d26_12 : decode method_4_code 12 = .ok (.iload_n 0, 1) := by decide +kernel
theorem d26_13 : decode method_4_code 13 = .ok (.bipush 36, 2) := by decide +kernel
theorem d26_15 : decode method_4_code 15 = .ok (.if_icmp .ge 12, 3) := by decide +kernel
theorem d26_18 : decode method_4_code 18 = .ok (.bipush 65, 2) := by decide +kernel
theorem d26_20 : decode method_4_code 20 = .ok (.iload_n 0, 1) := by decide +kernel
theorem d26_21 : decode method_4_code 21 = .ok (.bipush 10, 2) := by decide +kernel
theorem d26_23 : decode method_4_code 23 = .ok (.isub, 1) := by decide +kernel
theorem d26_24 : decode method_4_code 24 = .ok (.iadd, 1) := by decide +kernel
theorem d26_25 : decode method_4_code 25 = .ok (.i2c, 1) := by decide +kernel
theorem d26_26 : decode method_4_code 26 = .ok (.ireturn, 1) := by decide +kernel
theorem d26_27 : decode method_4_code 27 = .ok (.iload_n 0, 1) := by decide +kernel
theorem d26_28 : decode method_4_code 28 = .ok (.bipush 36, 2) := by decide +kernel
theorem d26_30 : decode method_4_code 30 = .ok (.if_icmp .ne 6, 3) := by decide +kernel
theorem d26_33 : decode method_4_code 33 = .ok (.bipush 42, 2) := by decide +kernel
theorem d26_35 : decode method_4_code 35 = .ok (.ireturn, 1) := by decide +kernel
theorem d26_36 : decode method_4_code 36 = .ok (.iload_n 0, 1) := by decide +kernel
theorem d26_37 : decode method_4_code 37 = .ok (.bipush 37, 2) := by decide +kernel
theorem d26_39 : decode method_4_code 39 = .ok (.if_icmp .ne 6, 3) := by decide +kernel
theorem d26_42 : decode method_4_code 42 = .ok (.bipush 64, 2) := by decide +kernel
theorem d26_44 : decode method_4_code 44 = .ok (.ireturn, 1) := by decide +kernel
theorem d26_45 : decode method_4_code 45 = .ok (.bipush 35, 2) := by decide +kernel
theorem d26_47 : decode method_4_code 47 = .ok (.ireturn, 1) := by decide +kernel
theorem d27_0 : decode jdk_43_method_2_code 0 = .ok (.iload_n 1, 1) := by decide +kernel
theorem d27_1 : decode jdk_43_method_2_code 1 = .ok (.aload_n 0, 1) := by decide +kernel
theorem d27_2 : decode jdk_43_method_2_code 2 = .ok (.arraylength, 1) := by decide +kernel
theorem d27_3 : decode jdk_43_method_2_code 3 = .ok (.invokestatic 9, 3) := by decide +kernel
theorem d27_6 : decode jdk_43_method_2_code 6 = .ok (.aload_n 0, 1) := by decide +kernel
theorem d27_7 : decode jdk_43_method_2_code 7 = .ok (.iload_n 1, 1) := by decide +kernel
theorem d27_8 : decode jdk_43_method_2_code 8 = .ok (.baload, 1) := by decide +kernel
theorem d27_9 : decode jdk_43_method_2_code 9 = .ok (.sipush 255, 3) := by decide +kernel
theorem d27_12 : decode jdk_43_method_2_code 12 = .ok (.iand, 1) := by decide +kernel
theorem d27_13 : decode jdk_43_method_2_code 13 = .ok (.i2c, 1) := by decide +kernel
theorem d27_14 : decode jdk_43_method_2_code 14 = .ok (.ireturn, 1) := by decide +kernel
theorem d28_0 : decode method_6_code 0 = .ok (.iload_n 0, 1) := by decide +kernel
theorem d28_1 : decode method_6_code 1 = .ok (.bipush 9, 2) := by decide +kernel
theorem d28_3 : decode method_6_code 3 = .ok (.iload_n 0, 1) := by decide +kernel
theorem d28_4 : decode method_6_code 4 = .ok (.bipush 10, 2) := by decide +kernel
theorem d28_6 : decode method_6_code 6 = .ok (.idiv, 1) := by decide +kernel
theorem d28_7 : decode method_6_code 7 = .ok (.imul, 1) := by decide +kernel
theorem d28_8 : decode method_6_code 8 = .ok (.isub, 1) := by decide +kernel
theorem d28_9 : decode method_6_code 9 = .ok (.ireturn, 1) := by decide +kernel
theorem pn_0 : plainName "java/lang/String" = true := by first | (simp [plainName, overriddenIn]; done) | decide +kernel
theorem pn_1 : plainName "jdk/internal/util/Preconditions" = true := by first | (simp [plainName, overriddenIn]; done) | decide +kernel
theorem pn_2 : plainName "java/lang/StringUTF16" = true := by first | (simp [plainName, overriddenIn]; done) | decide +kernel
theorem pn_3 : plainName "java/lang/StringLatin1" = true := by first | (simp [plainName, overriddenIn]; done) | decide +kernel
theorem pn_4 : plainName "tenorbook/book/CusipIsValidPinLaw" = true := by first | (simp [plainName, overriddenIn]; done) | decide +kernel
theorem pn_5 : plainName "tenorbook/book/Cusip" = true := by first | (simp [plainName, overriddenIn]; done) | decide +kernel
theorem pd_0 : parseMethodDescriptor "(IILjava/util/function/BiFunction;)I" = some ⟨[.int, .int, (.object "java/util/function/BiFunction")], some .int⟩ := by decide +kernel
theorem pd_1 : parseMethodDescriptor "([CIILjava/lang/Void;)V" = some ⟨[(.array .char), .int, .int, (.object "java/lang/Void")], none⟩ := by decide +kernel
theorem pd_2 : parseMethodDescriptor "(I)I" = some ⟨[.int], some .int⟩ := by decide +kernel
theorem pd_3 : parseMethodDescriptor "(I)[B" = some ⟨[.int], some (.array .byte)⟩ := by decide +kernel
theorem pd_4 : parseMethodDescriptor "([BII)V" = some ⟨[(.array .byte), .int, .int], none⟩ := by decide +kernel
theorem pd_5 : parseMethodDescriptor "([CI[BII)I" = some ⟨[(.array .char), .int, (.array .byte), .int, .int], some .int⟩ := by decide +kernel
theorem pd_6 : parseMethodDescriptor "([CII)[B" = some ⟨[(.array .char), .int, .int], some (.array .byte)⟩ := by decide +kernel
theorem pd_7 : parseMethodDescriptor "([BI)B" = some ⟨[(.array .byte), .int], some .byte⟩ := by decide +kernel
theorem pd_8 : parseMethodDescriptor "([BI)C" = some ⟨[(.array .byte), .int], some .char⟩ := by decide +kernel
theorem pd_9 : parseMethodDescriptor "()B" = some ⟨[], some .byte⟩ := by decide +kernel
theorem pd_10 : parseMethodDescriptor "(II)V" = some ⟨[.int, .int], none⟩ := by decide +kernel
theorem pd_11 : parseMethodDescriptor "()Z" = some ⟨[], some .boolean⟩ := by decide +kernel
theorem pd_12 : parseMethodDescriptor "([B)I" = some ⟨[(.array .byte)], some .int⟩ := by decide +kernel
theorem pd_13 : parseMethodDescriptor "(I[B)V" = some ⟨[.int, (.array .byte)], none⟩ := by decide +kernel
theorem pd_14 : parseMethodDescriptor "(I)C" = some ⟨[.int], some .char⟩ := by decide +kernel
theorem pd_15 : parseMethodDescriptor "(C)I" = some ⟨[.char], some .int⟩ := by decide +kernel
theorem pd_16 : parseMethodDescriptor "()I" = some ⟨[], some .int⟩ := by decide +kernel
theorem pd_17 : parseMethodDescriptor "([C)V" = some ⟨[(.array .char)], none⟩ := by decide +kernel
theorem pd_18 : parseMethodDescriptor "(Ljava/lang/String;)Z" = some ⟨[(.object "java/lang/String")], some .boolean⟩ := by decide +kernel
theorem pd_19 : parseMethodDescriptor "(CCCCCCCCC)Z" = some ⟨[.char, .char, .char, .char, .char, .char, .char, .char, .char], some .boolean⟩ := by decide +kernel
theorem own_wS {a0 : Array Value} {Z : State} (hw : ∀ d ∈ tables_1, d.before a0 Z = true) : ∀ a ∈ Bundle.stringAtoms, a.before a0 Z = true := fun d hd => by
  simp only [Bundle.stringAtoms, List.mem_cons, List.not_mem_nil, or_false] at hd
  rcases hd with rfl | rfl | rfl | rfl | rfl | rfl | rfl
  · exact (w_7 hw)
  · exact (w_6 hw)
  · exact (w_24 hw)
  · exact (w_53 hw)
  · exact (w_51 hw)
  · exact (w_108 hw)
  · exact (w_109 hw)
theorem own_EW {a0 : Array Value} {Z : State} (hw : ∀ d ∈ tables_1, d.before a0 Z = true) : EW Z a0 consts_1 := EW.cons (w_107 hw) (by decide) (EW.nil)
def OwnS (Z : State) (i_COMPACT_STRINGS : Int32) (v_SIOOBE_FORMATTER : Value) : Prop := (Sta Z Z.heap "java/lang/String" "COMPACT_STRINGS" "Z" (.int i_COMPACT_STRINGS)) ∧ (Sta Z Z.heap "jdk/internal/util/Preconditions" "SIOOBE_FORMATTER" "Ljava/util/function/BiFunction;" v_SIOOBE_FORMATTER) ∧ (v_SIOOBE_FORMATTER.isRef = true) ∧ (Sta Z Z.heap "java/lang/StringUTF16" "$assertionsDisabled" "Z" (.int (1 : Int32))) ∧ (Sta Z Z.heap "java/lang/StringUTF16" "HI_BYTE_SHIFT" "I" (.int (0 : Int32))) ∧ (Sta Z Z.heap "java/lang/StringUTF16" "LO_BYTE_SHIFT" "I" (.int (8 : Int32))) ∧ (¬ (i_COMPACT_STRINGS = (0 : Int32)))
def own_by (c : Int32) : Int32 := nar .byte c.toInt8.toInt32
theorem own_t1 (x : Int32) : nar .byte x = x.toInt8.toInt32 := rfl
theorem own_gcb (u : BitVec 16) : (((((((u.setWidth 32).sshiftRight 0).setWidth 8).signExtend 32) &&& 255#32) <<< 0 ||| (((((u.setWidth 32).sshiftRight 8).setWidth 8).signExtend 32) &&& 255#32) <<< 8).setWidth 16) = u := by
  apply BitVec.eq_of_getLsbD_eq
  intro i hi
  simp [BitVec.getLsbD_setWidth, BitVec.getLsbD_or, BitVec.getLsbD_and, BitVec.getLsbD_signExtend, BitVec.getLsbD_shiftLeft, BitVec.getLsbD_sshiftRight]
  have h : i = 0 ∨ i = 1 ∨ i = 2 ∨ i = 3 ∨ i = 4 ∨ i = 5 ∨ i = 6 ∨ i = 7 ∨ i = 8 ∨ i = 9 ∨ i = 10 ∨ i = 11 ∨ i = 12 ∨ i = 13 ∨ i = 14 ∨ i = 15 := by omega
  rcases h with rfl | rfl | rfl | rfl | rfl | rfl | rfl | rfl | rfl | rfl | rfl | rfl | rfl | rfl | rfl | rfl <;> simp
def own_b0 (c : Int32) : Int32 := nar .byte ((c >>> ((0 : Int32) &&& 31)).toInt8.toInt32)
def own_b1 (c : Int32) : Int32 := nar .byte ((c >>> ((8 : Int32) &&& 31)).toInt8.toInt32)
def own_gv (y z : Int32) : Int32 := ((((y &&& (255 : Int32)) <<< ((0 : Int32) &&& 31)) ||| ((z &&& (255 : Int32)) <<< ((8 : Int32) &&& 31))).toUInt32.toUInt16.toUInt32.toInt32)
theorem own_char {c : Int32} (h : nar .char c = c) : ∃ u : UInt16, c = u.toUInt32.toInt32 := ⟨c.toUInt32.toUInt16, h.symm⟩
theorem own_b0b (u : UInt16) : (own_b0 u.toUInt32.toInt32).toBitVec = ((((u.toBitVec.setWidth 32).sshiftRight 0).setWidth 8).signExtend 32) := by
  unfold own_b0
  rw [own_t1]
  simp [BitVec.signExtend_eq_setWidth_of_le]
theorem own_b1b (u : UInt16) : (own_b1 u.toUInt32.toInt32).toBitVec = ((((u.toBitVec.setWidth 32).sshiftRight 8).setWidth 8).signExtend 32) := by
  unfold own_b1
  rw [own_t1]
  simp [BitVec.signExtend_eq_setWidth_of_le]
theorem own_gc {c : Int32} (h : nar .char c = c) : own_gv (own_b0 c) (own_b1 c) = c := by
  obtain ⟨u, rfl⟩ := own_char h
  apply Int32.toBitVec_inj.mp
  have h1 := own_gcb u.toBitVec
  rw [← own_b0b, ← own_b1b] at h1
  generalize own_b0 u.toUInt32.toInt32 = y at *
  generalize own_b1 u.toUInt32.toInt32 = z at *
  exact congrArg (fun b => b.setWidth 32) h1
theorem own_u16 (u : UInt16) : u.toUInt32.toInt32.toInt = u.toNat := by
  have h := u.toNat_lt
  have h2 : u.toUInt32.toInt32.toInt = (u.toUInt32.toBitVec).toInt := rfl
  rw [h2, BitVec.toInt_eq_toNat_of_lt (by show 2 * u.toUInt32.toNat < _; rw [UInt16.toNat_toUInt32]; omega)]
  show ((u.toUInt32.toNat : Nat) : Int) = _
  rw [UInt16.toNat_toUInt32]
theorem own_ch0 {c : Int32} (h : nar .char c = c) : 0 ≤ c.toInt ∧ c.toInt < 65536 := by
  obtain ⟨u, rfl⟩ := own_char h
  have h := u.toNat_lt
  rw [own_u16]
  omega
theorem own_lcA : ∀ i : Fin 256, (((nar .byte (Int32.ofNat i.val).toInt8.toInt32) &&& (255 : Int32)).toUInt32.toUInt16.toUInt32.toInt32) = Int32.ofNat i.val := by decide +kernel
theorem own_lc {c : Int32} (h : nar .char c = c) (hl : ¬ ((255 : Int32) < c)) : (((nar .byte c.toInt8.toInt32) &&& (255 : Int32)).toUInt32.toUInt16.toUInt32.toInt32) = c := by
  have h0 := (own_ch0 h).1
  rw [Int32.lt_iff_toInt_lt, show (255 : Int32).toInt = 255 by decide] at hl
  have e : c = Int32.ofNat c.toInt.toNat := by
    apply Int32.toInt_inj.mp
    rw [Int32.toInt_ofNat_of_lt (by omega)]
    omega
  rw [e]
  exact own_lcA ⟨c.toInt.toNat, by omega⟩
theorem own_nc (x : Int32) : narrow .char (.int (x.toUInt32.toUInt16.toUInt32.toInt32)) = .int (x.toUInt32.toUInt16.toUInt32.toInt32) := by
  generalize x.toUInt32.toUInt16 = u
  show Value.int (u.toUInt32.toInt32.toUInt32.toUInt16.toUInt32.toInt32) = _
  rw [show u.toUInt32.toInt32.toUInt32.toUInt16 = u by simp]
theorem own_nch (x : Int32) : nar .char (x.toUInt32.toUInt16.toUInt32.toInt32) = (x.toUInt32.toUInt16.toUInt32.toInt32) := Value.int.inj (own_nc x)

section OwnStr
def OwnL (cs : List Int32) : List Value := cs.map fun c => Value.int (own_by c)
def OwnU (cs : List Int32) : List Value := cs.flatMap fun c => [Value.int (own_b0 c), Value.int (own_b1 c)]
def OwnPL (cs : List Int32) (m : Nat) (bs : List Value) : Prop := bs.length = cs.length ∧ ∀ j, j < m → bs[j]? = (cs[j]?).map fun c => Value.int (own_by c)
def OwnPU (cs : List Int32) (m : Nat) (bs : List Value) : Prop := bs.length = 2 * cs.length ∧ ∀ j, j < m → bs[2 * j]? = (cs[j]?).map (fun c => Value.int (own_b0 c)) ∧ bs[2 * j + 1]? = (cs[j]?).map (fun c => Value.int (own_b1 c))
theorem OwnPL.start (cs : List Int32) (d : Value) : OwnPL cs 0 (List.replicate cs.length d) := ⟨by simp, fun j hj => absurd hj (Nat.not_lt_zero _)⟩
theorem OwnPU.start (cs : List Int32) (d : Value) : OwnPU cs 0 (List.replicate (2 * cs.length) d) := ⟨by simp, fun j hj => absurd hj (Nat.not_lt_zero _)⟩
theorem OwnPL.step {cs : List Int32} {m : Nat} {bs : List Value} {c : Int32} (h : OwnPL cs m bs) (hc : cs[m]? = some c) : OwnPL cs (m + 1) (bs.set m (.int (own_by c))) := by
  refine ⟨by simp [h.1], fun j hj => ?_⟩
  have hm : m < cs.length := (List.getElem?_eq_some_iff.mp hc).1
  rw [List.getElem?_set]
  by_cases e : m = j
  · subst e
    rw [if_pos rfl, if_pos (by rw [h.1]; exact hm), hc]
    rfl
  · rw [if_neg e]
    exact h.2 j (by omega)
theorem OwnPU.step {cs : List Int32} {m : Nat} {bs : List Value} {c : Int32} (h : OwnPU cs m bs) (hc : cs[m]? = some c) : OwnPU cs (m + 1) ((bs.set (2 * m) (.int (own_b0 c))).set (2 * m + 1) (.int (own_b1 c))) := by
  refine ⟨by simp [h.1], fun j hj => ?_⟩
  have hm : m < cs.length := (List.getElem?_eq_some_iff.mp hc).1
  have hl := h.1
  by_cases e : m = j
  · subst e
    constructor
    · rw [List.getElem?_set, if_neg (by omega), List.getElem?_set, if_pos rfl, if_pos (by omega), hc]; rfl
    · rw [List.getElem?_set, if_pos rfl, if_pos (by rw [List.length_set]; omega), hc]; rfl
  · have := h.2 j (by omega)
    constructor
    · rw [List.getElem?_set, if_neg (by omega), List.getElem?_set, if_neg (by omega)]; exact this.1
    · rw [List.getElem?_set, if_neg (by omega), List.getElem?_set, if_neg (by omega)]; exact this.2
theorem OwnPL.end {cs : List Int32} {bs : List Value} (h : OwnPL cs cs.length bs) : bs = OwnL cs := by
  apply List.ext_getElem?
  intro j
  unfold OwnL
  rw [List.getElem?_map]
  by_cases hj : j < cs.length
  · exact h.2 j hj
  · rw [List.getElem?_eq_none (by have := h.1; omega), List.getElem?_eq_none (by omega)]; rfl
theorem OwnU.at (cs : List Int32) : ∀ j, (OwnU cs)[2 * j]? = (cs[j]?).map (fun c => Value.int (own_b0 c)) ∧ (OwnU cs)[2 * j + 1]? = (cs[j]?).map (fun c => Value.int (own_b1 c)) := by
  unfold OwnU
  induction cs with
  | nil => intro j; simp
  | cons c cs ih =>
    intro j
    cases j with
    | zero => simp
    | succ j =>
      have := ih j
      simp only [List.flatMap_cons, List.cons_append, List.nil_append]
      rw [show 2 * (j + 1) = 2 * j + 1 + 1 by omega, List.getElem?_cons_succ, List.getElem?_cons_succ, List.getElem?_cons_succ, List.getElem?_cons_succ, List.getElem?_cons_succ]
      exact this
theorem OwnU.len (cs : List Int32) : (OwnU cs).length = 2 * cs.length := by
  unfold OwnU
  induction cs with
  | nil => rfl
  | cons c cs ih => simp only [List.flatMap_cons, List.length_append, ih, List.length_cons, List.length_nil]; omega
theorem OwnPU.end {cs : List Int32} {bs : List Value} (h : OwnPU cs cs.length bs) : bs = OwnU cs := by
  apply List.ext_getElem?
  intro k
  have hk : k = 2 * (k / 2) ∨ k = 2 * (k / 2) + 1 := by omega
  have hl := OwnU.len cs
  have hl2 := h.1
  by_cases hj : k / 2 < cs.length
  · have a := h.2 _ hj
    have b := OwnU.at cs (k / 2)
    rcases hk with e | e
    · rw [e, a.1, b.1]
    · rw [e, a.2, b.2]
  · rw [List.getElem?_eq_none (by omega), List.getElem?_eq_none (by omega)]
theorem own_getD {bs : List Value} {j : Nat} {v d : Value} (h : bs[j]? = some v) : bs.getD j d = v := by rw [List.getD_eq_getElem?_getD, h]; rfl
theorem own_getC {cs : List Int32} {j : Nat} {c : Int32} {d : Value} (h : cs[j]? = some c) : (cs.map Value.int).getD j d = .int c := own_getD (by rw [List.getElem?_map, h]; rfl)
theorem own_getL {cs : List Int32} {j : Nat} {c : Int32} {d : Value} (h : cs[j]? = some c) : (OwnL cs).getD j d = .int (own_by c) := own_getD (by unfold OwnL; rw [List.getElem?_map, h]; rfl)
theorem own_getU0 {cs : List Int32} {j : Nat} {c : Int32} {d : Value} (h : cs[j]? = some c) : (OwnU cs).getD (2 * j) d = .int (own_b0 c) := own_getD (by rw [(OwnU.at cs j).1, h]; rfl)
theorem own_getU1 {cs : List Int32} {j : Nat} {c : Int32} {d : Value} (h : cs[j]? = some c) : (OwnU cs).getD (2 * j + 1) d = .int (own_b1 c) := own_getD (by rw [(OwnU.at cs j).2, h]; rfl)
theorem own_tn {i : Int32} {m : Nat} (h : i.toInt = (m : Int)) : i.toNatClampNeg = m := by
  show i.toInt.toNat = m
  rw [h]; rfl
theorem own_nneg {i : Int32} {m : Nat} (h : i.toInt = (m : Int)) : ¬ i < 0 := by
  rw [Int32.lt_iff_toInt_lt, h, show (0 : Int32).toInt = 0 by decide]; omega
theorem own_ltI {i j : Int32} {m n : Nat} (h : i.toInt = (m : Int)) (h2 : j.toInt = (n : Int)) (hl : m < n) : i < j := by
  rw [Int32.lt_iff_toInt_lt, h, h2]; omega
theorem own_nltI {i j : Int32} {m n : Nat} (h : i.toInt = (m : Int)) (h2 : j.toInt = (n : Int)) (hl : n ≤ m) : ¬ i < j := by
  rw [Int32.lt_iff_toInt_lt, h, h2]; omega
theorem own_suc {i : Int32} {m : Nat} (h : i.toInt = (m : Int)) (hm : m < 1000000) : (i + (1 : Int32)).toInt = ((m + 1 : Nat) : Int) := by
  rw [Int32.toInt_add, h, show (1 : Int32).toInt = 1 by decide, Int.bmod_eq_of_le (by omega) (by omega)]; rfl
theorem own_dbl0 (i : Int32) : i <<< ((1 : Int32) &&& 31) = i + i := by
  apply Int32.toBitVec_inj.mp
  have e : (i <<< ((1 : Int32) &&& 31)).toBitVec = i.toBitVec <<< (1 : Nat) := rfl
  rw [e, Int32.toBitVec_add]
  apply BitVec.eq_of_toNat_eq
  rw [BitVec.toNat_shiftLeft, BitVec.toNat_add, Nat.shiftLeft_eq]
  congr 1
  omega
theorem own_dbl {i : Int32} {m : Nat} (h : i.toInt = (m : Int)) (hm : m < 1000000) : (i <<< ((1 : Int32) &&& 31)).toInt = ((2 * m : Nat) : Int) := by
  rw [own_dbl0, Int32.toInt_add, h, Int.bmod_eq_of_le (by omega) (by omega)]; omega
theorem own_of {z : Int32} {n : Nat} (h : z.toInt = (n : Int)) (hn : n < 1000000) : z = Int32.ofNat n := by
  apply Int32.toInt_inj.mp
  rw [Int32.toInt_ofNat_of_lt (by omega), h]
theorem own_clA : ∀ n : Fin 33, 0 < n.val → ((((Int32.ofNat n.val) - ((Int32.ofNat n.val) <<< ((1 : Int32) &&& 31))).toUInt32 >>> ((31 : Int32) &&& 31).toUInt32).toInt32).toInt8.toInt32 = 1 := by decide +kernel
theorem own_clU {z : Int32} {n : Nat} (h : z.toInt = (n : Int)) (h0 : 0 < n) (h1 : n < 33) : (((z - (z <<< ((1 : Int32) &&& 31))).toUInt32 >>> ((31 : Int32) &&& 31).toUInt32).toInt32).toInt8.toInt32 = 1 := by
  rw [own_of h (by omega)]
  exact own_clA ⟨n, h1⟩ h0
theorem own_clL (z : Int32) : (((z - z).toUInt32 >>> ((31 : Int32) &&& 31).toUInt32).toInt32).toInt8.toInt32 = 0 := by
  rw [Int32.sub_self]
  decide

def OwnLat (cs : List Int32) : Prop := ∀ c ∈ cs, ¬ ((255 : Int32) < c)
def OwnHi (cs : List Int32) : Prop := ∃ c ∈ cs, (255 : Int32) < c
def OwnChs (cs : List Int32) : Prop := ∀ c ∈ cs, nar .char c = c
theorem OwnLat.nil : OwnLat [] := fun _ h => nomatch h
theorem OwnLat.cons {c : Int32} {cs : List Int32} (h : ¬ ((255 : Int32) < c)) (k : OwnLat cs) : OwnLat (c :: cs) := fun x hx => by
  rcases List.mem_cons.mp hx with rfl | q
  · exact h
  · exact k x q
theorem OwnChs.nil : OwnChs [] := fun _ h => nomatch h
theorem OwnChs.cons {c : Int32} {cs : List Int32} (h : nar .char c = c) (k : OwnChs cs) : OwnChs (c :: cs) := fun x hx => by
  rcases List.mem_cons.mp hx with rfl | q
  · exact h
  · exact k x q
theorem OwnHi.here {c : Int32} {cs : List Int32} (h : (255 : Int32) < c) : OwnHi (c :: cs) := ⟨c, List.mem_cons_self, h⟩
theorem OwnHi.there {c : Int32} {cs : List Int32} (h : OwnHi cs) : OwnHi (c :: cs) := by
  obtain ⟨x, hx, q⟩ := h
  exact ⟨x, List.mem_cons_of_mem _ hx, q⟩
theorem OwnHi.not {cs : List Int32} (h : OwnHi cs) (k : ∀ (j : Nat) (c : Int32), cs[j]? = some c → ¬ ((255 : Int32) < c)) : False := by
  obtain ⟨c, hc, q⟩ := h
  obtain ⟨j, hj⟩ := List.getElem?_of_mem hc
  exact k j c hj q
theorem own_neI {i j : Int32} {m n : Nat} (h : i.toInt = (m : Int)) (h2 : j.toInt = (n : Int)) (hl : m < n) : ¬ i = j := fun q => by
  rw [q, h2] at h
  omega
theorem own_n0 {j : Int32} {n : Nat} (h2 : j.toInt = (n : Int)) (hl : 0 < n) : ¬ j = 0 := fun q => by
  rw [q, show (0 : Int32).toInt = 0 by decide] at h2
  omega
theorem own_hlfA : ∀ n : Fin 33, (((Int32.ofNat (2 * n.val)) >>> ((1 : Int32) &&& 31))).toInt = (n.val : Int) := by decide +kernel
theorem own_half {z : Int32} {n : Nat} (h : z.toInt = ((2 * n : Nat) : Int)) (hn : n < 33) : (z >>> ((1 : Int32) &&& 31)).toInt = (n : Int) := by
  rw [own_of h (by omega)]
  exact own_hlfA ⟨n, hn⟩
theorem own_hlf {i z : Int32} {m n : Nat} (hi : i.toInt = (m : Int)) (h : z.toInt = ((2 * n : Nat) : Int)) (hm : m < n) (hn : n ≤ 10) : i < (z >>> ((1 : Int32) &&& 31)) := own_ltI hi (own_half h (by omega)) hm
theorem own_shr0 (z : Int32) : (z >>> ((0 : Int32) &&& 31)) = z := by
  apply Int32.toInt_inj.mp
  rw [c_ishr z 0 0 (by decide)]
  simp
theorem own_lenL {z : Int32} {n : Nat} (h : z.toInt = ((n : Nat) : Int)) : (z >>> ((0 : Int32) &&& 31)).toInt = (n : Int) := by rw [own_shr0]; exact h
end OwnStr

def OwnSt (Z : State) (h : Heap) (b : Addr) (cs : List Int32) : Prop := Exa Z h b "java/lang/String" ∧ ∃ (ba : Addr) (kb : ClassId) (zb : Int32), Fld Z h b "java/lang/String" "value" "[B" (.ref ba) ∧ ((Fld Z h b "java/lang/String" "coder" "B" (.int (0 : Int32)) ∧ Arv Z h ba kb .byte zb (OwnL cs) (.int (0 : Int32)) ∧ OwnLat cs ∧ zb.toInt = ((cs.length : Nat) : Int)) ∨ (Fld Z h b "java/lang/String" "coder" "B" (.int (1 : Int32)) ∧ Arv Z h ba kb .byte zb (OwnU cs) (.int (0 : Int32)) ∧ OwnHi cs ∧ zb.toInt = ((2 * cs.length : Nat) : Int)))
theorem own_loh (cs : List Int32) : OwnLat cs ∨ OwnHi cs := by
  by_cases h : OwnHi cs
  · exact Or.inr h
  · exact Or.inl fun c hc hl => h ⟨c, hc, hl⟩
section OwnCusip
def own_v3 (c : Int32) : Int32 := if c = (42 : Int32) then (36 : Int32) else if c = (64 : Int32) then (37 : Int32) else if c = (35 : Int32) then (38 : Int32) else (-1 : Int32)
def own_v2 (c : Int32) : Int32 := if c < (65 : Int32) then own_v3 c else if (90 : Int32) < c then own_v3 c else ((c - (65 : Int32)) + (10 : Int32))
def own_val (c : Int32) : Int32 := if c < (48 : Int32) then own_v2 c else if (57 : Int32) < c then own_v2 c else (c - (48 : Int32))
def own_dsx (t : Int32) : Int32 := (t - ((9 : Int32) * (t / (10 : Int32))))
def own_d (i : Nat) (c : Int32) : Int := if i % 2 = 1 then (2 * (own_val c).toInt) / 10 + (2 * (own_val c).toInt) % 10 else (own_val c).toInt / 10 + (own_val c).toInt % 10
def own_S (cs : List Int32) : Nat → Int
  | 0 => 0
  | m + 1 => own_S cs m + own_d m (cs.getD m 0)
def OwnOk (cs : List Int32) : Prop := (∀ j : Nat, j < 8 → ∀ c : Int32, cs[j]? = some c → ¬ (own_val c < (0 : Int32))) ∧ ∃ c : Int32, cs[8]? = some c ∧ c.toInt = 48 + (10 - own_S cs 8 % 10) % 10
def OwnCk (cs : List Int32) (z : Int32) : Prop := (z = (0 : Int32) ∧ ¬ OwnOk cs) ∨ (z = (1 : Int32) ∧ OwnOk cs)
theorem own_ckeq {cs : List Int32} {y z : Int32} (h : OwnCk cs y) (k : OwnCk cs z) : y = z := by
  rcases h with ⟨rfl, h⟩ | ⟨rfl, h⟩ <;> rcases k with ⟨rfl, k⟩ | ⟨rfl, k⟩
  · rfl
  · exact absurd k h
  · exact absurd h k
  · rfl
theorem own_miss (c : Int32) (h1 : ¬ c = (42 : Int32)) (h2 : ¬ c = (64 : Int32)) (h3 : ¬ c = (35 : Int32)) : (#[(35, 44), (42, 34), (64, 39)] : Array (Int × Int)).find? (fun q => q.1 == c.toInt) = none := by
  have e1 : ((42 : Int) == c.toInt) = false := beq_false_of_ne (fun q => h1 (Int32.toInt_inj.mp q.symm))
  have e2 : ((64 : Int) == c.toInt) = false := beq_false_of_ne (fun q => h2 (Int32.toInt_inj.mp q.symm))
  have e3 : ((35 : Int) == c.toInt) = false := beq_false_of_ne (fun q => h3 (Int32.toInt_inj.mp q.symm))
  rw [List.find?_toArray]
  simp only [List.find?, e1, e2, e3]
theorem own_lt {a b : Int32} : a < b ↔ a.toInt < b.toInt := Int32.lt_iff_toInt_lt
theorem own_subI {a b : Int32} {A B : Int} (ha : a.toInt = A) (hb : b.toInt = B) (h0 : -1000 ≤ A ∧ A ≤ 1000) (h1 : -1000 ≤ B ∧ B ≤ 1000) : (a - b).toInt = A - B := by
  rw [Int32.toInt_sub, ha, hb, Int.bmod_eq_of_le (by omega) (by omega)]
theorem own_addI {a b : Int32} {A B : Int} (ha : a.toInt = A) (hb : b.toInt = B) (h0 : -1000 ≤ A ∧ A ≤ 1000) (h1 : -1000 ≤ B ∧ B ≤ 1000) : (a + b).toInt = A + B := by
  rw [Int32.toInt_add, ha, hb, Int.bmod_eq_of_le (by omega) (by omega)]
theorem own_v3R (c : Int32) : -1 ≤ (own_v3 c).toInt ∧ (own_v3 c).toInt ≤ 38 := by
  unfold own_v3
  by_cases h1 : c = 42
  · rw [if_pos h1]; decide
  · rw [if_neg h1]
    by_cases h2 : c = 64
    · rw [if_pos h2]; decide
    · rw [if_neg h2]
      by_cases h3 : c = 35
      · rw [if_pos h3]; decide
      · rw [if_neg h3]; decide
theorem own_v2R (c : Int32) : -1 ≤ (own_v2 c).toInt ∧ (own_v2 c).toInt ≤ 38 := by
  unfold own_v2
  by_cases h1 : c < 65
  · rw [if_pos h1]; exact own_v3R c
  · rw [if_neg h1]
    by_cases h2 : 90 < c
    · rw [if_pos h2]; exact own_v3R c
    · rw [if_neg h2]
      rw [own_lt, show (65 : Int32).toInt = 65 by decide] at h1
      rw [own_lt, show (90 : Int32).toInt = 90 by decide] at h2
      rw [own_addI (own_subI (a := c) rfl (show (65 : Int32).toInt = 65 by decide) (by omega) (by omega)) (show (10 : Int32).toInt = 10 by decide) (by omega) (by omega)]
      omega
theorem own_valR (c : Int32) : -1 ≤ (own_val c).toInt ∧ (own_val c).toInt ≤ 38 := by
  unfold own_val
  by_cases h1 : c < 48
  · rw [if_pos h1]; exact own_v2R c
  · rw [if_neg h1]
    by_cases h2 : 57 < c
    · rw [if_pos h2]; exact own_v2R c
    · rw [if_neg h2]
      rw [own_lt, show (48 : Int32).toInt = 48 by decide] at h1
      rw [own_lt, show (57 : Int32).toInt = 57 by decide] at h2
      rw [own_subI (a := c) rfl (show (48 : Int32).toInt = 48 by decide) (by omega) (by omega)]
      omega
theorem own_valN {c : Int32} (h : ¬ (own_val c < (0 : Int32))) : 0 ≤ (own_val c).toInt ∧ (own_val c).toInt ≤ 38 := by
  rw [own_lt, show (0 : Int32).toInt = 0 by decide] at h
  have := own_valR c
  omega
theorem own_two {t : Int32} (h : 0 ≤ t.toInt ∧ t.toInt ≤ 38) : ((2 : Int32) * t).toInt = 2 * t.toInt := by
  rw [Int32.toInt_mul, show (2 : Int32).toInt = 2 by decide, Int.bmod_eq_of_le (by omega) (by omega)]
theorem own_dr {t : Int32} (h : 0 ≤ t.toInt ∧ t.toInt ≤ 100) : ((t / (10 : Int32)) + (t % (10 : Int32))).toInt = t.toInt / 10 + t.toInt % 10 := by
  have h1 := (c_idiv t 10 10 (by decide) (by decide)).1 h.1
  have h2 := (c_irem t 10 10 (by decide)).1 h.1
  exact own_addI h1 h2 (by omega) (by omega)
theorem own_dsI {t : Int32} (h : 0 ≤ t.toInt ∧ t.toInt ≤ 100) : (own_dsx t).toInt = t.toInt / 10 + t.toInt % 10 := by
  have h1 := (c_idiv t 10 10 (by decide) (by decide)).1 h.1
  have h2 : ((9 : Int32) * (t / (10 : Int32))).toInt = 9 * (t.toInt / 10) := by
    rw [Int32.toInt_mul, show (9 : Int32).toInt = 9 by decide, h1, Int.bmod_eq_of_le (by omega) (by omega)]
  unfold own_dsx
  rw [own_subI (a := t) rfl h2 (by omega) (by omega)]
  omega
theorem own_dR {i : Nat} {c : Int32} (h : ¬ (own_val c < (0 : Int32))) : 0 ≤ own_d i c ∧ own_d i c ≤ 16 := by
  have := own_valN h
  unfold own_d
  by_cases e : i % 2 = 1
  · rw [if_pos e]; omega
  · rw [if_neg e]; omega
theorem own_d1 {i : Nat} {c : Int32} (e : i % 2 = 1) (h : ¬ (own_val c < (0 : Int32))) : (own_dsx ((2 : Int32) * (own_val c))).toInt = own_d i c := by
  have h1 := own_valN h
  have h2 := own_two h1
  unfold own_d
  rw [if_pos e, own_dsI (by rw [h2]; omega), h2]
theorem own_d0 {i : Nat} {c : Int32} (e : ¬ i % 2 = 1) (h : ¬ (own_val c < (0 : Int32))) : (own_dsx (own_val c)).toInt = own_d i c := by
  have h1 := own_valN h
  unfold own_d
  rw [if_neg e, own_dsI (by omega)]
theorem own_Snext {cs : List Int32} {m : Nat} {c : Int32} (h : cs[m]? = some c) : own_S cs (m + 1) = own_S cs m + own_d m c := by
  show own_S cs m + own_d m (cs.getD m 0) = _
  rw [List.getD_eq_getElem?_getD, h]
  rfl
theorem own_SR {cs : List Int32} : ∀ m : Nat, (∀ j : Nat, j < m → ∀ c : Int32, cs[j]? = some c → ¬ (own_val c < (0 : Int32))) → m ≤ cs.length → 0 ≤ own_S cs m ∧ own_S cs m ≤ 16 * m := by
  intro m
  induction m with
  | zero => intro _ _; exact ⟨Int.le_refl _, Int.le_refl _⟩
  | succ m ih =>
    intro h hm
    obtain ⟨x, hx⟩ : ∃ x, cs[m]? = some x := ⟨_, List.getElem?_eq_getElem (by omega)⟩
    have h1 := ih (fun j hj => h j (by omega)) (by omega)
    have h2 := own_dR (i := m) (h m (by omega) x hx)
    rw [own_Snext hx]
    omega
theorem own_par {i : Int32} {m : Nat} (hi : i.toInt = (m : Int)) : (i % (2 : Int32)) = (1 : Int32) ↔ m % 2 = 1 := by
  have h := (c_irem i 2 2 (by decide)).1 (by omega)
  rw [← Int32.toInt_inj, h, hi, show (1 : Int32).toInt = 1 by decide]
  omega
theorem own_step1 {cs : List Int32} {m : Nat} {c i sum : Int32} (h : cs[m]? = some c) (hi : i.toInt = (m : Int)) (hp : (i % (2 : Int32)) = (1 : Int32)) (hs : sum.toInt = own_S cs m) (hb : 0 ≤ own_S cs m ∧ own_S cs m ≤ 200) (hv : ¬ (own_val c < (0 : Int32))) : (sum + ((((2 : Int32) * (own_val c)) / (10 : Int32)) + (((2 : Int32) * (own_val c)) % (10 : Int32)))).toInt = own_S cs (m + 1) := by
  have h1 := own_valN hv
  have h2 := own_two h1
  have h3 := own_dr (t := (2 : Int32) * own_val c) (by rw [h2]; omega)
  rw [own_addI hs h3 (by omega) (by rw [h2]; omega), own_Snext h]
  unfold own_d
  rw [if_pos ((own_par hi).mp hp), h2]
theorem own_step0 {cs : List Int32} {m : Nat} {c i sum : Int32} (h : cs[m]? = some c) (hi : i.toInt = (m : Int)) (hp : ¬ ((i % (2 : Int32)) = (1 : Int32))) (hs : sum.toInt = own_S cs m) (hb : 0 ≤ own_S cs m ∧ own_S cs m ≤ 200) (hv : ¬ (own_val c < (0 : Int32))) : (sum + (((own_val c) / (10 : Int32)) + ((own_val c) % (10 : Int32)))).toInt = own_S cs (m + 1) := by
  have h1 := own_valN hv
  have h3 := own_dr (t := own_val c) (by omega)
  rw [own_addI hs h3 (by omega) (by omega), own_Snext h]
  unfold own_d
  rw [if_neg (fun q => hp ((own_par hi).mpr q))]
theorem own_ckd {sum : Int32} {S : Int} (hs : sum.toInt = S) (hb : 0 ≤ S ∧ S ≤ 200) : (((48 : Int32) + (((10 : Int32) - (sum % (10 : Int32))) % (10 : Int32))).toUInt32.toUInt16.toUInt32.toInt32).toInt = 48 + (10 - S % 10) % 10 := by
  have h1 := (c_irem sum 10 10 (by decide)).1 (by omega)
  have h2 := own_subI (show (10 : Int32).toInt = 10 by decide) h1 (by omega) (by omega)
  have h3 := (c_irem ((10 : Int32) - (sum % (10 : Int32))) 10 10 (by decide)).1 (by omega)
  have h4 := own_addI (show (48 : Int32).toInt = 48 by decide) h3 (by omega) (by omega)
  have h5 := c_i2c ((48 : Int32) + (((10 : Int32) - (sum % (10 : Int32))) % (10 : Int32)))
  omega
theorem own_ckyes {cs : List Int32} {c e : Int32} (hok : ∀ j : Nat, j < 8 → ∀ c : Int32, cs[j]? = some c → ¬ (own_val c < (0 : Int32))) (hc : cs[8]? = some c) (he : e.toInt = 48 + (10 - own_S cs 8 % 10) % 10) (h : c = e) : OwnCk cs (1 : Int32) := Or.inr ⟨rfl, hok, c, hc, by rw [h]; exact he⟩
theorem own_ckno {cs : List Int32} {c e : Int32} (hc : cs[8]? = some c) (he : e.toInt = 48 + (10 - own_S cs 8 % 10) % 10) (h : ¬ c = e) : OwnCk cs (0 : Int32) := Or.inl ⟨rfl, fun ok => by
  obtain ⟨_, d, hd, q⟩ := ok
  rw [hc] at hd
  cases hd
  exact h (Int32.toInt_inj.mp (q.trans he.symm))⟩
theorem own_ckneg {cs : List Int32} {c : Int32} (j : Nat) (hj : j < 8) (hc : cs[j]? = some c) (h : own_val c < (0 : Int32)) : OwnCk cs (0 : Int32) := Or.inl ⟨rfl, fun ok => ok.1 j hj c hc h⟩
theorem own_ckrng {cs : List Int32} {c : Int32} (hc : cs[8]? = some c) (h : c < (48 : Int32) ∨ (57 : Int32) < c) : OwnCk cs (0 : Int32) := Or.inl ⟨rfl, fun ok => by
  obtain ⟨_, d, hd, q⟩ := ok
  rw [hc] at hd
  cases hd
  rw [own_lt, own_lt, show (48 : Int32).toInt = 48 by decide, show (57 : Int32).toInt = 57 by decide] at h
  omega⟩
theorem own_all8 {c1 c2 c3 c4 c5 c6 c7 c8 c9 : Int32} (h1 : ¬ (own_val c1 < (0 : Int32))) (h2 : ¬ (own_val c2 < (0 : Int32))) (h3 : ¬ (own_val c3 < (0 : Int32))) (h4 : ¬ (own_val c4 < (0 : Int32))) (h5 : ¬ (own_val c5 < (0 : Int32))) (h6 : ¬ (own_val c6 < (0 : Int32))) (h7 : ¬ (own_val c7 < (0 : Int32))) (h8 : ¬ (own_val c8 < (0 : Int32))) : ∀ j : Nat, j < 8 → ∀ c : Int32, [c1, c2, c3, c4, c5, c6, c7, c8, c9][j]? = some c → ¬ (own_val c < (0 : Int32)) := by
  intro j hj c hc
  have h : j = 0 ∨ j = 1 ∨ j = 2 ∨ j = 3 ∨ j = 4 ∨ j = 5 ∨ j = 6 ∨ j = 7 := by omega
  rcases h with rfl | rfl | rfl | rfl | rfl | rfl | rfl | rfl
  · have e : c1 = c := Option.some.inj hc
    rw [← e]; exact h1
  · have e : c2 = c := Option.some.inj hc
    rw [← e]; exact h2
  · have e : c3 = c := Option.some.inj hc
    rw [← e]; exact h3
  · have e : c4 = c := Option.some.inj hc
    rw [← e]; exact h4
  · have e : c5 = c := Option.some.inj hc
    rw [← e]; exact h5
  · have e : c6 = c := Option.some.inj hc
    rw [← e]; exact h6
  · have e : c7 = c := Option.some.inj hc
    rw [← e]; exact h7
  · have e : c8 = c := Option.some.inj hc
    rw [← e]; exact h8
theorem own_fin {c1 c2 c3 c4 c5 c6 c7 c8 c9 : Int32} (h1 : ¬ (own_val c1 < (0 : Int32))) (h2 : ¬ (own_val c2 < (0 : Int32))) (h3 : ¬ (own_val c3 < (0 : Int32))) (h4 : ¬ (own_val c4 < (0 : Int32))) (h5 : ¬ (own_val c5 < (0 : Int32))) (h6 : ¬ (own_val c6 < (0 : Int32))) (h7 : ¬ (own_val c7 < (0 : Int32))) (h8 : ¬ (own_val c8 < (0 : Int32))) (hlo : ¬ (c9 < (48 : Int32))) (hhi : ¬ ((57 : Int32) < c9)) : ((((((((((own_dsx (own_val c1)) + (own_dsx ((2 : Int32) * (own_val c2)))) + (own_dsx (own_val c3))) + (own_dsx ((2 : Int32) * (own_val c4)))) + (own_dsx (own_val c5))) + (own_dsx ((2 : Int32) * (own_val c6)))) + (own_dsx (own_val c7))) + (own_dsx ((2 : Int32) * (own_val c8)))) + (c9 - (48 : Int32))) % (10 : Int32)) = (0 : Int32) ↔ c9.toInt = 48 + (10 - own_S [c1, c2, c3, c4, c5, c6, c7, c8, c9] 8 % 10) % 10 := by
  have d1 := own_d0 (i := 0) (by decide) h1
  have r1 := own_dR (i := 0) h1
  have d2 := own_d1 (i := 1) (by decide) h2
  have r2 := own_dR (i := 1) h2
  have d3 := own_d0 (i := 2) (by decide) h3
  have r3 := own_dR (i := 2) h3
  have d4 := own_d1 (i := 3) (by decide) h4
  have r4 := own_dR (i := 3) h4
  have d5 := own_d0 (i := 4) (by decide) h5
  have r5 := own_dR (i := 4) h5
  have d6 := own_d1 (i := 5) (by decide) h6
  have r6 := own_dR (i := 5) h6
  have d7 := own_d0 (i := 6) (by decide) h7
  have r7 := own_dR (i := 6) h7
  have d8 := own_d1 (i := 7) (by decide) h8
  have r8 := own_dR (i := 7) h8
  have e : own_S [c1, c2, c3, c4, c5, c6, c7, c8, c9] 8 = 0 + own_d 0 c1 + own_d 1 c2 + own_d 2 c3 + own_d 3 c4 + own_d 4 c5 + own_d 5 c6 + own_d 6 c7 + own_d 7 c8 := rfl
  rw [e]
  rw [own_lt, show (48 : Int32).toInt = 48 by decide] at hlo
  rw [own_lt, show (57 : Int32).toInt = 57 by decide] at hhi
  have s1 := d1
  have s2 := own_addI s1 d2 (by omega) (by omega)
  have s3 := own_addI s2 d3 (by omega) (by omega)
  have s4 := own_addI s3 d4 (by omega) (by omega)
  have s5 := own_addI s4 d5 (by omega) (by omega)
  have s6 := own_addI s5 d6 (by omega) (by omega)
  have s7 := own_addI s6 d7 (by omega) (by omega)
  have s8 := own_addI s7 d8 (by omega) (by omega)
  have s9 := own_addI s8 (own_subI (a := c9) rfl (show (48 : Int32).toInt = 48 by decide) (by omega) (by omega)) (by omega) (by omega)
  have q := (c_irem _ 10 10 (by decide)).1 (show 0 ≤ ((((((((((own_dsx (own_val c1)) + (own_dsx ((2 : Int32) * (own_val c2)))) + (own_dsx (own_val c3))) + (own_dsx ((2 : Int32) * (own_val c4)))) + (own_dsx (own_val c5))) + (own_dsx ((2 : Int32) * (own_val c6)))) + (own_dsx (own_val c7))) + (own_dsx ((2 : Int32) * (own_val c8)))) + (c9 - (48 : Int32)))).toInt by rw [s9]; omega)
  rw [← Int32.toInt_inj, q, s9, show (0 : Int32).toInt = 0 by decide]
  omega
theorem own_okc {c1 c2 c3 c4 c5 c6 c7 c8 c9 : Int32} (ok : OwnOk [c1, c2, c3, c4, c5, c6, c7, c8, c9]) : c9.toInt = 48 + (10 - own_S [c1, c2, c3, c4, c5, c6, c7, c8, c9] 8 % 10) % 10 := by
  obtain ⟨_, d, hd, q⟩ := ok
  have e : c9 = d := Option.some.inj hd
  subst e
  exact q
end OwnCusip

theorem ef_CO0 (m : MethodId) (x0 : Addr) : entryFrame m #[(.ref x0)] 1 = mkF m 0 #[.val (.ref x0)] [] := by first | (simp [entryFrame, mkF, argsToLocals, Value.category]; done) | rfl
def QCO0 (Z : State) (b : Addr) (i_COMPACT_STRINGS : Int32) (v_SIOOBE_FORMATTER : Value) (h0 : Heap) (n0 : Nat) (v : Option Value) (h : Heap) (L : List Loc) : Prop := v = some (.int 0) ∧ Fr n0 L ∧ h = h0
set_option maxRecDepth 65536 in
set_option maxHeartbeats 40000000 in
theorem rmCO0 (l : Launch) (Z : State) (a0 : Array Value) (hw : ∀ d ∈ tables_1, d.before a0 Z = true) (ws : List Jvm.Cond) (b : Addr) (i_COMPACT_STRINGS : Int32) (v_SIOOBE_FORMATTER : Value) (h0 : Heap) (n0 : Nat) (O0 : Old Z n0 h0) (F : Fld Z h0 b "java/lang/String" "coder" "B" (.int (0 : Int32))) (hS : OwnS Z i_COMPACT_STRINGS v_SIOOBE_FORMATTER) :
    MetFree l (⟨"java/lang/String", "coder", "()B"⟩ : MethodName) (head1 (Jvm.Cond.code (⟨"java/lang/String", "coder", "()B"⟩ : MethodName) jdk_42_method_152_code 1 (some .byte) :: ws) ({ frames := 0, cells := 0, slots := 0, locals := 0 } : Room)) (fun aa_ UU_ => aa_ = #[(.ref b)] ∧ Z.Warmed39 UU_.vm ∧ UU_.heap = h0) (fun _ _ _ _ _ => True) (fun _ UU_ oo_ UV_ => ∃ vv_ LL_, oo_ = .returned vv_ ∧ QCO0 Z b i_COMPACT_STRINGS v_SIOOBE_FORMATTER h0 n0 vv_ UV_.heap LL_ ∧ FrameEnd UU_ oo_ UV_ LL_ ({ frames := 0, cells := 0, slots := 0, locals := 0 } : Room).cells ({ frames := 0, cells := 0, slots := 0, locals := 0 } : Room).slots) := by
  refine MetFree.of_bodySF (plainFor_of_name pn_0) hisR ?_
  intro p e s m args below meth c s₁ Bd hml0 hP hK
  obtain ⟨rfl, hZ, hh⟩ := hP
  have hx := Bd.exec
  have hby := Bd.bytes
  have hlk := BodyLoose.notSynchronized Bd
  have hml : c.maxLocals = 1 := hml0
  have hown : s.vm.findClass "java/lang/String" = some m.cls := findClass_of_methodNamed Bd.named
  have hnm := (name_of_methodNamed Bd.named Bd.method).1
  have X0 : Stand p l e ({ frames := 0, cells := 0, slots := 0, locals := 0 } : Room) s m #[(.ref b)] below meth c s₁ [] 0 0 := Stand.of_body Bd
  have e0 : s₁.heap = h0 := by rw [← hh, Bd.state]; rfl
  have N0 := Fr.nil n0
  suffices hOW : OW p e below s (QCO0 Z b i_COMPACT_STRINGS v_SIOOBE_FORMATTER h0 n0) 0 0 (s₁.setTop (mkF m 0 #[.val (.ref b)] [])) by
    obtain ⟨oq1_, oq2_, oq3_, oq4_⟩ := hOW
    exact ⟨oq1_, oq2_, castTop (ef_CO0 m b) oq3_, oq4_⟩
  have hS' := hS
  obtain ⟨Si_COMPACT_STRINGS, Sv_SIOOBE_FORMATTER, Rv_SIOOBE_FORMATTER, S__assertionsDisabled, S_HI_BYTE_SHIFT, S_LO_BYTE_SHIFT, Pi_COMPACT_STRINGS⟩ := hS'
  obtain ⟨T1, X1, e1, st1⟩ := getS2 X0 hx hZ hown (host := "") (Or.inl (w_19 hw)) Via.refl e0 (Si_COMPACT_STRINGS.ext O0.2) (g := (mkF m 0 #[.val (.ref b)] [])) rfl (hb hby d17_0)
  refine OW.st (B := T1.setTop (mkF m 7 #[.val (.ref b)] [(.ref b)])) (fun _ kk_ => st1 _ (XS.ifNo X1.here hx rfl (hb hby d17_3) rfl ((if0 _ _).trans (feq Pi_COMPACT_STRINGS).1) (XS.aloadN X1.here hx rfl (hb hby d17_6) rfl rfl kk_))) ?_
  obtain ⟨T2, X2, e2, st2⟩ := getF X1 hx hZ hown (host := "") (Or.inl (w_50 hw)) Via.refl e1 F (g := (mkF m 7 #[.val (.ref b)] [(.ref b)])) rfl rfl (hb hby d17_7)
  refine OW.st (B := T2.setTop (mkF m 14 #[.val (.ref b)] [(.int (0 : Int32))])) (fun _ kk_ => st2 _ (XS.goto X2.here hx rfl (pc0 := 10) (pc' := 14) rfl (hb hby d17_10) (by decide) (by decide) kk_)) ?_
  exact OW.ret X2 hx hlk (i := .ireturn) Bd.returns rfl (Or.inl ⟨rfl, Or.inr (Or.inr (Or.inl rfl)), _, rfl⟩) (hb hby d17_14) e2 (by decide) (by decide) ⟨rfl, N0, rfl⟩
theorem ef_IL0 (m : MethodId) (x0 : Addr) : entryFrame m #[(.ref x0)] 1 = mkF m 0 #[.val (.ref x0)] [] := by first | (simp [entryFrame, mkF, argsToLocals, Value.category]; done) | rfl
def QIL0 (Z : State) (b : Addr) (i_COMPACT_STRINGS : Int32) (v_SIOOBE_FORMATTER : Value) (h0 : Heap) (n0 : Nat) (v : Option Value) (h : Heap) (L : List Loc) : Prop := v = some (.int 1) ∧ Fr n0 L ∧ h = h0
set_option maxRecDepth 65536 in
set_option maxHeartbeats 40000000 in
theorem rmIL0 (l : Launch) (Z : State) (a0 : Array Value) (hw : ∀ d ∈ tables_1, d.before a0 Z = true) (ws : List Jvm.Cond) (b : Addr) (i_COMPACT_STRINGS : Int32) (v_SIOOBE_FORMATTER : Value) (h0 : Heap) (n0 : Nat) (O0 : Old Z n0 h0) (F : Fld Z h0 b "java/lang/String" "coder" "B" (.int (0 : Int32))) (hS : OwnS Z i_COMPACT_STRINGS v_SIOOBE_FORMATTER) :
    MetFree l (⟨"java/lang/String", "isLatin1", "()Z"⟩ : MethodName) (head1 (Jvm.Cond.code (⟨"java/lang/String", "isLatin1", "()Z"⟩ : MethodName) jdk_42_method_154_code 1 (some .boolean) :: ws) ({ frames := 0, cells := 0, slots := 0, locals := 0 } : Room)) (fun aa_ UU_ => aa_ = #[(.ref b)] ∧ Z.Warmed39 UU_.vm ∧ UU_.heap = h0) (fun _ _ _ _ _ => True) (fun _ UU_ oo_ UV_ => ∃ vv_ LL_, oo_ = .returned vv_ ∧ QIL0 Z b i_COMPACT_STRINGS v_SIOOBE_FORMATTER h0 n0 vv_ UV_.heap LL_ ∧ FrameEnd UU_ oo_ UV_ LL_ ({ frames := 0, cells := 0, slots := 0, locals := 0 } : Room).cells ({ frames := 0, cells := 0, slots := 0, locals := 0 } : Room).slots) := by
  refine MetFree.of_bodySF (plainFor_of_name pn_0) hisR ?_
  intro p e s m args below meth c s₁ Bd hml0 hP hK
  obtain ⟨rfl, hZ, hh⟩ := hP
  have hx := Bd.exec
  have hby := Bd.bytes
  have hlk := BodyLoose.notSynchronized Bd
  have hml : c.maxLocals = 1 := hml0
  have hown : s.vm.findClass "java/lang/String" = some m.cls := findClass_of_methodNamed Bd.named
  have hnm := (name_of_methodNamed Bd.named Bd.method).1
  have X0 : Stand p l e ({ frames := 0, cells := 0, slots := 0, locals := 0 } : Room) s m #[(.ref b)] below meth c s₁ [] 0 0 := Stand.of_body Bd
  have e0 : s₁.heap = h0 := by rw [← hh, Bd.state]; rfl
  have N0 := Fr.nil n0
  suffices hOW : OW p e below s (QIL0 Z b i_COMPACT_STRINGS v_SIOOBE_FORMATTER h0 n0) 0 0 (s₁.setTop (mkF m 0 #[.val (.ref b)] [])) by
    obtain ⟨oq1_, oq2_, oq3_, oq4_⟩ := hOW
    exact ⟨oq1_, oq2_, castTop (ef_IL0 m b) oq3_, oq4_⟩
  have hS' := hS
  obtain ⟨Si_COMPACT_STRINGS, Sv_SIOOBE_FORMATTER, Rv_SIOOBE_FORMATTER, S__assertionsDisabled, S_HI_BYTE_SHIFT, S_LO_BYTE_SHIFT, Pi_COMPACT_STRINGS⟩ := hS'
  obtain ⟨T3, X3, e3, st3⟩ := getS2 X0 hx hZ hown (host := "") (Or.inl (w_19 hw)) Via.refl e0 (Si_COMPACT_STRINGS.ext O0.2) (g := (mkF m 0 #[.val (.ref b)] [])) rfl (hb hby d19_0)
  refine OW.st (B := T3.setTop (mkF m 7 #[.val (.ref b)] [(.ref b)])) (fun _ kk_ => st3 _ (XS.ifNo X3.here hx rfl (hb hby d19_3) rfl ((if0 _ _).trans (feq Pi_COMPACT_STRINGS).1) (XS.aloadN X3.here hx rfl (hb hby d19_6) rfl rfl kk_))) ?_
  obtain ⟨T4, X4, e4, st4⟩ := getF X3 hx hZ hown (host := "") (Or.inl (w_50 hw)) Via.refl e3 F (g := (mkF m 7 #[.val (.ref b)] [(.ref b)])) rfl rfl (hb hby d19_7)
  refine OW.st (B := T4.setTop (mkF m 18 #[.val (.ref b)] [(.int (1 : Int32))])) (fun _ kk_ => st4 _ (XS.ifNo X4.here hx rfl (hb hby d19_10) rfl ((if0 _ _).trans (teq (by decide)).2) (XS.iconst X4.here hx rfl (hb hby d19_13) (XS.goto X4.here hx rfl (pc0 := 14) (pc' := 18) rfl (hb hby d19_14) (by decide) (by decide) kk_)))) ?_
  exact OW.ret X4 hx hlk (i := .ireturn) Bd.returns rfl (Or.inl ⟨rfl, Or.inr (Or.inl rfl), _, rfl⟩) (hb hby d19_18) e4 (by decide) (by decide) ⟨rfl, N0, rfl⟩
theorem ef_CO1 (m : MethodId) (x0 : Addr) : entryFrame m #[(.ref x0)] 1 = mkF m 0 #[.val (.ref x0)] [] := by first | (simp [entryFrame, mkF, argsToLocals, Value.category]; done) | rfl
def QCO1 (Z : State) (b : Addr) (i_COMPACT_STRINGS : Int32) (v_SIOOBE_FORMATTER : Value) (h0 : Heap) (n0 : Nat) (v : Option Value) (h : Heap) (L : List Loc) : Prop := v = some (.int 1) ∧ Fr n0 L ∧ h = h0
set_option maxRecDepth 65536 in
set_option maxHeartbeats 40000000 in
theorem rmCO1 (l : Launch) (Z : State) (a0 : Array Value) (hw : ∀ d ∈ tables_1, d.before a0 Z = true) (ws : List Jvm.Cond) (b : Addr) (i_COMPACT_STRINGS : Int32) (v_SIOOBE_FORMATTER : Value) (h0 : Heap) (n0 : Nat) (O0 : Old Z n0 h0) (F : Fld Z h0 b "java/lang/String" "coder" "B" (.int (1 : Int32))) (hS : OwnS Z i_COMPACT_STRINGS v_SIOOBE_FORMATTER) :
    MetFree l (⟨"java/lang/String", "coder", "()B"⟩ : MethodName) (head1 (Jvm.Cond.code (⟨"java/lang/String", "coder", "()B"⟩ : MethodName) jdk_42_method_152_code 1 (some .byte) :: ws) ({ frames := 0, cells := 0, slots := 0, locals := 0 } : Room)) (fun aa_ UU_ => aa_ = #[(.ref b)] ∧ Z.Warmed39 UU_.vm ∧ UU_.heap = h0) (fun _ _ _ _ _ => True) (fun _ UU_ oo_ UV_ => ∃ vv_ LL_, oo_ = .returned vv_ ∧ QCO1 Z b i_COMPACT_STRINGS v_SIOOBE_FORMATTER h0 n0 vv_ UV_.heap LL_ ∧ FrameEnd UU_ oo_ UV_ LL_ ({ frames := 0, cells := 0, slots := 0, locals := 0 } : Room).cells ({ frames := 0, cells := 0, slots := 0, locals := 0 } : Room).slots) := by
  refine MetFree.of_bodySF (plainFor_of_name pn_0) hisR ?_
  intro p e s m args below meth c s₁ Bd hml0 hP hK
  obtain ⟨rfl, hZ, hh⟩ := hP
  have hx := Bd.exec
  have hby := Bd.bytes
  have hlk := BodyLoose.notSynchronized Bd
  have hml : c.maxLocals = 1 := hml0
  have hown : s.vm.findClass "java/lang/String" = some m.cls := findClass_of_methodNamed Bd.named
  have hnm := (name_of_methodNamed Bd.named Bd.method).1
  have X0 : Stand p l e ({ frames := 0, cells := 0, slots := 0, locals := 0 } : Room) s m #[(.ref b)] below meth c s₁ [] 0 0 := Stand.of_body Bd
  have e0 : s₁.heap = h0 := by rw [← hh, Bd.state]; rfl
  have N0 := Fr.nil n0
  suffices hOW : OW p e below s (QCO1 Z b i_COMPACT_STRINGS v_SIOOBE_FORMATTER h0 n0) 0 0 (s₁.setTop (mkF m 0 #[.val (.ref b)] [])) by
    obtain ⟨oq1_, oq2_, oq3_, oq4_⟩ := hOW
    exact ⟨oq1_, oq2_, castTop (ef_CO1 m b) oq3_, oq4_⟩
  have hS' := hS
  obtain ⟨Si_COMPACT_STRINGS, Sv_SIOOBE_FORMATTER, Rv_SIOOBE_FORMATTER, S__assertionsDisabled, S_HI_BYTE_SHIFT, S_LO_BYTE_SHIFT, Pi_COMPACT_STRINGS⟩ := hS'
  obtain ⟨T5, X5, e5, st5⟩ := getS2 X0 hx hZ hown (host := "") (Or.inl (w_19 hw)) Via.refl e0 (Si_COMPACT_STRINGS.ext O0.2) (g := (mkF m 0 #[.val (.ref b)] [])) rfl (hb hby d17_0)
  refine OW.st (B := T5.setTop (mkF m 7 #[.val (.ref b)] [(.ref b)])) (fun _ kk_ => st5 _ (XS.ifNo X5.here hx rfl (hb hby d17_3) rfl ((if0 _ _).trans (feq Pi_COMPACT_STRINGS).1) (XS.aloadN X5.here hx rfl (hb hby d17_6) rfl rfl kk_))) ?_
  obtain ⟨T6, X6, e6, st6⟩ := getF X5 hx hZ hown (host := "") (Or.inl (w_50 hw)) Via.refl e5 F (g := (mkF m 7 #[.val (.ref b)] [(.ref b)])) rfl rfl (hb hby d17_7)
  refine OW.st (B := T6.setTop (mkF m 14 #[.val (.ref b)] [(.int (1 : Int32))])) (fun _ kk_ => st6 _ (XS.goto X6.here hx rfl (pc0 := 10) (pc' := 14) rfl (hb hby d17_10) (by decide) (by decide) kk_)) ?_
  exact OW.ret X6 hx hlk (i := .ireturn) Bd.returns rfl (Or.inl ⟨rfl, Or.inr (Or.inr (Or.inl rfl)), _, rfl⟩) (hb hby d17_14) e6 (by decide) (by decide) ⟨rfl, N0, rfl⟩
theorem ef_IL1 (m : MethodId) (x0 : Addr) : entryFrame m #[(.ref x0)] 1 = mkF m 0 #[.val (.ref x0)] [] := by first | (simp [entryFrame, mkF, argsToLocals, Value.category]; done) | rfl
def QIL1 (Z : State) (b : Addr) (i_COMPACT_STRINGS : Int32) (v_SIOOBE_FORMATTER : Value) (h0 : Heap) (n0 : Nat) (v : Option Value) (h : Heap) (L : List Loc) : Prop := v = some (.int 0) ∧ Fr n0 L ∧ h = h0
set_option maxRecDepth 65536 in
set_option maxHeartbeats 40000000 in
theorem rmIL1 (l : Launch) (Z : State) (a0 : Array Value) (hw : ∀ d ∈ tables_1, d.before a0 Z = true) (ws : List Jvm.Cond) (b : Addr) (i_COMPACT_STRINGS : Int32) (v_SIOOBE_FORMATTER : Value) (h0 : Heap) (n0 : Nat) (O0 : Old Z n0 h0) (F : Fld Z h0 b "java/lang/String" "coder" "B" (.int (1 : Int32))) (hS : OwnS Z i_COMPACT_STRINGS v_SIOOBE_FORMATTER) :
    MetFree l (⟨"java/lang/String", "isLatin1", "()Z"⟩ : MethodName) (head1 (Jvm.Cond.code (⟨"java/lang/String", "isLatin1", "()Z"⟩ : MethodName) jdk_42_method_154_code 1 (some .boolean) :: ws) ({ frames := 0, cells := 0, slots := 0, locals := 0 } : Room)) (fun aa_ UU_ => aa_ = #[(.ref b)] ∧ Z.Warmed39 UU_.vm ∧ UU_.heap = h0) (fun _ _ _ _ _ => True) (fun _ UU_ oo_ UV_ => ∃ vv_ LL_, oo_ = .returned vv_ ∧ QIL1 Z b i_COMPACT_STRINGS v_SIOOBE_FORMATTER h0 n0 vv_ UV_.heap LL_ ∧ FrameEnd UU_ oo_ UV_ LL_ ({ frames := 0, cells := 0, slots := 0, locals := 0 } : Room).cells ({ frames := 0, cells := 0, slots := 0, locals := 0 } : Room).slots) := by
  refine MetFree.of_bodySF (plainFor_of_name pn_0) hisR ?_
  intro p e s m args below meth c s₁ Bd hml0 hP hK
  obtain ⟨rfl, hZ, hh⟩ := hP
  have hx := Bd.exec
  have hby := Bd.bytes
  have hlk := BodyLoose.notSynchronized Bd
  have hml : c.maxLocals = 1 := hml0
  have hown : s.vm.findClass "java/lang/String" = some m.cls := findClass_of_methodNamed Bd.named
  have hnm := (name_of_methodNamed Bd.named Bd.method).1
  have X0 : Stand p l e ({ frames := 0, cells := 0, slots := 0, locals := 0 } : Room) s m #[(.ref b)] below meth c s₁ [] 0 0 := Stand.of_body Bd
  have e0 : s₁.heap = h0 := by rw [← hh, Bd.state]; rfl
  have N0 := Fr.nil n0
  suffices hOW : OW p e below s (QIL1 Z b i_COMPACT_STRINGS v_SIOOBE_FORMATTER h0 n0) 0 0 (s₁.setTop (mkF m 0 #[.val (.ref b)] [])) by
    obtain ⟨oq1_, oq2_, oq3_, oq4_⟩ := hOW
    exact ⟨oq1_, oq2_, castTop (ef_IL1 m b) oq3_, oq4_⟩
  have hS' := hS
  obtain ⟨Si_COMPACT_STRINGS, Sv_SIOOBE_FORMATTER, Rv_SIOOBE_FORMATTER, S__assertionsDisabled, S_HI_BYTE_SHIFT, S_LO_BYTE_SHIFT, Pi_COMPACT_STRINGS⟩ := hS'
  obtain ⟨T7, X7, e7, st7⟩ := getS2 X0 hx hZ hown (host := "") (Or.inl (w_19 hw)) Via.refl e0 (Si_COMPACT_STRINGS.ext O0.2) (g := (mkF m 0 #[.val (.ref b)] [])) rfl (hb hby d19_0)
  refine OW.st (B := T7.setTop (mkF m 7 #[.val (.ref b)] [(.ref b)])) (fun _ kk_ => st7 _ (XS.ifNo X7.here hx rfl (hb hby d19_3) rfl ((if0 _ _).trans (feq Pi_COMPACT_STRINGS).1) (XS.aloadN X7.here hx rfl (hb hby d19_6) rfl rfl kk_))) ?_
  obtain ⟨T8, X8, e8, st8⟩ := getF X7 hx hZ hown (host := "") (Or.inl (w_50 hw)) Via.refl e7 F (g := (mkF m 7 #[.val (.ref b)] [(.ref b)])) rfl rfl (hb hby d19_7)
  refine OW.st (B := T8.setTop (mkF m 18 #[.val (.ref b)] [(.int (0 : Int32))])) (fun _ kk_ => st8 _ (XS.ifYes X8.here hx rfl (pc0 := 10) (pc' := 17) rfl (hb hby d19_10) rfl ((if0 _ _).trans (feq (by decide)).2) (by decide) (by decide) (XS.iconst X8.here hx rfl (hb hby d19_17) kk_))) ?_
  exact OW.ret X8 hx hlk (i := .ireturn) Bd.returns rfl (Or.inl ⟨rfl, Or.inr (Or.inl rfl), _, rfl⟩) (hb hby d19_18) e8 (by decide) (by decide) ⟨rfl, N0, rfl⟩
theorem ef_PK (m : MethodId) (x0 : Int32) (x1 : Int32) (x2 : Value) (hv2 : x2.category = 1) : entryFrame m #[(.int x0), (.int x1), x2] 3 = mkF m 0 #[.val (.int x0), .val (.int x1), .val x2] [] := by first | (simp [entryFrame, mkF, argsToLocals, own_catI, own_catJ, own_catD, own_catR, own_catN, hv2]; done) | rfl
def QPK (Z : State) (i : Int32) (t : Int32) (vv : Value) (h0 : Heap) (n0 : Nat) (v : Option Value) (h : Heap) (L : List Loc) : Prop := v = some (.int i) ∧ Fr n0 L ∧ h = h0
set_option maxRecDepth 65536 in
set_option maxHeartbeats 40000000 in
theorem rmPK (l : Launch) (Z : State) (a0 : Array Value) (hw : ∀ d ∈ tables_1, d.before a0 Z = true) (ws : List Jvm.Cond) (i : Int32) (t : Int32) (vv : Value) (h0 : Heap) (n0 : Nat) (O0 : Old Z n0 h0) (h1 : ¬ (i < (0 : Int32))) (h2 : i < t) (hr : vv.isRef = true) :
    MetFree l (⟨"jdk/internal/util/Preconditions", "checkIndex", "(IILjava/util/function/BiFunction;)I"⟩ : MethodName) (head1 (Jvm.Cond.code (⟨"jdk/internal/util/Preconditions", "checkIndex", "(IILjava/util/function/BiFunction;)I"⟩ : MethodName) jdk_41_method_11_code 3 (some .int) :: ws) ({ frames := 0, cells := 0, slots := 0, locals := 0 } : Room)) (fun aa_ UU_ => aa_ = #[(.int i), (.int t), vv] ∧ Z.Warmed39 UU_.vm ∧ UU_.heap = h0) (fun _ _ _ _ _ => True) (fun _ UU_ oo_ UV_ => ∃ vv_ LL_, oo_ = .returned vv_ ∧ QPK Z i t vv h0 n0 vv_ UV_.heap LL_ ∧ FrameEnd UU_ oo_ UV_ LL_ ({ frames := 0, cells := 0, slots := 0, locals := 0 } : Room).cells ({ frames := 0, cells := 0, slots := 0, locals := 0 } : Room).slots) := by
  refine MetFree.of_bodySF (plainFor_of_name pn_1) hisR ?_
  intro p e s m args below meth c s₁ Bd hml0 hP hK
  obtain ⟨rfl, hZ, hh⟩ := hP
  have hx := Bd.exec
  have hby := Bd.bytes
  have hlk := BodyLoose.notSynchronized Bd
  have hml : c.maxLocals = 3 := hml0
  have hown : s.vm.findClass "jdk/internal/util/Preconditions" = some m.cls := findClass_of_methodNamed Bd.named
  have hnm := (name_of_methodNamed Bd.named Bd.method).1
  have X0 : Stand p l e ({ frames := 0, cells := 0, slots := 0, locals := 0 } : Room) s m #[(.int i), (.int t), vv] below meth c s₁ [] 0 0 := Stand.of_body Bd
  have e0 : s₁.heap = h0 := by rw [← hh, Bd.state]; rfl
  have N0 := Fr.nil n0
  suffices hOW : OW p e below s (QPK Z i t vv h0 n0) 0 0 (s₁.setTop (mkF m 0 #[.val (.int i), .val (.int t), .val vv] [])) by
    obtain ⟨oq1_, oq2_, oq3_, oq4_⟩ := hOW
    exact ⟨oq1_, oq2_, castTop (ef_PK m i t vv (own_cat hr)) oq3_, oq4_⟩
  refine OW.st (B := s₁.setTop (mkF m 17 #[.val (.int i), .val (.int t), .val vv] [(.int i)])) (fun _ kk_ => XS.iloadN X0.here hx rfl (hb hby d24_0) rfl (XS.ifNo X0.here hx rfl (hb hby d24_1) rfl ((if0 _ _).trans (flt h1).1) (XS.iloadN X0.here hx rfl (hb hby d24_4) rfl (XS.iloadN X0.here hx rfl (hb hby d24_5) rfl (XS.icmpYes X0.here hx rfl (pc0 := 6) (pc' := 16) rfl (hb hby d24_6) rfl (tlt h2).1 (by decide) (by decide) (XS.iloadN X0.here hx rfl (hb hby d24_16) rfl kk_)))))) ?_
  exact OW.ret X0 hx hlk (i := .ireturn) Bd.returns rfl (Or.inl ⟨rfl, Or.inl rfl, _, rfl⟩) (hb hby d24_17) e0 (by decide) (by decide) ⟨rfl, N0, rfl⟩
theorem ef_CK (m : MethodId) (x0 : Int32) (x1 : Int32) : entryFrame m #[(.int x0), (.int x1)] 2 = mkF m 0 #[.val (.int x0), .val (.int x1)] [] := by first | (simp [entryFrame, mkF, argsToLocals, Value.category]; done) | rfl
def QCK (Z : State) (i : Int32) (t : Int32) (i_COMPACT_STRINGS : Int32) (v_SIOOBE_FORMATTER : Value) (h0 : Heap) (n0 : Nat) (v : Option Value) (h : Heap) (L : List Loc) : Prop := v = none ∧ Fr n0 L ∧ h = h0
set_option maxRecDepth 65536 in
set_option maxHeartbeats 40000000 in
theorem rmCK (l : Launch) (Z : State) (a0 : Array Value) (hw : ∀ d ∈ tables_1, d.before a0 Z = true) (ws : List Jvm.Cond) (i : Int32) (t : Int32) (i_COMPACT_STRINGS : Int32) (v_SIOOBE_FORMATTER : Value) (h0 : Heap) (n0 : Nat) (O0 : Old Z n0 h0) (h1 : ¬ (i < (0 : Int32))) (h2 : i < t) (hS : OwnS Z i_COMPACT_STRINGS v_SIOOBE_FORMATTER) :
    MetFree l (⟨"java/lang/String", "checkIndex", "(II)V"⟩ : MethodName) (head1 (Jvm.Cond.code (⟨"java/lang/String", "checkIndex", "(II)V"⟩ : MethodName) jdk_42_method_155_code 2 none :: ws) ({ frames := 1, cells := 0, slots := 0, locals := 14 } : Room)) (fun aa_ UU_ => aa_ = #[(.int i), (.int t)] ∧ Z.Warmed39 UU_.vm ∧ UU_.heap = h0) (fun _ _ _ _ _ => True) (fun _ UU_ oo_ UV_ => ∃ vv_ LL_, oo_ = .returned vv_ ∧ QCK Z i t i_COMPACT_STRINGS v_SIOOBE_FORMATTER h0 n0 vv_ UV_.heap LL_ ∧ FrameEnd UU_ oo_ UV_ LL_ ({ frames := 1, cells := 0, slots := 0, locals := 14 } : Room).cells ({ frames := 1, cells := 0, slots := 0, locals := 14 } : Room).slots) := by
  refine MetFree.of_bodySF (plainFor_of_name pn_0) hisR ?_
  intro p e s m args below meth c s₁ Bd hml0 hP hK
  obtain ⟨rfl, hZ, hh⟩ := hP
  have hx := Bd.exec
  have hby := Bd.bytes
  have hlk := BodyLoose.notSynchronized Bd
  have hml : c.maxLocals = 2 := hml0
  have hown : s.vm.findClass "java/lang/String" = some m.cls := findClass_of_methodNamed Bd.named
  have hnm := (name_of_methodNamed Bd.named Bd.method).1
  have X0 : Stand p l e ({ frames := 1, cells := 0, slots := 0, locals := 14 } : Room) s m #[(.int i), (.int t)] below meth c s₁ [] 0 0 := Stand.of_body Bd
  have e0 : s₁.heap = h0 := by rw [← hh, Bd.state]; rfl
  have N0 := Fr.nil n0
  suffices hOW : OW p e below s (QCK Z i t i_COMPACT_STRINGS v_SIOOBE_FORMATTER h0 n0) 0 0 (s₁.setTop (mkF m 0 #[.val (.int i), .val (.int t)] [])) by
    obtain ⟨oq1_, oq2_, oq3_, oq4_⟩ := hOW
    exact ⟨oq1_, oq2_, castTop (ef_CK m i t) oq3_, oq4_⟩
  have hS' := hS
  obtain ⟨Si_COMPACT_STRINGS, Sv_SIOOBE_FORMATTER, Rv_SIOOBE_FORMATTER, S__assertionsDisabled, S_HI_BYTE_SHIFT, S_LO_BYTE_SHIFT, Pi_COMPACT_STRINGS⟩ := hS'
  refine OW.st (B := s₁.setTop (mkF m 2 #[.val (.int i), .val (.int t)] [(.int t), (.int i)])) (fun _ kk_ => XS.iloadN X0.here hx rfl (hb hby d23_0) rfl (XS.iloadN X0.here hx rfl (hb hby d23_1) rfl kk_)) ?_
  obtain ⟨T9, X9, e9, st9⟩ := getS2 X0 hx hZ hown (host := "") (Or.inl (w_96 hw)) Via.refl e0 (Sv_SIOOBE_FORMATTER.ext O0.2) (g := (mkF m 2 #[.val (.int i), .val (.int t)] [(.int t), (.int i)])) rfl (hb hby d23_2)
  refine OW.st (B := T9.setTop (mkF m 5 #[.val (.int i), .val (.int t)] [v_SIOOBE_FORMATTER, (.int t), (.int i)])) (fun _ kk_ => st9 _ kk_) ?_
  obtain ⟨_, _, ⟨T10, L10, k10, n10⟩, -, X10, ⟨Lc10, hQ10, l10, y10, z10⟩, st10⟩ := Jvm.LawKit.callS X9 hx (y := (⟨"jdk/internal/util/Preconditions", "checkIndex", "(IILjava/util/function/BiFunction;)I"⟩ : MethodName)) hown (mvT hZ (w_98 hw)) (mvT hZ (w_99 hw)) (mvT hZ (w_97 hw)) (mvT hZ (w_100 hw)) (by decide) (backOf (W := 0) (rmPK l Z a0 hw [] i t v_SIOOBE_FORMATTER h0 n0 O0 h1 h2 Rv_SIOOBE_FORMATTER) hZ (w_100 hw) (w_97 hw) (by decide) (by decide)) (g := (mkF m 5 #[.val (.int i), .val (.int t)] [v_SIOOBE_FORMATTER, (.int t), (.int i)])) rfl (by rw [hml]; rfl) (argsL := [(.int i), (.int t), v_SIOOBE_FORMATTER]) (rest := []) (lenOf pd_0 rfl) rfl (by show 2 * 0 + _ ≤ _; exact Nat.le_of_eq rfl) (hb hby d23_5) (fun _ _ => ⟨rfl, e9, (by decide : 0 + 0 ≤ _), (by decide : 0 + 0 ≤ _)⟩)
  dsimp only [Pt.U, Pt.locs, Pt.cells, Pt.slots] at X10 l10 y10 z10 st10 hQ10
  subst l10 y10 z10
  obtain ⟨rfl, Nq10, e10⟩ := hQ10
  have N10 := Fr.app N0 Nq10
  refine OW.st (B := T10.setTop (mkF m 9 #[.val (.int i), .val (.int t)] [])) (fun _ kk_ => st10 _ (XS.pop X10.here hx rfl (hb hby d23_8) rfl rfl kk_)) ?_
  exact OW.retV X10 hx hlk Bd.returns (hb hby d23_9) e10 (by decide) (by decide) ⟨rfl, N10, rfl⟩
theorem ef_S1_0 (m : MethodId) (x0 : Addr) (x1 : Addr) (x2 : Int32) (x3 : Int32) : entryFrame m #[(.ref x0), (.ref x1), (.int x2), (.int x3), .null] 6 = mkF m 0 #[.val (.ref x0), .val (.ref x1), .val (.int x2), .val (.int x3), .val .null, .unset] [] := by first | (simp [entryFrame, mkF, argsToLocals, Value.category]; done) | rfl
def QS1_0 (Z : State) (b : Addr) (ca : Addr) (kc : ClassId) (h0 : Heap) (n0 : Nat) (v : Option Value) (h : Heap) (L : List Loc) : Prop := v = none ∧ Fr n0 L ∧ Keep h0 h [b] ∧ Exa Z h b "java/lang/String" ∧ ∃ (ba : Addr) (kb : ClassId), Fld Z h b "java/lang/String" "coder" "B" (.int (0 : Int32)) ∧ Fld Z h b "java/lang/String" "value" "[B" (.ref ba) ∧ Arv Z h ba kb .byte (0 : Int32) [] (.int (0 : Int32))
set_option maxRecDepth 65536 in
set_option maxHeartbeats 40000000 in
theorem rmS1_0 (l : Launch) (Z : State) (a0 : Array Value) (hw : ∀ d ∈ tables_1, d.before a0 Z = true) (ws : List Jvm.Cond) (b : Addr) (ca : Addr) (kc : ClassId) (h0 : Heap) (n0 : Nat) (O0 : Old Z n0 h0) (E : Exa Z h0 b "java/lang/String") (F1 : Fld Z h0 b "java/lang/String" "value" "[B" .null) (F2 : Fld Z h0 b "java/lang/String" "coder" "B" (.int (0 : Int32))) (g : n0 ≤ b) (V : Arv Z h0 ca kc .char (0 : Int32) [] (.int (0 : Int32))) :
    MetFree l (⟨"java/lang/String", "<init>", "([CIILjava/lang/Void;)V"⟩ : MethodName) (head1 (Jvm.Cond.code (⟨"java/lang/String", "<init>", "([CIILjava/lang/Void;)V"⟩ : MethodName) jdk_42_method_149_code 6 none :: ws) ({ frames := 1, cells := 4, slots := 8, locals := 12 } : Room)) (fun aa_ UU_ => aa_ = #[(.ref b), (.ref ca), (.int (0 : Int32)), (.int (0 : Int32)), .null] ∧ Z.Warmed39 UU_.vm ∧ UU_.heap = h0 ∧ CHv Z consts_1 UU_.vm h0) (fun _ _ _ _ _ => True) (fun _ UU_ oo_ UV_ => ∃ vv_ LL_, oo_ = .returned vv_ ∧ QS1_0 Z b ca kc h0 n0 vv_ UV_.heap LL_ ∧ CHr Z consts_1 UU_.vm UU_.heap UV_.vm UV_.heap ∧ ReturnedEndW UU_ oo_ UV_ LL_ ({ frames := 1, cells := 4, slots := 8, locals := 12 } : Room).cells ({ frames := 1, cells := 4, slots := 8, locals := 12 } : Room).slots) := by
  refine MetFree.of_bodySF (plainFor_of_name pn_0) hisR ?_
  intro p e s m args below meth c s₁ Bd hml0 hP hK
  obtain ⟨rfl, hZ, hh, hCH⟩ := hP
  have hx := Bd.exec
  have hby := Bd.bytes
  have hlk := BodyLoose.notSynchronized Bd
  have hml : c.maxLocals = 6 := hml0
  have hown : s.vm.findClass "java/lang/String" = some m.cls := findClass_of_methodNamed Bd.named
  have hnm := (name_of_methodNamed Bd.named Bd.method).1
  have X0 : Stand p l e ({ frames := 1, cells := 4, slots := 8, locals := 12 } : Room) s m #[(.ref b), (.ref ca), (.int (0 : Int32)), (.int (0 : Int32)), .null] below meth c s₁ [] 0 0 := Stand.of_body Bd
  have e0 : s₁.heap = h0 := by rw [← hh, Bd.state]; rfl
  have N0 := Fr.nil n0
  have hS0 : s.Since s.vm 0 := (State.WarmedH.refl s).since 0
  have hk0 : 0 ≤ h0.size := Nat.zero_le _
  have CR0 : CHr Z consts_1 s.vm h0 s.vm h0 := CHr.refl hCH
  have KC0 : Keep h0 h0 [b] := Keep.refl _ _
  suffices hOW : OWH Z consts_1 h0 p e below s (QS1_0 Z b ca kc h0 n0) 4 8 (s₁.setTop (mkF m 0 #[.val (.ref b), .val (.ref ca), .val (.int (0 : Int32)), .val (.int (0 : Int32)), .val .null, .unset] [])) by
    obtain ⟨oq1_, oq2_, oq3_, oq4_⟩ := hOW
    obtain ⟨oq5_, oq6_, oq7_, oq8_, oq9_, or1_, or2_, or3_⟩ := oq4_
    exact ⟨oq1_, oq2_, castTop (ef_S1_0 m b ca (0 : Int32) (0 : Int32)) oq3_, oq5_, oq6_, oq7_, oq8_, oq9_, or1_, by rw [hh]; exact or2_, or3_⟩
  refine OWH.st (B := s₁.setTop (mkF m 1 #[.val (.ref b), .val (.ref ca), .val (.int (0 : Int32)), .val (.int (0 : Int32)), .val .null, .unset] [(.ref b)])) (fun _ kk_ => XS.aloadN X0.here hx rfl (hb hby d3_0) rfl rfl kk_) ?_
  obtain ⟨T11, X11, e11, st11⟩ := initO X0 hx hZ hown (w_16 hw) (w_17 hw) (w_18 hw) e0 (g := (mkF m 1 #[.val (.ref b), .val (.ref ca), .val (.int (0 : Int32)), .val (.int (0 : Int32)), .val .null, .unset] [(.ref b)])) rfl (by rw [hml]; rfl) rfl (hb hby d3_1) (by decide) (W := 0) (by show 2 * 0 + _ ≤ _; exact Nat.le_of_eq rfl) (by decide)
  refine OWH.st (B := T11.setTop (mkF m 9 #[.val (.ref b), .val (.ref ca), .val (.int (0 : Int32)), .val (.int (0 : Int32)), .val .null, .unset] [(.ref b)])) (fun _ kk_ => st11 _ (XS.iloadN X11.here hx rfl (hb hby d3_4) rfl (XS.ifNo X11.here hx rfl (hb hby d3_5) rfl ((if0 _ _).trans (teq (by decide)).2) (XS.aloadN X11.here hx rfl (hb hby d3_8) rfl rfl kk_)))) ?_
  obtain ⟨a12, T12, h12, k12, lb12, lk12, X12, e12, E12, hS12, hk12, hZ12, hown12, Ea12, Fc12, Fv12, V12, -, -, Cs12, -, hne12, st12⟩ := ldcCH (s := s) (vm0 := s.vm) X11 hx hZ hown (w_107 hw) (own_wS hw) e11 hS0 hk0 (own_EW hw) (List.mem_of_getElem? (i := 0) rfl) CR0.1 (vs := []) (z := (0 : Int32)) ⟨by decide, by decide⟩ (by decide) (by decide) (g := (mkF m 9 #[.val (.ref b), .val (.ref ca), .val (.int (0 : Int32)), .val (.int (0 : Int32)), .val .null, .unset] [(.ref b)])) rfl (hb hby d3_9) (n := 0) (by decide) (by decide) (by decide) (by decide)
  have O12 : Old Z n0 h12 := O0.ext E12
  have CS12 : CHr Z consts_1 s.vm h0 T12.vm h12 := Cs12
  have Sf12_b := CHr.safe CS12 E.lt (own_safeS hZ.alike E F1)
  have CR12 := CHr.trans CR0 CS12
  have KC12 : Keep h0 h12 [b] := KC0.ext E12
  refine OWH.st (B := T12.setTop (mkF m 11 #[.val (.ref b), .val (.ref ca), .val (.int (0 : Int32)), .val (.int (0 : Int32)), .val .null, .unset] [(.ref a12), (.ref b)])) (fun _ kk_ => st12 _ kk_) ?_
  obtain ⟨T13, X13, e13, st13⟩ := getF X12 hx hZ12 hown12 (host := "") (Or.inl (w_52 hw)) Via.refl e12 Fv12 (g := (mkF m 11 #[.val (.ref b), .val (.ref ca), .val (.int (0 : Int32)), .val (.int (0 : Int32)), .val .null, .unset] [(.ref a12), (.ref b)])) rfl rfl (hb hby d3_11)
  refine OWH.st (B := T13.setTop (mkF m 14 #[.val (.ref b), .val (.ref ca), .val (.int (0 : Int32)), .val (.int (0 : Int32)), .val .null, .unset] [(.ref lb12), (.ref b)])) (fun _ kk_ => st13 _ kk_) ?_
  obtain ⟨T14, h14, X14, e14, W14, st14⟩ := putF X13 hx hZ12 hown12 (host := "") (Or.inl (w_52 hw)) Via.refl e13 (F1.ext E12) (E.ext E12) (Or.inr ⟨(w_53 hw), rfl, hnm⟩) (w_6 hw) (ty := (.array .byte)) (by decide) rfl rfl (g := (mkF m 14 #[.val (.ref b), .val (.ref ca), .val (.int (0 : Int32)), .val (.int (0 : Int32)), .val .null, .unset] [(.ref lb12), (.ref b)])) rfl rfl (hb hby d3_14)
  have N14 := Fr.snoc X14 N0 g
  have O14 : Old Z n0 h14 := O12.wr W14 g
  have CS14 : CHr Z consts_1 T12.vm h12 T12.vm h14 := CHr.wr W14 Sf12_b CR12.1
  have Sf14_b := CHr.safe CS14 (E.ext E12).lt Sf12_b
  have CR14 := CHr.trans CR12 CS14
  have KC14 : Keep h0 h14 [b] := KC12.wr W14 (Or.inl (List.mem_of_getElem? (i := 0) rfl))
  have F14 : Fld Z h14 b "java/lang/String" "value" "[B" (.ref lb12) := Fld.same W14 (F1.ext E12)
  refine OWH.st (B := T14.setTop (mkF m 18 #[.val (.ref b), .val (.ref ca), .val (.int (0 : Int32)), .val (.int (0 : Int32)), .val .null, .unset] [(.ref b)])) (fun _ kk_ => st14 _ (XS.aloadN X14.here hx rfl (hb hby d3_17) rfl rfl kk_)) ?_
  obtain ⟨a15, T15, h15, k15, lb15, lk15, X15, e15, E15, hS15, hk15, hZ15, hown15, Ea15, Fc15, Fv15, V15, -, -, Cs15, -, hne15, st15⟩ := ldcCH (s := s) (vm0 := T12.vm) X14 hx hZ12 hown12 (w_107 hw) (own_wS hw) e14 hS12 (Nat.le_trans hk12 (Keep.of_wr W14).1) (own_EW hw) (List.mem_of_getElem? (i := 0) rfl) CR14.1 (vs := []) (z := (0 : Int32)) ⟨by decide, by decide⟩ (by decide) (by decide) (g := (mkF m 18 #[.val (.ref b), .val (.ref ca), .val (.int (0 : Int32)), .val (.int (0 : Int32)), .val .null, .unset] [(.ref b)])) rfl (hb hby d3_18) (n := 0) (by decide) (by decide) (by decide) (by decide)
  have O15 : Old Z n0 h15 := O14.ext E15
  have CS15 : CHr Z consts_1 T12.vm h14 T15.vm h15 := Cs15
  have Sf15_b := CHr.safe CS15 ((E.ext E12).wr W14).lt Sf14_b
  have CR15 := CHr.trans CR14 CS15
  have KC15 : Keep h0 h15 [b] := KC14.ext E15
  refine OWH.st (B := T15.setTop (mkF m 20 #[.val (.ref b), .val (.ref ca), .val (.int (0 : Int32)), .val (.int (0 : Int32)), .val .null, .unset] [(.ref a15), (.ref b)])) (fun _ kk_ => st15 _ kk_) ?_
  obtain ⟨T16, X16, e16, st16⟩ := getF X15 hx hZ15 hown15 (host := "") (Or.inl (w_50 hw)) Via.refl e15 Fc15 (g := (mkF m 20 #[.val (.ref b), .val (.ref ca), .val (.int (0 : Int32)), .val (.int (0 : Int32)), .val .null, .unset] [(.ref a15), (.ref b)])) rfl rfl (hb hby d3_20)
  refine OWH.st (B := T16.setTop (mkF m 23 #[.val (.ref b), .val (.ref ca), .val (.int (0 : Int32)), .val (.int (0 : Int32)), .val .null, .unset] [(.int (0 : Int32)), (.ref b)])) (fun _ kk_ => st16 _ kk_) ?_
  obtain ⟨T17, h17, X17, e17, W17, st17⟩ := putFN X16 hx hZ15 hown15 (w_50 hw) Via.refl e16 (((F2.ext E12).other W14 (Or.inr (slot_ne (Or.inr (w_51 hw)) (Or.inr (w_53 hw)) (by decide) (t := .byte) (t' := (.array .byte)) (by decide) (by decide)))).ext E15) (((E.ext E12).wr W14).ext E15) (Or.inr ⟨(w_51 hw), rfl, hnm⟩) (w_6 hw) (ty := .byte) (v' := (.int (0 : Int32))) (by decide) rfl rfl (g := (mkF m 23 #[.val (.ref b), .val (.ref ca), .val (.int (0 : Int32)), .val (.int (0 : Int32)), .val .null, .unset] [(.int (0 : Int32)), (.ref b)])) rfl rfl (hb hby d3_23)
  have N17 := Fr.snoc X17 N14 g
  have O17 : Old Z n0 h17 := O15.wr W17 g
  have CS17 : CHr Z consts_1 T15.vm h15 T15.vm h17 := CHr.wr W17 Sf15_b CR15.1
  have Sf17_b := CHr.safe CS17 (((E.ext E12).wr W14).ext E15).lt Sf15_b
  have CR17 := CHr.trans CR15 CS17
  have KC17 : Keep h0 h17 [b] := KC15.wr W17 (Or.inl (List.mem_of_getElem? (i := 0) rfl))
  have F17 : Fld Z h17 b "java/lang/String" "coder" "B" (.int (0 : Int32)) := Fld.same W17 (((F2.ext E12).other W14 (Or.inr (slot_ne (Or.inr (w_51 hw)) (Or.inr (w_53 hw)) (by decide) (t := .byte) (t' := (.array .byte)) (by decide) (by decide)))).ext E15)
  refine OWH.st (B := T17.setTop (mkF m 26 #[.val (.ref b), .val (.ref ca), .val (.int (0 : Int32)), .val (.int (0 : Int32)), .val .null, .unset] [])) (fun _ kk_ => st17 _ kk_) ?_
  exact OWH.retV X17 (s := s) (vm0 := T15.vm) hS15 (Nat.le_trans hk15 (Keep.of_wr W17).1) hx hlk CR17 hZ15 (own_EW hw) Bd.returns (hb hby d3_26) e17 (by decide) (by decide) ⟨rfl, N17, KC17, ((((E.ext E12).wr W14).ext E15).wr W17), lb12, lk12, F17, ((F14.ext E15).other W17 (Or.inr (slot_ne (Or.inr (w_53 hw)) (Or.inr (w_51 hw)) (by decide) (t := (.array .byte)) (t' := .byte) (by decide) (by decide)))), (((V12.other W14 (Ne.symm (Exa.neArv (E.ext E12) V12 (w_6 hw)))).ext E15).other W17 (Ne.symm (Exa.neArv (E.ext E12) V12 (w_6 hw))))⟩
theorem ef_S0_0 (m : MethodId) (x0 : Addr) (x1 : Addr) : entryFrame m #[(.ref x0), (.ref x1)] 2 = mkF m 0 #[.val (.ref x0), .val (.ref x1)] [] := by first | (simp [entryFrame, mkF, argsToLocals, Value.category]; done) | rfl
def QS0_0 (Z : State) (b : Addr) (ca : Addr) (kc : ClassId) (h0 : Heap) (n0 : Nat) (v : Option Value) (h : Heap) (L : List Loc) : Prop := v = none ∧ Fr n0 L ∧ Keep h0 h [b] ∧ Exa Z h b "java/lang/String" ∧ ∃ (ba : Addr) (kb : ClassId), Fld Z h b "java/lang/String" "coder" "B" (.int (0 : Int32)) ∧ Fld Z h b "java/lang/String" "value" "[B" (.ref ba) ∧ Arv Z h ba kb .byte (0 : Int32) [] (.int (0 : Int32))
set_option maxRecDepth 65536 in
set_option maxHeartbeats 40000000 in
theorem rmS0_0 (l : Launch) (Z : State) (a0 : Array Value) (hw : ∀ d ∈ tables_1, d.before a0 Z = true) (ws : List Jvm.Cond) (b : Addr) (ca : Addr) (kc : ClassId) (h0 : Heap) (n0 : Nat) (O0 : Old Z n0 h0) (E : Exa Z h0 b "java/lang/String") (F1 : Fld Z h0 b "java/lang/String" "value" "[B" .null) (F2 : Fld Z h0 b "java/lang/String" "coder" "B" (.int (0 : Int32))) (g : n0 ≤ b) (V : Arv Z h0 ca kc .char (0 : Int32) [] (.int (0 : Int32))) :
    MetFree l (⟨"java/lang/String", "<init>", "([C)V"⟩ : MethodName) (head1 (Jvm.Cond.code (⟨"java/lang/String", "<init>", "([C)V"⟩ : MethodName) jdk_42_method_3_code 2 none :: ws) ({ frames := 2, cells := 4, slots := 8, locals := 29 } : Room)) (fun aa_ UU_ => aa_ = #[(.ref b), (.ref ca)] ∧ Z.Warmed39 UU_.vm ∧ UU_.heap = h0 ∧ CHv Z consts_1 UU_.vm h0) (fun _ _ _ _ _ => True) (fun _ UU_ oo_ UV_ => ∃ vv_ LL_, oo_ = .returned vv_ ∧ QS0_0 Z b ca kc h0 n0 vv_ UV_.heap LL_ ∧ CHr Z consts_1 UU_.vm UU_.heap UV_.vm UV_.heap ∧ ReturnedEndW UU_ oo_ UV_ LL_ ({ frames := 2, cells := 4, slots := 8, locals := 29 } : Room).cells ({ frames := 2, cells := 4, slots := 8, locals := 29 } : Room).slots) := by
  refine MetFree.of_bodySF (plainFor_of_name pn_0) hisR ?_
  intro p e s m args below meth c s₁ Bd hml0 hP hK
  obtain ⟨rfl, hZ, hh, hCH⟩ := hP
  have hx := Bd.exec
  have hby := Bd.bytes
  have hlk := BodyLoose.notSynchronized Bd
  have hml : c.maxLocals = 2 := hml0
  have hown : s.vm.findClass "java/lang/String" = some m.cls := findClass_of_methodNamed Bd.named
  have hnm := (name_of_methodNamed Bd.named Bd.method).1
  have X0 : Stand p l e ({ frames := 2, cells := 4, slots := 8, locals := 29 } : Room) s m #[(.ref b), (.ref ca)] below meth c s₁ [] 0 0 := Stand.of_body Bd
  have e0 : s₁.heap = h0 := by rw [← hh, Bd.state]; rfl
  have N0 := Fr.nil n0
  have hS0 : s.Since s.vm 0 := (State.WarmedH.refl s).since 0
  have hk0 : 0 ≤ h0.size := Nat.zero_le _
  have CR0 : CHr Z consts_1 s.vm h0 s.vm h0 := CHr.refl hCH
  have KC0 : Keep h0 h0 [b] := Keep.refl _ _
  suffices hOW : OWH Z consts_1 h0 p e below s (QS0_0 Z b ca kc h0 n0) 4 8 (s₁.setTop (mkF m 0 #[.val (.ref b), .val (.ref ca)] [])) by
    obtain ⟨oq1_, oq2_, oq3_, oq4_⟩ := hOW
    obtain ⟨oq5_, oq6_, oq7_, oq8_, oq9_, or1_, or2_, or3_⟩ := oq4_
    exact ⟨oq1_, oq2_, castTop (ef_S0_0 m b ca) oq3_, oq5_, oq6_, oq7_, oq8_, oq9_, or1_, by rw [hh]; exact or2_, or3_⟩
  refine OWH.st (B := s₁.setTop (mkF m 4 #[.val (.ref b), .val (.ref ca)] [(.ref ca), (.int (0 : Int32)), (.ref ca), (.ref b)])) (fun _ kk_ => XS.aloadN X0.here hx rfl (hb hby d2_0) rfl rfl (XS.aloadN X0.here hx rfl (hb hby d2_1) rfl rfl (XS.iconst X0.here hx rfl (hb hby d2_2) (XS.aloadN X0.here hx rfl (hb hby d2_3) rfl rfl kk_)))) ?_
  obtain ⟨cl18, Ar18, q18, S18, Ng18, Hs18, G18⟩ := id V
  refine OWH.st (X0.arraylength hx (by rw [e0]; exact Ar18.1) (State.isArrayOf_alike hZ.alike Ar18.2.1) (g := (mkF m 4 #[.val (.ref b), .val (.ref ca)] [(.ref ca), (.int (0 : Int32)), (.ref ca), (.ref b)])) rfl rfl (hb hby d2_4)) ?_
  rw [len_of S18 Ng18]
  show OWH Z consts_1 h0 p e below s (QS0_0 Z b ca kc h0 n0) 4 8 (s₁.setTop (mkF m 5 #[.val (.ref b), .val (.ref ca)] [(.int (0 : Int32)), (.int (0 : Int32)), (.ref ca), (.ref b)]))
  refine OWH.st (B := s₁.setTop (mkF m 6 #[.val (.ref b), .val (.ref ca)] [.null, (.int (0 : Int32)), (.int (0 : Int32)), (.ref ca), (.ref b)])) (fun _ kk_ => XS.aconstNull X0.here hx rfl (hb hby d2_5) kk_) ?_
  obtain ⟨_, _, ⟨T19, L19, k19, n19⟩, -, X19, hs19, hsz19, ⟨Lc19, hQ19, l19, y19, z19, CQ19⟩, st19⟩ := X0.specialBackS hx (y := (⟨"java/lang/String", "<init>", "([CIILjava/lang/Void;)V"⟩ : MethodName)) rfl hown (mvT hZ (w_12 hw)) (mvT hZ (w_13 hw)) (mvT hZ (w_15 hw)) (by decide) (backOfSH (W := 0) (rmS1_0 l Z a0 hw [] b ca kc h0 n0 O0 E F1 F2 g V) hZ (w_15 hw) (w_7 hw) (by decide) (by decide) (own_EW hw) CR0.1) (g := (mkF m 6 #[.val (.ref b), .val (.ref ca)] [.null, (.int (0 : Int32)), (.int (0 : Int32)), (.ref ca), (.ref b)])) rfl (by rw [hml]; rfl) (Steps.refl _) (a := b) (argsL := [(.ref ca), (.int (0 : Int32)), (.int (0 : Int32)), .null]) (rest := []) (lenOf pd_1 rfl) rfl (by show 2 * 0 + _ ≤ _; exact Nat.le_of_eq rfl) (hb hby d2_6) (fun _ _ => ⟨rfl, e0, (by decide : 0 + 4 ≤ _), (by decide : 0 + 8 ≤ _)⟩)
  dsimp only [Pt.U, Pt.locs, Pt.cells, Pt.slots] at hs19 hsz19
  have hS19 := foldS hS0 (show _ ≤ s₁.heap.size by rw [e0]; exact hk0) hs19 hsz19
  have hZ19 : Z.Warmed39 (s.setVm T19.vm).vm := State.Warmed39.trans (t := s) hZ hs19.1
  have hown19 : (s.setVm T19.vm).vm.findClass "java/lang/String" = some m.cls := by rw [show (s.setVm T19.vm).vm = T19.vm from rfl, hs19.1.alike.findClass]; exact hown
  dsimp only [Pt.U, Pt.locs, Pt.cells, Pt.slots] at X19 l19 y19 z19 st19 hQ19 CQ19
  subst l19 y19 z19
  obtain ⟨rfl, Nq19, K19, Es19, ba19, kb19, Fc19, Fv19, Vs19⟩ := hQ19
  have N19 := Fr.app N0 Nq19
  have O19 : Old Z n0 T19.heap := O0.keep K19 (allS g all0)
  have CS19 : CHr Z consts_1 s.vm h0 T19.vm T19.heap := CQ19
  have Sf19_b := CHr.safe CS19 E.lt (own_safeS hZ.alike E F1)
  have CR19 := CHr.trans CR0 CS19
  have KC19 : Keep h0 T19.heap [b] := KC0.trans K19 (allS (Or.inl (List.mem_of_getElem? (i := 0) rfl)) all0)
  have hk19 : T19.heap.size ≤ T19.heap.size := Nat.le_of_eq (by rfl)
  refine OWH.tr (B := T19.setTop (mkF m 9 #[.val (.ref b), .val (.ref ca)] [])) (st19) ?_
  exact OWH.retV X19 (s := s) (vm0 := T19.vm) hS19 hk19 hx hlk CR19 hZ19 (own_EW hw) Bd.returns (hb hby d2_9) rfl (by decide) (by decide) ⟨rfl, N19, KC19, (E.keep K19), ba19, kb19, Fc19, Fv19, Vs19⟩
theorem ef_C50 (m : MethodId) (x0 : Addr) (x1 : Int32) (x2 : Addr) (x3 : Int32) (x4 : Int32) : entryFrame m #[(.ref x0), (.int x1), (.ref x2), (.int x3), (.int x4)] 7 = mkF m 0 #[.val (.ref x0), .val (.int x1), .val (.ref x2), .val (.int x3), .val (.int x4), .unset, .unset] [] := by first | (simp [entryFrame, mkF, argsToLocals, Value.category]; done) | rfl
def QC50 (Z : State) (ca : Addr) (kc : ClassId) (ba : Addr) (kb : ClassId) (z : Int32) (cs : List Int32) (h0 : Heap) (n0 : Nat) (v : Option Value) (h : Heap) (L : List Loc) : Prop := v = some (.int z) ∧ Fr n0 L ∧ Keep h0 h [ba] ∧ Arv Z h ba kb .byte z (OwnL cs) (.int (0 : Int32))
set_option maxRecDepth 65536 in
set_option maxHeartbeats 40000000 in
theorem rmC50 (l : Launch) (Z : State) (a0 : Array Value) (hw : ∀ d ∈ tables_1, d.before a0 Z = true) (ws : List Jvm.Cond) (ca : Addr) (kc : ClassId) (ba : Addr) (kb : ClassId) (z : Int32) (cs : List Int32) (h0 : Heap) (n0 : Nat) (O0 : Old Z n0 h0) (V : Arv Z h0 ca kc .char z (cs.map Value.int) (.int (0 : Int32))) (hz : z.toInt = (cs.length : Int)) (hmax : cs.length ≤ 10) (B : Arv Z h0 ba kb .byte z (List.replicate cs.length (.int (0 : Int32))) (.int (0 : Int32))) (gb : n0 ≤ ba) (hne : ca ≠ ba) (hlat : OwnLat cs) :
    MetFree l (⟨"java/lang/StringUTF16", "compress", "([CI[BII)I"⟩ : MethodName) (head1 (Jvm.Cond.code (⟨"java/lang/StringUTF16", "compress", "([CI[BII)I"⟩ : MethodName) jdk_52_method_21_code 7 (some .int) :: ws) ({ frames := 0, cells := 0, slots := 0, locals := 0 } : Room)) (fun aa_ UU_ => aa_ = #[(.ref ca), (.int (0 : Int32)), (.ref ba), (.int (0 : Int32)), (.int z)] ∧ Z.Warmed39 UU_.vm ∧ UU_.heap = h0) (fun _ _ _ _ _ => True) (fun _ UU_ oo_ UV_ => ∃ vv_ LL_, oo_ = .returned vv_ ∧ QC50 Z ca kc ba kb z cs h0 n0 vv_ UV_.heap LL_ ∧ FrameEnd UU_ oo_ UV_ LL_ ({ frames := 0, cells := 0, slots := 0, locals := 0 } : Room).cells ({ frames := 0, cells := 0, slots := 0, locals := 0 } : Room).slots) := by
  refine MetFree.of_bodySF (plainFor_of_name pn_2) hisR ?_
  intro p e s m args below meth c s₁ Bd hml0 hP hK
  obtain ⟨rfl, hZ, hh⟩ := hP
  have hx := Bd.exec
  have hby := Bd.bytes
  have hlk := BodyLoose.notSynchronized Bd
  have hml : c.maxLocals = 7 := hml0
  have hown : s.vm.findClass "java/lang/StringUTF16" = some m.cls := findClass_of_methodNamed Bd.named
  have hnm := (name_of_methodNamed Bd.named Bd.method).1
  have X0 : Stand p l e ({ frames := 0, cells := 0, slots := 0, locals := 0 } : Room) s m #[(.ref ca), (.int (0 : Int32)), (.ref ba), (.int (0 : Int32)), (.int z)] below meth c s₁ [] 0 0 := Stand.of_body Bd
  have e0 : s₁.heap = h0 := by rw [← hh, Bd.state]; rfl
  have N0 := Fr.nil n0
  have KC0 : Keep h0 h0 [ba] := Keep.refl _ _
  suffices hOW : OW p e below s (QC50 Z ca kc ba kb z cs h0 n0) 0 0 (s₁.setTop (mkF m 0 #[.val (.ref ca), .val (.int (0 : Int32)), .val (.ref ba), .val (.int (0 : Int32)), .val (.int z), .unset, .unset] [])) by
    obtain ⟨oq1_, oq2_, oq3_, oq4_⟩ := hOW
    exact ⟨oq1_, oq2_, castTop (ef_C50 m ca (0 : Int32) ba (0 : Int32) z) oq3_, oq4_⟩
  refine OW.st (B := s₁.setTop (mkF m 3 #[.val (.ref ca), .val (.int (0 : Int32)), .val (.ref ba), .val (.int (0 : Int32)), .val (.int z), .val (.int (0 : Int32)), .unset] [])) (fun _ kk_ => XS.iconst X0.here hx rfl (hb hby d6_0) (XS.istore X0.here hx rfl (hb hby d6_1) rfl (l' := #[.val (.ref ca), .val (.int (0 : Int32)), .val (.ref ba), .val (.int (0 : Int32)), .val (.int z), .val (.int (0 : Int32)), .unset]) rfl kk_)) ?_
  have J20 : ∀ (f : Nat) (T20 : State) (L20 : List Loc) (h20 : Heap) (X20 : Stand p l e ({ frames := 0, cells := 0, slots := 0, locals := 0 } : Room) s m #[(.ref ca), (.int (0 : Int32)), (.ref ba), (.int (0 : Int32)), (.int z)] below meth c T20 L20 0 0) (N20 : Fr n0 L20) (e20 : T20.heap = h20) (O20 : Old Z n0 h20) (KC20 : Keep h0 h20 [ba]) (i : Int32) (sl : Slot) (bs : List Value) (mm : Nat), (sl = .unset ∨ ∃ q : Int32, sl = .val (.int q)) → (Arv Z h20 ca kc .char z (cs.map Value.int) (.int (0 : Int32))) → (Arv Z h20 ba kb .byte z bs (.int (0 : Int32))) → (i.toInt = (mm : Int)) → (mm + f = cs.length) → (OwnPL cs mm bs) → (∀ j : Nat, j < mm → ∀ c : Int32, cs[j]? = some c → ¬ ((255 : Int32) < c)) → OW p e below s (QC50 Z ca kc ba kb z cs h0 n0) 0 0 (T20.setTop (mkF m 3 #[.val (.ref ca), .val (.int i), .val (.ref ba), .val (.int i), .val (.int z), .val (.int i), sl] [])) := by
    intro f
    induction f with
    | zero =>
      intro T20 L20 h20 X20 N20 e20 O20 KC20 i sl bs mm hsl Vc Vb hi hm hp hl
      have hmm : mm = cs.length := by omega
      subst hmm
      refine OW.st (B := T20.setTop (mkF m 46 #[.val (.ref ca), .val (.int i), .val (.ref ba), .val (.int i), .val (.int z), .val (.int i), sl] [(.int z)])) (fun _ kk_ => XS.iload X20.here hx rfl (hb hby d6_3) rfl (XS.iload X20.here hx rfl (hb hby d6_5) rfl (XS.icmpYes X20.here hx rfl (pc0 := 7) (pc' := 44) rfl (hb hby d6_7) rfl (flt (own_nltI hi hz (by omega))).2.1 (by decide) (by decide) (XS.iload X20.here hx rfl (hb hby d6_44) rfl kk_)))) ?_
      exact OW.ret X20 hx hlk (i := .ireturn) Bd.returns rfl (Or.inl ⟨rfl, Or.inl rfl, _, rfl⟩) (hb hby d6_46) e20 (by decide) (by decide) ⟨rfl, N20, KC20, hp.end ▸ Vb⟩
    | succ f ih =>
      intro T20 L20 h20 X20 N20 e20 O20 KC20 i sl bs mm hsl Vc Vb hi hm hp hl
      obtain ⟨cc, hcc⟩ : ∃ cc, cs[mm]? = some cc := ⟨_, List.getElem?_eq_getElem (by omega)⟩
      have hcl := hlat cc (List.mem_of_getElem? hcc)
      refine OW.st (B := T20.setTop (mkF m 12 #[.val (.ref ca), .val (.int i), .val (.ref ba), .val (.int i), .val (.int z), .val (.int i), sl] [(.int i), (.ref ca)])) (fun _ kk_ => XS.iload X20.here hx rfl (hb hby d6_3) rfl (XS.iload X20.here hx rfl (hb hby d6_5) rfl (XS.icmpNo X20.here hx rfl (hb hby d6_7) rfl (tlt (own_ltI hi hz (by omega))).2.1 (XS.aloadN X20.here hx rfl (hb hby d6_10) rfl rfl (XS.iloadN X20.here hx rfl (hb hby d6_11) rfl kk_))))) ?_
      obtain ⟨cl21, Ar21, q21, S21, Ng21, Hs21, G21⟩ := id Vc
      have hin21 : ¬ (i < 0 ∨ cl21.slots.size ≤ (i).toNatClampNeg) := inb_of S21 ⟨own_nneg hi, own_ltI hi hz (by omega)⟩
      refine OW.st (B := T20.setTop (mkF m 31 #[.val (.ref ca), .val (.int i), .val (.ref ba), .val (.int i), .val (.int z), .val (.int i), .val (.int cc)] [(.int (cc.toInt8.toInt32)), (.int i), (.ref ba)])) (fun _ kk_ => (X20.caload hx (j := i) (v := (.int cc)) (by rw [e20]; exact Ar21.1) (State.isArrayOf_alike hZ.alike Ar21.2.1) Ar21.2.2 hin21 (Has.at Hs21 hin21 ((congrArg (fun q => (cs.map Value.int).getD q _) (own_tn hi)).trans (own_getC hcc))) (g := (mkF m 12 #[.val (.ref ca), .val (.int i), .val (.ref ba), .val (.int i), .val (.int z), .val (.int i), sl] [(.int i), (.ref ca)])) rfl rfl (hb hby d6_12)) _ (XS.istore X20.here hx rfl (hb hby d6_13) rfl (l' := #[.val (.ref ca), .val (.int i), .val (.ref ba), .val (.int i), .val (.int z), .val (.int i), .val (.int cc)]) (by rcases hsl with rfl | ⟨_, rfl⟩ <;> rfl) (XS.iload X20.here hx rfl (hb hby d6_15) rfl (XS.sipush X20.here hx rfl (hb hby d6_17) (XS.icmpYes X20.here hx rfl (pc0 := 20) (pc' := 26) rfl (hb hby d6_20) rfl (flt hcl).2.2.2 (by decide) (by decide) (XS.aloadN X20.here hx rfl (hb hby d6_26) rfl rfl (XS.iloadN X20.here hx rfl (hb hby d6_27) rfl (XS.iload X20.here hx rfl (hb hby d6_28) rfl (XS.i2b X20.here hx rfl (hb hby d6_30) rfl kk_))))))))) ?_
      obtain ⟨cl22, Ar22, q22, S22, Ng22, Hs22, G22⟩ := id Vb
      have hin22 : ¬ (i < 0 ∨ cl22.slots.size ≤ (i).toNatClampNeg) := inb_of S22 ⟨own_nneg hi, own_ltI hi hz (by omega)⟩
      obtain ⟨T23, h23, X23, e23, W23, st23⟩ := stB X20 hx hZ e20 Ar22 (j := i) hin22 (g := (mkF m 31 #[.val (.ref ca), .val (.int i), .val (.ref ba), .val (.int i), .val (.int z), .val (.int i), .val (.int cc)] [(.int (cc.toInt8.toInt32)), (.int i), (.ref ba)])) rfl rfl (hb hby d6_31)
      have N23 := Fr.snoc X23 N20 gb
      have O23 : Old Z n0 h23 := O20.wr W23 gb
      have KC23 : Keep h0 h23 [ba] := KC20.wr W23 (Or.inl (List.mem_of_getElem? (i := 0) rfl))
      have V23 : Arv Z h23 ba kb .byte z (bs.set mm (.int (nar .byte (cc.toInt8.toInt32)))) (.int (0 : Int32)) := Arv.set Ar22 q22 S22 Ng22 Hs22 G22 (fits_nar_byte _) W23 mm (own_tn hi) (by rw [hp.1]; omega)
      refine OW.st (B := T23.setTop (mkF m 3 #[.val (.ref ca), .val (.int (i + (1 : Int32))), .val (.ref ba), .val (.int (i + (1 : Int32))), .val (.int z), .val (.int (i + (1 : Int32))), .val (.int cc)] [])) (fun _ kk_ => st23 _ (XS.iinc X23.here hx rfl (hb hby d6_32) rfl (l' := #[.val (.ref ca), .val (.int (i + (1 : Int32))), .val (.ref ba), .val (.int i), .val (.int z), .val (.int i), .val (.int cc)]) rfl (XS.iinc X23.here hx rfl (hb hby d6_35) rfl (l' := #[.val (.ref ca), .val (.int (i + (1 : Int32))), .val (.ref ba), .val (.int (i + (1 : Int32))), .val (.int z), .val (.int i), .val (.int cc)]) rfl (XS.iinc X23.here hx rfl (hb hby d6_38) rfl (l' := #[.val (.ref ca), .val (.int (i + (1 : Int32))), .val (.ref ba), .val (.int (i + (1 : Int32))), .val (.int z), .val (.int (i + (1 : Int32))), .val (.int cc)]) rfl (XS.goto X23.here hx rfl (pc0 := 41) (pc' := 3) rfl (hb hby d6_41) (by decide) (by decide) kk_))))) ?_
      exact ih _ _ _ X23 N23 e23 O23 KC23 _ _ _ (mm + 1) (Or.inr ⟨_, rfl⟩) (Vc.other W23 hne) V23 (own_suc hi (by omega)) (by omega) (hp.step hcc) (fun j hj c hc => by rcases Nat.lt_succ_iff_lt_or_eq.mp hj with q | rfl; exact hl j q c hc; rw [hcc] at hc; cases hc; exact hcl)
  exact J20 cs.length _ _ _ X0 N0 e0 O0 KC0 _ _ _ 0 (Or.inl rfl) V B rfl (Nat.zero_add _) (OwnPL.start cs _) (fun j hj => absurd hj (Nat.not_lt_zero _))
theorem ef_C51 (m : MethodId) (x0 : Addr) (x1 : Int32) (x2 : Addr) (x3 : Int32) (x4 : Int32) : entryFrame m #[(.ref x0), (.int x1), (.ref x2), (.int x3), (.int x4)] 7 = mkF m 0 #[.val (.ref x0), .val (.int x1), .val (.ref x2), .val (.int x3), .val (.int x4), .unset, .unset] [] := by first | (simp [entryFrame, mkF, argsToLocals, Value.category]; done) | rfl
def QC51 (Z : State) (ca : Addr) (kc : ClassId) (ba : Addr) (kb : ClassId) (z : Int32) (cs : List Int32) (h0 : Heap) (n0 : Nat) (v : Option Value) (h : Heap) (L : List Loc) : Prop := ∃ (i : Int32) (mm : Nat) (c : Int32), v = some (.int i) ∧ Fr n0 L ∧ Keep h0 h [ba] ∧ i.toInt = (mm : Int) ∧ cs[mm]? = some c ∧ (255 : Int32) < c
set_option maxRecDepth 65536 in
set_option maxHeartbeats 40000000 in
theorem rmC51 (l : Launch) (Z : State) (a0 : Array Value) (hw : ∀ d ∈ tables_1, d.before a0 Z = true) (ws : List Jvm.Cond) (ca : Addr) (kc : ClassId) (ba : Addr) (kb : ClassId) (z : Int32) (cs : List Int32) (h0 : Heap) (n0 : Nat) (O0 : Old Z n0 h0) (V : Arv Z h0 ca kc .char z (cs.map Value.int) (.int (0 : Int32))) (hz : z.toInt = (cs.length : Int)) (hmax : cs.length ≤ 10) (B : Arv Z h0 ba kb .byte z (List.replicate cs.length (.int (0 : Int32))) (.int (0 : Int32))) (gb : n0 ≤ ba) (hne : ca ≠ ba) (hhi : OwnHi cs) :
    MetFree l (⟨"java/lang/StringUTF16", "compress", "([CI[BII)I"⟩ : MethodName) (head1 (Jvm.Cond.code (⟨"java/lang/StringUTF16", "compress", "([CI[BII)I"⟩ : MethodName) jdk_52_method_21_code 7 (some .int) :: ws) ({ frames := 0, cells := 0, slots := 0, locals := 0 } : Room)) (fun aa_ UU_ => aa_ = #[(.ref ca), (.int (0 : Int32)), (.ref ba), (.int (0 : Int32)), (.int z)] ∧ Z.Warmed39 UU_.vm ∧ UU_.heap = h0) (fun _ _ _ _ _ => True) (fun _ UU_ oo_ UV_ => ∃ vv_ LL_, oo_ = .returned vv_ ∧ QC51 Z ca kc ba kb z cs h0 n0 vv_ UV_.heap LL_ ∧ FrameEnd UU_ oo_ UV_ LL_ ({ frames := 0, cells := 0, slots := 0, locals := 0 } : Room).cells ({ frames := 0, cells := 0, slots := 0, locals := 0 } : Room).slots) := by
  refine MetFree.of_bodySF (plainFor_of_name pn_2) hisR ?_
  intro p e s m args below meth c s₁ Bd hml0 hP hK
  obtain ⟨rfl, hZ, hh⟩ := hP
  have hx := Bd.exec
  have hby := Bd.bytes
  have hlk := BodyLoose.notSynchronized Bd
  have hml : c.maxLocals = 7 := hml0
  have hown : s.vm.findClass "java/lang/StringUTF16" = some m.cls := findClass_of_methodNamed Bd.named
  have hnm := (name_of_methodNamed Bd.named Bd.method).1
  have X0 : Stand p l e ({ frames := 0, cells := 0, slots := 0, locals := 0 } : Room) s m #[(.ref ca), (.int (0 : Int32)), (.ref ba), (.int (0 : Int32)), (.int z)] below meth c s₁ [] 0 0 := Stand.of_body Bd
  have e0 : s₁.heap = h0 := by rw [← hh, Bd.state]; rfl
  have N0 := Fr.nil n0
  have KC0 : Keep h0 h0 [ba] := Keep.refl _ _
  suffices hOW : OW p e below s (QC51 Z ca kc ba kb z cs h0 n0) 0 0 (s₁.setTop (mkF m 0 #[.val (.ref ca), .val (.int (0 : Int32)), .val (.ref ba), .val (.int (0 : Int32)), .val (.int z), .unset, .unset] [])) by
    obtain ⟨oq1_, oq2_, oq3_, oq4_⟩ := hOW
    exact ⟨oq1_, oq2_, castTop (ef_C51 m ca (0 : Int32) ba (0 : Int32) z) oq3_, oq4_⟩
  refine OW.st (B := s₁.setTop (mkF m 3 #[.val (.ref ca), .val (.int (0 : Int32)), .val (.ref ba), .val (.int (0 : Int32)), .val (.int z), .val (.int (0 : Int32)), .unset] [])) (fun _ kk_ => XS.iconst X0.here hx rfl (hb hby d6_0) (XS.istore X0.here hx rfl (hb hby d6_1) rfl (l' := #[.val (.ref ca), .val (.int (0 : Int32)), .val (.ref ba), .val (.int (0 : Int32)), .val (.int z), .val (.int (0 : Int32)), .unset]) rfl kk_)) ?_
  have J24 : ∀ (f : Nat) (T24 : State) (L24 : List Loc) (h24 : Heap) (X24 : Stand p l e ({ frames := 0, cells := 0, slots := 0, locals := 0 } : Room) s m #[(.ref ca), (.int (0 : Int32)), (.ref ba), (.int (0 : Int32)), (.int z)] below meth c T24 L24 0 0) (N24 : Fr n0 L24) (e24 : T24.heap = h24) (O24 : Old Z n0 h24) (KC24 : Keep h0 h24 [ba]) (i : Int32) (sl : Slot) (bs : List Value) (mm : Nat), (sl = .unset ∨ ∃ q : Int32, sl = .val (.int q)) → (Arv Z h24 ca kc .char z (cs.map Value.int) (.int (0 : Int32))) → (Arv Z h24 ba kb .byte z bs (.int (0 : Int32))) → (i.toInt = (mm : Int)) → (mm + f = cs.length) → (OwnPL cs mm bs) → (∀ j : Nat, j < mm → ∀ c : Int32, cs[j]? = some c → ¬ ((255 : Int32) < c)) → OW p e below s (QC51 Z ca kc ba kb z cs h0 n0) 0 0 (T24.setTop (mkF m 3 #[.val (.ref ca), .val (.int i), .val (.ref ba), .val (.int i), .val (.int z), .val (.int i), sl] [])) := by
    intro f
    induction f with
    | zero =>
      intro T24 L24 h24 X24 N24 e24 O24 KC24 i sl bs mm hsl Vc Vb hi hm hp hl
      have hmm : mm = cs.length := by omega
      subst hmm
      exact (hhi.not fun j c hc => hl j (List.getElem?_eq_some_iff.mp hc).1 c hc).elim
    | succ f ih =>
      intro T24 L24 h24 X24 N24 e24 O24 KC24 i sl bs mm hsl Vc Vb hi hm hp hl
      obtain ⟨cc, hcc⟩ : ∃ cc, cs[mm]? = some cc := ⟨_, List.getElem?_eq_getElem (by omega)⟩
      refine OW.st (B := T24.setTop (mkF m 12 #[.val (.ref ca), .val (.int i), .val (.ref ba), .val (.int i), .val (.int z), .val (.int i), sl] [(.int i), (.ref ca)])) (fun _ kk_ => XS.iload X24.here hx rfl (hb hby d6_3) rfl (XS.iload X24.here hx rfl (hb hby d6_5) rfl (XS.icmpNo X24.here hx rfl (hb hby d6_7) rfl (tlt (own_ltI hi hz (by omega))).2.1 (XS.aloadN X24.here hx rfl (hb hby d6_10) rfl rfl (XS.iloadN X24.here hx rfl (hb hby d6_11) rfl kk_))))) ?_
      obtain ⟨cl25, Ar25, q25, S25, Ng25, Hs25, G25⟩ := id Vc
      have hin25 : ¬ (i < 0 ∨ cl25.slots.size ≤ (i).toNatClampNeg) := inb_of S25 ⟨own_nneg hi, own_ltI hi hz (by omega)⟩
      refine OW.st (B := T24.setTop (mkF m 20 #[.val (.ref ca), .val (.int i), .val (.ref ba), .val (.int i), .val (.int z), .val (.int i), .val (.int cc)] [(.int (255 : Int32)), (.int cc)])) (fun _ kk_ => (X24.caload hx (j := i) (v := (.int cc)) (by rw [e24]; exact Ar25.1) (State.isArrayOf_alike hZ.alike Ar25.2.1) Ar25.2.2 hin25 (Has.at Hs25 hin25 ((congrArg (fun q => (cs.map Value.int).getD q _) (own_tn hi)).trans (own_getC hcc))) (g := (mkF m 12 #[.val (.ref ca), .val (.int i), .val (.ref ba), .val (.int i), .val (.int z), .val (.int i), sl] [(.int i), (.ref ca)])) rfl rfl (hb hby d6_12)) _ (XS.istore X24.here hx rfl (hb hby d6_13) rfl (l' := #[.val (.ref ca), .val (.int i), .val (.ref ba), .val (.int i), .val (.int z), .val (.int i), .val (.int cc)]) (by rcases hsl with rfl | ⟨_, rfl⟩ <;> rfl) (XS.iload X24.here hx rfl (hb hby d6_15) rfl (XS.sipush X24.here hx rfl (hb hby d6_17) kk_)))) ?_
      by_cases hc26 : (255 : Int32) < cc
      · refine OW.st (B := T24.setTop (mkF m 25 #[.val (.ref ca), .val (.int i), .val (.ref ba), .val (.int i), .val (.int z), .val (.int i), .val (.int cc)] [(.int i)])) (fun _ kk_ => XS.icmpNo X24.here hx rfl (hb hby d6_20) rfl (tlt hc26).2.2.2 (XS.iload X24.here hx rfl (hb hby d6_23) rfl kk_)) ?_
        exact OW.ret X24 hx hlk (i := .ireturn) Bd.returns rfl (Or.inl ⟨rfl, Or.inl rfl, _, rfl⟩) (hb hby d6_25) e24 (by decide) (by decide) ⟨i, mm, cc, rfl, N24, KC24, hi, hcc, hc26⟩
      · refine OW.st (B := T24.setTop (mkF m 31 #[.val (.ref ca), .val (.int i), .val (.ref ba), .val (.int i), .val (.int z), .val (.int i), .val (.int cc)] [(.int (cc.toInt8.toInt32)), (.int i), (.ref ba)])) (fun _ kk_ => XS.icmpYes X24.here hx rfl (pc0 := 20) (pc' := 26) rfl (hb hby d6_20) rfl (flt hc26).2.2.2 (by decide) (by decide) (XS.aloadN X24.here hx rfl (hb hby d6_26) rfl rfl (XS.iloadN X24.here hx rfl (hb hby d6_27) rfl (XS.iload X24.here hx rfl (hb hby d6_28) rfl (XS.i2b X24.here hx rfl (hb hby d6_30) rfl kk_))))) ?_
        obtain ⟨cl27, Ar27, q27, S27, Ng27, Hs27, G27⟩ := id Vb
        have hin27 : ¬ (i < 0 ∨ cl27.slots.size ≤ (i).toNatClampNeg) := inb_of S27 ⟨own_nneg hi, own_ltI hi hz (by omega)⟩
        obtain ⟨T28, h28, X28, e28, W28, st28⟩ := stB X24 hx hZ e24 Ar27 (j := i) hin27 (g := (mkF m 31 #[.val (.ref ca), .val (.int i), .val (.ref ba), .val (.int i), .val (.int z), .val (.int i), .val (.int cc)] [(.int (cc.toInt8.toInt32)), (.int i), (.ref ba)])) rfl rfl (hb hby d6_31)
        have N28 := Fr.snoc X28 N24 gb
        have O28 : Old Z n0 h28 := O24.wr W28 gb
        have KC28 : Keep h0 h28 [ba] := KC24.wr W28 (Or.inl (List.mem_of_getElem? (i := 0) rfl))
        have V28 : Arv Z h28 ba kb .byte z (bs.set mm (.int (nar .byte (cc.toInt8.toInt32)))) (.int (0 : Int32)) := Arv.set Ar27 q27 S27 Ng27 Hs27 G27 (fits_nar_byte _) W28 mm (own_tn hi) (by rw [hp.1]; omega)
        refine OW.st (B := T28.setTop (mkF m 3 #[.val (.ref ca), .val (.int (i + (1 : Int32))), .val (.ref ba), .val (.int (i + (1 : Int32))), .val (.int z), .val (.int (i + (1 : Int32))), .val (.int cc)] [])) (fun _ kk_ => st28 _ (XS.iinc X28.here hx rfl (hb hby d6_32) rfl (l' := #[.val (.ref ca), .val (.int (i + (1 : Int32))), .val (.ref ba), .val (.int i), .val (.int z), .val (.int i), .val (.int cc)]) rfl (XS.iinc X28.here hx rfl (hb hby d6_35) rfl (l' := #[.val (.ref ca), .val (.int (i + (1 : Int32))), .val (.ref ba), .val (.int (i + (1 : Int32))), .val (.int z), .val (.int i), .val (.int cc)]) rfl (XS.iinc X28.here hx rfl (hb hby d6_38) rfl (l' := #[.val (.ref ca), .val (.int (i + (1 : Int32))), .val (.ref ba), .val (.int (i + (1 : Int32))), .val (.int z), .val (.int (i + (1 : Int32))), .val (.int cc)]) rfl (XS.goto X28.here hx rfl (pc0 := 41) (pc' := 3) rfl (hb hby d6_41) (by decide) (by decide) kk_))))) ?_
        exact ih _ _ _ X28 N28 e28 O28 KC28 _ _ _ (mm + 1) (Or.inr ⟨_, rfl⟩) (Vc.other W28 hne) V28 (own_suc hi (by omega)) (by omega) (hp.step hcc) (fun j hj c hc => by rcases Nat.lt_succ_iff_lt_or_eq.mp hj with q | rfl; exact hl j q c hc; rw [hcc] at hc; cases hc; exact hc26)
  exact J24 cs.length _ _ _ X0 N0 e0 O0 KC0 _ _ _ 0 (Or.inl rfl) V B rfl (Nat.zero_add _) (OwnPL.start cs _) (fun j hj => absurd hj (Nat.not_lt_zero _))
theorem ef_PC (m : MethodId) (x0 : Addr) (x1 : Int32) (x2 : Int32) : entryFrame m #[(.ref x0), (.int x1), (.int x2)] 3 = mkF m 0 #[.val (.ref x0), .val (.int x1), .val (.int x2)] [] := by first | (simp [entryFrame, mkF, argsToLocals, Value.category]; done) | rfl
def QPC (Z : State) (ba : Addr) (kb : ClassId) (zb : Int32) (bs : List Value) (i : Int32) (mm : Nat) (cc : Int32) (i_COMPACT_STRINGS : Int32) (v_SIOOBE_FORMATTER : Value) (h0 : Heap) (n0 : Nat) (v : Option Value) (h : Heap) (L : List Loc) : Prop := v = none ∧ Fr n0 L ∧ Keep h0 h [ba] ∧ Arv Z h ba kb .byte zb ((bs.set (2 * mm) (.int (own_b0 cc))).set (2 * mm + 1) (.int (own_b1 cc))) (.int (0 : Int32))
set_option maxRecDepth 65536 in
set_option maxHeartbeats 40000000 in
theorem rmPC (l : Launch) (Z : State) (a0 : Array Value) (hw : ∀ d ∈ tables_1, d.before a0 Z = true) (ws : List Jvm.Cond) (ba : Addr) (kb : ClassId) (zb : Int32) (bs : List Value) (i : Int32) (mm : Nat) (cc : Int32) (i_COMPACT_STRINGS : Int32) (v_SIOOBE_FORMATTER : Value) (h0 : Heap) (n0 : Nat) (O0 : Old Z n0 h0) (B : Arv Z h0 ba kb .byte zb bs (.int (0 : Int32))) (gb : n0 ≤ ba) (hzb : zb.toInt = (bs.length : Int)) (hmb : 2 * mm + 1 < bs.length) (hbb : bs.length ≤ 20) (hi : i.toInt = (mm : Int)) (hS : OwnS Z i_COMPACT_STRINGS v_SIOOBE_FORMATTER) :
    MetFree l (⟨"java/lang/StringUTF16", "putChar", "([BII)V"⟩ : MethodName) (head1 (Jvm.Cond.code (⟨"java/lang/StringUTF16", "putChar", "([BII)V"⟩ : MethodName) jdk_52_method_4_code 3 none :: ws) ({ frames := 0, cells := 0, slots := 0, locals := 0 } : Room)) (fun aa_ UU_ => aa_ = #[(.ref ba), (.int i), (.int cc)] ∧ Z.Warmed39 UU_.vm ∧ UU_.heap = h0) (fun _ _ _ _ _ => True) (fun _ UU_ oo_ UV_ => ∃ vv_ LL_, oo_ = .returned vv_ ∧ QPC Z ba kb zb bs i mm cc i_COMPACT_STRINGS v_SIOOBE_FORMATTER h0 n0 vv_ UV_.heap LL_ ∧ FrameEnd UU_ oo_ UV_ LL_ ({ frames := 0, cells := 0, slots := 0, locals := 0 } : Room).cells ({ frames := 0, cells := 0, slots := 0, locals := 0 } : Room).slots) := by
  refine MetFree.of_bodySF (plainFor_of_name pn_2) hisR ?_
  intro p e s m args below meth c s₁ Bd hml0 hP hK
  obtain ⟨rfl, hZ, hh⟩ := hP
  have hx := Bd.exec
  have hby := Bd.bytes
  have hlk := BodyLoose.notSynchronized Bd
  have hml : c.maxLocals = 3 := hml0
  have hown : s.vm.findClass "java/lang/StringUTF16" = some m.cls := findClass_of_methodNamed Bd.named
  have hnm := (name_of_methodNamed Bd.named Bd.method).1
  have X0 : Stand p l e ({ frames := 0, cells := 0, slots := 0, locals := 0 } : Room) s m #[(.ref ba), (.int i), (.int cc)] below meth c s₁ [] 0 0 := Stand.of_body Bd
  have e0 : s₁.heap = h0 := by rw [← hh, Bd.state]; rfl
  have N0 := Fr.nil n0
  have KC0 : Keep h0 h0 [ba] := Keep.refl _ _
  suffices hOW : OW p e below s (QPC Z ba kb zb bs i mm cc i_COMPACT_STRINGS v_SIOOBE_FORMATTER h0 n0) 0 0 (s₁.setTop (mkF m 0 #[.val (.ref ba), .val (.int i), .val (.int cc)] [])) by
    obtain ⟨oq1_, oq2_, oq3_, oq4_⟩ := hOW
    exact ⟨oq1_, oq2_, castTop (ef_PC m ba i cc) oq3_, oq4_⟩
  have hS' := hS
  obtain ⟨Si_COMPACT_STRINGS, Sv_SIOOBE_FORMATTER, Rv_SIOOBE_FORMATTER, S__assertionsDisabled, S_HI_BYTE_SHIFT, S_LO_BYTE_SHIFT, Pi_COMPACT_STRINGS⟩ := hS'
  have hj1 : (i <<< ((1 : Int32) &&& 31)).toInt = ((2 * mm : Nat) : Int) := own_dbl hi (by omega)
  have hj2 : ((i <<< ((1 : Int32) &&& 31)) + (1 : Int32)).toInt = ((2 * mm + 1 : Nat) : Int) := own_suc hj1 (by omega)
  obtain ⟨T29, X29, e29, st29⟩ := getS2 X0 hx hZ hown (host := "") (Or.inl (w_41 hw)) Via.refl e0 (S__assertionsDisabled.ext O0.2) (g := (mkF m 0 #[.val (.ref ba), .val (.int i), .val (.int cc)] [])) rfl (hb hby d10_0)
  refine OW.st (B := T29.setTop (mkF m 38 #[.val (.ref ba), .val (.int ((i <<< ((1 : Int32) &&& 31)) + (1 : Int32))), .val (.int cc)] [(.int cc), (.int (i <<< ((1 : Int32) &&& 31))), (.ref ba)])) (fun _ kk_ => st29 _ (XS.ifYes X29.here hx rfl (pc0 := 3) (pc' := 28) rfl (hb hby d10_3) rfl ((if0 _ _).trans (feq (by decide)).2) (by decide) (by decide) (XS.iloadN X29.here hx rfl (hb hby d10_28) rfl (XS.iconst X29.here hx rfl (hb hby d10_29) (XS.ishl X29.here hx rfl (hb hby d10_30) rfl (XS.istoreN X29.here hx rfl (hb hby d10_31) rfl (l' := #[.val (.ref ba), .val (.int (i <<< ((1 : Int32) &&& 31))), .val (.int cc)]) rfl (XS.aloadN X29.here hx rfl (hb hby d10_32) rfl rfl (XS.iloadN X29.here hx rfl (hb hby d10_33) rfl (XS.iinc X29.here hx rfl (hb hby d10_34) rfl (l' := #[.val (.ref ba), .val (.int ((i <<< ((1 : Int32) &&& 31)) + (1 : Int32))), .val (.int cc)]) rfl (XS.iloadN X29.here hx rfl (hb hby d10_37) rfl kk_)))))))))) ?_
  obtain ⟨T30, X30, e30, st30⟩ := getS2 X29 hx hZ hown (host := "") (Or.inl (w_42 hw)) Via.refl e29 (S_HI_BYTE_SHIFT.ext O0.2) (g := (mkF m 38 #[.val (.ref ba), .val (.int ((i <<< ((1 : Int32) &&& 31)) + (1 : Int32))), .val (.int cc)] [(.int cc), (.int (i <<< ((1 : Int32) &&& 31))), (.ref ba)])) rfl (hb hby d10_38)
  refine OW.st (B := T30.setTop (mkF m 43 #[.val (.ref ba), .val (.int ((i <<< ((1 : Int32) &&& 31)) + (1 : Int32))), .val (.int cc)] [(.int ((cc >>> ((0 : Int32) &&& 31)).toInt8.toInt32)), (.int (i <<< ((1 : Int32) &&& 31))), (.ref ba)])) (fun _ kk_ => st30 _ (XS.ishr X30.here hx rfl (hb hby d10_41) rfl (XS.i2b X30.here hx rfl (hb hby d10_42) rfl kk_))) ?_
  obtain ⟨cl31, Ar31, q31, S31, Ng31, Hs31, G31⟩ := id B
  have hin31 : ¬ ((i <<< ((1 : Int32) &&& 31)) < 0 ∨ cl31.slots.size ≤ ((i <<< ((1 : Int32) &&& 31))).toNatClampNeg) := inb_of S31 ⟨own_nneg hj1, own_ltI hj1 hzb (by omega)⟩
  obtain ⟨T32, h32, X32, e32, W32, st32⟩ := stB X30 hx hZ e30 Ar31 (j := (i <<< ((1 : Int32) &&& 31))) hin31 (g := (mkF m 43 #[.val (.ref ba), .val (.int ((i <<< ((1 : Int32) &&& 31)) + (1 : Int32))), .val (.int cc)] [(.int ((cc >>> ((0 : Int32) &&& 31)).toInt8.toInt32)), (.int (i <<< ((1 : Int32) &&& 31))), (.ref ba)])) rfl rfl (hb hby d10_43)
  have N32 := Fr.snoc X32 N0 gb
  have O32 : Old Z n0 h32 := O0.wr W32 gb
  have KC32 : Keep h0 h32 [ba] := KC0.wr W32 (Or.inl (List.mem_of_getElem? (i := 0) rfl))
  have V32 : Arv Z h32 ba kb .byte zb (bs.set (2 * mm) (.int (nar .byte ((cc >>> ((0 : Int32) &&& 31)).toInt8.toInt32)))) (.int (0 : Int32)) := Arv.set Ar31 q31 S31 Ng31 Hs31 G31 (fits_nar_byte _) W32 (2 * mm) (own_tn hj1) (by omega)
  refine OW.st (B := T32.setTop (mkF m 47 #[.val (.ref ba), .val (.int ((i <<< ((1 : Int32) &&& 31)) + (1 : Int32))), .val (.int cc)] [(.int cc), (.int ((i <<< ((1 : Int32) &&& 31)) + (1 : Int32))), (.ref ba)])) (fun _ kk_ => st32 _ (XS.aloadN X32.here hx rfl (hb hby d10_44) rfl rfl (XS.iloadN X32.here hx rfl (hb hby d10_45) rfl (XS.iloadN X32.here hx rfl (hb hby d10_46) rfl kk_)))) ?_
  obtain ⟨T33, X33, e33, st33⟩ := getS2 X32 hx hZ hown (host := "") (Or.inl (w_43 hw)) Via.refl e32 (S_LO_BYTE_SHIFT.ext O32.2) (g := (mkF m 47 #[.val (.ref ba), .val (.int ((i <<< ((1 : Int32) &&& 31)) + (1 : Int32))), .val (.int cc)] [(.int cc), (.int ((i <<< ((1 : Int32) &&& 31)) + (1 : Int32))), (.ref ba)])) rfl (hb hby d10_47)
  refine OW.st (B := T33.setTop (mkF m 52 #[.val (.ref ba), .val (.int ((i <<< ((1 : Int32) &&& 31)) + (1 : Int32))), .val (.int cc)] [(.int ((cc >>> ((8 : Int32) &&& 31)).toInt8.toInt32)), (.int ((i <<< ((1 : Int32) &&& 31)) + (1 : Int32))), (.ref ba)])) (fun _ kk_ => st33 _ (XS.ishr X33.here hx rfl (hb hby d10_50) rfl (XS.i2b X33.here hx rfl (hb hby d10_51) rfl kk_))) ?_
  obtain ⟨cl34, Ar34, q34, S34, Ng34, Hs34, G34⟩ := id V32
  have hin34 : ¬ (((i <<< ((1 : Int32) &&& 31)) + (1 : Int32)) < 0 ∨ cl34.slots.size ≤ (((i <<< ((1 : Int32) &&& 31)) + (1 : Int32))).toNatClampNeg) := inb_of S34 ⟨own_nneg hj2, own_ltI hj2 hzb (by omega)⟩
  obtain ⟨T35, h35, X35, e35, W35, st35⟩ := stB X33 hx hZ e33 Ar34 (j := ((i <<< ((1 : Int32) &&& 31)) + (1 : Int32))) hin34 (g := (mkF m 52 #[.val (.ref ba), .val (.int ((i <<< ((1 : Int32) &&& 31)) + (1 : Int32))), .val (.int cc)] [(.int ((cc >>> ((8 : Int32) &&& 31)).toInt8.toInt32)), (.int ((i <<< ((1 : Int32) &&& 31)) + (1 : Int32))), (.ref ba)])) rfl rfl (hb hby d10_52)
  have N35 := Fr.snoc X35 N32 gb
  have O35 : Old Z n0 h35 := O32.wr W35 gb
  have KC35 : Keep h0 h35 [ba] := KC32.wr W35 (Or.inl (List.mem_of_getElem? (i := 0) rfl))
  have V35 : Arv Z h35 ba kb .byte zb ((bs.set (2 * mm) (.int (nar .byte ((cc >>> ((0 : Int32) &&& 31)).toInt8.toInt32)))).set (2 * mm + 1) (.int (nar .byte ((cc >>> ((8 : Int32) &&& 31)).toInt8.toInt32)))) (.int (0 : Int32)) := Arv.set Ar34 q34 S34 Ng34 Hs34 G34 (fits_nar_byte _) W35 (2 * mm + 1) (own_tn hj2) (by rw [List.length_set]; omega)
  refine OW.st (B := T35.setTop (mkF m 53 #[.val (.ref ba), .val (.int ((i <<< ((1 : Int32) &&& 31)) + (1 : Int32))), .val (.int cc)] [])) (fun _ kk_ => st35 _ kk_) ?_
  exact OW.retV X35 hx hlk Bd.returns (hb hby d10_53) e35 (by decide) (by decide) ⟨rfl, N35, KC35, V35⟩
theorem ef_GC (m : MethodId) (x0 : Addr) (x1 : Int32) : entryFrame m #[(.ref x0), (.int x1)] 2 = mkF m 0 #[.val (.ref x0), .val (.int x1)] [] := by first | (simp [entryFrame, mkF, argsToLocals, Value.category]; done) | rfl
def QGC (Z : State) (ba : Addr) (kb : ClassId) (zb : Int32) (cs : List Int32) (i : Int32) (mm : Nat) (cc : Int32) (i_COMPACT_STRINGS : Int32) (v_SIOOBE_FORMATTER : Value) (h0 : Heap) (n0 : Nat) (v : Option Value) (h : Heap) (L : List Loc) : Prop := v = some (.int cc) ∧ Fr n0 L ∧ h = h0
set_option maxRecDepth 65536 in
set_option maxHeartbeats 40000000 in
theorem rmGC (l : Launch) (Z : State) (a0 : Array Value) (hw : ∀ d ∈ tables_1, d.before a0 Z = true) (ws : List Jvm.Cond) (ba : Addr) (kb : ClassId) (zb : Int32) (cs : List Int32) (i : Int32) (mm : Nat) (cc : Int32) (i_COMPACT_STRINGS : Int32) (v_SIOOBE_FORMATTER : Value) (h0 : Heap) (n0 : Nat) (O0 : Old Z n0 h0) (B : Arv Z h0 ba kb .byte zb (OwnU cs) (.int (0 : Int32))) (hzb : zb.toInt = ((2 * cs.length : Nat) : Int)) (hmax : cs.length ≤ 10) (hi : i.toInt = (mm : Int)) (hcc : cs[mm]? = some cc) (hn : nar .char cc = cc) (hS : OwnS Z i_COMPACT_STRINGS v_SIOOBE_FORMATTER) :
    MetFree l (⟨"java/lang/StringUTF16", "getChar", "([BI)C"⟩ : MethodName) (head1 (Jvm.Cond.code (⟨"java/lang/StringUTF16", "getChar", "([BI)C"⟩ : MethodName) jdk_52_method_5_code 2 (some .char) :: ws) ({ frames := 0, cells := 0, slots := 0, locals := 0 } : Room)) (fun aa_ UU_ => aa_ = #[(.ref ba), (.int i)] ∧ Z.Warmed39 UU_.vm ∧ UU_.heap = h0) (fun _ _ _ _ _ => True) (fun _ UU_ oo_ UV_ => ∃ vv_ LL_, oo_ = .returned vv_ ∧ QGC Z ba kb zb cs i mm cc i_COMPACT_STRINGS v_SIOOBE_FORMATTER h0 n0 vv_ UV_.heap LL_ ∧ FrameEnd UU_ oo_ UV_ LL_ ({ frames := 0, cells := 0, slots := 0, locals := 0 } : Room).cells ({ frames := 0, cells := 0, slots := 0, locals := 0 } : Room).slots) := by
  refine MetFree.of_bodySF (plainFor_of_name pn_2) hisR ?_
  intro p e s m args below meth c s₁ Bd hml0 hP hK
  obtain ⟨rfl, hZ, hh⟩ := hP
  have hx := Bd.exec
  have hby := Bd.bytes
  have hlk := BodyLoose.notSynchronized Bd
  have hml : c.maxLocals = 2 := hml0
  have hown : s.vm.findClass "java/lang/StringUTF16" = some m.cls := findClass_of_methodNamed Bd.named
  have hnm := (name_of_methodNamed Bd.named Bd.method).1
  have X0 : Stand p l e ({ frames := 0, cells := 0, slots := 0, locals := 0 } : Room) s m #[(.ref ba), (.int i)] below meth c s₁ [] 0 0 := Stand.of_body Bd
  have e0 : s₁.heap = h0 := by rw [← hh, Bd.state]; rfl
  have N0 := Fr.nil n0
  suffices hOW : OW p e below s (QGC Z ba kb zb cs i mm cc i_COMPACT_STRINGS v_SIOOBE_FORMATTER h0 n0) 0 0 (s₁.setTop (mkF m 0 #[.val (.ref ba), .val (.int i)] [])) by
    obtain ⟨oq1_, oq2_, oq3_, oq4_⟩ := hOW
    exact ⟨oq1_, oq2_, castTop (ef_GC m ba i) oq3_, oq4_⟩
  have hS' := hS
  obtain ⟨Si_COMPACT_STRINGS, Sv_SIOOBE_FORMATTER, Rv_SIOOBE_FORMATTER, S__assertionsDisabled, S_HI_BYTE_SHIFT, S_LO_BYTE_SHIFT, Pi_COMPACT_STRINGS⟩ := hS'
  have hmm : mm < cs.length := (List.getElem?_eq_some_iff.mp hcc).1
  have hj1 : (i <<< ((1 : Int32) &&& 31)).toInt = ((2 * mm : Nat) : Int) := own_dbl hi (by omega)
  have hj2 : ((i <<< ((1 : Int32) &&& 31)) + (1 : Int32)).toInt = ((2 * mm + 1 : Nat) : Int) := own_suc hj1 (by omega)
  obtain ⟨T36, X36, e36, st36⟩ := getS2 X0 hx hZ hown (host := "") (Or.inl (w_41 hw)) Via.refl e0 (S__assertionsDisabled.ext O0.2) (g := (mkF m 0 #[.val (.ref ba), .val (.int i)] [])) rfl (hb hby d11_0)
  refine OW.st (B := T36.setTop (mkF m 37 #[.val (.ref ba), .val (.int ((i <<< ((1 : Int32) &&& 31)) + (1 : Int32)))] [(.int (i <<< ((1 : Int32) &&& 31))), (.ref ba)])) (fun _ kk_ => st36 _ (XS.ifYes X36.here hx rfl (pc0 := 3) (pc' := 28) rfl (hb hby d11_3) rfl ((if0 _ _).trans (feq (by decide)).2) (by decide) (by decide) (XS.iloadN X36.here hx rfl (hb hby d11_28) rfl (XS.iconst X36.here hx rfl (hb hby d11_29) (XS.ishl X36.here hx rfl (hb hby d11_30) rfl (XS.istoreN X36.here hx rfl (hb hby d11_31) rfl (l' := #[.val (.ref ba), .val (.int (i <<< ((1 : Int32) &&& 31)))]) rfl (XS.aloadN X36.here hx rfl (hb hby d11_32) rfl rfl (XS.iloadN X36.here hx rfl (hb hby d11_33) rfl (XS.iinc X36.here hx rfl (hb hby d11_34) rfl (l' := #[.val (.ref ba), .val (.int ((i <<< ((1 : Int32) &&& 31)) + (1 : Int32)))]) rfl kk_))))))))) ?_
  obtain ⟨cl37, Ar37, q37, S37, Ng37, Hs37, G37⟩ := id B
  have hin37 : ¬ ((i <<< ((1 : Int32) &&& 31)) < 0 ∨ cl37.slots.size ≤ ((i <<< ((1 : Int32) &&& 31))).toNatClampNeg) := inb_of S37 ⟨own_nneg hj1, own_ltI hj1 hzb (by omega)⟩
  refine OW.st (B := T36.setTop (mkF m 42 #[.val (.ref ba), .val (.int ((i <<< ((1 : Int32) &&& 31)) + (1 : Int32)))] [(.int ((own_b0 cc) &&& (255 : Int32)))])) (fun _ kk_ => (X36.baloadBytes hx (j := (i <<< ((1 : Int32) &&& 31))) (v := (.int (own_b0 cc))) (by rw [e36]; exact Ar37.1) (State.isArrayOf_alike hZ.alike Ar37.2.1) Ar37.2.2 hin37 (Has.at Hs37 hin37 ((congrArg (fun q => (OwnU cs).getD q _) (own_tn hj1)).trans (own_getU0 hcc))) (g := (mkF m 37 #[.val (.ref ba), .val (.int ((i <<< ((1 : Int32) &&& 31)) + (1 : Int32)))] [(.int (i <<< ((1 : Int32) &&& 31))), (.ref ba)])) rfl rfl (hb hby d11_37)) _ (XS.sipush X36.here hx rfl (hb hby d11_38) (XS.iand X36.here hx rfl (hb hby d11_41) rfl kk_))) ?_
  obtain ⟨T38, X38, e38, st38⟩ := getS2 X36 hx hZ hown (host := "") (Or.inl (w_42 hw)) Via.refl e36 (S_HI_BYTE_SHIFT.ext O0.2) (g := (mkF m 42 #[.val (.ref ba), .val (.int ((i <<< ((1 : Int32) &&& 31)) + (1 : Int32)))] [(.int ((own_b0 cc) &&& (255 : Int32)))])) rfl (hb hby d11_42)
  refine OW.st (B := T38.setTop (mkF m 48 #[.val (.ref ba), .val (.int ((i <<< ((1 : Int32) &&& 31)) + (1 : Int32)))] [(.int ((i <<< ((1 : Int32) &&& 31)) + (1 : Int32))), (.ref ba), (.int (((own_b0 cc) &&& (255 : Int32)) <<< ((0 : Int32) &&& 31)))])) (fun _ kk_ => st38 _ (XS.ishl X38.here hx rfl (hb hby d11_45) rfl (XS.aloadN X38.here hx rfl (hb hby d11_46) rfl rfl (XS.iloadN X38.here hx rfl (hb hby d11_47) rfl kk_)))) ?_
  obtain ⟨cl39, Ar39, q39, S39, Ng39, Hs39, G39⟩ := id B
  have hin39 : ¬ (((i <<< ((1 : Int32) &&& 31)) + (1 : Int32)) < 0 ∨ cl39.slots.size ≤ (((i <<< ((1 : Int32) &&& 31)) + (1 : Int32))).toNatClampNeg) := inb_of S39 ⟨own_nneg hj2, own_ltI hj2 hzb (by omega)⟩
  refine OW.st (B := T38.setTop (mkF m 53 #[.val (.ref ba), .val (.int ((i <<< ((1 : Int32) &&& 31)) + (1 : Int32)))] [(.int ((own_b1 cc) &&& (255 : Int32))), (.int (((own_b0 cc) &&& (255 : Int32)) <<< ((0 : Int32) &&& 31)))])) (fun _ kk_ => (X38.baloadBytes hx (j := ((i <<< ((1 : Int32) &&& 31)) + (1 : Int32))) (v := (.int (own_b1 cc))) (by rw [e38]; exact Ar39.1) (State.isArrayOf_alike hZ.alike Ar39.2.1) Ar39.2.2 hin39 (Has.at Hs39 hin39 ((congrArg (fun q => (OwnU cs).getD q _) (own_tn hj2)).trans (own_getU1 hcc))) (g := (mkF m 48 #[.val (.ref ba), .val (.int ((i <<< ((1 : Int32) &&& 31)) + (1 : Int32)))] [(.int ((i <<< ((1 : Int32) &&& 31)) + (1 : Int32))), (.ref ba), (.int (((own_b0 cc) &&& (255 : Int32)) <<< ((0 : Int32) &&& 31)))])) rfl rfl (hb hby d11_48)) _ (XS.sipush X38.here hx rfl (hb hby d11_49) (XS.iand X38.here hx rfl (hb hby d11_52) rfl kk_))) ?_
  obtain ⟨T40, X40, e40, st40⟩ := getS2 X38 hx hZ hown (host := "") (Or.inl (w_43 hw)) Via.refl e38 (S_LO_BYTE_SHIFT.ext O0.2) (g := (mkF m 53 #[.val (.ref ba), .val (.int ((i <<< ((1 : Int32) &&& 31)) + (1 : Int32)))] [(.int ((own_b1 cc) &&& (255 : Int32))), (.int (((own_b0 cc) &&& (255 : Int32)) <<< ((0 : Int32) &&& 31)))])) rfl (hb hby d11_53)
  refine OW.st (B := T40.setTop (mkF m 59 #[.val (.ref ba), .val (.int ((i <<< ((1 : Int32) &&& 31)) + (1 : Int32)))] [(.int (((((own_b0 cc) &&& (255 : Int32)) <<< ((0 : Int32) &&& 31)) ||| (((own_b1 cc) &&& (255 : Int32)) <<< ((8 : Int32) &&& 31))).toUInt32.toUInt16.toUInt32.toInt32))])) (fun _ kk_ => st40 _ (XS.ishl X40.here hx rfl (hb hby d11_56) rfl (XS.ior X40.here hx rfl (hb hby d11_57) rfl (XS.i2c X40.here hx rfl (hb hby d11_58) rfl kk_)))) ?_
  exact OW.ret X40 hx hlk (i := .ireturn) Bd.returns (own_nc _) (Or.inl ⟨rfl, Or.inr (Or.inr (Or.inr (Or.inl rfl))), _, rfl⟩) (hb hby d11_59) e40 (by decide) (by decide) ⟨congrArg (fun z => some (Value.int z)) (own_gc hn), N0, rfl⟩
theorem ef_NL (m : MethodId) (x0 : Int32) : entryFrame m #[(.int x0)] 1 = mkF m 0 #[.val (.int x0)] [] := by first | (simp [entryFrame, mkF, argsToLocals, Value.category]; done) | rfl
def QNL (Z : State) (z : Int32) (nn : Nat) (h0 : Heap) (n0 : Nat) (v : Option Value) (h : Heap) (L : List Loc) : Prop := v = some (.int (z <<< ((1 : Int32) &&& 31))) ∧ Fr n0 L ∧ h = h0
set_option maxRecDepth 65536 in
set_option maxHeartbeats 40000000 in
theorem rmNL (l : Launch) (Z : State) (a0 : Array Value) (hw : ∀ d ∈ tables_1, d.before a0 Z = true) (ws : List Jvm.Cond) (z : Int32) (nn : Nat) (h0 : Heap) (n0 : Nat) (O0 : Old Z n0 h0) (hz : z.toInt = (nn : Int)) (hmax : nn ≤ 10) :
    MetFree l (⟨"java/lang/StringUTF16", "newBytesLength", "(I)I"⟩ : MethodName) (head1 (Jvm.Cond.code (⟨"java/lang/StringUTF16", "newBytesLength", "(I)I"⟩ : MethodName) jdk_52_method_3_code 1 (some .int) :: ws) ({ frames := 0, cells := 0, slots := 0, locals := 0 } : Room)) (fun aa_ UU_ => aa_ = #[(.int z)] ∧ Z.Warmed39 UU_.vm ∧ UU_.heap = h0) (fun _ _ _ _ _ => True) (fun _ UU_ oo_ UV_ => ∃ vv_ LL_, oo_ = .returned vv_ ∧ QNL Z z nn h0 n0 vv_ UV_.heap LL_ ∧ FrameEnd UU_ oo_ UV_ LL_ ({ frames := 0, cells := 0, slots := 0, locals := 0 } : Room).cells ({ frames := 0, cells := 0, slots := 0, locals := 0 } : Room).slots) := by
  refine MetFree.of_bodySF (plainFor_of_name pn_2) hisR ?_
  intro p e s m args below meth c s₁ Bd hml0 hP hK
  obtain ⟨rfl, hZ, hh⟩ := hP
  have hx := Bd.exec
  have hby := Bd.bytes
  have hlk := BodyLoose.notSynchronized Bd
  have hml : c.maxLocals = 1 := hml0
  have hown : s.vm.findClass "java/lang/StringUTF16" = some m.cls := findClass_of_methodNamed Bd.named
  have hnm := (name_of_methodNamed Bd.named Bd.method).1
  have X0 : Stand p l e ({ frames := 0, cells := 0, slots := 0, locals := 0 } : Room) s m #[(.int z)] below meth c s₁ [] 0 0 := Stand.of_body Bd
  have e0 : s₁.heap = h0 := by rw [← hh, Bd.state]; rfl
  have N0 := Fr.nil n0
  suffices hOW : OW p e below s (QNL Z z nn h0 n0) 0 0 (s₁.setTop (mkF m 0 #[.val (.int z)] [])) by
    obtain ⟨oq1_, oq2_, oq3_, oq4_⟩ := hOW
    exact ⟨oq1_, oq2_, castTop (ef_NL m z) oq3_, oq4_⟩
  have hq1 := own_nneg hz
  have hq2 : z < (1073741823 : Int32) := own_ltI hz (n := 1073741823) (by decide) (by omega)
  refine OW.st (B := s₁.setTop (mkF m 58 #[.val (.int z)] [(.int (z <<< ((1 : Int32) &&& 31)))])) (fun _ kk_ => XS.iloadN X0.here hx rfl (hb hby d9_0) rfl (XS.ifYes X0.here hx rfl (pc0 := 1) (pc' := 12) rfl (hb hby d9_1) rfl ((if0 _ _).trans (flt hq1).2.1) (by decide) (by decide) (XS.iloadN X0.here hx rfl (hb hby d9_12) rfl ((X0.ldcInt hx hown (mvT hZ (w_37 hw)) (g := (mkF m 13 #[.val (.int z)] [(.int z)])) rfl (hb hby d9_13)) _ (XS.icmpYes X0.here hx rfl (pc0 := 15) (pc' := 55) rfl (hb hby d9_15) rfl (tlt hq2).1 (by decide) (by decide) (XS.iloadN X0.here hx rfl (hb hby d9_55) rfl (XS.iconst X0.here hx rfl (hb hby d9_56) (XS.ishl X0.here hx rfl (hb hby d9_57) rfl kk_)))))))) ?_
  exact OW.ret X0 hx hlk (i := .ireturn) Bd.returns rfl (Or.inl ⟨rfl, Or.inl rfl, _, rfl⟩) (hb hby d9_58) e0 (by decide) (by decide) ⟨rfl, N0, rfl⟩
theorem ef_NF (m : MethodId) (x0 : Int32) : entryFrame m #[(.int x0)] 1 = mkF m 0 #[.val (.int x0)] [] := by first | (simp [entryFrame, mkF, argsToLocals, Value.category]; done) | rfl
def QNF (Z : State) (z : Int32) (nn : Nat) (h0 : Heap) (n0 : Nat) (v : Option Value) (h : Heap) (L : List Loc) : Prop := ∃ (ba : Addr) (kb : ClassId), v = some (.ref ba) ∧ Fr n0 L ∧ Keep h0 h [] ∧ n0 ≤ ba ∧ h0.size ≤ ba ∧ Arv Z h ba kb .byte (z <<< ((1 : Int32) &&& 31)) (List.replicate (2 * nn) (.int (0 : Int32))) (.int (0 : Int32))
set_option maxRecDepth 65536 in
set_option maxHeartbeats 40000000 in
theorem rmNF (l : Launch) (Z : State) (a0 : Array Value) (hw : ∀ d ∈ tables_1, d.before a0 Z = true) (ws : List Jvm.Cond) (z : Int32) (nn : Nat) (h0 : Heap) (n0 : Nat) (O0 : Old Z n0 h0) (hz : z.toInt = (nn : Int)) (hmax : nn ≤ 10) :
    MetFree l (⟨"java/lang/StringUTF16", "newBytesFor", "(I)[B"⟩ : MethodName) (head1 (Jvm.Cond.code (⟨"java/lang/StringUTF16", "newBytesFor", "(I)[B"⟩ : MethodName) jdk_52_method_2_code 1 (some (.array .byte)) :: ws) ({ frames := 1, cells := 1, slots := 20, locals := 12 } : Room)) (fun aa_ UU_ => aa_ = #[(.int z)] ∧ Z.Warmed39 UU_.vm ∧ UU_.heap = h0) (fun _ _ _ _ _ => True) (fun _ UU_ oo_ UV_ => ∃ vv_ LL_, oo_ = .returned vv_ ∧ QNF Z z nn h0 n0 vv_ UV_.heap LL_ ∧ FrameEnd UU_ oo_ UV_ LL_ ({ frames := 1, cells := 1, slots := 20, locals := 12 } : Room).cells ({ frames := 1, cells := 1, slots := 20, locals := 12 } : Room).slots) := by
  refine MetFree.of_bodySF (plainFor_of_name pn_2) hisR ?_
  intro p e s m args below meth c s₁ Bd hml0 hP hK
  obtain ⟨rfl, hZ, hh⟩ := hP
  have hx := Bd.exec
  have hby := Bd.bytes
  have hlk := BodyLoose.notSynchronized Bd
  have hml : c.maxLocals = 1 := hml0
  have hown : s.vm.findClass "java/lang/StringUTF16" = some m.cls := findClass_of_methodNamed Bd.named
  have hnm := (name_of_methodNamed Bd.named Bd.method).1
  have X0 : Stand p l e ({ frames := 1, cells := 1, slots := 20, locals := 12 } : Room) s m #[(.int z)] below meth c s₁ [] 0 0 := Stand.of_body Bd
  have e0 : s₁.heap = h0 := by rw [← hh, Bd.state]; rfl
  have N0 := Fr.nil n0
  have KC0 : Keep h0 h0 [] := Keep.refl _ _
  suffices hOW : OW p e below s (QNF Z z nn h0 n0) 1 20 (s₁.setTop (mkF m 0 #[.val (.int z)] [])) by
    obtain ⟨oq1_, oq2_, oq3_, oq4_⟩ := hOW
    exact ⟨oq1_, oq2_, castTop (ef_NF m z) oq3_, oq4_⟩
  have hd := own_dbl hz (by omega)
  refine OW.st (B := s₁.setTop (mkF m 1 #[.val (.int z)] [(.int z)])) (fun _ kk_ => XS.iloadN X0.here hx rfl (hb hby d8_0) rfl kk_) ?_
  obtain ⟨_, _, ⟨T41, L41, k41, n41⟩, -, X41, ⟨Lc41, hQ41, l41, y41, z41⟩, st41⟩ := Jvm.LawKit.callS X0 hx (y := (⟨"java/lang/StringUTF16", "newBytesLength", "(I)I"⟩ : MethodName)) hown (mvT hZ (w_34 hw)) (mvT hZ (w_35 hw)) (mvT hZ (w_22 hw)) (mvT hZ (w_36 hw)) (by decide) (backOf (W := 0) (rmNL l Z a0 hw [] z nn h0 n0 O0 hz hmax) hZ (w_36 hw) (w_22 hw) (by decide) (by decide)) (g := (mkF m 1 #[.val (.int z)] [(.int z)])) rfl (by rw [hml]; rfl) (argsL := [(.int z)]) (rest := []) (lenOf pd_2 rfl) rfl (by show 2 * 0 + _ ≤ _; exact Nat.le_of_eq rfl) (hb hby d8_1) (fun _ _ => ⟨rfl, e0, (by decide : 0 + 0 ≤ _), (by decide : 0 + 0 ≤ _)⟩)
  dsimp only [Pt.U, Pt.locs, Pt.cells, Pt.slots] at X41 l41 y41 z41 st41 hQ41
  subst l41 y41 z41
  obtain ⟨rfl, Nq41, e41⟩ := hQ41
  have N41 := Fr.app N0 Nq41
  refine OW.st (B := T41.setTop (mkF m 4 #[.val (.int z)] [(.int (z <<< ((1 : Int32) &&& 31)))])) (fun _ kk_ => st41 _ kk_) ?_
  obtain ⟨T42, h42, k42, X42, e42, E42, A42, st42⟩ := newP (aty := .byte) X41 hx hZ (w_24 hw) e41 (g := (mkF m 4 #[.val (.int z)] [(.int (z <<< ((1 : Int32) &&& 31)))])) rfl (hb hby d8_4) rfl (own_nneg hd) (cap := 20) (by rw [own_tn hd]; omega) (by decide) (by decide) (by decide)
  obtain ⟨b42, g42⟩ : ∃ z, z = h0.size := ⟨_, rfl⟩
  rw [← g42] at A42 st42
  have n_b42 : n0 ≤ b42 := Nat.le_trans (own_oldle O0) (Nat.le_of_eq g42.symm)
  have O42 : Old Z n0 h42 := O0.ext E42
  have sz_b42 : h0.size ≤ b42 := Nat.le_trans KC0.1 (Nat.le_of_eq g42.symm)
  have KC42 : Keep h0 h42 [] := KC0.ext E42
  have V42 : Arv Z h42 b42 k42 .byte (z <<< ((1 : Int32) &&& 31)) (List.replicate (2 * nn) (.int (0 : Int32))) (.int (0 : Int32)) := (Arv.new A42 (own_nneg hd)).pad (pad_rep [] (.int (0 : Int32)) (2 * nn))
  refine OW.st (B := T42.setTop (mkF m 6 #[.val (.int z)] [(.ref b42)])) (fun _ kk_ => st42 _ kk_) ?_
  exact OW.ret X42 hx hlk (i := .areturn) Bd.returns rfl (Or.inr (Or.inr (Or.inr (Or.inr ⟨rfl, rfl, rfl⟩)))) (hb hby d8_6) e42 (by decide) (by decide) ⟨b42, k42, rfl, N41, KC42, n_b42, sz_b42, V42⟩
theorem ef_TB (m : MethodId) (x0 : Addr) (x1 : Int32) (x2 : Int32) : entryFrame m #[(.ref x0), (.int x1), (.int x2)] 5 = mkF m 0 #[.val (.ref x0), .val (.int x1), .val (.int x2), .unset, .unset] [] := by first | (simp [entryFrame, mkF, argsToLocals, Value.category]; done) | rfl
def QTB (Z : State) (ca : Addr) (kc : ClassId) (z : Int32) (cs : List Int32) (i_COMPACT_STRINGS : Int32) (v_SIOOBE_FORMATTER : Value) (h0 : Heap) (n0 : Nat) (v : Option Value) (h : Heap) (L : List Loc) : Prop := ∃ (ba : Addr) (kb : ClassId), v = some (.ref ba) ∧ Fr n0 L ∧ Keep h0 h [] ∧ n0 ≤ ba ∧ h0.size ≤ ba ∧ Arv Z h ba kb .byte (z <<< ((1 : Int32) &&& 31)) (OwnU cs) (.int (0 : Int32))
set_option maxRecDepth 65536 in
set_option maxHeartbeats 40000000 in
theorem rmTB (l : Launch) (Z : State) (a0 : Array Value) (hw : ∀ d ∈ tables_1, d.before a0 Z = true) (ws : List Jvm.Cond) (ca : Addr) (kc : ClassId) (z : Int32) (cs : List Int32) (i_COMPACT_STRINGS : Int32) (v_SIOOBE_FORMATTER : Value) (h0 : Heap) (n0 : Nat) (O0 : Old Z n0 h0) (V : Arv Z h0 ca kc .char z (cs.map Value.int) (.int (0 : Int32))) (hz : z.toInt = (cs.length : Int)) (hmax : cs.length ≤ 10) (hS : OwnS Z i_COMPACT_STRINGS v_SIOOBE_FORMATTER) :
    MetFree l (⟨"java/lang/StringUTF16", "toBytes", "([CII)[B"⟩ : MethodName) (head1 (Jvm.Cond.code (⟨"java/lang/StringUTF16", "toBytes", "([CII)[B"⟩ : MethodName) jdk_52_method_14_code 5 (some (.array .byte)) :: ws) ({ frames := 2, cells := 1, slots := 20, locals := 24 } : Room)) (fun aa_ UU_ => aa_ = #[(.ref ca), (.int (0 : Int32)), (.int z)] ∧ Z.Warmed39 UU_.vm ∧ UU_.heap = h0) (fun _ _ _ _ _ => True) (fun _ UU_ oo_ UV_ => ∃ vv_ LL_, oo_ = .returned vv_ ∧ QTB Z ca kc z cs i_COMPACT_STRINGS v_SIOOBE_FORMATTER h0 n0 vv_ UV_.heap LL_ ∧ FrameEnd UU_ oo_ UV_ LL_ ({ frames := 2, cells := 1, slots := 20, locals := 24 } : Room).cells ({ frames := 2, cells := 1, slots := 20, locals := 24 } : Room).slots) := by
  refine MetFree.of_bodySF (plainFor_of_name pn_2) hisR ?_
  intro p e s m args below meth c s₁ Bd hml0 hP hK
  obtain ⟨rfl, hZ, hh⟩ := hP
  have hx := Bd.exec
  have hby := Bd.bytes
  have hlk := BodyLoose.notSynchronized Bd
  have hml : c.maxLocals = 5 := hml0
  have hown : s.vm.findClass "java/lang/StringUTF16" = some m.cls := findClass_of_methodNamed Bd.named
  have hnm := (name_of_methodNamed Bd.named Bd.method).1
  have X0 : Stand p l e ({ frames := 2, cells := 1, slots := 20, locals := 24 } : Room) s m #[(.ref ca), (.int (0 : Int32)), (.int z)] below meth c s₁ [] 0 0 := Stand.of_body Bd
  have e0 : s₁.heap = h0 := by rw [← hh, Bd.state]; rfl
  have N0 := Fr.nil n0
  have KC0 : Keep h0 h0 [] := Keep.refl _ _
  suffices hOW : OW p e below s (QTB Z ca kc z cs i_COMPACT_STRINGS v_SIOOBE_FORMATTER h0 n0) 1 20 (s₁.setTop (mkF m 0 #[.val (.ref ca), .val (.int (0 : Int32)), .val (.int z), .unset, .unset] [])) by
    obtain ⟨oq1_, oq2_, oq3_, oq4_⟩ := hOW
    exact ⟨oq1_, oq2_, castTop (ef_TB m ca (0 : Int32) z) oq3_, oq4_⟩
  have hS' := hS
  obtain ⟨Si_COMPACT_STRINGS, Sv_SIOOBE_FORMATTER, Rv_SIOOBE_FORMATTER, S__assertionsDisabled, S_HI_BYTE_SHIFT, S_LO_BYTE_SHIFT, Pi_COMPACT_STRINGS⟩ := hS'
  refine OW.st (B := s₁.setTop (mkF m 1 #[.val (.ref ca), .val (.int (0 : Int32)), .val (.int z), .unset, .unset] [(.int z)])) (fun _ kk_ => XS.iloadN X0.here hx rfl (hb hby d7_0) rfl kk_) ?_
  obtain ⟨_, _, ⟨T43, L43, k43, n43⟩, -, X43, ⟨Lc43, hQ43, l43, y43, z43⟩, st43⟩ := Jvm.LawKit.callS X0 hx (y := (⟨"java/lang/StringUTF16", "newBytesFor", "(I)[B"⟩ : MethodName)) hown (mvT hZ (w_31 hw)) (mvT hZ (w_32 hw)) (mvT hZ (w_22 hw)) (mvT hZ (w_33 hw)) (by decide) (backOf (W := 0) (rmNF l Z a0 hw [] z cs.length h0 n0 O0 hz hmax) hZ (w_33 hw) (w_22 hw) (by decide) (by decide)) (g := (mkF m 1 #[.val (.ref ca), .val (.int (0 : Int32)), .val (.int z), .unset, .unset] [(.int z)])) rfl (by rw [hml]; rfl) (argsL := [(.int z)]) (rest := []) (lenOf pd_3 rfl) rfl (by show 2 * 0 + _ ≤ _; exact Nat.le_of_eq rfl) (hb hby d7_1) (fun _ _ => ⟨rfl, e0, (by decide : 0 + 1 ≤ _), (by decide : 0 + 20 ≤ _)⟩)
  dsimp only [Pt.U, Pt.locs, Pt.cells, Pt.slots] at X43 l43 y43 z43 st43 hQ43
  subst l43 y43 z43
  obtain ⟨b43, kb43, rfl, Nq43, K43, gb43, zb43, Vb43⟩ := hQ43
  have N43 := Fr.app N0 Nq43
  have O43 : Old Z n0 T43.heap := O0.keep K43 all0
  have KC43 : Keep h0 T43.heap [] := KC0.trans K43 all0
  have sz_b43 : h0.size ≤ b43 := Nat.le_trans KC0.1 zb43
  refine OW.st (B := T43.setTop (mkF m 8 #[.val (.ref ca), .val (.int (0 : Int32)), .val (.int z), .val (.ref b43), .val (.int (0 : Int32))] [])) (fun _ kk_ => st43 _ (XS.astoreN X43.here hx rfl (hb hby d7_4) rfl rfl (l' := #[.val (.ref ca), .val (.int (0 : Int32)), .val (.int z), .val (.ref b43), .unset]) rfl (XS.iconst X43.here hx rfl (hb hby d7_5) (XS.istore X43.here hx rfl (hb hby d7_6) rfl (l' := #[.val (.ref ca), .val (.int (0 : Int32)), .val (.int z), .val (.ref b43), .val (.int (0 : Int32))]) rfl kk_)))) ?_
  have hd := own_dbl hz (by omega)
  have J44 : ∀ (f : Nat) (T44 : State) (L44 : List Loc) (h44 : Heap) (X44 : Stand p l e ({ frames := 2, cells := 1, slots := 20, locals := 24 } : Room) s m #[(.ref ca), (.int (0 : Int32)), (.int z)] below meth c T44 L44 1 20) (N44 : Fr n0 L44) (e44 : T44.heap = h44) (O44 : Old Z n0 h44) (KC44 : Keep h0 h44 []) (i : Int32) (bs : List Value) (mm : Nat), (Arv Z h44 ca kc .char z (cs.map Value.int) (.int (0 : Int32))) → (Arv Z h44 b43 kb43 .byte (z <<< ((1 : Int32) &&& 31)) bs (.int (0 : Int32))) → (i.toInt = (mm : Int)) → (mm + f = cs.length) → (OwnPU cs mm bs) → OW p e below s (QTB Z ca kc z cs i_COMPACT_STRINGS v_SIOOBE_FORMATTER h0 n0) 1 20 (T44.setTop (mkF m 8 #[.val (.ref ca), .val (.int i), .val (.int z), .val (.ref b43), .val (.int i)] [])) := by
    intro f
    induction f with
    | zero =>
      intro T44 L44 h44 X44 N44 e44 O44 KC44 i bs mm Vc Vb hi hm hp
      have hmm : mm = cs.length := by omega
      subst hmm
      refine OW.st (B := T44.setTop (mkF m 33 #[.val (.ref ca), .val (.int i), .val (.int z), .val (.ref b43), .val (.int i)] [(.ref b43)])) (fun _ kk_ => XS.iload X44.here hx rfl (hb hby d7_8) rfl (XS.iloadN X44.here hx rfl (hb hby d7_10) rfl (XS.icmpYes X44.here hx rfl (pc0 := 11) (pc' := 32) rfl (hb hby d7_11) rfl (flt (own_nltI hi hz (by omega))).2.1 (by decide) (by decide) (XS.aloadN X44.here hx rfl (hb hby d7_32) rfl rfl kk_)))) ?_
      exact OW.ret X44 hx hlk (i := .areturn) Bd.returns rfl (Or.inr (Or.inr (Or.inr (Or.inr ⟨rfl, rfl, rfl⟩)))) (hb hby d7_33) e44 (by decide) (by decide) ⟨b43, kb43, rfl, N44, KC44, gb43, sz_b43, hp.end ▸ Vb⟩
    | succ f ih =>
      intro T44 L44 h44 X44 N44 e44 O44 KC44 i bs mm Vc Vb hi hm hp
      obtain ⟨cc, hcc⟩ : ∃ cc, cs[mm]? = some cc := ⟨_, List.getElem?_eq_getElem (by omega)⟩
      have hbl := hp.1
      refine OW.st (B := T44.setTop (mkF m 19 #[.val (.ref ca), .val (.int i), .val (.int z), .val (.ref b43), .val (.int i)] [(.int i), (.ref ca), (.int i), (.ref b43)])) (fun _ kk_ => XS.iload X44.here hx rfl (hb hby d7_8) rfl (XS.iloadN X44.here hx rfl (hb hby d7_10) rfl (XS.icmpNo X44.here hx rfl (hb hby d7_11) rfl (tlt (own_ltI hi hz (by omega))).2.1 (XS.aloadN X44.here hx rfl (hb hby d7_14) rfl rfl (XS.iload X44.here hx rfl (hb hby d7_15) rfl (XS.aloadN X44.here hx rfl (hb hby d7_17) rfl rfl (XS.iloadN X44.here hx rfl (hb hby d7_18) rfl kk_))))))) ?_
      obtain ⟨cl45, Ar45, q45, S45, Ng45, Hs45, G45⟩ := id Vc
      have hin45 : ¬ (i < 0 ∨ cl45.slots.size ≤ (i).toNatClampNeg) := inb_of S45 ⟨own_nneg hi, own_ltI hi hz (by omega)⟩
      refine OW.st (B := T44.setTop (mkF m 20 #[.val (.ref ca), .val (.int i), .val (.int z), .val (.ref b43), .val (.int i)] [(.int cc), (.int i), (.ref b43)])) (fun _ kk_ => (X44.caload hx (j := i) (v := (.int cc)) (by rw [e44]; exact Ar45.1) (State.isArrayOf_alike hZ.alike Ar45.2.1) Ar45.2.2 hin45 (Has.at Hs45 hin45 ((congrArg (fun q => (cs.map Value.int).getD q _) (own_tn hi)).trans (own_getC hcc))) (g := (mkF m 19 #[.val (.ref ca), .val (.int i), .val (.int z), .val (.ref b43), .val (.int i)] [(.int i), (.ref ca), (.int i), (.ref b43)])) rfl rfl (hb hby d7_19)) _ kk_) ?_
      obtain ⟨_, _, ⟨T46, L46, k46, n46⟩, -, X46, ⟨Lc46, hQ46, l46, y46, z46⟩, st46⟩ := Jvm.LawKit.callS X44 hx (y := (⟨"java/lang/StringUTF16", "putChar", "([BII)V"⟩ : MethodName)) hown (mvT hZ (w_38 hw)) (mvT hZ (w_39 hw)) (mvT hZ (w_22 hw)) (mvT hZ (w_40 hw)) (by decide) (backOf (W := 0) (rmPC l Z a0 hw [] b43 kb43 (z <<< ((1 : Int32) &&& 31)) bs i mm cc i_COMPACT_STRINGS v_SIOOBE_FORMATTER h44 n0 O44 Vb gb43 (by rw [hbl]; exact hd) (by omega) (by omega) hi hS) hZ (w_40 hw) (w_22 hw) (by decide) (by decide)) (g := (mkF m 20 #[.val (.ref ca), .val (.int i), .val (.int z), .val (.ref b43), .val (.int i)] [(.int cc), (.int i), (.ref b43)])) rfl (by rw [hml]; rfl) (argsL := [(.ref b43), (.int i), (.int cc)]) (rest := []) (lenOf pd_4 rfl) rfl (by show 2 * 0 + _ ≤ _; exact Nat.le_of_eq rfl) (hb hby d7_20) (fun _ _ => ⟨rfl, e44, (by decide : 1 + 0 ≤ _), (by decide : 20 + 0 ≤ _)⟩)
      dsimp only [Pt.U, Pt.locs, Pt.cells, Pt.slots] at X46 l46 y46 z46 st46 hQ46
      subst l46 y46 z46
      obtain ⟨rfl, Nq46, K46, Vp46⟩ := hQ46
      have N46 := Fr.app N44 Nq46
      have O46 : Old Z n0 T46.heap := O44.keep K46 (allS gb43 all0)
      have KC46 : Keep h0 T46.heap [] := KC44.trans K46 (allS (Or.inr sz_b43) all0)
      refine OW.st (B := T46.setTop (mkF m 8 #[.val (.ref ca), .val (.int (i + (1 : Int32))), .val (.int z), .val (.ref b43), .val (.int (i + (1 : Int32)))] [])) (fun _ kk_ => st46 _ (XS.iinc X46.here hx rfl (hb hby d7_23) rfl (l' := #[.val (.ref ca), .val (.int (i + (1 : Int32))), .val (.int z), .val (.ref b43), .val (.int i)]) rfl (XS.iinc X46.here hx rfl (hb hby d7_26) rfl (l' := #[.val (.ref ca), .val (.int (i + (1 : Int32))), .val (.int z), .val (.ref b43), .val (.int (i + (1 : Int32)))]) rfl (XS.goto X46.here hx rfl (pc0 := 29) (pc' := 8) rfl (hb hby d7_29) (by decide) (by decide) kk_)))) ?_
      exact ih _ _ _ X46 N46 rfl O46 KC46 _ _ (mm + 1) (Vc.keep K46 (ninS (own_neTy Vc Vb (by decide)) nin0)) Vp46 (own_suc hi (by omega)) (by omega) (hp.step hcc)
  exact J44 cs.length _ _ _ X43 N43 rfl O43 KC43 _ _ 0 (V.keep K43 nin0) Vb43 rfl (Nat.zero_add _) (OwnPU.start cs _)
theorem ef_C30 (m : MethodId) (x0 : Addr) (x1 : Int32) (x2 : Int32) : entryFrame m #[(.ref x0), (.int x1), (.int x2)] 6 = mkF m 0 #[.val (.ref x0), .val (.int x1), .val (.int x2), .unset, .unset, .unset] [] := by first | (simp [entryFrame, mkF, argsToLocals, Value.category]; done) | rfl
def QC30 (Z : State) (ca : Addr) (kc : ClassId) (z : Int32) (cs : List Int32) (i_COMPACT_STRINGS : Int32) (v_SIOOBE_FORMATTER : Value) (h0 : Heap) (n0 : Nat) (v : Option Value) (h : Heap) (L : List Loc) : Prop := ∃ (ba : Addr) (kb : ClassId), v = some (.ref ba) ∧ Fr n0 L ∧ Keep h0 h [] ∧ n0 ≤ ba ∧ h0.size ≤ ba ∧ Arv Z h ba kb .byte z (OwnL cs) (.int (0 : Int32))
set_option maxRecDepth 65536 in
set_option maxHeartbeats 40000000 in
theorem rmC30 (l : Launch) (Z : State) (a0 : Array Value) (hw : ∀ d ∈ tables_1, d.before a0 Z = true) (ws : List Jvm.Cond) (ca : Addr) (kc : ClassId) (z : Int32) (cs : List Int32) (i_COMPACT_STRINGS : Int32) (v_SIOOBE_FORMATTER : Value) (h0 : Heap) (n0 : Nat) (O0 : Old Z n0 h0) (V : Arv Z h0 ca kc .char z (cs.map Value.int) (.int (0 : Int32))) (hz : z.toInt = (cs.length : Int)) (hmax : cs.length ≤ 10) (hch : OwnChs cs) (hlat : OwnLat cs) (hS : OwnS Z i_COMPACT_STRINGS v_SIOOBE_FORMATTER) :
    MetFree l (⟨"java/lang/StringUTF16", "compress", "([CII)[B"⟩ : MethodName) (head1 (Jvm.Cond.code (⟨"java/lang/StringUTF16", "compress", "([CII)[B"⟩ : MethodName) jdk_52_method_16_code 6 (some (.array .byte)) :: ws) ({ frames := 1, cells := 1, slots := 10, locals := 18 } : Room)) (fun aa_ UU_ => aa_ = #[(.ref ca), (.int (0 : Int32)), (.int z)] ∧ Z.Warmed39 UU_.vm ∧ UU_.heap = h0) (fun _ _ _ _ _ => True) (fun _ UU_ oo_ UV_ => ∃ vv_ LL_, oo_ = .returned vv_ ∧ QC30 Z ca kc z cs i_COMPACT_STRINGS v_SIOOBE_FORMATTER h0 n0 vv_ UV_.heap LL_ ∧ FrameEnd UU_ oo_ UV_ LL_ ({ frames := 1, cells := 1, slots := 10, locals := 18 } : Room).cells ({ frames := 1, cells := 1, slots := 10, locals := 18 } : Room).slots) := by
  refine MetFree.of_bodySF (plainFor_of_name pn_2) hisR ?_
  intro p e s m args below meth c s₁ Bd hml0 hP hK
  obtain ⟨rfl, hZ, hh⟩ := hP
  have hx := Bd.exec
  have hby := Bd.bytes
  have hlk := BodyLoose.notSynchronized Bd
  have hml : c.maxLocals = 6 := hml0
  have hown : s.vm.findClass "java/lang/StringUTF16" = some m.cls := findClass_of_methodNamed Bd.named
  have hnm := (name_of_methodNamed Bd.named Bd.method).1
  have X0 : Stand p l e ({ frames := 1, cells := 1, slots := 10, locals := 18 } : Room) s m #[(.ref ca), (.int (0 : Int32)), (.int z)] below meth c s₁ [] 0 0 := Stand.of_body Bd
  have e0 : s₁.heap = h0 := by rw [← hh, Bd.state]; rfl
  have N0 := Fr.nil n0
  have KC0 : Keep h0 h0 [] := Keep.refl _ _
  suffices hOW : OW p e below s (QC30 Z ca kc z cs i_COMPACT_STRINGS v_SIOOBE_FORMATTER h0 n0) 1 10 (s₁.setTop (mkF m 0 #[.val (.ref ca), .val (.int (0 : Int32)), .val (.int z), .unset, .unset, .unset] [])) by
    obtain ⟨oq1_, oq2_, oq3_, oq4_⟩ := hOW
    exact ⟨oq1_, oq2_, castTop (ef_C30 m ca (0 : Int32) z) oq3_, oq4_⟩
  have hS' := hS
  obtain ⟨Si_COMPACT_STRINGS, Sv_SIOOBE_FORMATTER, Rv_SIOOBE_FORMATTER, S__assertionsDisabled, S_HI_BYTE_SHIFT, S_LO_BYTE_SHIFT, Pi_COMPACT_STRINGS⟩ := hS'
  refine OW.st (B := s₁.setTop (mkF m 1 #[.val (.ref ca), .val (.int (0 : Int32)), .val (.int z), .unset, .unset, .unset] [(.int z)])) (fun _ kk_ => XS.iloadN X0.here hx rfl (hb hby d5_0) rfl kk_) ?_
  obtain ⟨T47, h47, k47, X47, e47, E47, A47, st47⟩ := newP (aty := .byte) X0 hx hZ (w_24 hw) e0 (g := (mkF m 1 #[.val (.ref ca), .val (.int (0 : Int32)), .val (.int z), .unset, .unset, .unset] [(.int z)])) rfl (hb hby d5_1) rfl (own_nneg hz) (cap := 10) (by rw [own_tn hz]; exact hmax) (by decide) (by decide) (by decide)
  obtain ⟨b47, g47⟩ : ∃ z, z = h0.size := ⟨_, rfl⟩
  rw [← g47] at A47 st47
  have n_b47 : n0 ≤ b47 := Nat.le_trans (own_oldle O0) (Nat.le_of_eq g47.symm)
  have O47 : Old Z n0 h47 := O0.ext E47
  have sz_b47 : h0.size ≤ b47 := Nat.le_trans KC0.1 (Nat.le_of_eq g47.symm)
  have KC47 : Keep h0 h47 [] := KC0.ext E47
  have V47 : Arv Z h47 b47 k47 .byte z (List.replicate cs.length (.int (0 : Int32))) (.int (0 : Int32)) := (Arv.new A47 (own_nneg hz)).pad (pad_rep [] (.int (0 : Int32)) cs.length)
  refine OW.st (B := T47.setTop (mkF m 9 #[.val (.ref ca), .val (.int (0 : Int32)), .val (.int z), .val (.ref b47), .unset, .unset] [(.int z), (.int (0 : Int32)), (.ref b47), (.int (0 : Int32)), (.ref ca)])) (fun _ kk_ => st47 _ (XS.astoreN X47.here hx rfl (hb hby d5_3) rfl rfl (l' := #[.val (.ref ca), .val (.int (0 : Int32)), .val (.int z), .val (.ref b47), .unset, .unset]) rfl (XS.aloadN X47.here hx rfl (hb hby d5_4) rfl rfl (XS.iloadN X47.here hx rfl (hb hby d5_5) rfl (XS.aloadN X47.here hx rfl (hb hby d5_6) rfl rfl (XS.iconst X47.here hx rfl (hb hby d5_7) (XS.iloadN X47.here hx rfl (hb hby d5_8) rfl kk_))))))) ?_
  obtain ⟨_, _, ⟨T48, L48, k48, n48⟩, -, X48, ⟨Lc48, hQ48, l48, y48, z48⟩, st48⟩ := Jvm.LawKit.callS X47 hx (y := (⟨"java/lang/StringUTF16", "compress", "([CI[BII)I"⟩ : MethodName)) hown (mvT hZ (w_25 hw)) (mvT hZ (w_26 hw)) (mvT hZ (w_22 hw)) (mvT hZ (w_27 hw)) (by decide) (backOf (W := 0) (rmC50 l Z a0 hw [] ca kc b47 k47 z cs h47 n0 O47 (V.ext E47) hz hmax V47 n_b47 (Nat.ne_of_lt (Nat.lt_of_lt_of_le V.lt (Nat.le_of_eq g47.symm))) hlat) hZ (w_27 hw) (w_22 hw) (by decide) (by decide)) (g := (mkF m 9 #[.val (.ref ca), .val (.int (0 : Int32)), .val (.int z), .val (.ref b47), .unset, .unset] [(.int z), (.int (0 : Int32)), (.ref b47), (.int (0 : Int32)), (.ref ca)])) rfl (by rw [hml]; rfl) (argsL := [(.ref ca), (.int (0 : Int32)), (.ref b47), (.int (0 : Int32)), (.int z)]) (rest := []) (lenOf pd_5 rfl) rfl (by show 2 * 0 + _ ≤ _; exact Nat.le_of_eq rfl) (hb hby d5_9) (fun _ _ => ⟨rfl, e47, (by decide : 1 + 0 ≤ _), (by decide : 10 + 0 ≤ _)⟩)
  dsimp only [Pt.U, Pt.locs, Pt.cells, Pt.slots] at X48 l48 y48 z48 st48 hQ48
  subst l48 y48 z48
  obtain ⟨rfl, Nq48, K48, Vb48⟩ := hQ48
  have N48 := Fr.app N0 Nq48
  have O48 : Old Z n0 T48.heap := O47.keep K48 (allS n_b47 all0)
  have KC48 : Keep h0 T48.heap [] := KC47.trans K48 (allS (Or.inr sz_b47) all0)
  refine OW.st (B := T48.setTop (mkF m 58 #[.val (.ref ca), .val (.int (0 : Int32)), .val (.int z), .val (.ref b47), .val (.int z), .unset] [(.ref b47)])) (fun _ kk_ => st48 _ (XS.istore X48.here hx rfl (hb hby d5_12) rfl (l' := #[.val (.ref ca), .val (.int (0 : Int32)), .val (.int z), .val (.ref b47), .val (.int z), .unset]) rfl (XS.iload X48.here hx rfl (hb hby d5_14) rfl (XS.iloadN X48.here hx rfl (hb hby d5_16) rfl (XS.icmpYes X48.here hx rfl (pc0 := 17) (pc' := 57) rfl (hb hby d5_17) rfl (teq rfl).1 (by decide) (by decide) (XS.aloadN X48.here hx rfl (hb hby d5_57) rfl rfl kk_)))))) ?_
  exact OW.ret X48 hx hlk (i := .areturn) Bd.returns rfl (Or.inr (Or.inr (Or.inr (Or.inr ⟨rfl, rfl, rfl⟩)))) (hb hby d5_58) rfl (by decide) (by decide) ⟨b47, k47, rfl, N48, KC48, n_b47, sz_b47, Vb48⟩
theorem ef_CL0 (m : MethodId) (x0 : Addr) (x1 : Int32) : entryFrame m #[(.ref x0), (.int x1)] 2 = mkF m 0 #[.val (.ref x0), .val (.int x1)] [] := by first | (simp [entryFrame, mkF, argsToLocals, Value.category]; done) | rfl
def QCL0 (Z : State) (ba : Addr) (kb : ClassId) (z : Int32) (cs : List Int32) (h0 : Heap) (n0 : Nat) (v : Option Value) (h : Heap) (L : List Loc) : Prop := v = some (.int (0 : Int32)) ∧ Fr n0 L ∧ h = h0
set_option maxRecDepth 65536 in
set_option maxHeartbeats 40000000 in
theorem rmCL0 (l : Launch) (Z : State) (a0 : Array Value) (hw : ∀ d ∈ tables_1, d.before a0 Z = true) (ws : List Jvm.Cond) (ba : Addr) (kb : ClassId) (z : Int32) (cs : List Int32) (h0 : Heap) (n0 : Nat) (O0 : Old Z n0 h0) (B : Arv Z h0 ba kb .byte z (OwnL cs) (.int (0 : Int32))) (hz : z.toInt = (cs.length : Int)) (hmax : cs.length ≤ 10) (hpos : 0 < cs.length) :
    MetFree l (⟨"java/lang/StringUTF16", "coderFromArrayLen", "([BI)B"⟩ : MethodName) (head1 (Jvm.Cond.code (⟨"java/lang/StringUTF16", "coderFromArrayLen", "([BI)B"⟩ : MethodName) jdk_52_method_15_code 2 (some .byte) :: ws) ({ frames := 0, cells := 0, slots := 0, locals := 0 } : Room)) (fun aa_ UU_ => aa_ = #[(.ref ba), (.int z)] ∧ Z.Warmed39 UU_.vm ∧ UU_.heap = h0) (fun _ _ _ _ _ => True) (fun _ UU_ oo_ UV_ => ∃ vv_ LL_, oo_ = .returned vv_ ∧ QCL0 Z ba kb z cs h0 n0 vv_ UV_.heap LL_ ∧ FrameEnd UU_ oo_ UV_ LL_ ({ frames := 0, cells := 0, slots := 0, locals := 0 } : Room).cells ({ frames := 0, cells := 0, slots := 0, locals := 0 } : Room).slots) := by
  refine MetFree.of_bodySF (plainFor_of_name pn_2) hisR ?_
  intro p e s m args below meth c s₁ Bd hml0 hP hK
  obtain ⟨rfl, hZ, hh⟩ := hP
  have hx := Bd.exec
  have hby := Bd.bytes
  have hlk := BodyLoose.notSynchronized Bd
  have hml : c.maxLocals = 2 := hml0
  have hown : s.vm.findClass "java/lang/StringUTF16" = some m.cls := findClass_of_methodNamed Bd.named
  have hnm := (name_of_methodNamed Bd.named Bd.method).1
  have X0 : Stand p l e ({ frames := 0, cells := 0, slots := 0, locals := 0 } : Room) s m #[(.ref ba), (.int z)] below meth c s₁ [] 0 0 := Stand.of_body Bd
  have e0 : s₁.heap = h0 := by rw [← hh, Bd.state]; rfl
  have N0 := Fr.nil n0
  suffices hOW : OW p e below s (QCL0 Z ba kb z cs h0 n0) 0 0 (s₁.setTop (mkF m 0 #[.val (.ref ba), .val (.int z)] [])) by
    obtain ⟨oq1_, oq2_, oq3_, oq4_⟩ := hOW
    exact ⟨oq1_, oq2_, castTop (ef_CL0 m ba z) oq3_, oq4_⟩
  refine OW.st (B := s₁.setTop (mkF m 2 #[.val (.ref ba), .val (.int z)] [(.ref ba), (.int z)])) (fun _ kk_ => XS.iloadN X0.here hx rfl (hb hby d12_0) rfl (XS.aloadN X0.here hx rfl (hb hby d12_1) rfl rfl kk_)) ?_
  obtain ⟨cl49, Ar49, q49, S49, Ng49, Hs49, G49⟩ := id B
  refine OW.st (X0.arraylength hx (by rw [e0]; exact Ar49.1) (State.isArrayOf_alike hZ.alike Ar49.2.1) (g := (mkF m 2 #[.val (.ref ba), .val (.int z)] [(.ref ba), (.int z)])) rfl rfl (hb hby d12_2)) ?_
  rw [len_of S49 Ng49]
  show OW p e below s (QCL0 Z ba kb z cs h0 n0) 0 0 (s₁.setTop (mkF m 3 #[.val (.ref ba), .val (.int z)] [(.int z), (.int z)]))
  refine OW.st (B := s₁.setTop (mkF m 8 #[.val (.ref ba), .val (.int z)] [(.int ((((z - z).toUInt32 >>> ((31 : Int32) &&& 31).toUInt32).toInt32).toInt8.toInt32))])) (fun _ kk_ => XS.isub X0.here hx rfl (hb hby d12_3) rfl (XS.bipush X0.here hx rfl (hb hby d12_4) (XS.iushr X0.here hx rfl (hb hby d12_6) rfl (XS.i2b X0.here hx rfl (hb hby d12_7) rfl kk_)))) ?_
  exact OW.ret X0 hx hlk (i := .ireturn) Bd.returns (by rw [own_clL z]; rfl) (Or.inl ⟨rfl, Or.inr (Or.inr (Or.inl rfl)), _, rfl⟩) (hb hby d12_8) e0 (by decide) (by decide) ⟨congrArg (fun z => some (Value.int z)) (own_clL z), N0, rfl⟩
theorem ef_S10 (m : MethodId) (x0 : Addr) (x1 : Addr) (x2 : Int32) (x3 : Int32) : entryFrame m #[(.ref x0), (.ref x1), (.int x2), (.int x3), .null] 6 = mkF m 0 #[.val (.ref x0), .val (.ref x1), .val (.int x2), .val (.int x3), .val .null, .unset] [] := by first | (simp [entryFrame, mkF, argsToLocals, Value.category]; done) | rfl
def QS10 (Z : State) (b : Addr) (ca : Addr) (kc : ClassId) (z : Int32) (cs : List Int32) (i_COMPACT_STRINGS : Int32) (v_SIOOBE_FORMATTER : Value) (h0 : Heap) (n0 : Nat) (v : Option Value) (h : Heap) (L : List Loc) : Prop := v = none ∧ Fr n0 L ∧ Keep h0 h [b] ∧ Exa Z h b "java/lang/String" ∧ ∃ (ba : Addr) (kb : ClassId), n0 ≤ ba ∧ b ≠ ba ∧ Fld Z h b "java/lang/String" "coder" "B" (.int (0 : Int32)) ∧ Fld Z h b "java/lang/String" "value" "[B" (.ref ba) ∧ Arv Z h ba kb .byte z (OwnL cs) (.int (0 : Int32))
set_option maxRecDepth 65536 in
set_option maxHeartbeats 40000000 in
theorem rmS10 (l : Launch) (Z : State) (a0 : Array Value) (hw : ∀ d ∈ tables_1, d.before a0 Z = true) (ws : List Jvm.Cond) (b : Addr) (ca : Addr) (kc : ClassId) (z : Int32) (cs : List Int32) (i_COMPACT_STRINGS : Int32) (v_SIOOBE_FORMATTER : Value) (h0 : Heap) (n0 : Nat) (O0 : Old Z n0 h0) (E : Exa Z h0 b "java/lang/String") (F1 : Fld Z h0 b "java/lang/String" "value" "[B" .null) (F2 : Fld Z h0 b "java/lang/String" "coder" "B" (.int (0 : Int32))) (g : n0 ≤ b) (V : Arv Z h0 ca kc .char z (cs.map Value.int) (.int (0 : Int32))) (hz : z.toInt = (cs.length : Int)) (hmax : cs.length ≤ 10) (hpos : 0 < cs.length) (hch : OwnChs cs) (hlat : OwnLat cs) (hS : OwnS Z i_COMPACT_STRINGS v_SIOOBE_FORMATTER) :
    MetFree l (⟨"java/lang/String", "<init>", "([CIILjava/lang/Void;)V"⟩ : MethodName) (head1 (Jvm.Cond.code (⟨"java/lang/String", "<init>", "([CIILjava/lang/Void;)V"⟩ : MethodName) jdk_42_method_149_code 6 none :: ws) ({ frames := 2, cells := 1, slots := 10, locals := 35 } : Room)) (fun aa_ UU_ => aa_ = #[(.ref b), (.ref ca), (.int (0 : Int32)), (.int z), .null] ∧ Z.Warmed39 UU_.vm ∧ UU_.heap = h0) (fun _ _ _ _ _ => True) (fun _ UU_ oo_ UV_ => ∃ vv_ LL_, oo_ = .returned vv_ ∧ QS10 Z b ca kc z cs i_COMPACT_STRINGS v_SIOOBE_FORMATTER h0 n0 vv_ UV_.heap LL_ ∧ FrameEnd UU_ oo_ UV_ LL_ ({ frames := 2, cells := 1, slots := 10, locals := 35 } : Room).cells ({ frames := 2, cells := 1, slots := 10, locals := 35 } : Room).slots) := by
  refine MetFree.of_bodySF (plainFor_of_name pn_0) hisR ?_
  intro p e s m args below meth c s₁ Bd hml0 hP hK
  obtain ⟨rfl, hZ, hh⟩ := hP
  have hx := Bd.exec
  have hby := Bd.bytes
  have hlk := BodyLoose.notSynchronized Bd
  have hml : c.maxLocals = 6 := hml0
  have hown : s.vm.findClass "java/lang/String" = some m.cls := findClass_of_methodNamed Bd.named
  have hnm := (name_of_methodNamed Bd.named Bd.method).1
  have X0 : Stand p l e ({ frames := 2, cells := 1, slots := 10, locals := 35 } : Room) s m #[(.ref b), (.ref ca), (.int (0 : Int32)), (.int z), .null] below meth c s₁ [] 0 0 := Stand.of_body Bd
  have e0 : s₁.heap = h0 := by rw [← hh, Bd.state]; rfl
  have N0 := Fr.nil n0
  have KC0 : Keep h0 h0 [b] := Keep.refl _ _
  suffices hOW : OW p e below s (QS10 Z b ca kc z cs i_COMPACT_STRINGS v_SIOOBE_FORMATTER h0 n0) 1 10 (s₁.setTop (mkF m 0 #[.val (.ref b), .val (.ref ca), .val (.int (0 : Int32)), .val (.int z), .val .null, .unset] [])) by
    obtain ⟨oq1_, oq2_, oq3_, oq4_⟩ := hOW
    exact ⟨oq1_, oq2_, castTop (ef_S10 m b ca (0 : Int32) z) oq3_, oq4_⟩
  have hS' := hS
  obtain ⟨Si_COMPACT_STRINGS, Sv_SIOOBE_FORMATTER, Rv_SIOOBE_FORMATTER, S__assertionsDisabled, S_HI_BYTE_SHIFT, S_LO_BYTE_SHIFT, Pi_COMPACT_STRINGS⟩ := hS'
  refine OW.st (B := s₁.setTop (mkF m 1 #[.val (.ref b), .val (.ref ca), .val (.int (0 : Int32)), .val (.int z), .val .null, .unset] [(.ref b)])) (fun _ kk_ => XS.aloadN X0.here hx rfl (hb hby d3_0) rfl rfl kk_) ?_
  obtain ⟨T50, X50, e50, st50⟩ := initO X0 hx hZ hown (w_16 hw) (w_17 hw) (w_18 hw) e0 (g := (mkF m 1 #[.val (.ref b), .val (.ref ca), .val (.int (0 : Int32)), .val (.int z), .val .null, .unset] [(.ref b)])) rfl (by rw [hml]; rfl) rfl (hb hby d3_1) (by decide) (W := 0) (by show 2 * 0 + _ ≤ _; exact Nat.le_of_eq rfl) (by decide)
  refine OW.st (B := T50.setTop (mkF m 27 #[.val (.ref b), .val (.ref ca), .val (.int (0 : Int32)), .val (.int z), .val .null, .unset] [])) (fun _ kk_ => st50 _ (XS.iloadN X50.here hx rfl (hb hby d3_4) rfl (XS.ifYes X50.here hx rfl (pc0 := 5) (pc' := 27) rfl (hb hby d3_5) rfl ((if0 _ _).trans (feq (own_n0 hz hpos)).2) (by decide) (by decide) kk_))) ?_
  obtain ⟨T51, X51, e51, st51⟩ := getS2 X50 hx hZ hown (host := "") (Or.inl (w_19 hw)) Via.refl e50 (Si_COMPACT_STRINGS.ext O0.2) (g := (mkF m 27 #[.val (.ref b), .val (.ref ca), .val (.int (0 : Int32)), .val (.int z), .val .null, .unset] [])) rfl (hb hby d3_27)
  refine OW.st (B := T51.setTop (mkF m 36 #[.val (.ref b), .val (.ref ca), .val (.int (0 : Int32)), .val (.int z), .val .null, .unset] [(.int z), (.int (0 : Int32)), (.ref ca)])) (fun _ kk_ => st51 _ (XS.ifNo X51.here hx rfl (hb hby d3_30) rfl ((if0 _ _).trans (feq Pi_COMPACT_STRINGS).1) (XS.aloadN X51.here hx rfl (hb hby d3_33) rfl rfl (XS.iloadN X51.here hx rfl (hb hby d3_34) rfl (XS.iloadN X51.here hx rfl (hb hby d3_35) rfl kk_))))) ?_
  obtain ⟨_, _, ⟨T52, L52, k52, n52⟩, -, X52, ⟨Lc52, hQ52, l52, y52, z52⟩, st52⟩ := Jvm.LawKit.callS X51 hx (y := (⟨"java/lang/StringUTF16", "compress", "([CII)[B"⟩ : MethodName)) hown (mvT hZ (w_20 hw)) (mvT hZ (w_21 hw)) (mvT hZ (w_22 hw)) (mvT hZ (w_23 hw)) (by decide) (backOf (W := 0) (rmC30 l Z a0 hw [] ca kc z cs i_COMPACT_STRINGS v_SIOOBE_FORMATTER h0 n0 O0 V hz hmax hch hlat hS) hZ (w_23 hw) (w_22 hw) (by decide) (by decide)) (g := (mkF m 36 #[.val (.ref b), .val (.ref ca), .val (.int (0 : Int32)), .val (.int z), .val .null, .unset] [(.int z), (.int (0 : Int32)), (.ref ca)])) rfl (by rw [hml]; rfl) (argsL := [(.ref ca), (.int (0 : Int32)), (.int z)]) (rest := []) (lenOf pd_6 rfl) rfl (by show 2 * 0 + _ ≤ _; exact Nat.le_of_eq rfl) (hb hby d3_36) (fun _ _ => ⟨rfl, e51, (by decide : 0 + 1 ≤ _), (by decide : 0 + 10 ≤ _)⟩)
  dsimp only [Pt.U, Pt.locs, Pt.cells, Pt.slots] at X52 l52 y52 z52 st52 hQ52
  subst l52 y52 z52
  obtain ⟨b52, kb52, rfl, Nq52, K52, gb52, zb52, Vb52⟩ := hQ52
  have N52 := Fr.app N0 Nq52
  have O52 : Old Z n0 T52.heap := O0.keep K52 all0
  have KC52 : Keep h0 T52.heap [b] := KC0.trans K52 all0
  have sz_b52 : h0.size ≤ b52 := Nat.le_trans KC0.1 zb52
  refine OW.st (B := T52.setTop (mkF m 45 #[.val (.ref b), .val (.ref ca), .val (.int (0 : Int32)), .val (.int z), .val .null, .val (.ref b52)] [(.int z), (.ref b52), (.ref b)])) (fun _ kk_ => st52 _ (XS.astore X52.here hx rfl (hb hby d3_39) rfl rfl (l' := #[.val (.ref b), .val (.ref ca), .val (.int (0 : Int32)), .val (.int z), .val .null, .val (.ref b52)]) rfl (XS.aloadN X52.here hx rfl (hb hby d3_41) rfl rfl (XS.aload X52.here hx rfl (hb hby d3_42) rfl rfl (XS.iloadN X52.here hx rfl (hb hby d3_44) rfl kk_))))) ?_
  obtain ⟨_, _, ⟨T53, L53, k53, n53⟩, -, X53, ⟨Lc53, hQ53, l53, y53, z53⟩, st53⟩ := Jvm.LawKit.callS X52 hx (y := (⟨"java/lang/StringUTF16", "coderFromArrayLen", "([BI)B"⟩ : MethodName)) hown (mvT hZ (w_47 hw)) (mvT hZ (w_48 hw)) (mvT hZ (w_22 hw)) (mvT hZ (w_49 hw)) (by decide) (backOf (W := 1) (rmCL0 l Z a0 hw [] b52 kb52 z cs T52.heap n0 O52 Vb52 hz hmax hpos) hZ (w_49 hw) (w_22 hw) (by decide) (by decide)) (g := (mkF m 45 #[.val (.ref b), .val (.ref ca), .val (.int (0 : Int32)), .val (.int z), .val .null, .val (.ref b52)] [(.int z), (.ref b52), (.ref b)])) rfl (by rw [hml]; rfl) (argsL := [(.ref b52), (.int z)]) (rest := [(.ref b)]) (lenOf pd_7 rfl) rfl (by show 2 * 0 + _ ≤ _; exact Nat.le_of_eq rfl) (hb hby d3_45) (fun _ _ => ⟨rfl, rfl, (by decide : 1 + 0 ≤ _), (by decide : 10 + 0 ≤ _)⟩)
  dsimp only [Pt.U, Pt.locs, Pt.cells, Pt.slots] at X53 l53 y53 z53 st53 hQ53
  subst l53 y53 z53
  obtain ⟨rfl, Nq53, e53⟩ := hQ53
  have N53 := Fr.app N52 Nq53
  refine OW.st (B := T53.setTop (mkF m 48 #[.val (.ref b), .val (.ref ca), .val (.int (0 : Int32)), .val (.int z), .val .null, .val (.ref b52)] [(.int (0 : Int32)), (.ref b)])) (fun _ kk_ => st53 _ kk_) ?_
  obtain ⟨T54, h54, X54, e54, W54, st54⟩ := putFN X53 hx hZ hown (w_50 hw) Via.refl e53 (F2.keep K52 nin0) (E.keep K52) (Or.inr ⟨(w_51 hw), rfl, hnm⟩) (w_6 hw) (ty := .byte) (v' := (.int (0 : Int32))) (by decide) rfl rfl (g := (mkF m 48 #[.val (.ref b), .val (.ref ca), .val (.int (0 : Int32)), .val (.int z), .val .null, .val (.ref b52)] [(.int (0 : Int32)), (.ref b)])) rfl rfl (hb hby d3_48)
  have N54 := Fr.snoc X54 N53 g
  have O54 : Old Z n0 h54 := O52.wr W54 g
  have KC54 : Keep h0 h54 [b] := KC52.wr W54 (Or.inl (List.mem_of_getElem? (i := 0) rfl))
  have F54 : Fld Z h54 b "java/lang/String" "coder" "B" (.int (0 : Int32)) := Fld.same W54 (F2.keep K52 nin0)
  refine OW.st (B := T54.setTop (mkF m 54 #[.val (.ref b), .val (.ref ca), .val (.int (0 : Int32)), .val (.int z), .val .null, .val (.ref b52)] [(.ref b52), (.ref b)])) (fun _ kk_ => st54 _ (XS.aloadN X54.here hx rfl (hb hby d3_51) rfl rfl (XS.aload X54.here hx rfl (hb hby d3_52) rfl rfl kk_))) ?_
  obtain ⟨T55, h55, X55, e55, W55, st55⟩ := putF X54 hx hZ hown (host := "") (Or.inl (w_52 hw)) Via.refl e54 ((F1.keep K52 nin0).other W54 (Or.inr (slot_ne (Or.inr (w_53 hw)) (Or.inr (w_51 hw)) (by decide) (t := (.array .byte)) (t' := .byte) (by decide) (by decide)))) ((E.keep K52).wr W54) (Or.inr ⟨(w_53 hw), rfl, hnm⟩) (w_6 hw) (ty := (.array .byte)) (by decide) rfl rfl (g := (mkF m 54 #[.val (.ref b), .val (.ref ca), .val (.int (0 : Int32)), .val (.int z), .val .null, .val (.ref b52)] [(.ref b52), (.ref b)])) rfl rfl (hb hby d3_54)
  have N55 := Fr.snoc X55 N54 g
  have O55 : Old Z n0 h55 := O54.wr W55 g
  have KC55 : Keep h0 h55 [b] := KC54.wr W55 (Or.inl (List.mem_of_getElem? (i := 0) rfl))
  have F55 : Fld Z h55 b "java/lang/String" "value" "[B" (.ref b52) := Fld.same W55 ((F1.keep K52 nin0).other W54 (Or.inr (slot_ne (Or.inr (w_53 hw)) (Or.inr (w_51 hw)) (by decide) (t := (.array .byte)) (t' := .byte) (by decide) (by decide))))
  refine OW.st (B := T55.setTop (mkF m 57 #[.val (.ref b), .val (.ref ca), .val (.int (0 : Int32)), .val (.int z), .val .null, .val (.ref b52)] [])) (fun _ kk_ => st55 _ kk_) ?_
  exact OW.retV X55 hx hlk Bd.returns (hb hby d3_57) e55 (by decide) (by decide) ⟨rfl, N55, KC55, (((E.keep K52).wr W54).wr W55), b52, kb52, gb52, (Nat.ne_of_lt (Nat.lt_of_lt_of_le E.lt zb52)), (F54.other W55 (Or.inr (slot_ne (Or.inr (w_51 hw)) (Or.inr (w_53 hw)) (by decide) (t := .byte) (t' := (.array .byte)) (by decide) (by decide)))), F55, ((Vb52.other W54 (Ne.symm (Nat.ne_of_lt (Nat.lt_of_lt_of_le E.lt zb52)))).other W55 (Ne.symm (Nat.ne_of_lt (Nat.lt_of_lt_of_le E.lt zb52))))⟩
theorem ef_C31 (m : MethodId) (x0 : Addr) (x1 : Int32) (x2 : Int32) : entryFrame m #[(.ref x0), (.int x1), (.int x2)] 6 = mkF m 0 #[.val (.ref x0), .val (.int x1), .val (.int x2), .unset, .unset, .unset] [] := by first | (simp [entryFrame, mkF, argsToLocals, Value.category]; done) | rfl
def QC31 (Z : State) (ca : Addr) (kc : ClassId) (z : Int32) (cs : List Int32) (i_COMPACT_STRINGS : Int32) (v_SIOOBE_FORMATTER : Value) (h0 : Heap) (n0 : Nat) (v : Option Value) (h : Heap) (L : List Loc) : Prop := ∃ (ba : Addr) (kb : ClassId), v = some (.ref ba) ∧ Fr n0 L ∧ Keep h0 h [] ∧ n0 ≤ ba ∧ h0.size ≤ ba ∧ Arv Z h ba kb .byte (z <<< ((1 : Int32) &&& 31)) (OwnU cs) (.int (0 : Int32))
set_option maxRecDepth 65536 in
set_option maxHeartbeats 40000000 in
theorem rmC31 (l : Launch) (Z : State) (a0 : Array Value) (hw : ∀ d ∈ tables_1, d.before a0 Z = true) (ws : List Jvm.Cond) (ca : Addr) (kc : ClassId) (z : Int32) (cs : List Int32) (i_COMPACT_STRINGS : Int32) (v_SIOOBE_FORMATTER : Value) (h0 : Heap) (n0 : Nat) (O0 : Old Z n0 h0) (V : Arv Z h0 ca kc .char z (cs.map Value.int) (.int (0 : Int32))) (hz : z.toInt = (cs.length : Int)) (hmax : cs.length ≤ 10) (hch : OwnChs cs) (hhi : OwnHi cs) (hS : OwnS Z i_COMPACT_STRINGS v_SIOOBE_FORMATTER) :
    MetFree l (⟨"java/lang/StringUTF16", "compress", "([CII)[B"⟩ : MethodName) (head1 (Jvm.Cond.code (⟨"java/lang/StringUTF16", "compress", "([CII)[B"⟩ : MethodName) jdk_52_method_16_code 6 (some (.array .byte)) :: ws) ({ frames := 3, cells := 2, slots := 30, locals := 40 } : Room)) (fun aa_ UU_ => aa_ = #[(.ref ca), (.int (0 : Int32)), (.int z)] ∧ Z.Warmed39 UU_.vm ∧ UU_.heap = h0) (fun _ _ _ _ _ => True) (fun _ UU_ oo_ UV_ => ∃ vv_ LL_, oo_ = .returned vv_ ∧ QC31 Z ca kc z cs i_COMPACT_STRINGS v_SIOOBE_FORMATTER h0 n0 vv_ UV_.heap LL_ ∧ FrameEnd UU_ oo_ UV_ LL_ ({ frames := 3, cells := 2, slots := 30, locals := 40 } : Room).cells ({ frames := 3, cells := 2, slots := 30, locals := 40 } : Room).slots) := by
  refine MetFree.of_bodySF (plainFor_of_name pn_2) hisR ?_
  intro p e s m args below meth c s₁ Bd hml0 hP hK
  obtain ⟨rfl, hZ, hh⟩ := hP
  have hx := Bd.exec
  have hby := Bd.bytes
  have hlk := BodyLoose.notSynchronized Bd
  have hml : c.maxLocals = 6 := hml0
  have hown : s.vm.findClass "java/lang/StringUTF16" = some m.cls := findClass_of_methodNamed Bd.named
  have hnm := (name_of_methodNamed Bd.named Bd.method).1
  have X0 : Stand p l e ({ frames := 3, cells := 2, slots := 30, locals := 40 } : Room) s m #[(.ref ca), (.int (0 : Int32)), (.int z)] below meth c s₁ [] 0 0 := Stand.of_body Bd
  have e0 : s₁.heap = h0 := by rw [← hh, Bd.state]; rfl
  have N0 := Fr.nil n0
  have KC0 : Keep h0 h0 [] := Keep.refl _ _
  suffices hOW : OW p e below s (QC31 Z ca kc z cs i_COMPACT_STRINGS v_SIOOBE_FORMATTER h0 n0) 2 30 (s₁.setTop (mkF m 0 #[.val (.ref ca), .val (.int (0 : Int32)), .val (.int z), .unset, .unset, .unset] [])) by
    obtain ⟨oq1_, oq2_, oq3_, oq4_⟩ := hOW
    exact ⟨oq1_, oq2_, castTop (ef_C31 m ca (0 : Int32) z) oq3_, oq4_⟩
  have hS' := hS
  obtain ⟨Si_COMPACT_STRINGS, Sv_SIOOBE_FORMATTER, Rv_SIOOBE_FORMATTER, S__assertionsDisabled, S_HI_BYTE_SHIFT, S_LO_BYTE_SHIFT, Pi_COMPACT_STRINGS⟩ := hS'
  have hz2 : (z <<< ((1 : Int32) &&& 31)).toInt = ((2 * cs.length : Nat) : Int) := own_dbl hz (by omega)
  refine OW.st (B := s₁.setTop (mkF m 1 #[.val (.ref ca), .val (.int (0 : Int32)), .val (.int z), .unset, .unset, .unset] [(.int z)])) (fun _ kk_ => XS.iloadN X0.here hx rfl (hb hby d5_0) rfl kk_) ?_
  obtain ⟨T56, h56, k56, X56, e56, E56, A56, st56⟩ := newP (aty := .byte) X0 hx hZ (w_24 hw) e0 (g := (mkF m 1 #[.val (.ref ca), .val (.int (0 : Int32)), .val (.int z), .unset, .unset, .unset] [(.int z)])) rfl (hb hby d5_1) rfl (own_nneg hz) (cap := 10) (by rw [own_tn hz]; exact hmax) (by decide) (by decide) (by decide)
  obtain ⟨b56, g56⟩ : ∃ z, z = h0.size := ⟨_, rfl⟩
  rw [← g56] at A56 st56
  have n_b56 : n0 ≤ b56 := Nat.le_trans (own_oldle O0) (Nat.le_of_eq g56.symm)
  have O56 : Old Z n0 h56 := O0.ext E56
  have sz_b56 : h0.size ≤ b56 := Nat.le_trans KC0.1 (Nat.le_of_eq g56.symm)
  have KC56 : Keep h0 h56 [] := KC0.ext E56
  have V56 : Arv Z h56 b56 k56 .byte z (List.replicate cs.length (.int (0 : Int32))) (.int (0 : Int32)) := (Arv.new A56 (own_nneg hz)).pad (pad_rep [] (.int (0 : Int32)) cs.length)
  refine OW.st (B := T56.setTop (mkF m 9 #[.val (.ref ca), .val (.int (0 : Int32)), .val (.int z), .val (.ref b56), .unset, .unset] [(.int z), (.int (0 : Int32)), (.ref b56), (.int (0 : Int32)), (.ref ca)])) (fun _ kk_ => st56 _ (XS.astoreN X56.here hx rfl (hb hby d5_3) rfl rfl (l' := #[.val (.ref ca), .val (.int (0 : Int32)), .val (.int z), .val (.ref b56), .unset, .unset]) rfl (XS.aloadN X56.here hx rfl (hb hby d5_4) rfl rfl (XS.iloadN X56.here hx rfl (hb hby d5_5) rfl (XS.aloadN X56.here hx rfl (hb hby d5_6) rfl rfl (XS.iconst X56.here hx rfl (hb hby d5_7) (XS.iloadN X56.here hx rfl (hb hby d5_8) rfl kk_))))))) ?_
  obtain ⟨_, _, ⟨T57, L57, k57, n57⟩, -, X57, ⟨Lc57, hQ57, l57, y57, z57⟩, st57⟩ := Jvm.LawKit.callS X56 hx (y := (⟨"java/lang/StringUTF16", "compress", "([CI[BII)I"⟩ : MethodName)) hown (mvT hZ (w_25 hw)) (mvT hZ (w_26 hw)) (mvT hZ (w_22 hw)) (mvT hZ (w_27 hw)) (by decide) (backOf (W := 0) (rmC51 l Z a0 hw [] ca kc b56 k56 z cs h56 n0 O56 (V.ext E56) hz hmax V56 n_b56 (Nat.ne_of_lt (Nat.lt_of_lt_of_le V.lt (Nat.le_of_eq g56.symm))) hhi) hZ (w_27 hw) (w_22 hw) (by decide) (by decide)) (g := (mkF m 9 #[.val (.ref ca), .val (.int (0 : Int32)), .val (.int z), .val (.ref b56), .unset, .unset] [(.int z), (.int (0 : Int32)), (.ref b56), (.int (0 : Int32)), (.ref ca)])) rfl (by rw [hml]; rfl) (argsL := [(.ref ca), (.int (0 : Int32)), (.ref b56), (.int (0 : Int32)), (.int z)]) (rest := []) (lenOf pd_5 rfl) rfl (by show 2 * 0 + _ ≤ _; exact Nat.le_of_eq rfl) (hb hby d5_9) (fun _ _ => ⟨rfl, e56, (by decide : 1 + 0 ≤ _), (by decide : 10 + 0 ≤ _)⟩)
  dsimp only [Pt.U, Pt.locs, Pt.cells, Pt.slots] at X57 l57 y57 z57 st57 hQ57
  subst l57 y57 z57
  obtain ⟨i57, mm57, cc57, rfl, Nq57, K57, hi57, hcc57, hgt57⟩ := hQ57
  have N57 := Fr.app N0 Nq57
  have O57 : Old Z n0 T57.heap := O56.keep K57 (allS n_b56 all0)
  have KC57 : Keep h0 T57.heap [] := KC56.trans K57 (allS (Or.inr sz_b56) all0)
  refine OW.st (B := T57.setTop (mkF m 23 #[.val (.ref ca), .val (.int (0 : Int32)), .val (.int z), .val (.ref b56), .val (.int i57), .unset] [(.int z), (.int (0 : Int32)), (.ref ca)])) (fun _ kk_ => st57 _ (XS.istore X57.here hx rfl (hb hby d5_12) rfl (l' := #[.val (.ref ca), .val (.int (0 : Int32)), .val (.int z), .val (.ref b56), .val (.int i57), .unset]) rfl (XS.iload X57.here hx rfl (hb hby d5_14) rfl (XS.iloadN X57.here hx rfl (hb hby d5_16) rfl (XS.icmpNo X57.here hx rfl (hb hby d5_17) rfl (feq (own_neI hi57 hz (List.getElem?_eq_some_iff.mp hcc57).1)).1 (XS.aloadN X57.here hx rfl (hb hby d5_20) rfl rfl (XS.iloadN X57.here hx rfl (hb hby d5_21) rfl (XS.iloadN X57.here hx rfl (hb hby d5_22) rfl kk_)))))))) ?_
  obtain ⟨_, _, ⟨T58, L58, k58, n58⟩, -, X58, ⟨Lc58, hQ58, l58, y58, z58⟩, st58⟩ := Jvm.LawKit.callS X57 hx (y := (⟨"java/lang/StringUTF16", "toBytes", "([CII)[B"⟩ : MethodName)) hown (mvT hZ (w_28 hw)) (mvT hZ (w_29 hw)) (mvT hZ (w_22 hw)) (mvT hZ (w_30 hw)) (by decide) (backOf (W := 0) (rmTB l Z a0 hw [] ca kc z cs i_COMPACT_STRINGS v_SIOOBE_FORMATTER T57.heap n0 O57 ((V.ext E56).keep K57 (ninS (Nat.ne_of_lt (Nat.lt_of_lt_of_le V.lt (Nat.le_of_eq g56.symm))) nin0)) hz hmax hS) hZ (w_30 hw) (w_22 hw) (by decide) (by decide)) (g := (mkF m 23 #[.val (.ref ca), .val (.int (0 : Int32)), .val (.int z), .val (.ref b56), .val (.int i57), .unset] [(.int z), (.int (0 : Int32)), (.ref ca)])) rfl (by rw [hml]; rfl) (argsL := [(.ref ca), (.int (0 : Int32)), (.int z)]) (rest := []) (lenOf pd_6 rfl) rfl (by show 2 * 0 + _ ≤ _; exact Nat.le_of_eq rfl) (hb hby d5_23) (fun _ _ => ⟨rfl, rfl, (by decide : 1 + 1 ≤ _), (by decide : 10 + 20 ≤ _)⟩)
  dsimp only [Pt.U, Pt.locs, Pt.cells, Pt.slots] at X58 l58 y58 z58 st58 hQ58
  subst l58 y58 z58
  obtain ⟨b58, kb58, rfl, Nq58, K58, gb58, zb58, Vb58⟩ := hQ58
  have N58 := Fr.app N57 Nq58
  have O58 : Old Z n0 T58.heap := O57.keep K58 all0
  have KC58 : Keep h0 T58.heap [] := KC57.trans K58 all0
  have sz_b58 : h0.size ≤ b58 := Nat.le_trans KC57.1 zb58
  refine OW.st (B := T58.setTop (mkF m 32 #[.val (.ref ca), .val (.int (0 : Int32)), .val (.int z), .val (.ref b56), .val (.int i57), .val (.ref b58)] [(.int i57), (.ref b58)])) (fun _ kk_ => st58 _ (XS.astore X58.here hx rfl (hb hby d5_26) rfl rfl (l' := #[.val (.ref ca), .val (.int (0 : Int32)), .val (.int z), .val (.ref b56), .val (.int i57), .val (.ref b58)]) rfl (XS.aload X58.here hx rfl (hb hby d5_28) rfl rfl (XS.iload X58.here hx rfl (hb hby d5_30) rfl kk_)))) ?_
  obtain ⟨_, _, ⟨T59, L59, k59, n59⟩, -, X59, ⟨Lc59, hQ59, l59, y59, z59⟩, st59⟩ := Jvm.LawKit.callS X58 hx (y := (⟨"java/lang/StringUTF16", "getChar", "([BI)C"⟩ : MethodName)) hown (mvT hZ (w_44 hw)) (mvT hZ (w_45 hw)) (mvT hZ (w_22 hw)) (mvT hZ (w_46 hw)) (by decide) (backOf (W := 0) (rmGC l Z a0 hw [] b58 kb58 (z <<< ((1 : Int32) &&& 31)) cs i57 mm57 cc57 i_COMPACT_STRINGS v_SIOOBE_FORMATTER T58.heap n0 O58 Vb58 hz2 hmax hi57 hcc57 (hch _ (List.mem_of_getElem? hcc57)) hS) hZ (w_46 hw) (w_22 hw) (by decide) (by decide)) (g := (mkF m 32 #[.val (.ref ca), .val (.int (0 : Int32)), .val (.int z), .val (.ref b56), .val (.int i57), .val (.ref b58)] [(.int i57), (.ref b58)])) rfl (by rw [hml]; rfl) (argsL := [(.ref b58), (.int i57)]) (rest := []) (lenOf pd_8 rfl) rfl (by show 2 * 0 + _ ≤ _; exact Nat.le_of_eq rfl) (hb hby d5_32) (fun _ _ => ⟨rfl, rfl, (by decide : 2 + 0 ≤ _), (by decide : 30 + 0 ≤ _)⟩)
  dsimp only [Pt.U, Pt.locs, Pt.cells, Pt.slots] at X59 l59 y59 z59 st59 hQ59
  subst l59 y59 z59
  obtain ⟨rfl, Nq59, e59⟩ := hQ59
  have N59 := Fr.app N58 Nq59
  refine OW.st (B := T59.setTop (mkF m 56 #[.val (.ref ca), .val (.int (0 : Int32)), .val (.int z), .val (.ref b56), .val (.int i57), .val (.ref b58)] [(.ref b58)])) (fun _ kk_ => st59 _ (XS.sipush X59.here hx rfl (hb hby d5_35) (XS.icmpYes X59.here hx rfl (pc0 := 38) (pc' := 54) rfl (hb hby d5_38) rfl (tlt hgt57).2.2.1 (by decide) (by decide) (XS.aload X59.here hx rfl (hb hby d5_54) rfl rfl kk_)))) ?_
  exact OW.ret X59 hx hlk (i := .areturn) Bd.returns rfl (Or.inr (Or.inr (Or.inr (Or.inr ⟨rfl, rfl, rfl⟩)))) (hb hby d5_56) e59 (by decide) (by decide) ⟨b58, kb58, rfl, N59, KC58, gb58, sz_b58, Vb58⟩
theorem ef_CL1 (m : MethodId) (x0 : Addr) (x1 : Int32) : entryFrame m #[(.ref x0), (.int x1)] 2 = mkF m 0 #[.val (.ref x0), .val (.int x1)] [] := by first | (simp [entryFrame, mkF, argsToLocals, Value.category]; done) | rfl
def QCL1 (Z : State) (ba : Addr) (kb : ClassId) (z : Int32) (cs : List Int32) (h0 : Heap) (n0 : Nat) (v : Option Value) (h : Heap) (L : List Loc) : Prop := v = some (.int (1 : Int32)) ∧ Fr n0 L ∧ h = h0
set_option maxRecDepth 65536 in
set_option maxHeartbeats 40000000 in
theorem rmCL1 (l : Launch) (Z : State) (a0 : Array Value) (hw : ∀ d ∈ tables_1, d.before a0 Z = true) (ws : List Jvm.Cond) (ba : Addr) (kb : ClassId) (z : Int32) (cs : List Int32) (h0 : Heap) (n0 : Nat) (O0 : Old Z n0 h0) (B : Arv Z h0 ba kb .byte (z <<< ((1 : Int32) &&& 31)) (OwnU cs) (.int (0 : Int32))) (hz : z.toInt = (cs.length : Int)) (hmax : cs.length ≤ 10) (hpos : 0 < cs.length) :
    MetFree l (⟨"java/lang/StringUTF16", "coderFromArrayLen", "([BI)B"⟩ : MethodName) (head1 (Jvm.Cond.code (⟨"java/lang/StringUTF16", "coderFromArrayLen", "([BI)B"⟩ : MethodName) jdk_52_method_15_code 2 (some .byte) :: ws) ({ frames := 0, cells := 0, slots := 0, locals := 0 } : Room)) (fun aa_ UU_ => aa_ = #[(.ref ba), (.int z)] ∧ Z.Warmed39 UU_.vm ∧ UU_.heap = h0) (fun _ _ _ _ _ => True) (fun _ UU_ oo_ UV_ => ∃ vv_ LL_, oo_ = .returned vv_ ∧ QCL1 Z ba kb z cs h0 n0 vv_ UV_.heap LL_ ∧ FrameEnd UU_ oo_ UV_ LL_ ({ frames := 0, cells := 0, slots := 0, locals := 0 } : Room).cells ({ frames := 0, cells := 0, slots := 0, locals := 0 } : Room).slots) := by
  refine MetFree.of_bodySF (plainFor_of_name pn_2) hisR ?_
  intro p e s m args below meth c s₁ Bd hml0 hP hK
  obtain ⟨rfl, hZ, hh⟩ := hP
  have hx := Bd.exec
  have hby := Bd.bytes
  have hlk := BodyLoose.notSynchronized Bd
  have hml : c.maxLocals = 2 := hml0
  have hown : s.vm.findClass "java/lang/StringUTF16" = some m.cls := findClass_of_methodNamed Bd.named
  have hnm := (name_of_methodNamed Bd.named Bd.method).1
  have X0 : Stand p l e ({ frames := 0, cells := 0, slots := 0, locals := 0 } : Room) s m #[(.ref ba), (.int z)] below meth c s₁ [] 0 0 := Stand.of_body Bd
  have e0 : s₁.heap = h0 := by rw [← hh, Bd.state]; rfl
  have N0 := Fr.nil n0
  suffices hOW : OW p e below s (QCL1 Z ba kb z cs h0 n0) 0 0 (s₁.setTop (mkF m 0 #[.val (.ref ba), .val (.int z)] [])) by
    obtain ⟨oq1_, oq2_, oq3_, oq4_⟩ := hOW
    exact ⟨oq1_, oq2_, castTop (ef_CL1 m ba z) oq3_, oq4_⟩
  refine OW.st (B := s₁.setTop (mkF m 2 #[.val (.ref ba), .val (.int z)] [(.ref ba), (.int z)])) (fun _ kk_ => XS.iloadN X0.here hx rfl (hb hby d12_0) rfl (XS.aloadN X0.here hx rfl (hb hby d12_1) rfl rfl kk_)) ?_
  obtain ⟨cl60, Ar60, q60, S60, Ng60, Hs60, G60⟩ := id B
  refine OW.st (X0.arraylength hx (by rw [e0]; exact Ar60.1) (State.isArrayOf_alike hZ.alike Ar60.2.1) (g := (mkF m 2 #[.val (.ref ba), .val (.int z)] [(.ref ba), (.int z)])) rfl rfl (hb hby d12_2)) ?_
  rw [len_of S60 Ng60]
  show OW p e below s (QCL1 Z ba kb z cs h0 n0) 0 0 (s₁.setTop (mkF m 3 #[.val (.ref ba), .val (.int z)] [(.int (z <<< ((1 : Int32) &&& 31))), (.int z)]))
  refine OW.st (B := s₁.setTop (mkF m 8 #[.val (.ref ba), .val (.int z)] [(.int ((((z - (z <<< ((1 : Int32) &&& 31))).toUInt32 >>> ((31 : Int32) &&& 31).toUInt32).toInt32).toInt8.toInt32))])) (fun _ kk_ => XS.isub X0.here hx rfl (hb hby d12_3) rfl (XS.bipush X0.here hx rfl (hb hby d12_4) (XS.iushr X0.here hx rfl (hb hby d12_6) rfl (XS.i2b X0.here hx rfl (hb hby d12_7) rfl kk_)))) ?_
  exact OW.ret X0 hx hlk (i := .ireturn) Bd.returns (by rw [own_clU hz hpos (by omega)]; rfl) (Or.inl ⟨rfl, Or.inr (Or.inr (Or.inl rfl)), _, rfl⟩) (hb hby d12_8) e0 (by decide) (by decide) ⟨congrArg (fun z => some (Value.int z)) (own_clU hz hpos (by omega)), N0, rfl⟩
theorem ef_S11 (m : MethodId) (x0 : Addr) (x1 : Addr) (x2 : Int32) (x3 : Int32) : entryFrame m #[(.ref x0), (.ref x1), (.int x2), (.int x3), .null] 6 = mkF m 0 #[.val (.ref x0), .val (.ref x1), .val (.int x2), .val (.int x3), .val .null, .unset] [] := by first | (simp [entryFrame, mkF, argsToLocals, Value.category]; done) | rfl
def QS11 (Z : State) (b : Addr) (ca : Addr) (kc : ClassId) (z : Int32) (cs : List Int32) (i_COMPACT_STRINGS : Int32) (v_SIOOBE_FORMATTER : Value) (h0 : Heap) (n0 : Nat) (v : Option Value) (h : Heap) (L : List Loc) : Prop := v = none ∧ Fr n0 L ∧ Keep h0 h [b] ∧ Exa Z h b "java/lang/String" ∧ ∃ (ba : Addr) (kb : ClassId), n0 ≤ ba ∧ b ≠ ba ∧ Fld Z h b "java/lang/String" "coder" "B" (.int (1 : Int32)) ∧ Fld Z h b "java/lang/String" "value" "[B" (.ref ba) ∧ Arv Z h ba kb .byte (z <<< ((1 : Int32) &&& 31)) (OwnU cs) (.int (0 : Int32))
set_option maxRecDepth 65536 in
set_option maxHeartbeats 40000000 in
theorem rmS11 (l : Launch) (Z : State) (a0 : Array Value) (hw : ∀ d ∈ tables_1, d.before a0 Z = true) (ws : List Jvm.Cond) (b : Addr) (ca : Addr) (kc : ClassId) (z : Int32) (cs : List Int32) (i_COMPACT_STRINGS : Int32) (v_SIOOBE_FORMATTER : Value) (h0 : Heap) (n0 : Nat) (O0 : Old Z n0 h0) (E : Exa Z h0 b "java/lang/String") (F1 : Fld Z h0 b "java/lang/String" "value" "[B" .null) (F2 : Fld Z h0 b "java/lang/String" "coder" "B" (.int (0 : Int32))) (g : n0 ≤ b) (V : Arv Z h0 ca kc .char z (cs.map Value.int) (.int (0 : Int32))) (hz : z.toInt = (cs.length : Int)) (hmax : cs.length ≤ 10) (hpos : 0 < cs.length) (hch : OwnChs cs) (hhi : OwnHi cs) (hS : OwnS Z i_COMPACT_STRINGS v_SIOOBE_FORMATTER) :
    MetFree l (⟨"java/lang/String", "<init>", "([CIILjava/lang/Void;)V"⟩ : MethodName) (head1 (Jvm.Cond.code (⟨"java/lang/String", "<init>", "([CIILjava/lang/Void;)V"⟩ : MethodName) jdk_42_method_149_code 6 none :: ws) ({ frames := 4, cells := 2, slots := 30, locals := 57 } : Room)) (fun aa_ UU_ => aa_ = #[(.ref b), (.ref ca), (.int (0 : Int32)), (.int z), .null] ∧ Z.Warmed39 UU_.vm ∧ UU_.heap = h0) (fun _ _ _ _ _ => True) (fun _ UU_ oo_ UV_ => ∃ vv_ LL_, oo_ = .returned vv_ ∧ QS11 Z b ca kc z cs i_COMPACT_STRINGS v_SIOOBE_FORMATTER h0 n0 vv_ UV_.heap LL_ ∧ FrameEnd UU_ oo_ UV_ LL_ ({ frames := 4, cells := 2, slots := 30, locals := 57 } : Room).cells ({ frames := 4, cells := 2, slots := 30, locals := 57 } : Room).slots) := by
  refine MetFree.of_bodySF (plainFor_of_name pn_0) hisR ?_
  intro p e s m args below meth c s₁ Bd hml0 hP hK
  obtain ⟨rfl, hZ, hh⟩ := hP
  have hx := Bd.exec
  have hby := Bd.bytes
  have hlk := BodyLoose.notSynchronized Bd
  have hml : c.maxLocals = 6 := hml0
  have hown : s.vm.findClass "java/lang/String" = some m.cls := findClass_of_methodNamed Bd.named
  have hnm := (name_of_methodNamed Bd.named Bd.method).1
  have X0 : Stand p l e ({ frames := 4, cells := 2, slots := 30, locals := 57 } : Room) s m #[(.ref b), (.ref ca), (.int (0 : Int32)), (.int z), .null] below meth c s₁ [] 0 0 := Stand.of_body Bd
  have e0 : s₁.heap = h0 := by rw [← hh, Bd.state]; rfl
  have N0 := Fr.nil n0
  have KC0 : Keep h0 h0 [b] := Keep.refl _ _
  suffices hOW : OW p e below s (QS11 Z b ca kc z cs i_COMPACT_STRINGS v_SIOOBE_FORMATTER h0 n0) 2 30 (s₁.setTop (mkF m 0 #[.val (.ref b), .val (.ref ca), .val (.int (0 : Int32)), .val (.int z), .val .null, .unset] [])) by
    obtain ⟨oq1_, oq2_, oq3_, oq4_⟩ := hOW
    exact ⟨oq1_, oq2_, castTop (ef_S11 m b ca (0 : Int32) z) oq3_, oq4_⟩
  have hS' := hS
  obtain ⟨Si_COMPACT_STRINGS, Sv_SIOOBE_FORMATTER, Rv_SIOOBE_FORMATTER, S__assertionsDisabled, S_HI_BYTE_SHIFT, S_LO_BYTE_SHIFT, Pi_COMPACT_STRINGS⟩ := hS'
  refine OW.st (B := s₁.setTop (mkF m 1 #[.val (.ref b), .val (.ref ca), .val (.int (0 : Int32)), .val (.int z), .val .null, .unset] [(.ref b)])) (fun _ kk_ => XS.aloadN X0.here hx rfl (hb hby d3_0) rfl rfl kk_) ?_
  obtain ⟨T61, X61, e61, st61⟩ := initO X0 hx hZ hown (w_16 hw) (w_17 hw) (w_18 hw) e0 (g := (mkF m 1 #[.val (.ref b), .val (.ref ca), .val (.int (0 : Int32)), .val (.int z), .val .null, .unset] [(.ref b)])) rfl (by rw [hml]; rfl) rfl (hb hby d3_1) (by decide) (W := 0) (by show 2 * 0 + _ ≤ _; exact Nat.le_of_eq rfl) (by decide)
  refine OW.st (B := T61.setTop (mkF m 27 #[.val (.ref b), .val (.ref ca), .val (.int (0 : Int32)), .val (.int z), .val .null, .unset] [])) (fun _ kk_ => st61 _ (XS.iloadN X61.here hx rfl (hb hby d3_4) rfl (XS.ifYes X61.here hx rfl (pc0 := 5) (pc' := 27) rfl (hb hby d3_5) rfl ((if0 _ _).trans (feq (own_n0 hz hpos)).2) (by decide) (by decide) kk_))) ?_
  obtain ⟨T62, X62, e62, st62⟩ := getS2 X61 hx hZ hown (host := "") (Or.inl (w_19 hw)) Via.refl e61 (Si_COMPACT_STRINGS.ext O0.2) (g := (mkF m 27 #[.val (.ref b), .val (.ref ca), .val (.int (0 : Int32)), .val (.int z), .val .null, .unset] [])) rfl (hb hby d3_27)
  refine OW.st (B := T62.setTop (mkF m 36 #[.val (.ref b), .val (.ref ca), .val (.int (0 : Int32)), .val (.int z), .val .null, .unset] [(.int z), (.int (0 : Int32)), (.ref ca)])) (fun _ kk_ => st62 _ (XS.ifNo X62.here hx rfl (hb hby d3_30) rfl ((if0 _ _).trans (feq Pi_COMPACT_STRINGS).1) (XS.aloadN X62.here hx rfl (hb hby d3_33) rfl rfl (XS.iloadN X62.here hx rfl (hb hby d3_34) rfl (XS.iloadN X62.here hx rfl (hb hby d3_35) rfl kk_))))) ?_
  obtain ⟨_, _, ⟨T63, L63, k63, n63⟩, -, X63, ⟨Lc63, hQ63, l63, y63, z63⟩, st63⟩ := Jvm.LawKit.callS X62 hx (y := (⟨"java/lang/StringUTF16", "compress", "([CII)[B"⟩ : MethodName)) hown (mvT hZ (w_20 hw)) (mvT hZ (w_21 hw)) (mvT hZ (w_22 hw)) (mvT hZ (w_23 hw)) (by decide) (backOf (W := 0) (rmC31 l Z a0 hw [] ca kc z cs i_COMPACT_STRINGS v_SIOOBE_FORMATTER h0 n0 O0 V hz hmax hch hhi hS) hZ (w_23 hw) (w_22 hw) (by decide) (by decide)) (g := (mkF m 36 #[.val (.ref b), .val (.ref ca), .val (.int (0 : Int32)), .val (.int z), .val .null, .unset] [(.int z), (.int (0 : Int32)), (.ref ca)])) rfl (by rw [hml]; rfl) (argsL := [(.ref ca), (.int (0 : Int32)), (.int z)]) (rest := []) (lenOf pd_6 rfl) rfl (by show 2 * 0 + _ ≤ _; exact Nat.le_of_eq rfl) (hb hby d3_36) (fun _ _ => ⟨rfl, e62, (by decide : 0 + 2 ≤ _), (by decide : 0 + 30 ≤ _)⟩)
  dsimp only [Pt.U, Pt.locs, Pt.cells, Pt.slots] at X63 l63 y63 z63 st63 hQ63
  subst l63 y63 z63
  obtain ⟨b63, kb63, rfl, Nq63, K63, gb63, zb63, Vb63⟩ := hQ63
  have N63 := Fr.app N0 Nq63
  have O63 : Old Z n0 T63.heap := O0.keep K63 all0
  have KC63 : Keep h0 T63.heap [b] := KC0.trans K63 all0
  have sz_b63 : h0.size ≤ b63 := Nat.le_trans KC0.1 zb63
  refine OW.st (B := T63.setTop (mkF m 45 #[.val (.ref b), .val (.ref ca), .val (.int (0 : Int32)), .val (.int z), .val .null, .val (.ref b63)] [(.int z), (.ref b63), (.ref b)])) (fun _ kk_ => st63 _ (XS.astore X63.here hx rfl (hb hby d3_39) rfl rfl (l' := #[.val (.ref b), .val (.ref ca), .val (.int (0 : Int32)), .val (.int z), .val .null, .val (.ref b63)]) rfl (XS.aloadN X63.here hx rfl (hb hby d3_41) rfl rfl (XS.aload X63.here hx rfl (hb hby d3_42) rfl rfl (XS.iloadN X63.here hx rfl (hb hby d3_44) rfl kk_))))) ?_
  obtain ⟨_, _, ⟨T64, L64, k64, n64⟩, -, X64, ⟨Lc64, hQ64, l64, y64, z64⟩, st64⟩ := Jvm.LawKit.callS X63 hx (y := (⟨"java/lang/StringUTF16", "coderFromArrayLen", "([BI)B"⟩ : MethodName)) hown (mvT hZ (w_47 hw)) (mvT hZ (w_48 hw)) (mvT hZ (w_22 hw)) (mvT hZ (w_49 hw)) (by decide) (backOf (W := 1) (rmCL1 l Z a0 hw [] b63 kb63 z cs T63.heap n0 O63 Vb63 hz hmax hpos) hZ (w_49 hw) (w_22 hw) (by decide) (by decide)) (g := (mkF m 45 #[.val (.ref b), .val (.ref ca), .val (.int (0 : Int32)), .val (.int z), .val .null, .val (.ref b63)] [(.int z), (.ref b63), (.ref b)])) rfl (by rw [hml]; rfl) (argsL := [(.ref b63), (.int z)]) (rest := [(.ref b)]) (lenOf pd_7 rfl) rfl (by show 2 * 0 + _ ≤ _; exact Nat.le_of_eq rfl) (hb hby d3_45) (fun _ _ => ⟨rfl, rfl, (by decide : 2 + 0 ≤ _), (by decide : 30 + 0 ≤ _)⟩)
  dsimp only [Pt.U, Pt.locs, Pt.cells, Pt.slots] at X64 l64 y64 z64 st64 hQ64
  subst l64 y64 z64
  obtain ⟨rfl, Nq64, e64⟩ := hQ64
  have N64 := Fr.app N63 Nq64
  refine OW.st (B := T64.setTop (mkF m 48 #[.val (.ref b), .val (.ref ca), .val (.int (0 : Int32)), .val (.int z), .val .null, .val (.ref b63)] [(.int (1 : Int32)), (.ref b)])) (fun _ kk_ => st64 _ kk_) ?_
  obtain ⟨T65, h65, X65, e65, W65, st65⟩ := putFN X64 hx hZ hown (w_50 hw) Via.refl e64 (F2.keep K63 nin0) (E.keep K63) (Or.inr ⟨(w_51 hw), rfl, hnm⟩) (w_6 hw) (ty := .byte) (v' := (.int (1 : Int32))) (by decide) rfl rfl (g := (mkF m 48 #[.val (.ref b), .val (.ref ca), .val (.int (0 : Int32)), .val (.int z), .val .null, .val (.ref b63)] [(.int (1 : Int32)), (.ref b)])) rfl rfl (hb hby d3_48)
  have N65 := Fr.snoc X65 N64 g
  have O65 : Old Z n0 h65 := O63.wr W65 g
  have KC65 : Keep h0 h65 [b] := KC63.wr W65 (Or.inl (List.mem_of_getElem? (i := 0) rfl))
  have F65 : Fld Z h65 b "java/lang/String" "coder" "B" (.int (1 : Int32)) := Fld.same W65 (F2.keep K63 nin0)
  refine OW.st (B := T65.setTop (mkF m 54 #[.val (.ref b), .val (.ref ca), .val (.int (0 : Int32)), .val (.int z), .val .null, .val (.ref b63)] [(.ref b63), (.ref b)])) (fun _ kk_ => st65 _ (XS.aloadN X65.here hx rfl (hb hby d3_51) rfl rfl (XS.aload X65.here hx rfl (hb hby d3_52) rfl rfl kk_))) ?_
  obtain ⟨T66, h66, X66, e66, W66, st66⟩ := putF X65 hx hZ hown (host := "") (Or.inl (w_52 hw)) Via.refl e65 ((F1.keep K63 nin0).other W65 (Or.inr (slot_ne (Or.inr (w_53 hw)) (Or.inr (w_51 hw)) (by decide) (t := (.array .byte)) (t' := .byte) (by decide) (by decide)))) ((E.keep K63).wr W65) (Or.inr ⟨(w_53 hw), rfl, hnm⟩) (w_6 hw) (ty := (.array .byte)) (by decide) rfl rfl (g := (mkF m 54 #[.val (.ref b), .val (.ref ca), .val (.int (0 : Int32)), .val (.int z), .val .null, .val (.ref b63)] [(.ref b63), (.ref b)])) rfl rfl (hb hby d3_54)
  have N66 := Fr.snoc X66 N65 g
  have O66 : Old Z n0 h66 := O65.wr W66 g
  have KC66 : Keep h0 h66 [b] := KC65.wr W66 (Or.inl (List.mem_of_getElem? (i := 0) rfl))
  have F66 : Fld Z h66 b "java/lang/String" "value" "[B" (.ref b63) := Fld.same W66 ((F1.keep K63 nin0).other W65 (Or.inr (slot_ne (Or.inr (w_53 hw)) (Or.inr (w_51 hw)) (by decide) (t := (.array .byte)) (t' := .byte) (by decide) (by decide))))
  refine OW.st (B := T66.setTop (mkF m 57 #[.val (.ref b), .val (.ref ca), .val (.int (0 : Int32)), .val (.int z), .val .null, .val (.ref b63)] [])) (fun _ kk_ => st66 _ kk_) ?_
  exact OW.retV X66 hx hlk Bd.returns (hb hby d3_57) e66 (by decide) (by decide) ⟨rfl, N66, KC66, (((E.keep K63).wr W65).wr W66), b63, kb63, gb63, (Nat.ne_of_lt (Nat.lt_of_lt_of_le E.lt zb63)), (F65.other W66 (Or.inr (slot_ne (Or.inr (w_51 hw)) (Or.inr (w_53 hw)) (by decide) (t := .byte) (t' := (.array .byte)) (by decide) (by decide)))), F66, ((Vb63.other W65 (Ne.symm (Nat.ne_of_lt (Nat.lt_of_lt_of_le E.lt zb63)))).other W66 (Ne.symm (Nat.ne_of_lt (Nat.lt_of_lt_of_le E.lt zb63))))⟩
theorem ef_S0X (m : MethodId) (x0 : Addr) (x1 : Addr) : entryFrame m #[(.ref x0), (.ref x1)] 2 = mkF m 0 #[.val (.ref x0), .val (.ref x1)] [] := by first | (simp [entryFrame, mkF, argsToLocals, Value.category]; done) | rfl
def QS0X (Z : State) (b : Addr) (ca : Addr) (kc : ClassId) (z : Int32) (cs : List Int32) (i_COMPACT_STRINGS : Int32) (v_SIOOBE_FORMATTER : Value) (h0 : Heap) (n0 : Nat) (v : Option Value) (h : Heap) (L : List Loc) : Prop := v = none ∧ Fr n0 L ∧ Keep h0 h [b] ∧ OwnSt Z h b cs
set_option maxRecDepth 65536 in
set_option maxHeartbeats 40000000 in
theorem rmS0X (l : Launch) (Z : State) (a0 : Array Value) (hw : ∀ d ∈ tables_1, d.before a0 Z = true) (ws : List Jvm.Cond) (b : Addr) (ca : Addr) (kc : ClassId) (z : Int32) (cs : List Int32) (i_COMPACT_STRINGS : Int32) (v_SIOOBE_FORMATTER : Value) (h0 : Heap) (n0 : Nat) (O0 : Old Z n0 h0) (E : Exa Z h0 b "java/lang/String") (F1 : Fld Z h0 b "java/lang/String" "value" "[B" .null) (F2 : Fld Z h0 b "java/lang/String" "coder" "B" (.int (0 : Int32))) (g : n0 ≤ b) (V : Arv Z h0 ca kc .char z (cs.map Value.int) (.int (0 : Int32))) (hz : z.toInt = (cs.length : Int)) (hmax : cs.length ≤ 10) (hpos : 0 < cs.length) (hch : OwnChs cs) (hS : OwnS Z i_COMPACT_STRINGS v_SIOOBE_FORMATTER) :
    MetFree l (⟨"java/lang/String", "<init>", "([C)V"⟩ : MethodName) (head1 (Jvm.Cond.code (⟨"java/lang/String", "<init>", "([C)V"⟩ : MethodName) jdk_42_method_3_code 2 none :: ws) ({ frames := 5, cells := 2, slots := 30, locals := 74 } : Room)) (fun aa_ UU_ => aa_ = #[(.ref b), (.ref ca)] ∧ Z.Warmed39 UU_.vm ∧ UU_.heap = h0) (fun _ _ _ _ _ => True) (fun _ UU_ oo_ UV_ => ∃ vv_ LL_, oo_ = .returned vv_ ∧ QS0X Z b ca kc z cs i_COMPACT_STRINGS v_SIOOBE_FORMATTER h0 n0 vv_ UV_.heap LL_ ∧ FrameEnd UU_ oo_ UV_ LL_ ({ frames := 5, cells := 2, slots := 30, locals := 74 } : Room).cells ({ frames := 5, cells := 2, slots := 30, locals := 74 } : Room).slots) := by
  refine MetFree.of_bodySF (plainFor_of_name pn_0) hisR ?_
  intro p e s m args below meth c s₁ Bd hml0 hP hK
  obtain ⟨rfl, hZ, hh⟩ := hP
  have hx := Bd.exec
  have hby := Bd.bytes
  have hlk := BodyLoose.notSynchronized Bd
  have hml : c.maxLocals = 2 := hml0
  have hown : s.vm.findClass "java/lang/String" = some m.cls := findClass_of_methodNamed Bd.named
  have hnm := (name_of_methodNamed Bd.named Bd.method).1
  have X0 : Stand p l e ({ frames := 5, cells := 2, slots := 30, locals := 74 } : Room) s m #[(.ref b), (.ref ca)] below meth c s₁ [] 0 0 := Stand.of_body Bd
  have e0 : s₁.heap = h0 := by rw [← hh, Bd.state]; rfl
  have N0 := Fr.nil n0
  have KC0 : Keep h0 h0 [b] := Keep.refl _ _
  suffices hOW : OW p e below s (QS0X Z b ca kc z cs i_COMPACT_STRINGS v_SIOOBE_FORMATTER h0 n0) 2 30 (s₁.setTop (mkF m 0 #[.val (.ref b), .val (.ref ca)] [])) by
    obtain ⟨oq1_, oq2_, oq3_, oq4_⟩ := hOW
    exact ⟨oq1_, oq2_, castTop (ef_S0X m b ca) oq3_, oq4_⟩
  have hS' := hS
  obtain ⟨Si_COMPACT_STRINGS, Sv_SIOOBE_FORMATTER, Rv_SIOOBE_FORMATTER, S__assertionsDisabled, S_HI_BYTE_SHIFT, S_LO_BYTE_SHIFT, Pi_COMPACT_STRINGS⟩ := hS'
  rcases own_loh cs with hlat | hhi
  · refine OW.st (B := s₁.setTop (mkF m 4 #[.val (.ref b), .val (.ref ca)] [(.ref ca), (.int (0 : Int32)), (.ref ca), (.ref b)])) (fun _ kk_ => XS.aloadN X0.here hx rfl (hb hby d2_0) rfl rfl (XS.aloadN X0.here hx rfl (hb hby d2_1) rfl rfl (XS.iconst X0.here hx rfl (hb hby d2_2) (XS.aloadN X0.here hx rfl (hb hby d2_3) rfl rfl kk_)))) ?_
    obtain ⟨cl67, Ar67, q67, S67, Ng67, Hs67, G67⟩ := id V
    refine OW.st (X0.arraylength hx (by rw [e0]; exact Ar67.1) (State.isArrayOf_alike hZ.alike Ar67.2.1) (g := (mkF m 4 #[.val (.ref b), .val (.ref ca)] [(.ref ca), (.int (0 : Int32)), (.ref ca), (.ref b)])) rfl rfl (hb hby d2_4)) ?_
    rw [len_of S67 Ng67]
    show OW p e below s (QS0X Z b ca kc z cs i_COMPACT_STRINGS v_SIOOBE_FORMATTER h0 n0) 2 30 (s₁.setTop (mkF m 5 #[.val (.ref b), .val (.ref ca)] [(.int z), (.int (0 : Int32)), (.ref ca), (.ref b)]))
    refine OW.st (B := s₁.setTop (mkF m 6 #[.val (.ref b), .val (.ref ca)] [.null, (.int z), (.int (0 : Int32)), (.ref ca), (.ref b)])) (fun _ kk_ => XS.aconstNull X0.here hx rfl (hb hby d2_5) kk_) ?_
    obtain ⟨_, _, ⟨T68, L68, k68, n68⟩, -, X68, ⟨Lc68, hQ68, l68, y68, z68⟩, st68⟩ := X0.specialBack hx (y := (⟨"java/lang/String", "<init>", "([CIILjava/lang/Void;)V"⟩ : MethodName)) rfl hown (mvT hZ (w_12 hw)) (mvT hZ (w_13 hw)) (mvT hZ (w_15 hw)) (by decide) (backOf (W := 0) (rmS10 l Z a0 hw [] b ca kc z cs i_COMPACT_STRINGS v_SIOOBE_FORMATTER h0 n0 O0 E F1 F2 g V hz hmax hpos hch hlat hS) hZ (w_15 hw) (w_7 hw) (by decide) (by decide)) (g := (mkF m 6 #[.val (.ref b), .val (.ref ca)] [.null, (.int z), (.int (0 : Int32)), (.ref ca), (.ref b)])) rfl (by rw [hml]; rfl) (Steps.refl _) (a := b) (argsL := [(.ref ca), (.int (0 : Int32)), (.int z), .null]) (rest := []) (lenOf pd_1 rfl) rfl (by show 2 * 0 + _ ≤ _; exact Nat.le_of_eq rfl) (hb hby d2_6) (fun _ _ => ⟨rfl, e0, (by decide : 0 + 1 ≤ _), (by decide : 0 + 10 ≤ _)⟩)
    dsimp only [Pt.U, Pt.locs, Pt.cells, Pt.slots] at X68 l68 y68 z68 st68 hQ68
    subst l68 y68 z68
    obtain ⟨rfl, Nq68, K68, Es68, ba68, kb68, gba68, nba68, Fc68, Fv68, Vs68⟩ := hQ68
    have N68 := Fr.app N0 Nq68
    have O68 : Old Z n0 T68.heap := O0.keep K68 (allS g all0)
    have KC68 : Keep h0 T68.heap [b] := KC0.trans K68 (allS (Or.inl (List.mem_of_getElem? (i := 0) rfl)) all0)
    refine OW.tr (B := T68.setTop (mkF m 9 #[.val (.ref b), .val (.ref ca)] [])) (st68) ?_
    exact OW.retV X68 hx hlk Bd.returns (hb hby d2_9) rfl (by decide) (by decide) ⟨rfl, N68, KC68, (E.keep K68), ba68, kb68, z, Fv68, Or.inl ⟨Fc68, Vs68, hlat, hz⟩⟩
  · refine OW.st (B := s₁.setTop (mkF m 4 #[.val (.ref b), .val (.ref ca)] [(.ref ca), (.int (0 : Int32)), (.ref ca), (.ref b)])) (fun _ kk_ => XS.aloadN X0.here hx rfl (hb hby d2_0) rfl rfl (XS.aloadN X0.here hx rfl (hb hby d2_1) rfl rfl (XS.iconst X0.here hx rfl (hb hby d2_2) (XS.aloadN X0.here hx rfl (hb hby d2_3) rfl rfl kk_)))) ?_
    obtain ⟨cl69, Ar69, q69, S69, Ng69, Hs69, G69⟩ := id V
    refine OW.st (X0.arraylength hx (by rw [e0]; exact Ar69.1) (State.isArrayOf_alike hZ.alike Ar69.2.1) (g := (mkF m 4 #[.val (.ref b), .val (.ref ca)] [(.ref ca), (.int (0 : Int32)), (.ref ca), (.ref b)])) rfl rfl (hb hby d2_4)) ?_
    rw [len_of S69 Ng69]
    show OW p e below s (QS0X Z b ca kc z cs i_COMPACT_STRINGS v_SIOOBE_FORMATTER h0 n0) 2 30 (s₁.setTop (mkF m 5 #[.val (.ref b), .val (.ref ca)] [(.int z), (.int (0 : Int32)), (.ref ca), (.ref b)]))
    refine OW.st (B := s₁.setTop (mkF m 6 #[.val (.ref b), .val (.ref ca)] [.null, (.int z), (.int (0 : Int32)), (.ref ca), (.ref b)])) (fun _ kk_ => XS.aconstNull X0.here hx rfl (hb hby d2_5) kk_) ?_
    obtain ⟨_, _, ⟨T70, L70, k70, n70⟩, -, X70, ⟨Lc70, hQ70, l70, y70, z70⟩, st70⟩ := X0.specialBack hx (y := (⟨"java/lang/String", "<init>", "([CIILjava/lang/Void;)V"⟩ : MethodName)) rfl hown (mvT hZ (w_12 hw)) (mvT hZ (w_13 hw)) (mvT hZ (w_15 hw)) (by decide) (backOf (W := 0) (rmS11 l Z a0 hw [] b ca kc z cs i_COMPACT_STRINGS v_SIOOBE_FORMATTER h0 n0 O0 E F1 F2 g V hz hmax hpos hch hhi hS) hZ (w_15 hw) (w_7 hw) (by decide) (by decide)) (g := (mkF m 6 #[.val (.ref b), .val (.ref ca)] [.null, (.int z), (.int (0 : Int32)), (.ref ca), (.ref b)])) rfl (by rw [hml]; rfl) (Steps.refl _) (a := b) (argsL := [(.ref ca), (.int (0 : Int32)), (.int z), .null]) (rest := []) (lenOf pd_1 rfl) rfl (by show 2 * 0 + _ ≤ _; exact Nat.le_of_eq rfl) (hb hby d2_6) (fun _ _ => ⟨rfl, e0, (by decide : 0 + 2 ≤ _), (by decide : 0 + 30 ≤ _)⟩)
    dsimp only [Pt.U, Pt.locs, Pt.cells, Pt.slots] at X70 l70 y70 z70 st70 hQ70
    subst l70 y70 z70
    obtain ⟨rfl, Nq70, K70, Es70, ba70, kb70, gba70, nba70, Fc70, Fv70, Vs70⟩ := hQ70
    have N70 := Fr.app N0 Nq70
    have O70 : Old Z n0 T70.heap := O0.keep K70 (allS g all0)
    have KC70 : Keep h0 T70.heap [b] := KC0.trans K70 (allS (Or.inl (List.mem_of_getElem? (i := 0) rfl)) all0)
    refine OW.tr (B := T70.setTop (mkF m 9 #[.val (.ref b), .val (.ref ca)] [])) (st70) ?_
    have hd := own_dbl hz (by omega)
    exact OW.retV X70 hx hlk Bd.returns (hb hby d2_9) rfl (by decide) (by decide) ⟨rfl, N70, KC70, (E.keep K70), ba70, kb70, (z <<< ((1 : Int32) &&& 31)), Fv70, Or.inr ⟨Fc70, Vs70, hhi, hd⟩⟩
theorem ef_LE0 (m : MethodId) (x0 : Addr) : entryFrame m #[(.ref x0)] 1 = mkF m 0 #[.val (.ref x0)] [] := by first | (simp [entryFrame, mkF, argsToLocals, Value.category]; done) | rfl
def QLE0 (Z : State) (b : Addr) (ba : Addr) (kb : ClassId) (zb : Int32) (cs : List Int32) (zr : Int32) (i_COMPACT_STRINGS : Int32) (v_SIOOBE_FORMATTER : Value) (h0 : Heap) (n0 : Nat) (v : Option Value) (h : Heap) (L : List Loc) : Prop := v = some (.int zr) ∧ Fr n0 L ∧ h = h0
set_option maxRecDepth 65536 in
set_option maxHeartbeats 40000000 in
theorem rmLE0 (l : Launch) (Z : State) (a0 : Array Value) (hw : ∀ d ∈ tables_1, d.before a0 Z = true) (ws : List Jvm.Cond) (b : Addr) (ba : Addr) (kb : ClassId) (zb : Int32) (cs : List Int32) (zr : Int32) (i_COMPACT_STRINGS : Int32) (v_SIOOBE_FORMATTER : Value) (h0 : Heap) (n0 : Nat) (O0 : Old Z n0 h0) (E : Exa Z h0 b "java/lang/String") (F1 : Fld Z h0 b "java/lang/String" "value" "[B" (.ref ba)) (F2 : Fld Z h0 b "java/lang/String" "coder" "B" (.int (0 : Int32))) (B : Arv Z h0 ba kb .byte zb (OwnL cs) (.int (0 : Int32))) (hr : (zb >>> ((0 : Int32) &&& 31)) = zr) (hS : OwnS Z i_COMPACT_STRINGS v_SIOOBE_FORMATTER) :
    MetFree l (⟨"java/lang/String", "length", "()I"⟩ : MethodName) (head1 (Jvm.Cond.code (⟨"java/lang/String", "length", "()I"⟩ : MethodName) jdk_42_method_54_code 1 (some .int) :: ws) ({ frames := 1, cells := 0, slots := 0, locals := 13 } : Room)) (fun aa_ UU_ => aa_ = #[(.ref b)] ∧ Z.Warmed39 UU_.vm ∧ UU_.heap = h0) (fun _ _ _ _ _ => True) (fun _ UU_ oo_ UV_ => ∃ vv_ LL_, oo_ = .returned vv_ ∧ QLE0 Z b ba kb zb cs zr i_COMPACT_STRINGS v_SIOOBE_FORMATTER h0 n0 vv_ UV_.heap LL_ ∧ FrameEnd UU_ oo_ UV_ LL_ ({ frames := 1, cells := 0, slots := 0, locals := 13 } : Room).cells ({ frames := 1, cells := 0, slots := 0, locals := 13 } : Room).slots) := by
  refine MetFree.of_bodySF (plainFor_of_name pn_0) hisR ?_
  intro p e s m args below meth c s₁ Bd hml0 hP hK
  obtain ⟨rfl, hZ, hh⟩ := hP
  have hx := Bd.exec
  have hby := Bd.bytes
  have hlk := BodyLoose.notSynchronized Bd
  have hml : c.maxLocals = 1 := hml0
  have hown : s.vm.findClass "java/lang/String" = some m.cls := findClass_of_methodNamed Bd.named
  have hnm := (name_of_methodNamed Bd.named Bd.method).1
  have X0 : Stand p l e ({ frames := 1, cells := 0, slots := 0, locals := 13 } : Room) s m #[(.ref b)] below meth c s₁ [] 0 0 := Stand.of_body Bd
  have e0 : s₁.heap = h0 := by rw [← hh, Bd.state]; rfl
  have N0 := Fr.nil n0
  suffices hOW : OW p e below s (QLE0 Z b ba kb zb cs zr i_COMPACT_STRINGS v_SIOOBE_FORMATTER h0 n0) 0 0 (s₁.setTop (mkF m 0 #[.val (.ref b)] [])) by
    obtain ⟨oq1_, oq2_, oq3_, oq4_⟩ := hOW
    exact ⟨oq1_, oq2_, castTop (ef_LE0 m b) oq3_, oq4_⟩
  have hS' := hS
  obtain ⟨Si_COMPACT_STRINGS, Sv_SIOOBE_FORMATTER, Rv_SIOOBE_FORMATTER, S__assertionsDisabled, S_HI_BYTE_SHIFT, S_LO_BYTE_SHIFT, Pi_COMPACT_STRINGS⟩ := hS'
  refine OW.st (B := s₁.setTop (mkF m 1 #[.val (.ref b)] [(.ref b)])) (fun _ kk_ => XS.aloadN X0.here hx rfl (hb hby d16_0) rfl rfl kk_) ?_
  obtain ⟨T71, X71, e71, st71⟩ := getF X0 hx hZ hown (host := "") (Or.inl (w_52 hw)) Via.refl e0 F1 (g := (mkF m 1 #[.val (.ref b)] [(.ref b)])) rfl rfl (hb hby d16_1)
  refine OW.st (B := T71.setTop (mkF m 4 #[.val (.ref b)] [(.ref ba)])) (fun _ kk_ => st71 _ kk_) ?_
  obtain ⟨cl72, Ar72, q72, S72, Ng72, Hs72, G72⟩ := id B
  refine OW.st (X71.arraylength hx (by rw [e71]; exact Ar72.1) (State.isArrayOf_alike hZ.alike Ar72.2.1) (g := (mkF m 4 #[.val (.ref b)] [(.ref ba)])) rfl rfl (hb hby d16_4)) ?_
  rw [len_of S72 Ng72]
  show OW p e below s (QLE0 Z b ba kb zb cs zr i_COMPACT_STRINGS v_SIOOBE_FORMATTER h0 n0) 0 0 (T71.setTop (mkF m 5 #[.val (.ref b)] [(.int zb)]))
  refine OW.st (B := T71.setTop (mkF m 6 #[.val (.ref b)] [(.ref b), (.int zb)])) (fun _ kk_ => XS.aloadN X71.here hx rfl (hb hby d16_5) rfl rfl kk_) ?_
  obtain ⟨cq73, kq73, q73a, q73b, q73c⟩ := isOf hZ e71 E
  obtain ⟨_, _, ⟨T73, L73, k73, n73⟩, -, X73, ⟨Lc73, hQ73, l73, y73, z73⟩, st73⟩ := X71.virtualBack hx (y := (⟨"java/lang/String", "coder", "()B"⟩ : MethodName)) (z := (⟨"java/lang/String", "coder", "()B"⟩ : MethodName)) hown (mvT hZ (w_69 hw)) (mvT hZ (w_70 hw)) (notFace_of_selects (args := #[]) (mvT hZ (w_72 hw))) (mvT hZ (w_72 hw)) (mvT hZ (w_71 hw)) (by decide) (backOf (W := 1) (rmCO0 l Z a0 hw [] b i_COMPACT_STRINGS v_SIOOBE_FORMATTER h0 n0 O0 F2 hS) hZ (w_73 hw) (w_7 hw) (by decide) (by decide)) q73a q73c (g := (mkF m 6 #[.val (.ref b)] [(.ref b), (.int zb)])) rfl (by rw [hml]; rfl) (Steps.refl _) (argsL := []) (rest := [(.int zb)]) (lenOf pd_9 rfl) rfl (by show 2 * 0 + _ ≤ _; exact Nat.le_of_eq rfl) (hb hby d16_6) (fun _ _ => ⟨rfl, e71, (by decide : 0 + 0 ≤ _), (by decide : 0 + 0 ≤ _)⟩)
  dsimp only [Pt.U, Pt.locs, Pt.cells, Pt.slots] at X73 l73 y73 z73 st73 hQ73
  subst l73 y73 z73
  obtain ⟨rfl, Nq73, e73⟩ := hQ73
  have N73 := Fr.app N0 Nq73
  refine OW.tr (B := T73.setTop (mkF m 9 #[.val (.ref b)] [(.int (0 : Int32)), (.int zb)])) (st73) ?_
  refine OW.st (B := T73.setTop (mkF m 10 #[.val (.ref b)] [(.int (zb >>> ((0 : Int32) &&& 31)))])) (fun _ kk_ => XS.ishr X73.here hx rfl (hb hby d16_9) rfl kk_) ?_
  exact OW.ret X73 hx hlk (i := .ireturn) Bd.returns rfl (Or.inl ⟨rfl, Or.inl rfl, _, rfl⟩) (hb hby d16_10) e73 (by decide) (by decide) ⟨congrArg (fun z => some (Value.int z)) hr, N73, rfl⟩
theorem ef_CX0 (m : MethodId) (x0 : Addr) (x1 : Int32) : entryFrame m #[(.ref x0), (.int x1)] 2 = mkF m 0 #[.val (.ref x0), .val (.int x1)] [] := by first | (simp [entryFrame, mkF, argsToLocals, Value.category]; done) | rfl
def QCX0 (Z : State) (ba : Addr) (kb : ClassId) (zb : Int32) (cs : List Int32) (i : Int32) (mm : Nat) (cc : Int32) (i_COMPACT_STRINGS : Int32) (v_SIOOBE_FORMATTER : Value) (h0 : Heap) (n0 : Nat) (v : Option Value) (h : Heap) (L : List Loc) : Prop := v = some (.int cc) ∧ Fr n0 L ∧ h = h0
set_option maxRecDepth 65536 in
set_option maxHeartbeats 40000000 in
theorem rmCX0 (l : Launch) (Z : State) (a0 : Array Value) (hw : ∀ d ∈ tables_1, d.before a0 Z = true) (ws : List Jvm.Cond) (ba : Addr) (kb : ClassId) (zb : Int32) (cs : List Int32) (i : Int32) (mm : Nat) (cc : Int32) (i_COMPACT_STRINGS : Int32) (v_SIOOBE_FORMATTER : Value) (h0 : Heap) (n0 : Nat) (O0 : Old Z n0 h0) (B : Arv Z h0 ba kb .byte zb (OwnL cs) (.int (0 : Int32))) (hzb : zb.toInt = ((cs.length : Nat) : Int)) (hmax : cs.length ≤ 10) (hi : i.toInt = (mm : Int)) (hcc : cs[mm]? = some cc) (hn : nar .char cc = cc) (hl : ¬ ((255 : Int32) < cc)) (hS : OwnS Z i_COMPACT_STRINGS v_SIOOBE_FORMATTER) :
    MetFree l (⟨"java/lang/StringLatin1", "charAt", "([BI)C"⟩ : MethodName) (head1 (Jvm.Cond.code (⟨"java/lang/StringLatin1", "charAt", "([BI)C"⟩ : MethodName) jdk_43_method_2_code 2 (some .char) :: ws) ({ frames := 2, cells := 0, slots := 0, locals := 27 } : Room)) (fun aa_ UU_ => aa_ = #[(.ref ba), (.int i)] ∧ Z.Warmed39 UU_.vm ∧ UU_.heap = h0) (fun _ _ _ _ _ => True) (fun _ UU_ oo_ UV_ => ∃ vv_ LL_, oo_ = .returned vv_ ∧ QCX0 Z ba kb zb cs i mm cc i_COMPACT_STRINGS v_SIOOBE_FORMATTER h0 n0 vv_ UV_.heap LL_ ∧ FrameEnd UU_ oo_ UV_ LL_ ({ frames := 2, cells := 0, slots := 0, locals := 27 } : Room).cells ({ frames := 2, cells := 0, slots := 0, locals := 27 } : Room).slots) := by
  refine MetFree.of_bodySF (plainFor_of_name pn_3) hisR ?_
  intro p e s m args below meth c s₁ Bd hml0 hP hK
  obtain ⟨rfl, hZ, hh⟩ := hP
  have hx := Bd.exec
  have hby := Bd.bytes
  have hlk := BodyLoose.notSynchronized Bd
  have hml : c.maxLocals = 2 := hml0
  have hown : s.vm.findClass "java/lang/StringLatin1" = some m.cls := findClass_of_methodNamed Bd.named
  have hnm := (name_of_methodNamed Bd.named Bd.method).1
  have X0 : Stand p l e ({ frames := 2, cells := 0, slots := 0, locals := 27 } : Room) s m #[(.ref ba), (.int i)] below meth c s₁ [] 0 0 := Stand.of_body Bd
  have e0 : s₁.heap = h0 := by rw [← hh, Bd.state]; rfl
  have N0 := Fr.nil n0
  suffices hOW : OW p e below s (QCX0 Z ba kb zb cs i mm cc i_COMPACT_STRINGS v_SIOOBE_FORMATTER h0 n0) 0 0 (s₁.setTop (mkF m 0 #[.val (.ref ba), .val (.int i)] [])) by
    obtain ⟨oq1_, oq2_, oq3_, oq4_⟩ := hOW
    exact ⟨oq1_, oq2_, castTop (ef_CX0 m ba i) oq3_, oq4_⟩
  have hS' := hS
  obtain ⟨Si_COMPACT_STRINGS, Sv_SIOOBE_FORMATTER, Rv_SIOOBE_FORMATTER, S__assertionsDisabled, S_HI_BYTE_SHIFT, S_LO_BYTE_SHIFT, Pi_COMPACT_STRINGS⟩ := hS'
  have hmm : mm < cs.length := (List.getElem?_eq_some_iff.mp hcc).1
  refine OW.st (B := s₁.setTop (mkF m 2 #[.val (.ref ba), .val (.int i)] [(.ref ba), (.int i)])) (fun _ kk_ => XS.iloadN X0.here hx rfl (hb hby d27_0) rfl (XS.aloadN X0.here hx rfl (hb hby d27_1) rfl rfl kk_)) ?_
  obtain ⟨cl74, Ar74, q74, S74, Ng74, Hs74, G74⟩ := id B
  refine OW.st (X0.arraylength hx (by rw [e0]; exact Ar74.1) (State.isArrayOf_alike hZ.alike Ar74.2.1) (g := (mkF m 2 #[.val (.ref ba), .val (.int i)] [(.ref ba), (.int i)])) rfl rfl (hb hby d27_2)) ?_
  rw [len_of S74 Ng74]
  show OW p e below s (QCX0 Z ba kb zb cs i mm cc i_COMPACT_STRINGS v_SIOOBE_FORMATTER h0 n0) 0 0 (s₁.setTop (mkF m 3 #[.val (.ref ba), .val (.int i)] [(.int zb), (.int i)]))
  obtain ⟨_, _, ⟨T75, L75, k75, n75⟩, -, X75, ⟨Lc75, hQ75, l75, y75, z75⟩, st75⟩ := Jvm.LawKit.callS X0 hx (y := (⟨"java/lang/String", "checkIndex", "(II)V"⟩ : MethodName)) hown (mvT hZ (w_114 hw)) (mvT hZ (w_94 hw)) (mvT hZ (w_7 hw)) (mvT hZ (w_95 hw)) (by decide) (backOf (W := 0) (rmCK l Z a0 hw [] i zb i_COMPACT_STRINGS v_SIOOBE_FORMATTER h0 n0 O0 (own_nneg hi) (own_ltI hi hzb hmm) hS) hZ (w_95 hw) (w_7 hw) (by decide) (by decide)) (g := (mkF m 3 #[.val (.ref ba), .val (.int i)] [(.int zb), (.int i)])) rfl (by rw [hml]; rfl) (argsL := [(.int i), (.int zb)]) (rest := []) (lenOf pd_10 rfl) rfl (by show 2 * 0 + _ ≤ _; exact Nat.le_of_eq rfl) (hb hby d27_3) (fun _ _ => ⟨rfl, e0, (by decide : 0 + 0 ≤ _), (by decide : 0 + 0 ≤ _)⟩)
  dsimp only [Pt.U, Pt.locs, Pt.cells, Pt.slots] at X75 l75 y75 z75 st75 hQ75
  subst l75 y75 z75
  obtain ⟨rfl, Nq75, e75⟩ := hQ75
  have N75 := Fr.app N0 Nq75
  refine OW.st (B := T75.setTop (mkF m 8 #[.val (.ref ba), .val (.int i)] [(.int i), (.ref ba)])) (fun _ kk_ => st75 _ (XS.aloadN X75.here hx rfl (hb hby d27_6) rfl rfl (XS.iloadN X75.here hx rfl (hb hby d27_7) rfl kk_))) ?_
  obtain ⟨cl76, Ar76, q76, S76, Ng76, Hs76, G76⟩ := id B
  have hin76 : ¬ (i < 0 ∨ cl76.slots.size ≤ (i).toNatClampNeg) := inb_of S76 ⟨own_nneg hi, own_ltI hi hzb hmm⟩
  refine OW.st (B := T75.setTop (mkF m 14 #[.val (.ref ba), .val (.int i)] [(.int (((own_by cc) &&& (255 : Int32)).toUInt32.toUInt16.toUInt32.toInt32))])) (fun _ kk_ => (X75.baloadBytes hx (j := i) (v := (.int (own_by cc))) (by rw [e75]; exact Ar76.1) (State.isArrayOf_alike hZ.alike Ar76.2.1) Ar76.2.2 hin76 (Has.at Hs76 hin76 ((congrArg (fun q => (OwnL cs).getD q _) (own_tn hi)).trans (own_getL hcc))) (g := (mkF m 8 #[.val (.ref ba), .val (.int i)] [(.int i), (.ref ba)])) rfl rfl (hb hby d27_8)) _ (XS.sipush X75.here hx rfl (hb hby d27_9) (XS.iand X75.here hx rfl (hb hby d27_12) rfl (XS.i2c X75.here hx rfl (hb hby d27_13) rfl kk_)))) ?_
  exact OW.ret X75 hx hlk (i := .ireturn) Bd.returns (own_nc _) (Or.inl ⟨rfl, Or.inr (Or.inr (Or.inr (Or.inl rfl))), _, rfl⟩) (hb hby d27_14) e75 (by decide) (by decide) ⟨congrArg (fun z => some (Value.int z)) (own_lc hn hl), N75, rfl⟩
theorem ef_CA0 (m : MethodId) (x0 : Addr) (x1 : Int32) : entryFrame m #[(.ref x0), (.int x1)] 2 = mkF m 0 #[.val (.ref x0), .val (.int x1)] [] := by first | (simp [entryFrame, mkF, argsToLocals, Value.category]; done) | rfl
def QCA0 (Z : State) (b : Addr) (ba : Addr) (kb : ClassId) (zb : Int32) (cs : List Int32) (i : Int32) (mm : Nat) (cc : Int32) (i_COMPACT_STRINGS : Int32) (v_SIOOBE_FORMATTER : Value) (h0 : Heap) (n0 : Nat) (v : Option Value) (h : Heap) (L : List Loc) : Prop := v = some (.int cc) ∧ Fr n0 L ∧ h = h0
set_option maxRecDepth 65536 in
set_option maxHeartbeats 40000000 in
theorem rmCA0 (l : Launch) (Z : State) (a0 : Array Value) (hw : ∀ d ∈ tables_1, d.before a0 Z = true) (ws : List Jvm.Cond) (b : Addr) (ba : Addr) (kb : ClassId) (zb : Int32) (cs : List Int32) (i : Int32) (mm : Nat) (cc : Int32) (i_COMPACT_STRINGS : Int32) (v_SIOOBE_FORMATTER : Value) (h0 : Heap) (n0 : Nat) (O0 : Old Z n0 h0) (E : Exa Z h0 b "java/lang/String") (F1 : Fld Z h0 b "java/lang/String" "value" "[B" (.ref ba)) (F2 : Fld Z h0 b "java/lang/String" "coder" "B" (.int (0 : Int32))) (B : Arv Z h0 ba kb .byte zb (OwnL cs) (.int (0 : Int32))) (hzb : zb.toInt = ((cs.length : Nat) : Int)) (hmax : cs.length ≤ 10) (hi : i.toInt = (mm : Int)) (hcc : cs[mm]? = some cc) (hn : nar .char cc = cc) (hl : ¬ ((255 : Int32) < cc)) (hS : OwnS Z i_COMPACT_STRINGS v_SIOOBE_FORMATTER) :
    MetFree l (⟨"java/lang/String", "charAt", "(I)C"⟩ : MethodName) (head1 (Jvm.Cond.code (⟨"java/lang/String", "charAt", "(I)C"⟩ : MethodName) jdk_42_method_56_code 2 (some .char) :: ws) ({ frames := 3, cells := 0, slots := 0, locals := 40 } : Room)) (fun aa_ UU_ => aa_ = #[(.ref b), (.int i)] ∧ Z.Warmed39 UU_.vm ∧ UU_.heap = h0) (fun _ _ _ _ _ => True) (fun _ UU_ oo_ UV_ => ∃ vv_ LL_, oo_ = .returned vv_ ∧ QCA0 Z b ba kb zb cs i mm cc i_COMPACT_STRINGS v_SIOOBE_FORMATTER h0 n0 vv_ UV_.heap LL_ ∧ FrameEnd UU_ oo_ UV_ LL_ ({ frames := 3, cells := 0, slots := 0, locals := 40 } : Room).cells ({ frames := 3, cells := 0, slots := 0, locals := 40 } : Room).slots) := by
  refine MetFree.of_bodySF (plainFor_of_name pn_0) hisR ?_
  intro p e s m args below meth c s₁ Bd hml0 hP hK
  obtain ⟨rfl, hZ, hh⟩ := hP
  have hx := Bd.exec
  have hby := Bd.bytes
  have hlk := BodyLoose.notSynchronized Bd
  have hml : c.maxLocals = 2 := hml0
  have hown : s.vm.findClass "java/lang/String" = some m.cls := findClass_of_methodNamed Bd.named
  have hnm := (name_of_methodNamed Bd.named Bd.method).1
  have X0 : Stand p l e ({ frames := 3, cells := 0, slots := 0, locals := 40 } : Room) s m #[(.ref b), (.int i)] below meth c s₁ [] 0 0 := Stand.of_body Bd
  have e0 : s₁.heap = h0 := by rw [← hh, Bd.state]; rfl
  have N0 := Fr.nil n0
  suffices hOW : OW p e below s (QCA0 Z b ba kb zb cs i mm cc i_COMPACT_STRINGS v_SIOOBE_FORMATTER h0 n0) 0 0 (s₁.setTop (mkF m 0 #[.val (.ref b), .val (.int i)] [])) by
    obtain ⟨oq1_, oq2_, oq3_, oq4_⟩ := hOW
    exact ⟨oq1_, oq2_, castTop (ef_CA0 m b i) oq3_, oq4_⟩
  have hS' := hS
  obtain ⟨Si_COMPACT_STRINGS, Sv_SIOOBE_FORMATTER, Rv_SIOOBE_FORMATTER, S__assertionsDisabled, S_HI_BYTE_SHIFT, S_LO_BYTE_SHIFT, Pi_COMPACT_STRINGS⟩ := hS'
  have hmm : mm < cs.length := (List.getElem?_eq_some_iff.mp hcc).1
  refine OW.st (B := s₁.setTop (mkF m 1 #[.val (.ref b), .val (.int i)] [(.ref b)])) (fun _ kk_ => XS.aloadN X0.here hx rfl (hb hby d18_0) rfl rfl kk_) ?_
  obtain ⟨cq77, kq77, q77a, q77b, q77c⟩ := isOf hZ e0 E
  obtain ⟨_, _, ⟨T77, L77, k77, n77⟩, -, X77, ⟨Lc77, hQ77, l77, y77, z77⟩, st77⟩ := X0.virtualBack hx (y := (⟨"java/lang/String", "isLatin1", "()Z"⟩ : MethodName)) (z := (⟨"java/lang/String", "isLatin1", "()Z"⟩ : MethodName)) hown (mvT hZ (w_79 hw)) (mvT hZ (w_80 hw)) (notFace_of_selects (args := #[]) (mvT hZ (w_82 hw))) (mvT hZ (w_82 hw)) (mvT hZ (w_81 hw)) (by decide) (backOf (W := 0) (rmIL0 l Z a0 hw [] b i_COMPACT_STRINGS v_SIOOBE_FORMATTER h0 n0 O0 F2 hS) hZ (w_83 hw) (w_7 hw) (by decide) (by decide)) q77a q77c (g := (mkF m 1 #[.val (.ref b), .val (.int i)] [(.ref b)])) rfl (by rw [hml]; rfl) (Steps.refl _) (argsL := []) (rest := []) (lenOf pd_11 rfl) rfl (by show 2 * 0 + _ ≤ _; exact Nat.le_of_eq rfl) (hb hby d18_1) (fun _ _ => ⟨rfl, e0, (by decide : 0 + 0 ≤ _), (by decide : 0 + 0 ≤ _)⟩)
  dsimp only [Pt.U, Pt.locs, Pt.cells, Pt.slots] at X77 l77 y77 z77 st77 hQ77
  subst l77 y77 z77
  obtain ⟨rfl, Nq77, e77⟩ := hQ77
  have N77 := Fr.app N0 Nq77
  refine OW.tr (B := T77.setTop (mkF m 4 #[.val (.ref b), .val (.int i)] [(.int (1 : Int32))])) (st77) ?_
  refine OW.st (B := T77.setTop (mkF m 8 #[.val (.ref b), .val (.int i)] [(.ref b)])) (fun _ kk_ => XS.ifNo X77.here hx rfl (hb hby d18_4) rfl ((if0 _ _).trans (feq (by decide)).1) (XS.aloadN X77.here hx rfl (hb hby d18_7) rfl rfl kk_)) ?_
  obtain ⟨T78, X78, e78, st78⟩ := getF X77 hx hZ hown (host := "") (Or.inl (w_52 hw)) Via.refl e77 F1 (g := (mkF m 8 #[.val (.ref b), .val (.int i)] [(.ref b)])) rfl rfl (hb hby d18_8)
  refine OW.st (B := T78.setTop (mkF m 12 #[.val (.ref b), .val (.int i)] [(.int i), (.ref ba)])) (fun _ kk_ => st78 _ (XS.iloadN X78.here hx rfl (hb hby d18_11) rfl kk_)) ?_
  obtain ⟨_, _, ⟨T79, L79, k79, n79⟩, -, X79, ⟨Lc79, hQ79, l79, y79, z79⟩, st79⟩ := Jvm.LawKit.callS X78 hx (y := (⟨"java/lang/StringLatin1", "charAt", "([BI)C"⟩ : MethodName)) hown (mvT hZ (w_110 hw)) (mvT hZ (w_111 hw)) (mvT hZ (w_112 hw)) (mvT hZ (w_113 hw)) (by decide) (backOf (W := 0) (rmCX0 l Z a0 hw [] ba kb zb cs i mm cc i_COMPACT_STRINGS v_SIOOBE_FORMATTER h0 n0 O0 B hzb hmax hi hcc hn hl hS) hZ (w_113 hw) (w_112 hw) (by decide) (by decide)) (g := (mkF m 12 #[.val (.ref b), .val (.int i)] [(.int i), (.ref ba)])) rfl (by rw [hml]; rfl) (argsL := [(.ref ba), (.int i)]) (rest := []) (lenOf pd_8 rfl) rfl (by show 2 * 0 + _ ≤ _; exact Nat.le_of_eq rfl) (hb hby d18_12) (fun _ _ => ⟨rfl, e78, (by decide : 0 + 0 ≤ _), (by decide : 0 + 0 ≤ _)⟩)
  dsimp only [Pt.U, Pt.locs, Pt.cells, Pt.slots] at X79 l79 y79 z79 st79 hQ79
  subst l79 y79 z79
  obtain ⟨rfl, Nq79, e79⟩ := hQ79
  have N79 := Fr.app N77 Nq79
  refine OW.st (B := T79.setTop (mkF m 15 #[.val (.ref b), .val (.int i)] [(.int cc)])) (fun _ kk_ => st79 _ kk_) ?_
  exact OW.ret X79 hx hlk (i := .ireturn) Bd.returns (congrArg Value.int hn) (Or.inl ⟨rfl, Or.inr (Or.inr (Or.inr (Or.inl rfl))), _, rfl⟩) (hb hby d18_15) e79 (by decide) (by decide) ⟨rfl, N79, rfl⟩
theorem ef_LE1 (m : MethodId) (x0 : Addr) : entryFrame m #[(.ref x0)] 1 = mkF m 0 #[.val (.ref x0)] [] := by first | (simp [entryFrame, mkF, argsToLocals, Value.category]; done) | rfl
def QLE1 (Z : State) (b : Addr) (ba : Addr) (kb : ClassId) (zb : Int32) (cs : List Int32) (zr : Int32) (i_COMPACT_STRINGS : Int32) (v_SIOOBE_FORMATTER : Value) (h0 : Heap) (n0 : Nat) (v : Option Value) (h : Heap) (L : List Loc) : Prop := v = some (.int zr) ∧ Fr n0 L ∧ h = h0
set_option maxRecDepth 65536 in
set_option maxHeartbeats 40000000 in
theorem rmLE1 (l : Launch) (Z : State) (a0 : Array Value) (hw : ∀ d ∈ tables_1, d.before a0 Z = true) (ws : List Jvm.Cond) (b : Addr) (ba : Addr) (kb : ClassId) (zb : Int32) (cs : List Int32) (zr : Int32) (i_COMPACT_STRINGS : Int32) (v_SIOOBE_FORMATTER : Value) (h0 : Heap) (n0 : Nat) (O0 : Old Z n0 h0) (E : Exa Z h0 b "java/lang/String") (F1 : Fld Z h0 b "java/lang/String" "value" "[B" (.ref ba)) (F2 : Fld Z h0 b "java/lang/String" "coder" "B" (.int (1 : Int32))) (B : Arv Z h0 ba kb .byte zb (OwnU cs) (.int (0 : Int32))) (hr : (zb >>> ((1 : Int32) &&& 31)) = zr) (hS : OwnS Z i_COMPACT_STRINGS v_SIOOBE_FORMATTER) :
    MetFree l (⟨"java/lang/String", "length", "()I"⟩ : MethodName) (head1 (Jvm.Cond.code (⟨"java/lang/String", "length", "()I"⟩ : MethodName) jdk_42_method_54_code 1 (some .int) :: ws) ({ frames := 1, cells := 0, slots := 0, locals := 13 } : Room)) (fun aa_ UU_ => aa_ = #[(.ref b)] ∧ Z.Warmed39 UU_.vm ∧ UU_.heap = h0) (fun _ _ _ _ _ => True) (fun _ UU_ oo_ UV_ => ∃ vv_ LL_, oo_ = .returned vv_ ∧ QLE1 Z b ba kb zb cs zr i_COMPACT_STRINGS v_SIOOBE_FORMATTER h0 n0 vv_ UV_.heap LL_ ∧ FrameEnd UU_ oo_ UV_ LL_ ({ frames := 1, cells := 0, slots := 0, locals := 13 } : Room).cells ({ frames := 1, cells := 0, slots := 0, locals := 13 } : Room).slots) := by
  refine MetFree.of_bodySF (plainFor_of_name pn_0) hisR ?_
  intro p e s m args below meth c s₁ Bd hml0 hP hK
  obtain ⟨rfl, hZ, hh⟩ := hP
  have hx := Bd.exec
  have hby := Bd.bytes
  have hlk := BodyLoose.notSynchronized Bd
  have hml : c.maxLocals = 1 := hml0
  have hown : s.vm.findClass "java/lang/String" = some m.cls := findClass_of_methodNamed Bd.named
  have hnm := (name_of_methodNamed Bd.named Bd.method).1
  have X0 : Stand p l e ({ frames := 1, cells := 0, slots := 0, locals := 13 } : Room) s m #[(.ref b)] below meth c s₁ [] 0 0 := Stand.of_body Bd
  have e0 : s₁.heap = h0 := by rw [← hh, Bd.state]; rfl
  have N0 := Fr.nil n0
  suffices hOW : OW p e below s (QLE1 Z b ba kb zb cs zr i_COMPACT_STRINGS v_SIOOBE_FORMATTER h0 n0) 0 0 (s₁.setTop (mkF m 0 #[.val (.ref b)] [])) by
    obtain ⟨oq1_, oq2_, oq3_, oq4_⟩ := hOW
    exact ⟨oq1_, oq2_, castTop (ef_LE1 m b) oq3_, oq4_⟩
  have hS' := hS
  obtain ⟨Si_COMPACT_STRINGS, Sv_SIOOBE_FORMATTER, Rv_SIOOBE_FORMATTER, S__assertionsDisabled, S_HI_BYTE_SHIFT, S_LO_BYTE_SHIFT, Pi_COMPACT_STRINGS⟩ := hS'
  refine OW.st (B := s₁.setTop (mkF m 1 #[.val (.ref b)] [(.ref b)])) (fun _ kk_ => XS.aloadN X0.here hx rfl (hb hby d16_0) rfl rfl kk_) ?_
  obtain ⟨T80, X80, e80, st80⟩ := getF X0 hx hZ hown (host := "") (Or.inl (w_52 hw)) Via.refl e0 F1 (g := (mkF m 1 #[.val (.ref b)] [(.ref b)])) rfl rfl (hb hby d16_1)
  refine OW.st (B := T80.setTop (mkF m 4 #[.val (.ref b)] [(.ref ba)])) (fun _ kk_ => st80 _ kk_) ?_
  obtain ⟨cl81, Ar81, q81, S81, Ng81, Hs81, G81⟩ := id B
  refine OW.st (X80.arraylength hx (by rw [e80]; exact Ar81.1) (State.isArrayOf_alike hZ.alike Ar81.2.1) (g := (mkF m 4 #[.val (.ref b)] [(.ref ba)])) rfl rfl (hb hby d16_4)) ?_
  rw [len_of S81 Ng81]
  show OW p e below s (QLE1 Z b ba kb zb cs zr i_COMPACT_STRINGS v_SIOOBE_FORMATTER h0 n0) 0 0 (T80.setTop (mkF m 5 #[.val (.ref b)] [(.int zb)]))
  refine OW.st (B := T80.setTop (mkF m 6 #[.val (.ref b)] [(.ref b), (.int zb)])) (fun _ kk_ => XS.aloadN X80.here hx rfl (hb hby d16_5) rfl rfl kk_) ?_
  obtain ⟨cq82, kq82, q82a, q82b, q82c⟩ := isOf hZ e80 E
  obtain ⟨_, _, ⟨T82, L82, k82, n82⟩, -, X82, ⟨Lc82, hQ82, l82, y82, z82⟩, st82⟩ := X80.virtualBack hx (y := (⟨"java/lang/String", "coder", "()B"⟩ : MethodName)) (z := (⟨"java/lang/String", "coder", "()B"⟩ : MethodName)) hown (mvT hZ (w_69 hw)) (mvT hZ (w_70 hw)) (notFace_of_selects (args := #[]) (mvT hZ (w_72 hw))) (mvT hZ (w_72 hw)) (mvT hZ (w_71 hw)) (by decide) (backOf (W := 1) (rmCO1 l Z a0 hw [] b i_COMPACT_STRINGS v_SIOOBE_FORMATTER h0 n0 O0 F2 hS) hZ (w_73 hw) (w_7 hw) (by decide) (by decide)) q82a q82c (g := (mkF m 6 #[.val (.ref b)] [(.ref b), (.int zb)])) rfl (by rw [hml]; rfl) (Steps.refl _) (argsL := []) (rest := [(.int zb)]) (lenOf pd_9 rfl) rfl (by show 2 * 0 + _ ≤ _; exact Nat.le_of_eq rfl) (hb hby d16_6) (fun _ _ => ⟨rfl, e80, (by decide : 0 + 0 ≤ _), (by decide : 0 + 0 ≤ _)⟩)
  dsimp only [Pt.U, Pt.locs, Pt.cells, Pt.slots] at X82 l82 y82 z82 st82 hQ82
  subst l82 y82 z82
  obtain ⟨rfl, Nq82, e82⟩ := hQ82
  have N82 := Fr.app N0 Nq82
  refine OW.tr (B := T82.setTop (mkF m 9 #[.val (.ref b)] [(.int (1 : Int32)), (.int zb)])) (st82) ?_
  refine OW.st (B := T82.setTop (mkF m 10 #[.val (.ref b)] [(.int (zb >>> ((1 : Int32) &&& 31)))])) (fun _ kk_ => XS.ishr X82.here hx rfl (hb hby d16_9) rfl kk_) ?_
  exact OW.ret X82 hx hlk (i := .ireturn) Bd.returns rfl (Or.inl ⟨rfl, Or.inl rfl, _, rfl⟩) (hb hby d16_10) e82 (by decide) (by decide) ⟨congrArg (fun z => some (Value.int z)) hr, N82, rfl⟩
theorem ef_UL (m : MethodId) (x0 : Addr) : entryFrame m #[(.ref x0)] 1 = mkF m 0 #[.val (.ref x0)] [] := by first | (simp [entryFrame, mkF, argsToLocals, Value.category]; done) | rfl
def QUL (Z : State) (ba : Addr) (kb : ClassId) (zb : Int32) (cs : List Int32) (h0 : Heap) (n0 : Nat) (v : Option Value) (h : Heap) (L : List Loc) : Prop := v = some (.int (zb >>> ((1 : Int32) &&& 31))) ∧ Fr n0 L ∧ h = h0
set_option maxRecDepth 65536 in
set_option maxHeartbeats 40000000 in
theorem rmUL (l : Launch) (Z : State) (a0 : Array Value) (hw : ∀ d ∈ tables_1, d.before a0 Z = true) (ws : List Jvm.Cond) (ba : Addr) (kb : ClassId) (zb : Int32) (cs : List Int32) (h0 : Heap) (n0 : Nat) (O0 : Old Z n0 h0) (B : Arv Z h0 ba kb .byte zb (OwnU cs) (.int (0 : Int32))) :
    MetFree l (⟨"java/lang/StringUTF16", "length", "([B)I"⟩ : MethodName) (head1 (Jvm.Cond.code (⟨"java/lang/StringUTF16", "length", "([B)I"⟩ : MethodName) jdk_52_method_6_code 1 (some .int) :: ws) ({ frames := 0, cells := 0, slots := 0, locals := 0 } : Room)) (fun aa_ UU_ => aa_ = #[(.ref ba)] ∧ Z.Warmed39 UU_.vm ∧ UU_.heap = h0) (fun _ _ _ _ _ => True) (fun _ UU_ oo_ UV_ => ∃ vv_ LL_, oo_ = .returned vv_ ∧ QUL Z ba kb zb cs h0 n0 vv_ UV_.heap LL_ ∧ FrameEnd UU_ oo_ UV_ LL_ ({ frames := 0, cells := 0, slots := 0, locals := 0 } : Room).cells ({ frames := 0, cells := 0, slots := 0, locals := 0 } : Room).slots) := by
  refine MetFree.of_bodySF (plainFor_of_name pn_2) hisR ?_
  intro p e s m args below meth c s₁ Bd hml0 hP hK
  obtain ⟨rfl, hZ, hh⟩ := hP
  have hx := Bd.exec
  have hby := Bd.bytes
  have hlk := BodyLoose.notSynchronized Bd
  have hml : c.maxLocals = 1 := hml0
  have hown : s.vm.findClass "java/lang/StringUTF16" = some m.cls := findClass_of_methodNamed Bd.named
  have hnm := (name_of_methodNamed Bd.named Bd.method).1
  have X0 : Stand p l e ({ frames := 0, cells := 0, slots := 0, locals := 0 } : Room) s m #[(.ref ba)] below meth c s₁ [] 0 0 := Stand.of_body Bd
  have e0 : s₁.heap = h0 := by rw [← hh, Bd.state]; rfl
  have N0 := Fr.nil n0
  suffices hOW : OW p e below s (QUL Z ba kb zb cs h0 n0) 0 0 (s₁.setTop (mkF m 0 #[.val (.ref ba)] [])) by
    obtain ⟨oq1_, oq2_, oq3_, oq4_⟩ := hOW
    exact ⟨oq1_, oq2_, castTop (ef_UL m ba) oq3_, oq4_⟩
  refine OW.st (B := s₁.setTop (mkF m 1 #[.val (.ref ba)] [(.ref ba)])) (fun _ kk_ => XS.aloadN X0.here hx rfl (hb hby d22_0) rfl rfl kk_) ?_
  obtain ⟨cl83, Ar83, q83, S83, Ng83, Hs83, G83⟩ := id B
  refine OW.st (X0.arraylength hx (by rw [e0]; exact Ar83.1) (State.isArrayOf_alike hZ.alike Ar83.2.1) (g := (mkF m 1 #[.val (.ref ba)] [(.ref ba)])) rfl rfl (hb hby d22_1)) ?_
  rw [len_of S83 Ng83]
  show OW p e below s (QUL Z ba kb zb cs h0 n0) 0 0 (s₁.setTop (mkF m 2 #[.val (.ref ba)] [(.int zb)]))
  refine OW.st (B := s₁.setTop (mkF m 4 #[.val (.ref ba)] [(.int (zb >>> ((1 : Int32) &&& 31)))])) (fun _ kk_ => XS.iconst X0.here hx rfl (hb hby d22_2) (XS.ishr X0.here hx rfl (hb hby d22_3) rfl kk_)) ?_
  exact OW.ret X0 hx hlk (i := .ireturn) Bd.returns rfl (Or.inl ⟨rfl, Or.inl rfl, _, rfl⟩) (hb hby d22_4) e0 (by decide) (by decide) ⟨rfl, N0, rfl⟩
theorem ef_UK (m : MethodId) (x0 : Int32) (x1 : Addr) : entryFrame m #[(.int x0), (.ref x1)] 2 = mkF m 0 #[.val (.int x0), .val (.ref x1)] [] := by first | (simp [entryFrame, mkF, argsToLocals, Value.category]; done) | rfl
def QUK (Z : State) (ba : Addr) (kb : ClassId) (zb : Int32) (cs : List Int32) (i : Int32) (mm : Nat) (i_COMPACT_STRINGS : Int32) (v_SIOOBE_FORMATTER : Value) (h0 : Heap) (n0 : Nat) (v : Option Value) (h : Heap) (L : List Loc) : Prop := v = none ∧ Fr n0 L ∧ h = h0
set_option maxRecDepth 65536 in
set_option maxHeartbeats 40000000 in
theorem rmUK (l : Launch) (Z : State) (a0 : Array Value) (hw : ∀ d ∈ tables_1, d.before a0 Z = true) (ws : List Jvm.Cond) (ba : Addr) (kb : ClassId) (zb : Int32) (cs : List Int32) (i : Int32) (mm : Nat) (i_COMPACT_STRINGS : Int32) (v_SIOOBE_FORMATTER : Value) (h0 : Heap) (n0 : Nat) (O0 : Old Z n0 h0) (B : Arv Z h0 ba kb .byte zb (OwnU cs) (.int (0 : Int32))) (hzb : zb.toInt = ((2 * cs.length : Nat) : Int)) (hmax : cs.length ≤ 10) (hi : i.toInt = (mm : Int)) (hmm : mm < cs.length) (hS : OwnS Z i_COMPACT_STRINGS v_SIOOBE_FORMATTER) :
    MetFree l (⟨"java/lang/StringUTF16", "checkIndex", "(I[B)V"⟩ : MethodName) (head1 (Jvm.Cond.code (⟨"java/lang/StringUTF16", "checkIndex", "(I[B)V"⟩ : MethodName) jdk_52_method_91_code 2 none :: ws) ({ frames := 2, cells := 0, slots := 0, locals := 27 } : Room)) (fun aa_ UU_ => aa_ = #[(.int i), (.ref ba)] ∧ Z.Warmed39 UU_.vm ∧ UU_.heap = h0) (fun _ _ _ _ _ => True) (fun _ UU_ oo_ UV_ => ∃ vv_ LL_, oo_ = .returned vv_ ∧ QUK Z ba kb zb cs i mm i_COMPACT_STRINGS v_SIOOBE_FORMATTER h0 n0 vv_ UV_.heap LL_ ∧ FrameEnd UU_ oo_ UV_ LL_ ({ frames := 2, cells := 0, slots := 0, locals := 27 } : Room).cells ({ frames := 2, cells := 0, slots := 0, locals := 27 } : Room).slots) := by
  refine MetFree.of_bodySF (plainFor_of_name pn_2) hisR ?_
  intro p e s m args below meth c s₁ Bd hml0 hP hK
  obtain ⟨rfl, hZ, hh⟩ := hP
  have hx := Bd.exec
  have hby := Bd.bytes
  have hlk := BodyLoose.notSynchronized Bd
  have hml : c.maxLocals = 2 := hml0
  have hown : s.vm.findClass "java/lang/StringUTF16" = some m.cls := findClass_of_methodNamed Bd.named
  have hnm := (name_of_methodNamed Bd.named Bd.method).1
  have X0 : Stand p l e ({ frames := 2, cells := 0, slots := 0, locals := 27 } : Room) s m #[(.int i), (.ref ba)] below meth c s₁ [] 0 0 := Stand.of_body Bd
  have e0 : s₁.heap = h0 := by rw [← hh, Bd.state]; rfl
  have N0 := Fr.nil n0
  suffices hOW : OW p e below s (QUK Z ba kb zb cs i mm i_COMPACT_STRINGS v_SIOOBE_FORMATTER h0 n0) 0 0 (s₁.setTop (mkF m 0 #[.val (.int i), .val (.ref ba)] [])) by
    obtain ⟨oq1_, oq2_, oq3_, oq4_⟩ := hOW
    exact ⟨oq1_, oq2_, castTop (ef_UK m i ba) oq3_, oq4_⟩
  have hS' := hS
  obtain ⟨Si_COMPACT_STRINGS, Sv_SIOOBE_FORMATTER, Rv_SIOOBE_FORMATTER, S__assertionsDisabled, S_HI_BYTE_SHIFT, S_LO_BYTE_SHIFT, Pi_COMPACT_STRINGS⟩ := hS'
  refine OW.st (B := s₁.setTop (mkF m 2 #[.val (.int i), .val (.ref ba)] [(.ref ba), (.int i)])) (fun _ kk_ => XS.iloadN X0.here hx rfl (hb hby d21_0) rfl (XS.aloadN X0.here hx rfl (hb hby d21_1) rfl rfl kk_)) ?_
  obtain ⟨_, _, ⟨T84, L84, k84, n84⟩, -, X84, ⟨Lc84, hQ84, l84, y84, z84⟩, st84⟩ := Jvm.LawKit.callS X0 hx (y := (⟨"java/lang/StringUTF16", "length", "([B)I"⟩ : MethodName)) hown (mvT hZ (w_90 hw)) (mvT hZ (w_91 hw)) (mvT hZ (w_22 hw)) (mvT hZ (w_92 hw)) (by decide) (backOf (W := 1) (rmUL l Z a0 hw [] ba kb zb cs h0 n0 O0 B) hZ (w_92 hw) (w_22 hw) (by decide) (by decide)) (g := (mkF m 2 #[.val (.int i), .val (.ref ba)] [(.ref ba), (.int i)])) rfl (by rw [hml]; rfl) (argsL := [(.ref ba)]) (rest := [(.int i)]) (lenOf pd_12 rfl) rfl (by show 2 * 0 + _ ≤ _; exact Nat.le_of_eq rfl) (hb hby d21_2) (fun _ _ => ⟨rfl, e0, (by decide : 0 + 0 ≤ _), (by decide : 0 + 0 ≤ _)⟩)
  dsimp only [Pt.U, Pt.locs, Pt.cells, Pt.slots] at X84 l84 y84 z84 st84 hQ84
  subst l84 y84 z84
  obtain ⟨rfl, Nq84, e84⟩ := hQ84
  have N84 := Fr.app N0 Nq84
  refine OW.st (B := T84.setTop (mkF m 5 #[.val (.int i), .val (.ref ba)] [(.int (zb >>> ((1 : Int32) &&& 31))), (.int i)])) (fun _ kk_ => st84 _ kk_) ?_
  obtain ⟨_, _, ⟨T85, L85, k85, n85⟩, -, X85, ⟨Lc85, hQ85, l85, y85, z85⟩, st85⟩ := Jvm.LawKit.callS X84 hx (y := (⟨"java/lang/String", "checkIndex", "(II)V"⟩ : MethodName)) hown (mvT hZ (w_93 hw)) (mvT hZ (w_94 hw)) (mvT hZ (w_7 hw)) (mvT hZ (w_95 hw)) (by decide) (backOf (W := 0) (rmCK l Z a0 hw [] i (zb >>> ((1 : Int32) &&& 31)) i_COMPACT_STRINGS v_SIOOBE_FORMATTER h0 n0 O0 (own_nneg hi) (own_hlf hi hzb hmm hmax) hS) hZ (w_95 hw) (w_7 hw) (by decide) (by decide)) (g := (mkF m 5 #[.val (.int i), .val (.ref ba)] [(.int (zb >>> ((1 : Int32) &&& 31))), (.int i)])) rfl (by rw [hml]; rfl) (argsL := [(.int i), (.int (zb >>> ((1 : Int32) &&& 31)))]) (rest := []) (lenOf pd_10 rfl) rfl (by show 2 * 0 + _ ≤ _; exact Nat.le_of_eq rfl) (hb hby d21_5) (fun _ _ => ⟨rfl, e84, (by decide : 0 + 0 ≤ _), (by decide : 0 + 0 ≤ _)⟩)
  dsimp only [Pt.U, Pt.locs, Pt.cells, Pt.slots] at X85 l85 y85 z85 st85 hQ85
  subst l85 y85 z85
  obtain ⟨rfl, Nq85, e85⟩ := hQ85
  have N85 := Fr.app N84 Nq85
  refine OW.st (B := T85.setTop (mkF m 8 #[.val (.int i), .val (.ref ba)] [])) (fun _ kk_ => st85 _ kk_) ?_
  exact OW.retV X85 hx hlk Bd.returns (hb hby d21_8) e85 (by decide) (by decide) ⟨rfl, N85, rfl⟩
theorem ef_CX1 (m : MethodId) (x0 : Addr) (x1 : Int32) : entryFrame m #[(.ref x0), (.int x1)] 2 = mkF m 0 #[.val (.ref x0), .val (.int x1)] [] := by first | (simp [entryFrame, mkF, argsToLocals, Value.category]; done) | rfl
def QCX1 (Z : State) (ba : Addr) (kb : ClassId) (zb : Int32) (cs : List Int32) (i : Int32) (mm : Nat) (cc : Int32) (i_COMPACT_STRINGS : Int32) (v_SIOOBE_FORMATTER : Value) (h0 : Heap) (n0 : Nat) (v : Option Value) (h : Heap) (L : List Loc) : Prop := v = some (.int cc) ∧ Fr n0 L ∧ h = h0
set_option maxRecDepth 65536 in
set_option maxHeartbeats 40000000 in
theorem rmCX1 (l : Launch) (Z : State) (a0 : Array Value) (hw : ∀ d ∈ tables_1, d.before a0 Z = true) (ws : List Jvm.Cond) (ba : Addr) (kb : ClassId) (zb : Int32) (cs : List Int32) (i : Int32) (mm : Nat) (cc : Int32) (i_COMPACT_STRINGS : Int32) (v_SIOOBE_FORMATTER : Value) (h0 : Heap) (n0 : Nat) (O0 : Old Z n0 h0) (B : Arv Z h0 ba kb .byte zb (OwnU cs) (.int (0 : Int32))) (hzb : zb.toInt = ((2 * cs.length : Nat) : Int)) (hmax : cs.length ≤ 10) (hi : i.toInt = (mm : Int)) (hcc : cs[mm]? = some cc) (hn : nar .char cc = cc) (hS : OwnS Z i_COMPACT_STRINGS v_SIOOBE_FORMATTER) :
    MetFree l (⟨"java/lang/StringUTF16", "charAt", "([BI)C"⟩ : MethodName) (head1 (Jvm.Cond.code (⟨"java/lang/StringUTF16", "charAt", "([BI)C"⟩ : MethodName) jdk_52_method_83_code 2 (some .char) :: ws) ({ frames := 3, cells := 0, slots := 0, locals := 40 } : Room)) (fun aa_ UU_ => aa_ = #[(.ref ba), (.int i)] ∧ Z.Warmed39 UU_.vm ∧ UU_.heap = h0) (fun _ _ _ _ _ => True) (fun _ UU_ oo_ UV_ => ∃ vv_ LL_, oo_ = .returned vv_ ∧ QCX1 Z ba kb zb cs i mm cc i_COMPACT_STRINGS v_SIOOBE_FORMATTER h0 n0 vv_ UV_.heap LL_ ∧ FrameEnd UU_ oo_ UV_ LL_ ({ frames := 3, cells := 0, slots := 0, locals := 40 } : Room).cells ({ frames := 3, cells := 0, slots := 0, locals := 40 } : Room).slots) := by
  refine MetFree.of_bodySF (plainFor_of_name pn_2) hisR ?_
  intro p e s m args below meth c s₁ Bd hml0 hP hK
  obtain ⟨rfl, hZ, hh⟩ := hP
  have hx := Bd.exec
  have hby := Bd.bytes
  have hlk := BodyLoose.notSynchronized Bd
  have hml : c.maxLocals = 2 := hml0
  have hown : s.vm.findClass "java/lang/StringUTF16" = some m.cls := findClass_of_methodNamed Bd.named
  have hnm := (name_of_methodNamed Bd.named Bd.method).1
  have X0 : Stand p l e ({ frames := 3, cells := 0, slots := 0, locals := 40 } : Room) s m #[(.ref ba), (.int i)] below meth c s₁ [] 0 0 := Stand.of_body Bd
  have e0 : s₁.heap = h0 := by rw [← hh, Bd.state]; rfl
  have N0 := Fr.nil n0
  suffices hOW : OW p e below s (QCX1 Z ba kb zb cs i mm cc i_COMPACT_STRINGS v_SIOOBE_FORMATTER h0 n0) 0 0 (s₁.setTop (mkF m 0 #[.val (.ref ba), .val (.int i)] [])) by
    obtain ⟨oq1_, oq2_, oq3_, oq4_⟩ := hOW
    exact ⟨oq1_, oq2_, castTop (ef_CX1 m ba i) oq3_, oq4_⟩
  have hS' := hS
  obtain ⟨Si_COMPACT_STRINGS, Sv_SIOOBE_FORMATTER, Rv_SIOOBE_FORMATTER, S__assertionsDisabled, S_HI_BYTE_SHIFT, S_LO_BYTE_SHIFT, Pi_COMPACT_STRINGS⟩ := hS'
  have hmm : mm < cs.length := (List.getElem?_eq_some_iff.mp hcc).1
  have hz2 := hzb
  have hch' := hn
  refine OW.st (B := s₁.setTop (mkF m 2 #[.val (.ref ba), .val (.int i)] [(.ref ba), (.int i)])) (fun _ kk_ => XS.iloadN X0.here hx rfl (hb hby d20_0) rfl (XS.aloadN X0.here hx rfl (hb hby d20_1) rfl rfl kk_)) ?_
  obtain ⟨_, _, ⟨T86, L86, k86, n86⟩, -, X86, ⟨Lc86, hQ86, l86, y86, z86⟩, st86⟩ := Jvm.LawKit.callS X0 hx (y := (⟨"java/lang/StringUTF16", "checkIndex", "(I[B)V"⟩ : MethodName)) hown (mvT hZ (w_87 hw)) (mvT hZ (w_88 hw)) (mvT hZ (w_22 hw)) (mvT hZ (w_89 hw)) (by decide) (backOf (W := 0) (rmUK l Z a0 hw [] ba kb zb cs i mm i_COMPACT_STRINGS v_SIOOBE_FORMATTER h0 n0 O0 B hzb hmax hi hmm hS) hZ (w_89 hw) (w_22 hw) (by decide) (by decide)) (g := (mkF m 2 #[.val (.ref ba), .val (.int i)] [(.ref ba), (.int i)])) rfl (by rw [hml]; rfl) (argsL := [(.int i), (.ref ba)]) (rest := []) (lenOf pd_13 rfl) rfl (by show 2 * 0 + _ ≤ _; exact Nat.le_of_eq rfl) (hb hby d20_2) (fun _ _ => ⟨rfl, e0, (by decide : 0 + 0 ≤ _), (by decide : 0 + 0 ≤ _)⟩)
  dsimp only [Pt.U, Pt.locs, Pt.cells, Pt.slots] at X86 l86 y86 z86 st86 hQ86
  subst l86 y86 z86
  obtain ⟨rfl, Nq86, e86⟩ := hQ86
  have N86 := Fr.app N0 Nq86
  refine OW.st (B := T86.setTop (mkF m 7 #[.val (.ref ba), .val (.int i)] [(.int i), (.ref ba)])) (fun _ kk_ => st86 _ (XS.aloadN X86.here hx rfl (hb hby d20_5) rfl rfl (XS.iloadN X86.here hx rfl (hb hby d20_6) rfl kk_))) ?_
  obtain ⟨_, _, ⟨T87, L87, k87, n87⟩, -, X87, ⟨Lc87, hQ87, l87, y87, z87⟩, st87⟩ := Jvm.LawKit.callS X86 hx (y := (⟨"java/lang/StringUTF16", "getChar", "([BI)C"⟩ : MethodName)) hown (mvT hZ (w_44 hw)) (mvT hZ (w_45 hw)) (mvT hZ (w_22 hw)) (mvT hZ (w_46 hw)) (by decide) (backOf (W := 0) (rmGC l Z a0 hw [] ba kb zb cs i mm cc i_COMPACT_STRINGS v_SIOOBE_FORMATTER h0 n0 O0 B hz2 hmax hi hcc hn hS) hZ (w_46 hw) (w_22 hw) (by decide) (by decide)) (g := (mkF m 7 #[.val (.ref ba), .val (.int i)] [(.int i), (.ref ba)])) rfl (by rw [hml]; rfl) (argsL := [(.ref ba), (.int i)]) (rest := []) (lenOf pd_8 rfl) rfl (by show 2 * 0 + _ ≤ _; exact Nat.le_of_eq rfl) (hb hby d20_7) (fun _ _ => ⟨rfl, e86, (by decide : 0 + 0 ≤ _), (by decide : 0 + 0 ≤ _)⟩)
  dsimp only [Pt.U, Pt.locs, Pt.cells, Pt.slots] at X87 l87 y87 z87 st87 hQ87
  subst l87 y87 z87
  obtain ⟨rfl, Nq87, e87⟩ := hQ87
  have N87 := Fr.app N86 Nq87
  refine OW.st (B := T87.setTop (mkF m 10 #[.val (.ref ba), .val (.int i)] [(.int cc)])) (fun _ kk_ => st87 _ kk_) ?_
  exact OW.ret X87 hx hlk (i := .ireturn) Bd.returns (congrArg Value.int hn) (Or.inl ⟨rfl, Or.inr (Or.inr (Or.inr (Or.inl rfl))), _, rfl⟩) (hb hby d20_10) e87 (by decide) (by decide) ⟨rfl, N87, rfl⟩
theorem ef_CA1 (m : MethodId) (x0 : Addr) (x1 : Int32) : entryFrame m #[(.ref x0), (.int x1)] 2 = mkF m 0 #[.val (.ref x0), .val (.int x1)] [] := by first | (simp [entryFrame, mkF, argsToLocals, Value.category]; done) | rfl
def QCA1 (Z : State) (b : Addr) (ba : Addr) (kb : ClassId) (zb : Int32) (cs : List Int32) (i : Int32) (mm : Nat) (cc : Int32) (i_COMPACT_STRINGS : Int32) (v_SIOOBE_FORMATTER : Value) (h0 : Heap) (n0 : Nat) (v : Option Value) (h : Heap) (L : List Loc) : Prop := v = some (.int cc) ∧ Fr n0 L ∧ h = h0
set_option maxRecDepth 65536 in
set_option maxHeartbeats 40000000 in
theorem rmCA1 (l : Launch) (Z : State) (a0 : Array Value) (hw : ∀ d ∈ tables_1, d.before a0 Z = true) (ws : List Jvm.Cond) (b : Addr) (ba : Addr) (kb : ClassId) (zb : Int32) (cs : List Int32) (i : Int32) (mm : Nat) (cc : Int32) (i_COMPACT_STRINGS : Int32) (v_SIOOBE_FORMATTER : Value) (h0 : Heap) (n0 : Nat) (O0 : Old Z n0 h0) (E : Exa Z h0 b "java/lang/String") (F1 : Fld Z h0 b "java/lang/String" "value" "[B" (.ref ba)) (F2 : Fld Z h0 b "java/lang/String" "coder" "B" (.int (1 : Int32))) (B : Arv Z h0 ba kb .byte zb (OwnU cs) (.int (0 : Int32))) (hzb : zb.toInt = ((2 * cs.length : Nat) : Int)) (hmax : cs.length ≤ 10) (hi : i.toInt = (mm : Int)) (hcc : cs[mm]? = some cc) (hn : nar .char cc = cc) (hS : OwnS Z i_COMPACT_STRINGS v_SIOOBE_FORMATTER) :
    MetFree l (⟨"java/lang/String", "charAt", "(I)C"⟩ : MethodName) (head1 (Jvm.Cond.code (⟨"java/lang/String", "charAt", "(I)C"⟩ : MethodName) jdk_42_method_56_code 2 (some .char) :: ws) ({ frames := 4, cells := 0, slots := 0, locals := 53 } : Room)) (fun aa_ UU_ => aa_ = #[(.ref b), (.int i)] ∧ Z.Warmed39 UU_.vm ∧ UU_.heap = h0) (fun _ _ _ _ _ => True) (fun _ UU_ oo_ UV_ => ∃ vv_ LL_, oo_ = .returned vv_ ∧ QCA1 Z b ba kb zb cs i mm cc i_COMPACT_STRINGS v_SIOOBE_FORMATTER h0 n0 vv_ UV_.heap LL_ ∧ FrameEnd UU_ oo_ UV_ LL_ ({ frames := 4, cells := 0, slots := 0, locals := 53 } : Room).cells ({ frames := 4, cells := 0, slots := 0, locals := 53 } : Room).slots) := by
  refine MetFree.of_bodySF (plainFor_of_name pn_0) hisR ?_
  intro p e s m args below meth c s₁ Bd hml0 hP hK
  obtain ⟨rfl, hZ, hh⟩ := hP
  have hx := Bd.exec
  have hby := Bd.bytes
  have hlk := BodyLoose.notSynchronized Bd
  have hml : c.maxLocals = 2 := hml0
  have hown : s.vm.findClass "java/lang/String" = some m.cls := findClass_of_methodNamed Bd.named
  have hnm := (name_of_methodNamed Bd.named Bd.method).1
  have X0 : Stand p l e ({ frames := 4, cells := 0, slots := 0, locals := 53 } : Room) s m #[(.ref b), (.int i)] below meth c s₁ [] 0 0 := Stand.of_body Bd
  have e0 : s₁.heap = h0 := by rw [← hh, Bd.state]; rfl
  have N0 := Fr.nil n0
  suffices hOW : OW p e below s (QCA1 Z b ba kb zb cs i mm cc i_COMPACT_STRINGS v_SIOOBE_FORMATTER h0 n0) 0 0 (s₁.setTop (mkF m 0 #[.val (.ref b), .val (.int i)] [])) by
    obtain ⟨oq1_, oq2_, oq3_, oq4_⟩ := hOW
    exact ⟨oq1_, oq2_, castTop (ef_CA1 m b i) oq3_, oq4_⟩
  have hS' := hS
  obtain ⟨Si_COMPACT_STRINGS, Sv_SIOOBE_FORMATTER, Rv_SIOOBE_FORMATTER, S__assertionsDisabled, S_HI_BYTE_SHIFT, S_LO_BYTE_SHIFT, Pi_COMPACT_STRINGS⟩ := hS'
  have hmm : mm < cs.length := (List.getElem?_eq_some_iff.mp hcc).1
  refine OW.st (B := s₁.setTop (mkF m 1 #[.val (.ref b), .val (.int i)] [(.ref b)])) (fun _ kk_ => XS.aloadN X0.here hx rfl (hb hby d18_0) rfl rfl kk_) ?_
  obtain ⟨cq88, kq88, q88a, q88b, q88c⟩ := isOf hZ e0 E
  obtain ⟨_, _, ⟨T88, L88, k88, n88⟩, -, X88, ⟨Lc88, hQ88, l88, y88, z88⟩, st88⟩ := X0.virtualBack hx (y := (⟨"java/lang/String", "isLatin1", "()Z"⟩ : MethodName)) (z := (⟨"java/lang/String", "isLatin1", "()Z"⟩ : MethodName)) hown (mvT hZ (w_79 hw)) (mvT hZ (w_80 hw)) (notFace_of_selects (args := #[]) (mvT hZ (w_82 hw))) (mvT hZ (w_82 hw)) (mvT hZ (w_81 hw)) (by decide) (backOf (W := 0) (rmIL1 l Z a0 hw [] b i_COMPACT_STRINGS v_SIOOBE_FORMATTER h0 n0 O0 F2 hS) hZ (w_83 hw) (w_7 hw) (by decide) (by decide)) q88a q88c (g := (mkF m 1 #[.val (.ref b), .val (.int i)] [(.ref b)])) rfl (by rw [hml]; rfl) (Steps.refl _) (argsL := []) (rest := []) (lenOf pd_11 rfl) rfl (by show 2 * 0 + _ ≤ _; exact Nat.le_of_eq rfl) (hb hby d18_1) (fun _ _ => ⟨rfl, e0, (by decide : 0 + 0 ≤ _), (by decide : 0 + 0 ≤ _)⟩)
  dsimp only [Pt.U, Pt.locs, Pt.cells, Pt.slots] at X88 l88 y88 z88 st88 hQ88
  subst l88 y88 z88
  obtain ⟨rfl, Nq88, e88⟩ := hQ88
  have N88 := Fr.app N0 Nq88
  refine OW.tr (B := T88.setTop (mkF m 4 #[.val (.ref b), .val (.int i)] [(.int (0 : Int32))])) (st88) ?_
  refine OW.st (B := T88.setTop (mkF m 17 #[.val (.ref b), .val (.int i)] [(.ref b)])) (fun _ kk_ => XS.ifYes X88.here hx rfl (pc0 := 4) (pc' := 16) rfl (hb hby d18_4) rfl ((if0 _ _).trans (teq (by decide)).1) (by decide) (by decide) (XS.aloadN X88.here hx rfl (hb hby d18_16) rfl rfl kk_)) ?_
  obtain ⟨T89, X89, e89, st89⟩ := getF X88 hx hZ hown (host := "") (Or.inl (w_52 hw)) Via.refl e88 F1 (g := (mkF m 17 #[.val (.ref b), .val (.int i)] [(.ref b)])) rfl rfl (hb hby d18_17)
  refine OW.st (B := T89.setTop (mkF m 21 #[.val (.ref b), .val (.int i)] [(.int i), (.ref ba)])) (fun _ kk_ => st89 _ (XS.iloadN X89.here hx rfl (hb hby d18_20) rfl kk_)) ?_
  obtain ⟨_, _, ⟨T90, L90, k90, n90⟩, -, X90, ⟨Lc90, hQ90, l90, y90, z90⟩, st90⟩ := Jvm.LawKit.callS X89 hx (y := (⟨"java/lang/StringUTF16", "charAt", "([BI)C"⟩ : MethodName)) hown (mvT hZ (w_84 hw)) (mvT hZ (w_85 hw)) (mvT hZ (w_22 hw)) (mvT hZ (w_86 hw)) (by decide) (backOf (W := 0) (rmCX1 l Z a0 hw [] ba kb zb cs i mm cc i_COMPACT_STRINGS v_SIOOBE_FORMATTER h0 n0 O0 B hzb hmax hi hcc hn hS) hZ (w_86 hw) (w_22 hw) (by decide) (by decide)) (g := (mkF m 21 #[.val (.ref b), .val (.int i)] [(.int i), (.ref ba)])) rfl (by rw [hml]; rfl) (argsL := [(.ref ba), (.int i)]) (rest := []) (lenOf pd_8 rfl) rfl (by show 2 * 0 + _ ≤ _; exact Nat.le_of_eq rfl) (hb hby d18_21) (fun _ _ => ⟨rfl, e89, (by decide : 0 + 0 ≤ _), (by decide : 0 + 0 ≤ _)⟩)
  dsimp only [Pt.U, Pt.locs, Pt.cells, Pt.slots] at X90 l90 y90 z90 st90 hQ90
  subst l90 y90 z90
  obtain ⟨rfl, Nq90, e90⟩ := hQ90
  have N90 := Fr.app N88 Nq90
  refine OW.st (B := T90.setTop (mkF m 24 #[.val (.ref b), .val (.int i)] [(.int cc)])) (fun _ kk_ => st90 _ kk_) ?_
  exact OW.ret X90 hx hlk (i := .ireturn) Bd.returns (congrArg Value.int hn) (Or.inl ⟨rfl, Or.inr (Or.inr (Or.inr (Or.inl rfl))), _, rfl⟩) (hb hby d18_24) e90 (by decide) (by decide) ⟨rfl, N90, rfl⟩
theorem ef_AL (m : MethodId) (x0 : Int32) : entryFrame m #[(.int x0)] 1 = mkF m 0 #[.val (.int x0)] [] := by first | (simp [entryFrame, mkF, argsToLocals, Value.category]; done) | rfl
def QAL (Z : State) (k1 : Int32) (h0 : Heap) (n0 : Nat) (v : Option Value) (h : Heap) (L : List Loc) : Prop := ∃ u : Int32, v = some (.int u) ∧ Fr n0 L ∧ h = h0 ∧ nar .char u = u
set_option maxRecDepth 65536 in
set_option maxHeartbeats 40000000 in
theorem rmAL (l : Launch) (Z : State) (a0 : Array Value) (hw : ∀ d ∈ tables_1, d.before a0 Z = true) (ws : List Jvm.Cond) (k1 : Int32) (h0 : Heap) (n0 : Nat) (O0 : Old Z n0 h0) :
    MetFree l (⟨"tenorbook/book/CusipIsValidPinLaw", "alpha", "(I)C"⟩ : MethodName) (head1 (Jvm.Cond.code (⟨"tenorbook/book/CusipIsValidPinLaw", "alpha", "(I)C"⟩ : MethodName) method_4_code 1 (some .char) :: ws) ({ frames := 0, cells := 0, slots := 0, locals := 0 } : Room)) (fun aa_ UU_ => aa_ = #[(.int k1)] ∧ Z.Warmed39 UU_.vm ∧ UU_.heap = h0) (fun _ _ _ _ _ => True) (fun _ UU_ oo_ UV_ => ∃ vv_ LL_, oo_ = .returned vv_ ∧ QAL Z k1 h0 n0 vv_ UV_.heap LL_ ∧ FrameEnd UU_ oo_ UV_ LL_ ({ frames := 0, cells := 0, slots := 0, locals := 0 } : Room).cells ({ frames := 0, cells := 0, slots := 0, locals := 0 } : Room).slots) := by
  refine MetFree.of_bodySF (plainFor_of_name pn_4) hisR ?_
  intro p e s m args below meth c s₁ Bd hml0 hP hK
  obtain ⟨rfl, hZ, hh⟩ := hP
  have hx := Bd.exec
  have hby := Bd.bytes
  have hlk := BodyLoose.notSynchronized Bd
  have hml : c.maxLocals = 1 := hml0
  have hown : s.vm.findClass "tenorbook/book/CusipIsValidPinLaw" = some m.cls := findClass_of_methodNamed Bd.named
  have hnm := (name_of_methodNamed Bd.named Bd.method).1
  have X0 : Stand p l e ({ frames := 0, cells := 0, slots := 0, locals := 0 } : Room) s m #[(.int k1)] below meth c s₁ [] 0 0 := Stand.of_body Bd
  have e0 : s₁.heap = h0 := by rw [← hh, Bd.state]; rfl
  have N0 := Fr.nil n0
  suffices hOW : OW p e below s (QAL Z k1 h0 n0) 0 0 (s₁.setTop (mkF m 0 #[.val (.int k1)] [])) by
    obtain ⟨oq1_, oq2_, oq3_, oq4_⟩ := hOW
    exact ⟨oq1_, oq2_, castTop (ef_AL m k1) oq3_, oq4_⟩
  refine OW.st (B := s₁.setTop (mkF m 3 #[.val (.int k1)] [(.int (10 : Int32)), (.int k1)])) (fun _ kk_ => XS.iloadN X0.here hx rfl (hb hby d26_0) rfl (XS.bipush X0.here hx rfl (hb hby d26_1) kk_)) ?_
  by_cases hc91 : k1 < (10 : Int32)
  · refine OW.st (B := s₁.setTop (mkF m 11 #[.val (.int k1)] [(.int (((48 : Int32) + k1).toUInt32.toUInt16.toUInt32.toInt32))])) (fun _ kk_ => XS.icmpNo X0.here hx rfl (hb hby d26_3) rfl (tlt hc91).2.1 (XS.bipush X0.here hx rfl (hb hby d26_6) (XS.iloadN X0.here hx rfl (hb hby d26_8) rfl (XS.iadd X0.here hx rfl (hb hby d26_9) rfl (XS.i2c X0.here hx rfl (hb hby d26_10) rfl kk_))))) ?_
    exact OW.ret X0 hx hlk (i := .ireturn) Bd.returns (own_nc _) (Or.inl ⟨rfl, Or.inr (Or.inr (Or.inr (Or.inl rfl))), _, rfl⟩) (hb hby d26_11) e0 (by decide) (by decide) ⟨_, rfl, N0, rfl, own_nch _⟩
  · refine OW.st (B := s₁.setTop (mkF m 15 #[.val (.int k1)] [(.int (36 : Int32)), (.int k1)])) (fun _ kk_ => XS.icmpYes X0.here hx rfl (pc0 := 3) (pc' := 12) rfl (hb hby d26_3) rfl (flt hc91).2.1 (by decide) (by decide) (XS.iloadN X0.here hx rfl (hb hby d26_12) rfl (XS.bipush X0.here hx rfl (hb hby d26_13) kk_))) ?_
    by_cases hc92 : k1 < (36 : Int32)
    · refine OW.st (B := s₁.setTop (mkF m 26 #[.val (.int k1)] [(.int (((65 : Int32) + (k1 - (10 : Int32))).toUInt32.toUInt16.toUInt32.toInt32))])) (fun _ kk_ => XS.icmpNo X0.here hx rfl (hb hby d26_15) rfl (tlt hc92).2.1 (XS.bipush X0.here hx rfl (hb hby d26_18) (XS.iloadN X0.here hx rfl (hb hby d26_20) rfl (XS.bipush X0.here hx rfl (hb hby d26_21) (XS.isub X0.here hx rfl (hb hby d26_23) rfl (XS.iadd X0.here hx rfl (hb hby d26_24) rfl (XS.i2c X0.here hx rfl (hb hby d26_25) rfl kk_))))))) ?_
      exact OW.ret X0 hx hlk (i := .ireturn) Bd.returns (own_nc _) (Or.inl ⟨rfl, Or.inr (Or.inr (Or.inr (Or.inl rfl))), _, rfl⟩) (hb hby d26_26) e0 (by decide) (by decide) ⟨_, rfl, N0, rfl, own_nch _⟩
    · refine OW.st (B := s₁.setTop (mkF m 30 #[.val (.int k1)] [(.int (36 : Int32)), (.int k1)])) (fun _ kk_ => XS.icmpYes X0.here hx rfl (pc0 := 15) (pc' := 27) rfl (hb hby d26_15) rfl (flt hc92).2.1 (by decide) (by decide) (XS.iloadN X0.here hx rfl (hb hby d26_27) rfl (XS.bipush X0.here hx rfl (hb hby d26_28) kk_))) ?_
      by_cases hc93 : k1 = (36 : Int32)
      · refine OW.st (B := s₁.setTop (mkF m 35 #[.val (.int k1)] [(.int (42 : Int32))])) (fun _ kk_ => XS.icmpNo X0.here hx rfl (hb hby d26_30) rfl (teq hc93).2 (XS.bipush X0.here hx rfl (hb hby d26_33) kk_)) ?_
        exact OW.ret X0 hx hlk (i := .ireturn) Bd.returns rfl (Or.inl ⟨rfl, Or.inr (Or.inr (Or.inr (Or.inl rfl))), _, rfl⟩) (hb hby d26_35) e0 (by decide) (by decide) ⟨_, rfl, N0, rfl, rfl⟩
      · refine OW.st (B := s₁.setTop (mkF m 39 #[.val (.int k1)] [(.int (37 : Int32)), (.int k1)])) (fun _ kk_ => XS.icmpYes X0.here hx rfl (pc0 := 30) (pc' := 36) rfl (hb hby d26_30) rfl (feq hc93).2 (by decide) (by decide) (XS.iloadN X0.here hx rfl (hb hby d26_36) rfl (XS.bipush X0.here hx rfl (hb hby d26_37) kk_))) ?_
        by_cases hc94 : k1 = (37 : Int32)
        · refine OW.st (B := s₁.setTop (mkF m 44 #[.val (.int k1)] [(.int (64 : Int32))])) (fun _ kk_ => XS.icmpNo X0.here hx rfl (hb hby d26_39) rfl (teq hc94).2 (XS.bipush X0.here hx rfl (hb hby d26_42) kk_)) ?_
          exact OW.ret X0 hx hlk (i := .ireturn) Bd.returns rfl (Or.inl ⟨rfl, Or.inr (Or.inr (Or.inr (Or.inl rfl))), _, rfl⟩) (hb hby d26_44) e0 (by decide) (by decide) ⟨_, rfl, N0, rfl, rfl⟩
        · refine OW.st (B := s₁.setTop (mkF m 47 #[.val (.int k1)] [(.int (35 : Int32))])) (fun _ kk_ => XS.icmpYes X0.here hx rfl (pc0 := 39) (pc' := 45) rfl (hb hby d26_39) rfl (feq hc94).2 (by decide) (by decide) (XS.bipush X0.here hx rfl (hb hby d26_45) kk_)) ?_
          exact OW.ret X0 hx hlk (i := .ireturn) Bd.returns rfl (Or.inl ⟨rfl, Or.inr (Or.inr (Or.inr (Or.inl rfl))), _, rfl⟩) (hb hby d26_47) e0 (by decide) (by decide) ⟨_, rfl, N0, rfl, rfl⟩
theorem ef_DR (m : MethodId) (x0 : Int32) : entryFrame m #[(.int x0)] 1 = mkF m 0 #[.val (.int x0)] [] := by first | (simp [entryFrame, mkF, argsToLocals, Value.category]; done) | rfl
def QDR (Z : State) (k1 : Int32) (h0 : Heap) (n0 : Nat) (v : Option Value) (h : Heap) (L : List Loc) : Prop := ∃ u : Int32, v = some (.int u) ∧ Fr n0 L ∧ h = h0 ∧ nar .char u = u
set_option maxRecDepth 65536 in
set_option maxHeartbeats 40000000 in
theorem rmDR (l : Launch) (Z : State) (a0 : Array Value) (hw : ∀ d ∈ tables_1, d.before a0 Z = true) (ws : List Jvm.Cond) (k1 : Int32) (h0 : Heap) (n0 : Nat) (O0 : Old Z n0 h0) :
    MetFree l (⟨"tenorbook/book/CusipIsValidPinLaw", "draw", "(I)C"⟩ : MethodName) (head1 (Jvm.Cond.code (⟨"tenorbook/book/CusipIsValidPinLaw", "draw", "(I)C"⟩ : MethodName) method_3_code 1 (some .char) :: ws) ({ frames := 1, cells := 0, slots := 0, locals := 12 } : Room)) (fun aa_ UU_ => aa_ = #[(.int k1)] ∧ Z.Warmed39 UU_.vm ∧ UU_.heap = h0) (fun _ _ _ _ _ => True) (fun _ UU_ oo_ UV_ => ∃ vv_ LL_, oo_ = .returned vv_ ∧ QDR Z k1 h0 n0 vv_ UV_.heap LL_ ∧ FrameEnd UU_ oo_ UV_ LL_ ({ frames := 1, cells := 0, slots := 0, locals := 12 } : Room).cells ({ frames := 1, cells := 0, slots := 0, locals := 12 } : Room).slots) := by
  refine MetFree.of_bodySF (plainFor_of_name pn_4) hisR ?_
  intro p e s m args below meth c s₁ Bd hml0 hP hK
  obtain ⟨rfl, hZ, hh⟩ := hP
  have hx := Bd.exec
  have hby := Bd.bytes
  have hlk := BodyLoose.notSynchronized Bd
  have hml : c.maxLocals = 1 := hml0
  have hown : s.vm.findClass "tenorbook/book/CusipIsValidPinLaw" = some m.cls := findClass_of_methodNamed Bd.named
  have hnm := (name_of_methodNamed Bd.named Bd.method).1
  have X0 : Stand p l e ({ frames := 1, cells := 0, slots := 0, locals := 12 } : Room) s m #[(.int k1)] below meth c s₁ [] 0 0 := Stand.of_body Bd
  have e0 : s₁.heap = h0 := by rw [← hh, Bd.state]; rfl
  have N0 := Fr.nil n0
  suffices hOW : OW p e below s (QDR Z k1 h0 n0) 0 0 (s₁.setTop (mkF m 0 #[.val (.int k1)] [])) by
    obtain ⟨oq1_, oq2_, oq3_, oq4_⟩ := hOW
    exact ⟨oq1_, oq2_, castTop (ef_DR m k1) oq3_, oq4_⟩
  refine OW.st (B := s₁.setTop (mkF m 6 #[.val (.int k1)] [(.int (((k1.toUInt32 >>> ((16 : Int32) &&& 31).toUInt32).toInt32) &&& (1 : Int32)))])) (fun _ kk_ => XS.iloadN X0.here hx rfl (hb hby d1_0) rfl (XS.bipush X0.here hx rfl (hb hby d1_1) (XS.iushr X0.here hx rfl (hb hby d1_3) rfl (XS.iconst X0.here hx rfl (hb hby d1_4) (XS.iand X0.here hx rfl (hb hby d1_5) rfl kk_))))) ?_
  by_cases hc95 : (((k1.toUInt32 >>> ((16 : Int32) &&& 31).toUInt32).toInt32) &&& (1 : Int32)) = (0 : Int32)
  · refine OW.st (B := s₁.setTop (mkF m 25 #[.val (.int k1)] [(.int ((k1 &&& (65535 : Int32)).toUInt32.toUInt16.toUInt32.toInt32))])) (fun _ kk_ => XS.ifYes X0.here hx rfl (pc0 := 6) (pc' := 20) rfl (hb hby d1_6) rfl ((if0 _ _).trans (teq hc95).1) (by decide) (by decide) (XS.iloadN X0.here hx rfl (hb hby d1_20) rfl ((X0.ldcInt hx hown (mvT hZ (w_4 hw)) (g := (mkF m 21 #[.val (.int k1)] [(.int k1)])) rfl (hb hby d1_21)) _ (XS.iand X0.here hx rfl (hb hby d1_23) rfl (XS.i2c X0.here hx rfl (hb hby d1_24) rfl kk_))))) ?_
    exact OW.ret X0 hx hlk (i := .ireturn) Bd.returns (own_nc _) (Or.inl ⟨rfl, Or.inr (Or.inr (Or.inr (Or.inl rfl))), _, rfl⟩) (hb hby d1_25) e0 (by decide) (by decide) ⟨_, rfl, N0, rfl, own_nch _⟩
  · refine OW.st (B := s₁.setTop (mkF m 16 #[.val (.int k1)] [(.int ((k1 &&& (65535 : Int32)) % (39 : Int32)))])) (fun _ kk_ => XS.ifNo X0.here hx rfl (hb hby d1_6) rfl ((if0 _ _).trans (feq hc95).1) (XS.iloadN X0.here hx rfl (hb hby d1_9) rfl ((X0.ldcInt hx hown (mvT hZ (w_4 hw)) (g := (mkF m 10 #[.val (.int k1)] [(.int k1)])) rfl (hb hby d1_10)) _ (XS.iand X0.here hx rfl (hb hby d1_12) rfl (XS.bipush X0.here hx rfl (hb hby d1_13) (iremM X0 hx rfl (hb hby d1_15) rfl (by decide) kk_)))))) ?_
    obtain ⟨_, _, ⟨T96, L96, k96, n96⟩, -, X96, ⟨Lc96, hQ96, l96, y96, z96⟩, st96⟩ := Jvm.LawKit.callS X0 hx (y := (⟨"tenorbook/book/CusipIsValidPinLaw", "alpha", "(I)C"⟩ : MethodName)) hown (mvT hZ (w_104 hw)) (mvT hZ (w_105 hw)) (mvT hZ (w_2 hw)) (mvT hZ (w_106 hw)) (by decide) (backOf (W := 0) (rmAL l Z a0 hw [] ((k1 &&& (65535 : Int32)) % (39 : Int32)) h0 n0 O0 ) hZ (w_106 hw) (w_2 hw) (by decide) (by decide)) (g := (mkF m 16 #[.val (.int k1)] [(.int ((k1 &&& (65535 : Int32)) % (39 : Int32)))])) rfl (by rw [hml]; rfl) (argsL := [(.int ((k1 &&& (65535 : Int32)) % (39 : Int32)))]) (rest := []) (lenOf pd_14 rfl) rfl (by show 2 * 0 + _ ≤ _; exact Nat.le_of_eq rfl) (hb hby d1_16) (fun _ _ => ⟨rfl, e0, (by decide : 0 + 0 ≤ _), (by decide : 0 + 0 ≤ _)⟩)
    dsimp only [Pt.U, Pt.locs, Pt.cells, Pt.slots] at X96 l96 y96 z96 st96 hQ96
    subst l96 y96 z96
    obtain ⟨u96, rfl, Nq96, e96, hn96⟩ := hQ96
    have N96 := Fr.app N0 Nq96
    refine OW.st (B := T96.setTop (mkF m 19 #[.val (.int k1)] [(.int u96)])) (fun _ kk_ => st96 _ kk_) ?_
    exact OW.ret X96 hx hlk (i := .ireturn) Bd.returns (congrArg Value.int hn96) (Or.inl ⟨rfl, Or.inr (Or.inr (Or.inr (Or.inl rfl))), _, rfl⟩) (hb hby d1_19) e96 (by decide) (by decide) ⟨_, rfl, N96, rfl, hn96⟩
theorem ef_RV (m : MethodId) (x0 : Int32) : entryFrame m #[(.int x0)] 1 = mkF m 0 #[.val (.int x0)] [] := by first | (simp [entryFrame, mkF, argsToLocals, Value.category]; done) | rfl
def QRV (Z : State) (c1 : Int32) (h0 : Heap) (n0 : Nat) (v : Option Value) (h : Heap) (L : List Loc) : Prop := v = some (.int (own_val c1)) ∧ Fr n0 L ∧ h = h0
set_option maxRecDepth 65536 in
set_option maxHeartbeats 40000000 in
theorem rmRV (l : Launch) (Z : State) (a0 : Array Value) (hw : ∀ d ∈ tables_1, d.before a0 Z = true) (ws : List Jvm.Cond) (c1 : Int32) (h0 : Heap) (n0 : Nat) (O0 : Old Z n0 h0) :
    MetFree l (⟨"tenorbook/book/CusipIsValidPinLaw", "refValue", "(C)I"⟩ : MethodName) (head1 (Jvm.Cond.code (⟨"tenorbook/book/CusipIsValidPinLaw", "refValue", "(C)I"⟩ : MethodName) method_5_code 1 (some .int) :: ws) ({ frames := 0, cells := 0, slots := 0, locals := 0 } : Room)) (fun aa_ UU_ => aa_ = #[(.int c1)] ∧ Z.Warmed39 UU_.vm ∧ UU_.heap = h0) (fun _ _ _ _ _ => True) (fun _ UU_ oo_ UV_ => ∃ vv_ LL_, oo_ = .returned vv_ ∧ QRV Z c1 h0 n0 vv_ UV_.heap LL_ ∧ FrameEnd UU_ oo_ UV_ LL_ ({ frames := 0, cells := 0, slots := 0, locals := 0 } : Room).cells ({ frames := 0, cells := 0, slots := 0, locals := 0 } : Room).slots) := by
  refine MetFree.of_bodySF (plainFor_of_name pn_4) hisR ?_
  intro p e s m args below meth c s₁ Bd hml0 hP hK
  obtain ⟨rfl, hZ, hh⟩ := hP
  have hx := Bd.exec
  have hby := Bd.bytes
  have hlk := BodyLoose.notSynchronized Bd
  have hml : c.maxLocals = 1 := hml0
  have hown : s.vm.findClass "tenorbook/book/CusipIsValidPinLaw" = some m.cls := findClass_of_methodNamed Bd.named
  have hnm := (name_of_methodNamed Bd.named Bd.method).1
  have X0 : Stand p l e ({ frames := 0, cells := 0, slots := 0, locals := 0 } : Room) s m #[(.int c1)] below meth c s₁ [] 0 0 := Stand.of_body Bd
  have e0 : s₁.heap = h0 := by rw [← hh, Bd.state]; rfl
  have N0 := Fr.nil n0
  suffices hOW : OW p e below s (QRV Z c1 h0 n0) 0 0 (s₁.setTop (mkF m 0 #[.val (.int c1)] [])) by
    obtain ⟨oq1_, oq2_, oq3_, oq4_⟩ := hOW
    exact ⟨oq1_, oq2_, castTop (ef_RV m c1) oq3_, oq4_⟩
  refine OW.st (B := s₁.setTop (mkF m 3 #[.val (.int c1)] [(.int (48 : Int32)), (.int c1)])) (fun _ kk_ => XS.iloadN X0.here hx rfl (hb hby d14_0) rfl (XS.bipush X0.here hx rfl (hb hby d14_1) kk_)) ?_
  by_cases hc97 : c1 < (48 : Int32)
  · refine OW.st (B := s₁.setTop (mkF m 20 #[.val (.int c1)] [(.int (65 : Int32)), (.int c1)])) (fun _ kk_ => XS.icmpYes X0.here hx rfl (pc0 := 3) (pc' := 17) rfl (hb hby d14_3) rfl (tlt hc97).1 (by decide) (by decide) (XS.iloadN X0.here hx rfl (hb hby d14_17) rfl (XS.bipush X0.here hx rfl (hb hby d14_18) kk_))) ?_
    by_cases hc98 : c1 < (65 : Int32)
    · refine OW.st (B := s₁.setTop (mkF m 40 #[.val (.int c1)] [(.int (42 : Int32)), (.int c1)])) (fun _ kk_ => XS.icmpYes X0.here hx rfl (pc0 := 20) (pc' := 37) rfl (hb hby d14_20) rfl (tlt hc98).1 (by decide) (by decide) (XS.iloadN X0.here hx rfl (hb hby d14_37) rfl (XS.bipush X0.here hx rfl (hb hby d14_38) kk_))) ?_
      by_cases hc99 : c1 = (42 : Int32)
      · refine OW.st (B := s₁.setTop (mkF m 45 #[.val (.int c1)] [(.int (36 : Int32))])) (fun _ kk_ => XS.icmpNo X0.here hx rfl (hb hby d14_40) rfl (teq hc99).2 (XS.bipush X0.here hx rfl (hb hby d14_43) kk_)) ?_
        exact OW.ret X0 hx hlk (i := .ireturn) Bd.returns rfl (Or.inl ⟨rfl, Or.inl rfl, _, rfl⟩) (hb hby d14_45) e0 (by decide) (by decide) ⟨congrArg (fun z => some (Value.int z)) (by simp only [own_val, own_v2, own_v3, eq_true hc97, eq_true hc98, eq_true hc99, ↓reduceIte]), N0, rfl⟩
      · refine OW.st (B := s₁.setTop (mkF m 49 #[.val (.int c1)] [(.int (64 : Int32)), (.int c1)])) (fun _ kk_ => XS.icmpYes X0.here hx rfl (pc0 := 40) (pc' := 46) rfl (hb hby d14_40) rfl (feq hc99).2 (by decide) (by decide) (XS.iloadN X0.here hx rfl (hb hby d14_46) rfl (XS.bipush X0.here hx rfl (hb hby d14_47) kk_))) ?_
        by_cases hc100 : c1 = (64 : Int32)
        · refine OW.st (B := s₁.setTop (mkF m 54 #[.val (.int c1)] [(.int (37 : Int32))])) (fun _ kk_ => XS.icmpNo X0.here hx rfl (hb hby d14_49) rfl (teq hc100).2 (XS.bipush X0.here hx rfl (hb hby d14_52) kk_)) ?_
          exact OW.ret X0 hx hlk (i := .ireturn) Bd.returns rfl (Or.inl ⟨rfl, Or.inl rfl, _, rfl⟩) (hb hby d14_54) e0 (by decide) (by decide) ⟨congrArg (fun z => some (Value.int z)) (by simp only [own_val, own_v2, own_v3, eq_true hc97, eq_true hc98, eq_false hc99, eq_true hc100, ↓reduceIte]), N0, rfl⟩
        · refine OW.st (B := s₁.setTop (mkF m 58 #[.val (.int c1)] [(.int (35 : Int32)), (.int c1)])) (fun _ kk_ => XS.icmpYes X0.here hx rfl (pc0 := 49) (pc' := 55) rfl (hb hby d14_49) rfl (feq hc100).2 (by decide) (by decide) (XS.iloadN X0.here hx rfl (hb hby d14_55) rfl (XS.bipush X0.here hx rfl (hb hby d14_56) kk_))) ?_
          by_cases hc101 : c1 = (35 : Int32)
          · refine OW.st (B := s₁.setTop (mkF m 63 #[.val (.int c1)] [(.int (38 : Int32))])) (fun _ kk_ => XS.icmpNo X0.here hx rfl (hb hby d14_58) rfl (teq hc101).2 (XS.bipush X0.here hx rfl (hb hby d14_61) kk_)) ?_
            exact OW.ret X0 hx hlk (i := .ireturn) Bd.returns rfl (Or.inl ⟨rfl, Or.inl rfl, _, rfl⟩) (hb hby d14_63) e0 (by decide) (by decide) ⟨congrArg (fun z => some (Value.int z)) (by simp only [own_val, own_v2, own_v3, eq_true hc97, eq_true hc98, eq_false hc99, eq_false hc100, eq_true hc101, ↓reduceIte]), N0, rfl⟩
          · refine OW.st (B := s₁.setTop (mkF m 65 #[.val (.int c1)] [(.int (-1 : Int32))])) (fun _ kk_ => XS.icmpYes X0.here hx rfl (pc0 := 58) (pc' := 64) rfl (hb hby d14_58) rfl (feq hc101).2 (by decide) (by decide) (XS.iconst X0.here hx rfl (hb hby d14_64) kk_)) ?_
            exact OW.ret X0 hx hlk (i := .ireturn) Bd.returns rfl (Or.inl ⟨rfl, Or.inl rfl, _, rfl⟩) (hb hby d14_65) e0 (by decide) (by decide) ⟨congrArg (fun z => some (Value.int z)) (by simp only [own_val, own_v2, own_v3, eq_true hc97, eq_true hc98, eq_false hc99, eq_false hc100, eq_false hc101, ↓reduceIte]), N0, rfl⟩
    · refine OW.st (B := s₁.setTop (mkF m 26 #[.val (.int c1)] [(.int (90 : Int32)), (.int c1)])) (fun _ kk_ => XS.icmpNo X0.here hx rfl (hb hby d14_20) rfl (flt hc98).1 (XS.iloadN X0.here hx rfl (hb hby d14_23) rfl (XS.bipush X0.here hx rfl (hb hby d14_24) kk_))) ?_
      by_cases hc102 : (90 : Int32) < c1
      · refine OW.st (B := s₁.setTop (mkF m 40 #[.val (.int c1)] [(.int (42 : Int32)), (.int c1)])) (fun _ kk_ => XS.icmpYes X0.here hx rfl (pc0 := 26) (pc' := 37) rfl (hb hby d14_26) rfl (tlt hc102).2.2.1 (by decide) (by decide) (XS.iloadN X0.here hx rfl (hb hby d14_37) rfl (XS.bipush X0.here hx rfl (hb hby d14_38) kk_))) ?_
        by_cases hc103 : c1 = (42 : Int32)
        · refine OW.st (B := s₁.setTop (mkF m 45 #[.val (.int c1)] [(.int (36 : Int32))])) (fun _ kk_ => XS.icmpNo X0.here hx rfl (hb hby d14_40) rfl (teq hc103).2 (XS.bipush X0.here hx rfl (hb hby d14_43) kk_)) ?_
          exact OW.ret X0 hx hlk (i := .ireturn) Bd.returns rfl (Or.inl ⟨rfl, Or.inl rfl, _, rfl⟩) (hb hby d14_45) e0 (by decide) (by decide) ⟨congrArg (fun z => some (Value.int z)) (by simp only [own_val, own_v2, own_v3, eq_true hc97, eq_false hc98, eq_true hc102, eq_true hc103, ↓reduceIte]), N0, rfl⟩
        · refine OW.st (B := s₁.setTop (mkF m 49 #[.val (.int c1)] [(.int (64 : Int32)), (.int c1)])) (fun _ kk_ => XS.icmpYes X0.here hx rfl (pc0 := 40) (pc' := 46) rfl (hb hby d14_40) rfl (feq hc103).2 (by decide) (by decide) (XS.iloadN X0.here hx rfl (hb hby d14_46) rfl (XS.bipush X0.here hx rfl (hb hby d14_47) kk_))) ?_
          by_cases hc104 : c1 = (64 : Int32)
          · refine OW.st (B := s₁.setTop (mkF m 54 #[.val (.int c1)] [(.int (37 : Int32))])) (fun _ kk_ => XS.icmpNo X0.here hx rfl (hb hby d14_49) rfl (teq hc104).2 (XS.bipush X0.here hx rfl (hb hby d14_52) kk_)) ?_
            exact OW.ret X0 hx hlk (i := .ireturn) Bd.returns rfl (Or.inl ⟨rfl, Or.inl rfl, _, rfl⟩) (hb hby d14_54) e0 (by decide) (by decide) ⟨congrArg (fun z => some (Value.int z)) (by simp only [own_val, own_v2, own_v3, eq_true hc97, eq_false hc98, eq_true hc102, eq_false hc103, eq_true hc104, ↓reduceIte]), N0, rfl⟩
          · refine OW.st (B := s₁.setTop (mkF m 58 #[.val (.int c1)] [(.int (35 : Int32)), (.int c1)])) (fun _ kk_ => XS.icmpYes X0.here hx rfl (pc0 := 49) (pc' := 55) rfl (hb hby d14_49) rfl (feq hc104).2 (by decide) (by decide) (XS.iloadN X0.here hx rfl (hb hby d14_55) rfl (XS.bipush X0.here hx rfl (hb hby d14_56) kk_))) ?_
            by_cases hc105 : c1 = (35 : Int32)
            · refine OW.st (B := s₁.setTop (mkF m 63 #[.val (.int c1)] [(.int (38 : Int32))])) (fun _ kk_ => XS.icmpNo X0.here hx rfl (hb hby d14_58) rfl (teq hc105).2 (XS.bipush X0.here hx rfl (hb hby d14_61) kk_)) ?_
              exact OW.ret X0 hx hlk (i := .ireturn) Bd.returns rfl (Or.inl ⟨rfl, Or.inl rfl, _, rfl⟩) (hb hby d14_63) e0 (by decide) (by decide) ⟨congrArg (fun z => some (Value.int z)) (by simp only [own_val, own_v2, own_v3, eq_true hc97, eq_false hc98, eq_true hc102, eq_false hc103, eq_false hc104, eq_true hc105, ↓reduceIte]), N0, rfl⟩
            · refine OW.st (B := s₁.setTop (mkF m 65 #[.val (.int c1)] [(.int (-1 : Int32))])) (fun _ kk_ => XS.icmpYes X0.here hx rfl (pc0 := 58) (pc' := 64) rfl (hb hby d14_58) rfl (feq hc105).2 (by decide) (by decide) (XS.iconst X0.here hx rfl (hb hby d14_64) kk_)) ?_
              exact OW.ret X0 hx hlk (i := .ireturn) Bd.returns rfl (Or.inl ⟨rfl, Or.inl rfl, _, rfl⟩) (hb hby d14_65) e0 (by decide) (by decide) ⟨congrArg (fun z => some (Value.int z)) (by simp only [own_val, own_v2, own_v3, eq_true hc97, eq_false hc98, eq_true hc102, eq_false hc103, eq_false hc104, eq_false hc105, ↓reduceIte]), N0, rfl⟩
      · refine OW.st (B := s₁.setTop (mkF m 36 #[.val (.int c1)] [(.int ((c1 - (65 : Int32)) + (10 : Int32)))])) (fun _ kk_ => XS.icmpNo X0.here hx rfl (hb hby d14_26) rfl (flt hc102).2.2.1 (XS.iloadN X0.here hx rfl (hb hby d14_29) rfl (XS.bipush X0.here hx rfl (hb hby d14_30) (XS.isub X0.here hx rfl (hb hby d14_32) rfl (XS.bipush X0.here hx rfl (hb hby d14_33) (XS.iadd X0.here hx rfl (hb hby d14_35) rfl kk_)))))) ?_
        exact OW.ret X0 hx hlk (i := .ireturn) Bd.returns rfl (Or.inl ⟨rfl, Or.inl rfl, _, rfl⟩) (hb hby d14_36) e0 (by decide) (by decide) ⟨congrArg (fun z => some (Value.int z)) (by simp only [own_val, own_v2, own_v3, eq_true hc97, eq_false hc98, eq_false hc102, ↓reduceIte]), N0, rfl⟩
  · refine OW.st (B := s₁.setTop (mkF m 9 #[.val (.int c1)] [(.int (57 : Int32)), (.int c1)])) (fun _ kk_ => XS.icmpNo X0.here hx rfl (hb hby d14_3) rfl (flt hc97).1 (XS.iloadN X0.here hx rfl (hb hby d14_6) rfl (XS.bipush X0.here hx rfl (hb hby d14_7) kk_))) ?_
    by_cases hc106 : (57 : Int32) < c1
    · refine OW.st (B := s₁.setTop (mkF m 20 #[.val (.int c1)] [(.int (65 : Int32)), (.int c1)])) (fun _ kk_ => XS.icmpYes X0.here hx rfl (pc0 := 9) (pc' := 17) rfl (hb hby d14_9) rfl (tlt hc106).2.2.1 (by decide) (by decide) (XS.iloadN X0.here hx rfl (hb hby d14_17) rfl (XS.bipush X0.here hx rfl (hb hby d14_18) kk_))) ?_
      by_cases hc107 : c1 < (65 : Int32)
      · refine OW.st (B := s₁.setTop (mkF m 40 #[.val (.int c1)] [(.int (42 : Int32)), (.int c1)])) (fun _ kk_ => XS.icmpYes X0.here hx rfl (pc0 := 20) (pc' := 37) rfl (hb hby d14_20) rfl (tlt hc107).1 (by decide) (by decide) (XS.iloadN X0.here hx rfl (hb hby d14_37) rfl (XS.bipush X0.here hx rfl (hb hby d14_38) kk_))) ?_
        by_cases hc108 : c1 = (42 : Int32)
        · refine OW.st (B := s₁.setTop (mkF m 45 #[.val (.int c1)] [(.int (36 : Int32))])) (fun _ kk_ => XS.icmpNo X0.here hx rfl (hb hby d14_40) rfl (teq hc108).2 (XS.bipush X0.here hx rfl (hb hby d14_43) kk_)) ?_
          exact OW.ret X0 hx hlk (i := .ireturn) Bd.returns rfl (Or.inl ⟨rfl, Or.inl rfl, _, rfl⟩) (hb hby d14_45) e0 (by decide) (by decide) ⟨congrArg (fun z => some (Value.int z)) (by simp only [own_val, own_v2, own_v3, eq_false hc97, eq_true hc106, eq_true hc107, eq_true hc108, ↓reduceIte]), N0, rfl⟩
        · refine OW.st (B := s₁.setTop (mkF m 49 #[.val (.int c1)] [(.int (64 : Int32)), (.int c1)])) (fun _ kk_ => XS.icmpYes X0.here hx rfl (pc0 := 40) (pc' := 46) rfl (hb hby d14_40) rfl (feq hc108).2 (by decide) (by decide) (XS.iloadN X0.here hx rfl (hb hby d14_46) rfl (XS.bipush X0.here hx rfl (hb hby d14_47) kk_))) ?_
          by_cases hc109 : c1 = (64 : Int32)
          · refine OW.st (B := s₁.setTop (mkF m 54 #[.val (.int c1)] [(.int (37 : Int32))])) (fun _ kk_ => XS.icmpNo X0.here hx rfl (hb hby d14_49) rfl (teq hc109).2 (XS.bipush X0.here hx rfl (hb hby d14_52) kk_)) ?_
            exact OW.ret X0 hx hlk (i := .ireturn) Bd.returns rfl (Or.inl ⟨rfl, Or.inl rfl, _, rfl⟩) (hb hby d14_54) e0 (by decide) (by decide) ⟨congrArg (fun z => some (Value.int z)) (by simp only [own_val, own_v2, own_v3, eq_false hc97, eq_true hc106, eq_true hc107, eq_false hc108, eq_true hc109, ↓reduceIte]), N0, rfl⟩
          · refine OW.st (B := s₁.setTop (mkF m 58 #[.val (.int c1)] [(.int (35 : Int32)), (.int c1)])) (fun _ kk_ => XS.icmpYes X0.here hx rfl (pc0 := 49) (pc' := 55) rfl (hb hby d14_49) rfl (feq hc109).2 (by decide) (by decide) (XS.iloadN X0.here hx rfl (hb hby d14_55) rfl (XS.bipush X0.here hx rfl (hb hby d14_56) kk_))) ?_
            by_cases hc110 : c1 = (35 : Int32)
            · refine OW.st (B := s₁.setTop (mkF m 63 #[.val (.int c1)] [(.int (38 : Int32))])) (fun _ kk_ => XS.icmpNo X0.here hx rfl (hb hby d14_58) rfl (teq hc110).2 (XS.bipush X0.here hx rfl (hb hby d14_61) kk_)) ?_
              exact OW.ret X0 hx hlk (i := .ireturn) Bd.returns rfl (Or.inl ⟨rfl, Or.inl rfl, _, rfl⟩) (hb hby d14_63) e0 (by decide) (by decide) ⟨congrArg (fun z => some (Value.int z)) (by simp only [own_val, own_v2, own_v3, eq_false hc97, eq_true hc106, eq_true hc107, eq_false hc108, eq_false hc109, eq_true hc110, ↓reduceIte]), N0, rfl⟩
            · refine OW.st (B := s₁.setTop (mkF m 65 #[.val (.int c1)] [(.int (-1 : Int32))])) (fun _ kk_ => XS.icmpYes X0.here hx rfl (pc0 := 58) (pc' := 64) rfl (hb hby d14_58) rfl (feq hc110).2 (by decide) (by decide) (XS.iconst X0.here hx rfl (hb hby d14_64) kk_)) ?_
              exact OW.ret X0 hx hlk (i := .ireturn) Bd.returns rfl (Or.inl ⟨rfl, Or.inl rfl, _, rfl⟩) (hb hby d14_65) e0 (by decide) (by decide) ⟨congrArg (fun z => some (Value.int z)) (by simp only [own_val, own_v2, own_v3, eq_false hc97, eq_true hc106, eq_true hc107, eq_false hc108, eq_false hc109, eq_false hc110, ↓reduceIte]), N0, rfl⟩
      · refine OW.st (B := s₁.setTop (mkF m 26 #[.val (.int c1)] [(.int (90 : Int32)), (.int c1)])) (fun _ kk_ => XS.icmpNo X0.here hx rfl (hb hby d14_20) rfl (flt hc107).1 (XS.iloadN X0.here hx rfl (hb hby d14_23) rfl (XS.bipush X0.here hx rfl (hb hby d14_24) kk_))) ?_
        by_cases hc111 : (90 : Int32) < c1
        · refine OW.st (B := s₁.setTop (mkF m 40 #[.val (.int c1)] [(.int (42 : Int32)), (.int c1)])) (fun _ kk_ => XS.icmpYes X0.here hx rfl (pc0 := 26) (pc' := 37) rfl (hb hby d14_26) rfl (tlt hc111).2.2.1 (by decide) (by decide) (XS.iloadN X0.here hx rfl (hb hby d14_37) rfl (XS.bipush X0.here hx rfl (hb hby d14_38) kk_))) ?_
          by_cases hc112 : c1 = (42 : Int32)
          · refine OW.st (B := s₁.setTop (mkF m 45 #[.val (.int c1)] [(.int (36 : Int32))])) (fun _ kk_ => XS.icmpNo X0.here hx rfl (hb hby d14_40) rfl (teq hc112).2 (XS.bipush X0.here hx rfl (hb hby d14_43) kk_)) ?_
            exact OW.ret X0 hx hlk (i := .ireturn) Bd.returns rfl (Or.inl ⟨rfl, Or.inl rfl, _, rfl⟩) (hb hby d14_45) e0 (by decide) (by decide) ⟨congrArg (fun z => some (Value.int z)) (by simp only [own_val, own_v2, own_v3, eq_false hc97, eq_true hc106, eq_false hc107, eq_true hc111, eq_true hc112, ↓reduceIte]), N0, rfl⟩
          · refine OW.st (B := s₁.setTop (mkF m 49 #[.val (.int c1)] [(.int (64 : Int32)), (.int c1)])) (fun _ kk_ => XS.icmpYes X0.here hx rfl (pc0 := 40) (pc' := 46) rfl (hb hby d14_40) rfl (feq hc112).2 (by decide) (by decide) (XS.iloadN X0.here hx rfl (hb hby d14_46) rfl (XS.bipush X0.here hx rfl (hb hby d14_47) kk_))) ?_
            by_cases hc113 : c1 = (64 : Int32)
            · refine OW.st (B := s₁.setTop (mkF m 54 #[.val (.int c1)] [(.int (37 : Int32))])) (fun _ kk_ => XS.icmpNo X0.here hx rfl (hb hby d14_49) rfl (teq hc113).2 (XS.bipush X0.here hx rfl (hb hby d14_52) kk_)) ?_
              exact OW.ret X0 hx hlk (i := .ireturn) Bd.returns rfl (Or.inl ⟨rfl, Or.inl rfl, _, rfl⟩) (hb hby d14_54) e0 (by decide) (by decide) ⟨congrArg (fun z => some (Value.int z)) (by simp only [own_val, own_v2, own_v3, eq_false hc97, eq_true hc106, eq_false hc107, eq_true hc111, eq_false hc112, eq_true hc113, ↓reduceIte]), N0, rfl⟩
            · refine OW.st (B := s₁.setTop (mkF m 58 #[.val (.int c1)] [(.int (35 : Int32)), (.int c1)])) (fun _ kk_ => XS.icmpYes X0.here hx rfl (pc0 := 49) (pc' := 55) rfl (hb hby d14_49) rfl (feq hc113).2 (by decide) (by decide) (XS.iloadN X0.here hx rfl (hb hby d14_55) rfl (XS.bipush X0.here hx rfl (hb hby d14_56) kk_))) ?_
              by_cases hc114 : c1 = (35 : Int32)
              · refine OW.st (B := s₁.setTop (mkF m 63 #[.val (.int c1)] [(.int (38 : Int32))])) (fun _ kk_ => XS.icmpNo X0.here hx rfl (hb hby d14_58) rfl (teq hc114).2 (XS.bipush X0.here hx rfl (hb hby d14_61) kk_)) ?_
                exact OW.ret X0 hx hlk (i := .ireturn) Bd.returns rfl (Or.inl ⟨rfl, Or.inl rfl, _, rfl⟩) (hb hby d14_63) e0 (by decide) (by decide) ⟨congrArg (fun z => some (Value.int z)) (by simp only [own_val, own_v2, own_v3, eq_false hc97, eq_true hc106, eq_false hc107, eq_true hc111, eq_false hc112, eq_false hc113, eq_true hc114, ↓reduceIte]), N0, rfl⟩
              · refine OW.st (B := s₁.setTop (mkF m 65 #[.val (.int c1)] [(.int (-1 : Int32))])) (fun _ kk_ => XS.icmpYes X0.here hx rfl (pc0 := 58) (pc' := 64) rfl (hb hby d14_58) rfl (feq hc114).2 (by decide) (by decide) (XS.iconst X0.here hx rfl (hb hby d14_64) kk_)) ?_
                exact OW.ret X0 hx hlk (i := .ireturn) Bd.returns rfl (Or.inl ⟨rfl, Or.inl rfl, _, rfl⟩) (hb hby d14_65) e0 (by decide) (by decide) ⟨congrArg (fun z => some (Value.int z)) (by simp only [own_val, own_v2, own_v3, eq_false hc97, eq_true hc106, eq_false hc107, eq_true hc111, eq_false hc112, eq_false hc113, eq_false hc114, ↓reduceIte]), N0, rfl⟩
        · refine OW.st (B := s₁.setTop (mkF m 36 #[.val (.int c1)] [(.int ((c1 - (65 : Int32)) + (10 : Int32)))])) (fun _ kk_ => XS.icmpNo X0.here hx rfl (hb hby d14_26) rfl (flt hc111).2.2.1 (XS.iloadN X0.here hx rfl (hb hby d14_29) rfl (XS.bipush X0.here hx rfl (hb hby d14_30) (XS.isub X0.here hx rfl (hb hby d14_32) rfl (XS.bipush X0.here hx rfl (hb hby d14_33) (XS.iadd X0.here hx rfl (hb hby d14_35) rfl kk_)))))) ?_
          exact OW.ret X0 hx hlk (i := .ireturn) Bd.returns rfl (Or.inl ⟨rfl, Or.inl rfl, _, rfl⟩) (hb hby d14_36) e0 (by decide) (by decide) ⟨congrArg (fun z => some (Value.int z)) (by simp only [own_val, own_v2, own_v3, eq_false hc97, eq_true hc106, eq_false hc107, eq_false hc111, ↓reduceIte]), N0, rfl⟩
    · refine OW.st (B := s₁.setTop (mkF m 16 #[.val (.int c1)] [(.int (c1 - (48 : Int32)))])) (fun _ kk_ => XS.icmpNo X0.here hx rfl (hb hby d14_9) rfl (flt hc106).2.2.1 (XS.iloadN X0.here hx rfl (hb hby d14_12) rfl (XS.bipush X0.here hx rfl (hb hby d14_13) (XS.isub X0.here hx rfl (hb hby d14_15) rfl kk_)))) ?_
      exact OW.ret X0 hx hlk (i := .ireturn) Bd.returns rfl (Or.inl ⟨rfl, Or.inl rfl, _, rfl⟩) (hb hby d14_16) e0 (by decide) (by decide) ⟨congrArg (fun z => some (Value.int z)) (by simp only [own_val, own_v2, own_v3, eq_false hc97, eq_false hc106, ↓reduceIte]), N0, rfl⟩
theorem ef_VA (m : MethodId) (x0 : Int32) : entryFrame m #[(.int x0)] 1 = mkF m 0 #[.val (.int x0)] [] := by first | (simp [entryFrame, mkF, argsToLocals, Value.category]; done) | rfl
def QVA (Z : State) (c1 : Int32) (h0 : Heap) (n0 : Nat) (v : Option Value) (h : Heap) (L : List Loc) : Prop := v = some (.int (own_val c1)) ∧ Fr n0 L ∧ h = h0
set_option maxRecDepth 65536 in
set_option maxHeartbeats 40000000 in
theorem rmVA (l : Launch) (Z : State) (a0 : Array Value) (hw : ∀ d ∈ tables_1, d.before a0 Z = true) (ws : List Jvm.Cond) (c1 : Int32) (h0 : Heap) (n0 : Nat) (O0 : Old Z n0 h0) :
    MetFree l (⟨"tenorbook/book/Cusip", "value", "(C)I"⟩ : MethodName) (head1 (Jvm.Cond.code (⟨"tenorbook/book/Cusip", "value", "(C)I"⟩ : MethodName) prog_8_method_3_code 1 (some .int) :: ws) ({ frames := 0, cells := 0, slots := 0, locals := 0 } : Room)) (fun aa_ UU_ => aa_ = #[(.int c1)] ∧ Z.Warmed39 UU_.vm ∧ UU_.heap = h0) (fun _ _ _ _ _ => True) (fun _ UU_ oo_ UV_ => ∃ vv_ LL_, oo_ = .returned vv_ ∧ QVA Z c1 h0 n0 vv_ UV_.heap LL_ ∧ FrameEnd UU_ oo_ UV_ LL_ ({ frames := 0, cells := 0, slots := 0, locals := 0 } : Room).cells ({ frames := 0, cells := 0, slots := 0, locals := 0 } : Room).slots) := by
  refine MetFree.of_bodySF (plainFor_of_name pn_5) hisR ?_
  intro p e s m args below meth c s₁ Bd hml0 hP hK
  obtain ⟨rfl, hZ, hh⟩ := hP
  have hx := Bd.exec
  have hby := Bd.bytes
  have hlk := BodyLoose.notSynchronized Bd
  have hml : c.maxLocals = 1 := hml0
  have hown : s.vm.findClass "tenorbook/book/Cusip" = some m.cls := findClass_of_methodNamed Bd.named
  have hnm := (name_of_methodNamed Bd.named Bd.method).1
  have X0 : Stand p l e ({ frames := 0, cells := 0, slots := 0, locals := 0 } : Room) s m #[(.int c1)] below meth c s₁ [] 0 0 := Stand.of_body Bd
  have e0 : s₁.heap = h0 := by rw [← hh, Bd.state]; rfl
  have N0 := Fr.nil n0
  suffices hOW : OW p e below s (QVA Z c1 h0 n0) 0 0 (s₁.setTop (mkF m 0 #[.val (.int c1)] [])) by
    obtain ⟨oq1_, oq2_, oq3_, oq4_⟩ := hOW
    exact ⟨oq1_, oq2_, castTop (ef_VA m c1) oq3_, oq4_⟩
  refine OW.st (B := s₁.setTop (mkF m 3 #[.val (.int c1)] [(.int (48 : Int32)), (.int c1)])) (fun _ kk_ => XS.iloadN X0.here hx rfl (hb hby d25_0) rfl (XS.bipush X0.here hx rfl (hb hby d25_1) kk_)) ?_
  by_cases hc115 : c1 < (48 : Int32)
  · refine OW.st (B := s₁.setTop (mkF m 20 #[.val (.int c1)] [(.int (65 : Int32)), (.int c1)])) (fun _ kk_ => XS.icmpYes X0.here hx rfl (pc0 := 3) (pc' := 17) rfl (hb hby d25_3) rfl (tlt hc115).1 (by decide) (by decide) (XS.iloadN X0.here hx rfl (hb hby d25_17) rfl (XS.bipush X0.here hx rfl (hb hby d25_18) kk_))) ?_
    by_cases hc116 : c1 < (65 : Int32)
    · refine OW.st (B := s₁.setTop (mkF m 38 #[.val (.int c1)] [(.int c1)])) (fun _ kk_ => XS.icmpYes X0.here hx rfl (pc0 := 20) (pc' := 37) rfl (hb hby d25_20) rfl (tlt hc116).1 (by decide) (by decide) (XS.iloadN X0.here hx rfl (hb hby d25_37) rfl kk_)) ?_
      by_cases hc117 : c1 = (42 : Int32)
      · refine OW.st (B := s₁.setTop (mkF m 88 #[.val (.int c1)] [(.int (36 : Int32))])) (fun _ kk_ => (X0.lookupswitchHit hx (g := (mkF m 38 #[.val (.int c1)] [(.int c1)])) rfl rfl (hb hby d25_38) (by decide) (a := 42) (off := 34) (by rw [hc117]; decide) (show (0 : Int) ≤ ((38 : Nat) : Int) + 34 by decide)) _ (XS.bipush X0.here hx rfl (hb hby d25_72) (XS.goto X0.here hx rfl (pc0 := 74) (pc' := 88) rfl (hb hby d25_74) (by decide) (by decide) kk_))) ?_
        exact OW.ret X0 hx hlk (i := .ireturn) Bd.returns rfl (Or.inl ⟨rfl, Or.inl rfl, _, rfl⟩) (hb hby d25_88) e0 (by decide) (by decide) ⟨congrArg (fun z => some (Value.int z)) (by simp only [own_val, own_v2, own_v3, eq_true hc115, eq_true hc116, eq_true hc117, ↓reduceIte]), N0, rfl⟩
      · by_cases hc118 : c1 = (64 : Int32)
        · refine OW.st (B := s₁.setTop (mkF m 88 #[.val (.int c1)] [(.int (37 : Int32))])) (fun _ kk_ => (X0.lookupswitchHit hx (g := (mkF m 38 #[.val (.int c1)] [(.int c1)])) rfl rfl (hb hby d25_38) (by decide) (a := 64) (off := 39) (by rw [hc118]; decide) (show (0 : Int) ≤ ((38 : Nat) : Int) + 39 by decide)) _ (XS.bipush X0.here hx rfl (hb hby d25_77) (XS.goto X0.here hx rfl (pc0 := 79) (pc' := 88) rfl (hb hby d25_79) (by decide) (by decide) kk_))) ?_
          exact OW.ret X0 hx hlk (i := .ireturn) Bd.returns rfl (Or.inl ⟨rfl, Or.inl rfl, _, rfl⟩) (hb hby d25_88) e0 (by decide) (by decide) ⟨congrArg (fun z => some (Value.int z)) (by simp only [own_val, own_v2, own_v3, eq_true hc115, eq_true hc116, eq_false hc117, eq_true hc118, ↓reduceIte]), N0, rfl⟩
        · by_cases hc119 : c1 = (35 : Int32)
          · refine OW.st (B := s₁.setTop (mkF m 88 #[.val (.int c1)] [(.int (38 : Int32))])) (fun _ kk_ => (X0.lookupswitchHit hx (g := (mkF m 38 #[.val (.int c1)] [(.int c1)])) rfl rfl (hb hby d25_38) (by decide) (a := 35) (off := 44) (by rw [hc119]; decide) (show (0 : Int) ≤ ((38 : Nat) : Int) + 44 by decide)) _ (XS.bipush X0.here hx rfl (hb hby d25_82) (XS.goto X0.here hx rfl (pc0 := 84) (pc' := 88) rfl (hb hby d25_84) (by decide) (by decide) kk_))) ?_
            exact OW.ret X0 hx hlk (i := .ireturn) Bd.returns rfl (Or.inl ⟨rfl, Or.inl rfl, _, rfl⟩) (hb hby d25_88) e0 (by decide) (by decide) ⟨congrArg (fun z => some (Value.int z)) (by simp only [own_val, own_v2, own_v3, eq_true hc115, eq_true hc116, eq_false hc117, eq_false hc118, eq_true hc119, ↓reduceIte]), N0, rfl⟩
          · refine OW.st (B := s₁.setTop (mkF m 88 #[.val (.int c1)] [(.int (-1 : Int32))])) (fun _ kk_ => (X0.lookupswitchMiss hx (g := (mkF m 38 #[.val (.int c1)] [(.int c1)])) rfl rfl (hb hby d25_38) (by decide) (own_miss c1 hc117 hc118 hc119) (show (0 : Int) ≤ ((38 : Nat) : Int) + 49 by decide)) _ (XS.iconst X0.here hx rfl (hb hby d25_87) kk_)) ?_
            exact OW.ret X0 hx hlk (i := .ireturn) Bd.returns rfl (Or.inl ⟨rfl, Or.inl rfl, _, rfl⟩) (hb hby d25_88) e0 (by decide) (by decide) ⟨congrArg (fun z => some (Value.int z)) (by simp only [own_val, own_v2, own_v3, eq_true hc115, eq_true hc116, eq_false hc117, eq_false hc118, eq_false hc119, ↓reduceIte]), N0, rfl⟩
    · refine OW.st (B := s₁.setTop (mkF m 26 #[.val (.int c1)] [(.int (90 : Int32)), (.int c1)])) (fun _ kk_ => XS.icmpNo X0.here hx rfl (hb hby d25_20) rfl (flt hc116).1 (XS.iloadN X0.here hx rfl (hb hby d25_23) rfl (XS.bipush X0.here hx rfl (hb hby d25_24) kk_))) ?_
      by_cases hc120 : (90 : Int32) < c1
      · refine OW.st (B := s₁.setTop (mkF m 38 #[.val (.int c1)] [(.int c1)])) (fun _ kk_ => XS.icmpYes X0.here hx rfl (pc0 := 26) (pc' := 37) rfl (hb hby d25_26) rfl (tlt hc120).2.2.1 (by decide) (by decide) (XS.iloadN X0.here hx rfl (hb hby d25_37) rfl kk_)) ?_
        by_cases hc121 : c1 = (42 : Int32)
        · refine OW.st (B := s₁.setTop (mkF m 88 #[.val (.int c1)] [(.int (36 : Int32))])) (fun _ kk_ => (X0.lookupswitchHit hx (g := (mkF m 38 #[.val (.int c1)] [(.int c1)])) rfl rfl (hb hby d25_38) (by decide) (a := 42) (off := 34) (by rw [hc121]; decide) (show (0 : Int) ≤ ((38 : Nat) : Int) + 34 by decide)) _ (XS.bipush X0.here hx rfl (hb hby d25_72) (XS.goto X0.here hx rfl (pc0 := 74) (pc' := 88) rfl (hb hby d25_74) (by decide) (by decide) kk_))) ?_
          exact OW.ret X0 hx hlk (i := .ireturn) Bd.returns rfl (Or.inl ⟨rfl, Or.inl rfl, _, rfl⟩) (hb hby d25_88) e0 (by decide) (by decide) ⟨congrArg (fun z => some (Value.int z)) (by simp only [own_val, own_v2, own_v3, eq_true hc115, eq_false hc116, eq_true hc120, eq_true hc121, ↓reduceIte]), N0, rfl⟩
        · by_cases hc122 : c1 = (64 : Int32)
          · refine OW.st (B := s₁.setTop (mkF m 88 #[.val (.int c1)] [(.int (37 : Int32))])) (fun _ kk_ => (X0.lookupswitchHit hx (g := (mkF m 38 #[.val (.int c1)] [(.int c1)])) rfl rfl (hb hby d25_38) (by decide) (a := 64) (off := 39) (by rw [hc122]; decide) (show (0 : Int) ≤ ((38 : Nat) : Int) + 39 by decide)) _ (XS.bipush X0.here hx rfl (hb hby d25_77) (XS.goto X0.here hx rfl (pc0 := 79) (pc' := 88) rfl (hb hby d25_79) (by decide) (by decide) kk_))) ?_
            exact OW.ret X0 hx hlk (i := .ireturn) Bd.returns rfl (Or.inl ⟨rfl, Or.inl rfl, _, rfl⟩) (hb hby d25_88) e0 (by decide) (by decide) ⟨congrArg (fun z => some (Value.int z)) (by simp only [own_val, own_v2, own_v3, eq_true hc115, eq_false hc116, eq_true hc120, eq_false hc121, eq_true hc122, ↓reduceIte]), N0, rfl⟩
          · by_cases hc123 : c1 = (35 : Int32)
            · refine OW.st (B := s₁.setTop (mkF m 88 #[.val (.int c1)] [(.int (38 : Int32))])) (fun _ kk_ => (X0.lookupswitchHit hx (g := (mkF m 38 #[.val (.int c1)] [(.int c1)])) rfl rfl (hb hby d25_38) (by decide) (a := 35) (off := 44) (by rw [hc123]; decide) (show (0 : Int) ≤ ((38 : Nat) : Int) + 44 by decide)) _ (XS.bipush X0.here hx rfl (hb hby d25_82) (XS.goto X0.here hx rfl (pc0 := 84) (pc' := 88) rfl (hb hby d25_84) (by decide) (by decide) kk_))) ?_
              exact OW.ret X0 hx hlk (i := .ireturn) Bd.returns rfl (Or.inl ⟨rfl, Or.inl rfl, _, rfl⟩) (hb hby d25_88) e0 (by decide) (by decide) ⟨congrArg (fun z => some (Value.int z)) (by simp only [own_val, own_v2, own_v3, eq_true hc115, eq_false hc116, eq_true hc120, eq_false hc121, eq_false hc122, eq_true hc123, ↓reduceIte]), N0, rfl⟩
            · refine OW.st (B := s₁.setTop (mkF m 88 #[.val (.int c1)] [(.int (-1 : Int32))])) (fun _ kk_ => (X0.lookupswitchMiss hx (g := (mkF m 38 #[.val (.int c1)] [(.int c1)])) rfl rfl (hb hby d25_38) (by decide) (own_miss c1 hc121 hc122 hc123) (show (0 : Int) ≤ ((38 : Nat) : Int) + 49 by decide)) _ (XS.iconst X0.here hx rfl (hb hby d25_87) kk_)) ?_
              exact OW.ret X0 hx hlk (i := .ireturn) Bd.returns rfl (Or.inl ⟨rfl, Or.inl rfl, _, rfl⟩) (hb hby d25_88) e0 (by decide) (by decide) ⟨congrArg (fun z => some (Value.int z)) (by simp only [own_val, own_v2, own_v3, eq_true hc115, eq_false hc116, eq_true hc120, eq_false hc121, eq_false hc122, eq_false hc123, ↓reduceIte]), N0, rfl⟩
      · refine OW.st (B := s₁.setTop (mkF m 36 #[.val (.int c1)] [(.int ((c1 - (65 : Int32)) + (10 : Int32)))])) (fun _ kk_ => XS.icmpNo X0.here hx rfl (hb hby d25_26) rfl (flt hc120).2.2.1 (XS.iloadN X0.here hx rfl (hb hby d25_29) rfl (XS.bipush X0.here hx rfl (hb hby d25_30) (XS.isub X0.here hx rfl (hb hby d25_32) rfl (XS.bipush X0.here hx rfl (hb hby d25_33) (XS.iadd X0.here hx rfl (hb hby d25_35) rfl kk_)))))) ?_
        exact OW.ret X0 hx hlk (i := .ireturn) Bd.returns rfl (Or.inl ⟨rfl, Or.inl rfl, _, rfl⟩) (hb hby d25_36) e0 (by decide) (by decide) ⟨congrArg (fun z => some (Value.int z)) (by simp only [own_val, own_v2, own_v3, eq_true hc115, eq_false hc116, eq_false hc120, ↓reduceIte]), N0, rfl⟩
  · refine OW.st (B := s₁.setTop (mkF m 9 #[.val (.int c1)] [(.int (57 : Int32)), (.int c1)])) (fun _ kk_ => XS.icmpNo X0.here hx rfl (hb hby d25_3) rfl (flt hc115).1 (XS.iloadN X0.here hx rfl (hb hby d25_6) rfl (XS.bipush X0.here hx rfl (hb hby d25_7) kk_))) ?_
    by_cases hc124 : (57 : Int32) < c1
    · refine OW.st (B := s₁.setTop (mkF m 20 #[.val (.int c1)] [(.int (65 : Int32)), (.int c1)])) (fun _ kk_ => XS.icmpYes X0.here hx rfl (pc0 := 9) (pc' := 17) rfl (hb hby d25_9) rfl (tlt hc124).2.2.1 (by decide) (by decide) (XS.iloadN X0.here hx rfl (hb hby d25_17) rfl (XS.bipush X0.here hx rfl (hb hby d25_18) kk_))) ?_
      by_cases hc125 : c1 < (65 : Int32)
      · refine OW.st (B := s₁.setTop (mkF m 38 #[.val (.int c1)] [(.int c1)])) (fun _ kk_ => XS.icmpYes X0.here hx rfl (pc0 := 20) (pc' := 37) rfl (hb hby d25_20) rfl (tlt hc125).1 (by decide) (by decide) (XS.iloadN X0.here hx rfl (hb hby d25_37) rfl kk_)) ?_
        by_cases hc126 : c1 = (42 : Int32)
        · refine OW.st (B := s₁.setTop (mkF m 88 #[.val (.int c1)] [(.int (36 : Int32))])) (fun _ kk_ => (X0.lookupswitchHit hx (g := (mkF m 38 #[.val (.int c1)] [(.int c1)])) rfl rfl (hb hby d25_38) (by decide) (a := 42) (off := 34) (by rw [hc126]; decide) (show (0 : Int) ≤ ((38 : Nat) : Int) + 34 by decide)) _ (XS.bipush X0.here hx rfl (hb hby d25_72) (XS.goto X0.here hx rfl (pc0 := 74) (pc' := 88) rfl (hb hby d25_74) (by decide) (by decide) kk_))) ?_
          exact OW.ret X0 hx hlk (i := .ireturn) Bd.returns rfl (Or.inl ⟨rfl, Or.inl rfl, _, rfl⟩) (hb hby d25_88) e0 (by decide) (by decide) ⟨congrArg (fun z => some (Value.int z)) (by simp only [own_val, own_v2, own_v3, eq_false hc115, eq_true hc124, eq_true hc125, eq_true hc126, ↓reduceIte]), N0, rfl⟩
        · by_cases hc127 : c1 = (64 : Int32)
          · refine OW.st (B := s₁.setTop (mkF m 88 #[.val (.int c1)] [(.int (37 : Int32))])) (fun _ kk_ => (X0.lookupswitchHit hx (g := (mkF m 38 #[.val (.int c1)] [(.int c1)])) rfl rfl (hb hby d25_38) (by decide) (a := 64) (off := 39) (by rw [hc127]; decide) (show (0 : Int) ≤ ((38 : Nat) : Int) + 39 by decide)) _ (XS.bipush X0.here hx rfl (hb hby d25_77) (XS.goto X0.here hx rfl (pc0 := 79) (pc' := 88) rfl (hb hby d25_79) (by decide) (by decide) kk_))) ?_
            exact OW.ret X0 hx hlk (i := .ireturn) Bd.returns rfl (Or.inl ⟨rfl, Or.inl rfl, _, rfl⟩) (hb hby d25_88) e0 (by decide) (by decide) ⟨congrArg (fun z => some (Value.int z)) (by simp only [own_val, own_v2, own_v3, eq_false hc115, eq_true hc124, eq_true hc125, eq_false hc126, eq_true hc127, ↓reduceIte]), N0, rfl⟩
          · by_cases hc128 : c1 = (35 : Int32)
            · refine OW.st (B := s₁.setTop (mkF m 88 #[.val (.int c1)] [(.int (38 : Int32))])) (fun _ kk_ => (X0.lookupswitchHit hx (g := (mkF m 38 #[.val (.int c1)] [(.int c1)])) rfl rfl (hb hby d25_38) (by decide) (a := 35) (off := 44) (by rw [hc128]; decide) (show (0 : Int) ≤ ((38 : Nat) : Int) + 44 by decide)) _ (XS.bipush X0.here hx rfl (hb hby d25_82) (XS.goto X0.here hx rfl (pc0 := 84) (pc' := 88) rfl (hb hby d25_84) (by decide) (by decide) kk_))) ?_
              exact OW.ret X0 hx hlk (i := .ireturn) Bd.returns rfl (Or.inl ⟨rfl, Or.inl rfl, _, rfl⟩) (hb hby d25_88) e0 (by decide) (by decide) ⟨congrArg (fun z => some (Value.int z)) (by simp only [own_val, own_v2, own_v3, eq_false hc115, eq_true hc124, eq_true hc125, eq_false hc126, eq_false hc127, eq_true hc128, ↓reduceIte]), N0, rfl⟩
            · refine OW.st (B := s₁.setTop (mkF m 88 #[.val (.int c1)] [(.int (-1 : Int32))])) (fun _ kk_ => (X0.lookupswitchMiss hx (g := (mkF m 38 #[.val (.int c1)] [(.int c1)])) rfl rfl (hb hby d25_38) (by decide) (own_miss c1 hc126 hc127 hc128) (show (0 : Int) ≤ ((38 : Nat) : Int) + 49 by decide)) _ (XS.iconst X0.here hx rfl (hb hby d25_87) kk_)) ?_
              exact OW.ret X0 hx hlk (i := .ireturn) Bd.returns rfl (Or.inl ⟨rfl, Or.inl rfl, _, rfl⟩) (hb hby d25_88) e0 (by decide) (by decide) ⟨congrArg (fun z => some (Value.int z)) (by simp only [own_val, own_v2, own_v3, eq_false hc115, eq_true hc124, eq_true hc125, eq_false hc126, eq_false hc127, eq_false hc128, ↓reduceIte]), N0, rfl⟩
      · refine OW.st (B := s₁.setTop (mkF m 26 #[.val (.int c1)] [(.int (90 : Int32)), (.int c1)])) (fun _ kk_ => XS.icmpNo X0.here hx rfl (hb hby d25_20) rfl (flt hc125).1 (XS.iloadN X0.here hx rfl (hb hby d25_23) rfl (XS.bipush X0.here hx rfl (hb hby d25_24) kk_))) ?_
        by_cases hc129 : (90 : Int32) < c1
        · refine OW.st (B := s₁.setTop (mkF m 38 #[.val (.int c1)] [(.int c1)])) (fun _ kk_ => XS.icmpYes X0.here hx rfl (pc0 := 26) (pc' := 37) rfl (hb hby d25_26) rfl (tlt hc129).2.2.1 (by decide) (by decide) (XS.iloadN X0.here hx rfl (hb hby d25_37) rfl kk_)) ?_
          by_cases hc130 : c1 = (42 : Int32)
          · refine OW.st (B := s₁.setTop (mkF m 88 #[.val (.int c1)] [(.int (36 : Int32))])) (fun _ kk_ => (X0.lookupswitchHit hx (g := (mkF m 38 #[.val (.int c1)] [(.int c1)])) rfl rfl (hb hby d25_38) (by decide) (a := 42) (off := 34) (by rw [hc130]; decide) (show (0 : Int) ≤ ((38 : Nat) : Int) + 34 by decide)) _ (XS.bipush X0.here hx rfl (hb hby d25_72) (XS.goto X0.here hx rfl (pc0 := 74) (pc' := 88) rfl (hb hby d25_74) (by decide) (by decide) kk_))) ?_
            exact OW.ret X0 hx hlk (i := .ireturn) Bd.returns rfl (Or.inl ⟨rfl, Or.inl rfl, _, rfl⟩) (hb hby d25_88) e0 (by decide) (by decide) ⟨congrArg (fun z => some (Value.int z)) (by simp only [own_val, own_v2, own_v3, eq_false hc115, eq_true hc124, eq_false hc125, eq_true hc129, eq_true hc130, ↓reduceIte]), N0, rfl⟩
          · by_cases hc131 : c1 = (64 : Int32)
            · refine OW.st (B := s₁.setTop (mkF m 88 #[.val (.int c1)] [(.int (37 : Int32))])) (fun _ kk_ => (X0.lookupswitchHit hx (g := (mkF m 38 #[.val (.int c1)] [(.int c1)])) rfl rfl (hb hby d25_38) (by decide) (a := 64) (off := 39) (by rw [hc131]; decide) (show (0 : Int) ≤ ((38 : Nat) : Int) + 39 by decide)) _ (XS.bipush X0.here hx rfl (hb hby d25_77) (XS.goto X0.here hx rfl (pc0 := 79) (pc' := 88) rfl (hb hby d25_79) (by decide) (by decide) kk_))) ?_
              exact OW.ret X0 hx hlk (i := .ireturn) Bd.returns rfl (Or.inl ⟨rfl, Or.inl rfl, _, rfl⟩) (hb hby d25_88) e0 (by decide) (by decide) ⟨congrArg (fun z => some (Value.int z)) (by simp only [own_val, own_v2, own_v3, eq_false hc115, eq_true hc124, eq_false hc125, eq_true hc129, eq_false hc130, eq_true hc131, ↓reduceIte]), N0, rfl⟩
            · by_cases hc132 : c1 = (35 : Int32)
              · refine OW.st (B := s₁.setTop (mkF m 88 #[.val (.int c1)] [(.int (38 : Int32))])) (fun _ kk_ => (X0.lookupswitchHit hx (g := (mkF m 38 #[.val (.int c1)] [(.int c1)])) rfl rfl (hb hby d25_38) (by decide) (a := 35) (off := 44) (by rw [hc132]; decide) (show (0 : Int) ≤ ((38 : Nat) : Int) + 44 by decide)) _ (XS.bipush X0.here hx rfl (hb hby d25_82) (XS.goto X0.here hx rfl (pc0 := 84) (pc' := 88) rfl (hb hby d25_84) (by decide) (by decide) kk_))) ?_
                exact OW.ret X0 hx hlk (i := .ireturn) Bd.returns rfl (Or.inl ⟨rfl, Or.inl rfl, _, rfl⟩) (hb hby d25_88) e0 (by decide) (by decide) ⟨congrArg (fun z => some (Value.int z)) (by simp only [own_val, own_v2, own_v3, eq_false hc115, eq_true hc124, eq_false hc125, eq_true hc129, eq_false hc130, eq_false hc131, eq_true hc132, ↓reduceIte]), N0, rfl⟩
              · refine OW.st (B := s₁.setTop (mkF m 88 #[.val (.int c1)] [(.int (-1 : Int32))])) (fun _ kk_ => (X0.lookupswitchMiss hx (g := (mkF m 38 #[.val (.int c1)] [(.int c1)])) rfl rfl (hb hby d25_38) (by decide) (own_miss c1 hc130 hc131 hc132) (show (0 : Int) ≤ ((38 : Nat) : Int) + 49 by decide)) _ (XS.iconst X0.here hx rfl (hb hby d25_87) kk_)) ?_
                exact OW.ret X0 hx hlk (i := .ireturn) Bd.returns rfl (Or.inl ⟨rfl, Or.inl rfl, _, rfl⟩) (hb hby d25_88) e0 (by decide) (by decide) ⟨congrArg (fun z => some (Value.int z)) (by simp only [own_val, own_v2, own_v3, eq_false hc115, eq_true hc124, eq_false hc125, eq_true hc129, eq_false hc130, eq_false hc131, eq_false hc132, ↓reduceIte]), N0, rfl⟩
        · refine OW.st (B := s₁.setTop (mkF m 36 #[.val (.int c1)] [(.int ((c1 - (65 : Int32)) + (10 : Int32)))])) (fun _ kk_ => XS.icmpNo X0.here hx rfl (hb hby d25_26) rfl (flt hc129).2.2.1 (XS.iloadN X0.here hx rfl (hb hby d25_29) rfl (XS.bipush X0.here hx rfl (hb hby d25_30) (XS.isub X0.here hx rfl (hb hby d25_32) rfl (XS.bipush X0.here hx rfl (hb hby d25_33) (XS.iadd X0.here hx rfl (hb hby d25_35) rfl kk_)))))) ?_
          exact OW.ret X0 hx hlk (i := .ireturn) Bd.returns rfl (Or.inl ⟨rfl, Or.inl rfl, _, rfl⟩) (hb hby d25_36) e0 (by decide) (by decide) ⟨congrArg (fun z => some (Value.int z)) (by simp only [own_val, own_v2, own_v3, eq_false hc115, eq_true hc124, eq_false hc125, eq_false hc129, ↓reduceIte]), N0, rfl⟩
    · refine OW.st (B := s₁.setTop (mkF m 16 #[.val (.int c1)] [(.int (c1 - (48 : Int32)))])) (fun _ kk_ => XS.icmpNo X0.here hx rfl (hb hby d25_9) rfl (flt hc124).2.2.1 (XS.iloadN X0.here hx rfl (hb hby d25_12) rfl (XS.bipush X0.here hx rfl (hb hby d25_13) (XS.isub X0.here hx rfl (hb hby d25_15) rfl kk_)))) ?_
      exact OW.ret X0 hx hlk (i := .ireturn) Bd.returns rfl (Or.inl ⟨rfl, Or.inl rfl, _, rfl⟩) (hb hby d25_16) e0 (by decide) (by decide) ⟨congrArg (fun z => some (Value.int z)) (by simp only [own_val, own_v2, own_v3, eq_false hc115, eq_false hc124, ↓reduceIte]), N0, rfl⟩
theorem ef_DS (m : MethodId) (x0 : Int32) : entryFrame m #[(.int x0)] 1 = mkF m 0 #[.val (.int x0)] [] := by first | (simp [entryFrame, mkF, argsToLocals, Value.category]; done) | rfl
def QDS (Z : State) (k1 : Int32) (h0 : Heap) (n0 : Nat) (v : Option Value) (h : Heap) (L : List Loc) : Prop := v = some (.int (own_dsx k1)) ∧ Fr n0 L ∧ h = h0
set_option maxRecDepth 65536 in
set_option maxHeartbeats 40000000 in
theorem rmDS (l : Launch) (Z : State) (a0 : Array Value) (hw : ∀ d ∈ tables_1, d.before a0 Z = true) (ws : List Jvm.Cond) (k1 : Int32) (h0 : Heap) (n0 : Nat) (O0 : Old Z n0 h0) :
    MetFree l (⟨"tenorbook/book/CusipIsValidPinLaw", "ds", "(I)I"⟩ : MethodName) (head1 (Jvm.Cond.code (⟨"tenorbook/book/CusipIsValidPinLaw", "ds", "(I)I"⟩ : MethodName) method_6_code 1 (some .int) :: ws) ({ frames := 0, cells := 0, slots := 0, locals := 0 } : Room)) (fun aa_ UU_ => aa_ = #[(.int k1)] ∧ Z.Warmed39 UU_.vm ∧ UU_.heap = h0) (fun _ _ _ _ _ => True) (fun _ UU_ oo_ UV_ => ∃ vv_ LL_, oo_ = .returned vv_ ∧ QDS Z k1 h0 n0 vv_ UV_.heap LL_ ∧ FrameEnd UU_ oo_ UV_ LL_ ({ frames := 0, cells := 0, slots := 0, locals := 0 } : Room).cells ({ frames := 0, cells := 0, slots := 0, locals := 0 } : Room).slots) := by
  refine MetFree.of_bodySF (plainFor_of_name pn_4) hisR ?_
  intro p e s m args below meth c s₁ Bd hml0 hP hK
  obtain ⟨rfl, hZ, hh⟩ := hP
  have hx := Bd.exec
  have hby := Bd.bytes
  have hlk := BodyLoose.notSynchronized Bd
  have hml : c.maxLocals = 1 := hml0
  have hown : s.vm.findClass "tenorbook/book/CusipIsValidPinLaw" = some m.cls := findClass_of_methodNamed Bd.named
  have hnm := (name_of_methodNamed Bd.named Bd.method).1
  have X0 : Stand p l e ({ frames := 0, cells := 0, slots := 0, locals := 0 } : Room) s m #[(.int k1)] below meth c s₁ [] 0 0 := Stand.of_body Bd
  have e0 : s₁.heap = h0 := by rw [← hh, Bd.state]; rfl
  have N0 := Fr.nil n0
  suffices hOW : OW p e below s (QDS Z k1 h0 n0) 0 0 (s₁.setTop (mkF m 0 #[.val (.int k1)] [])) by
    obtain ⟨oq1_, oq2_, oq3_, oq4_⟩ := hOW
    exact ⟨oq1_, oq2_, castTop (ef_DS m k1) oq3_, oq4_⟩
  refine OW.st (B := s₁.setTop (mkF m 9 #[.val (.int k1)] [(.int (k1 - ((9 : Int32) * (k1 / (10 : Int32)))))])) (fun _ kk_ => XS.iloadN X0.here hx rfl (hb hby d28_0) rfl (XS.bipush X0.here hx rfl (hb hby d28_1) (XS.iloadN X0.here hx rfl (hb hby d28_3) rfl (XS.bipush X0.here hx rfl (hb hby d28_4) (XS.idiv X0.here hx rfl (hb hby d28_6) rfl (by decide) (XS.imul X0.here hx rfl (hb hby d28_7) rfl (XS.isub X0.here hx rfl (hb hby d28_8) rfl kk_))))))) ?_
  exact OW.ret X0 hx hlk (i := .ireturn) Bd.returns rfl (Or.inl ⟨rfl, Or.inl rfl, _, rfl⟩) (hb hby d28_9) e0 (by decide) (by decide) ⟨rfl, N0, rfl⟩
theorem ef_RF (m : MethodId) (x0 : Int32) (x1 : Int32) (x2 : Int32) (x3 : Int32) (x4 : Int32) (x5 : Int32) (x6 : Int32) (x7 : Int32) (x8 : Int32) : entryFrame m #[(.int x0), (.int x1), (.int x2), (.int x3), (.int x4), (.int x5), (.int x6), (.int x7), (.int x8)] 18 = mkF m 0 #[.val (.int x0), .val (.int x1), .val (.int x2), .val (.int x3), .val (.int x4), .val (.int x5), .val (.int x6), .val (.int x7), .val (.int x8), .unset, .unset, .unset, .unset, .unset, .unset, .unset, .unset, .unset] [] := by first | (simp [entryFrame, mkF, argsToLocals, Value.category]; done) | rfl
def QRF (Z : State) (c1 : Int32) (c2 : Int32) (c3 : Int32) (c4 : Int32) (c5 : Int32) (c6 : Int32) (c7 : Int32) (c8 : Int32) (c9 : Int32) (h0 : Heap) (n0 : Nat) (v : Option Value) (h : Heap) (L : List Loc) : Prop := ∃ z : Int32, v = some (.int z) ∧ Fr n0 L ∧ h = h0 ∧ OwnCk [c1, c2, c3, c4, c5, c6, c7, c8, c9] z
set_option maxRecDepth 65536 in
set_option maxHeartbeats 40000000 in
theorem rmRF (l : Launch) (Z : State) (a0 : Array Value) (hw : ∀ d ∈ tables_1, d.before a0 Z = true) (ws : List Jvm.Cond) (c1 : Int32) (c2 : Int32) (c3 : Int32) (c4 : Int32) (c5 : Int32) (c6 : Int32) (c7 : Int32) (c8 : Int32) (c9 : Int32) (h0 : Heap) (n0 : Nat) (O0 : Old Z n0 h0) :
    MetFree l (⟨"tenorbook/book/CusipIsValidPinLaw", "reference", "(CCCCCCCCC)Z"⟩ : MethodName) (head1 (Jvm.Cond.code (⟨"tenorbook/book/CusipIsValidPinLaw", "reference", "(CCCCCCCCC)Z"⟩ : MethodName) method_7_code 18 (some .boolean) :: ws) ({ frames := 1, cells := 0, slots := 0, locals := 13 } : Room)) (fun aa_ UU_ => aa_ = #[(.int c1), (.int c2), (.int c3), (.int c4), (.int c5), (.int c6), (.int c7), (.int c8), (.int c9)] ∧ Z.Warmed39 UU_.vm ∧ UU_.heap = h0) (fun _ _ _ _ _ => True) (fun _ UU_ oo_ UV_ => ∃ vv_ LL_, oo_ = .returned vv_ ∧ QRF Z c1 c2 c3 c4 c5 c6 c7 c8 c9 h0 n0 vv_ UV_.heap LL_ ∧ FrameEnd UU_ oo_ UV_ LL_ ({ frames := 1, cells := 0, slots := 0, locals := 13 } : Room).cells ({ frames := 1, cells := 0, slots := 0, locals := 13 } : Room).slots) := by
  refine MetFree.of_bodySF (plainFor_of_name pn_4) hisR ?_
  intro p e s m args below meth c s₁ Bd hml0 hP hK
  obtain ⟨rfl, hZ, hh⟩ := hP
  have hx := Bd.exec
  have hby := Bd.bytes
  have hlk := BodyLoose.notSynchronized Bd
  have hml : c.maxLocals = 18 := hml0
  have hown : s.vm.findClass "tenorbook/book/CusipIsValidPinLaw" = some m.cls := findClass_of_methodNamed Bd.named
  have hnm := (name_of_methodNamed Bd.named Bd.method).1
  have X0 : Stand p l e ({ frames := 1, cells := 0, slots := 0, locals := 13 } : Room) s m #[(.int c1), (.int c2), (.int c3), (.int c4), (.int c5), (.int c6), (.int c7), (.int c8), (.int c9)] below meth c s₁ [] 0 0 := Stand.of_body Bd
  have e0 : s₁.heap = h0 := by rw [← hh, Bd.state]; rfl
  have N0 := Fr.nil n0
  suffices hOW : OW p e below s (QRF Z c1 c2 c3 c4 c5 c6 c7 c8 c9 h0 n0) 0 0 (s₁.setTop (mkF m 0 #[.val (.int c1), .val (.int c2), .val (.int c3), .val (.int c4), .val (.int c5), .val (.int c6), .val (.int c7), .val (.int c8), .val (.int c9), .unset, .unset, .unset, .unset, .unset, .unset, .unset, .unset, .unset] [])) by
    obtain ⟨oq1_, oq2_, oq3_, oq4_⟩ := hOW
    exact ⟨oq1_, oq2_, castTop (ef_RF m c1 c2 c3 c4 c5 c6 c7 c8 c9) oq3_, oq4_⟩
  refine OW.st (B := s₁.setTop (mkF m 1 #[.val (.int c1), .val (.int c2), .val (.int c3), .val (.int c4), .val (.int c5), .val (.int c6), .val (.int c7), .val (.int c8), .val (.int c9), .unset, .unset, .unset, .unset, .unset, .unset, .unset, .unset, .unset] [(.int c1)])) (fun _ kk_ => XS.iloadN X0.here hx rfl (hb hby d13_0) rfl kk_) ?_
  obtain ⟨_, _, ⟨T133, L133, k133, n133⟩, -, X133, ⟨Lc133, hQ133, l133, y133, z133⟩, st133⟩ := Jvm.LawKit.callS X0 hx (y := (⟨"tenorbook/book/CusipIsValidPinLaw", "refValue", "(C)I"⟩ : MethodName)) hown (mvT hZ (w_57 hw)) (mvT hZ (w_58 hw)) (mvT hZ (w_2 hw)) (mvT hZ (w_59 hw)) (by decide) (backOf (W := 0) (rmRV l Z a0 hw [] c1 h0 n0 O0 ) hZ (w_59 hw) (w_2 hw) (by decide) (by decide)) (g := (mkF m 1 #[.val (.int c1), .val (.int c2), .val (.int c3), .val (.int c4), .val (.int c5), .val (.int c6), .val (.int c7), .val (.int c8), .val (.int c9), .unset, .unset, .unset, .unset, .unset, .unset, .unset, .unset, .unset] [(.int c1)])) rfl (by rw [hml]; rfl) (argsL := [(.int c1)]) (rest := []) (lenOf pd_15 rfl) rfl (by show 2 * 0 + _ ≤ _; exact Nat.le_of_eq rfl) (hb hby d13_1) (fun _ _ => ⟨rfl, e0, (by decide : 0 + 0 ≤ _), (by decide : 0 + 0 ≤ _)⟩)
  dsimp only [Pt.U, Pt.locs, Pt.cells, Pt.slots] at X133 l133 y133 z133 st133 hQ133
  subst l133 y133 z133
  obtain ⟨rfl, Nq133, e133⟩ := hQ133
  have N133 := Fr.app N0 Nq133
  refine OW.st (B := T133.setTop (mkF m 7 #[.val (.int c1), .val (.int c2), .val (.int c3), .val (.int c4), .val (.int c5), .val (.int c6), .val (.int c7), .val (.int c8), .val (.int c9), .val (.int (own_val c1)), .unset, .unset, .unset, .unset, .unset, .unset, .unset, .unset] [(.int c2)])) (fun _ kk_ => st133 _ (XS.istore X133.here hx rfl (hb hby d13_4) rfl (l' := #[.val (.int c1), .val (.int c2), .val (.int c3), .val (.int c4), .val (.int c5), .val (.int c6), .val (.int c7), .val (.int c8), .val (.int c9), .val (.int (own_val c1)), .unset, .unset, .unset, .unset, .unset, .unset, .unset, .unset]) rfl (XS.iloadN X133.here hx rfl (hb hby d13_6) rfl kk_))) ?_
  obtain ⟨_, _, ⟨T134, L134, k134, n134⟩, -, X134, ⟨Lc134, hQ134, l134, y134, z134⟩, st134⟩ := Jvm.LawKit.callS X133 hx (y := (⟨"tenorbook/book/CusipIsValidPinLaw", "refValue", "(C)I"⟩ : MethodName)) hown (mvT hZ (w_57 hw)) (mvT hZ (w_58 hw)) (mvT hZ (w_2 hw)) (mvT hZ (w_59 hw)) (by decide) (backOf (W := 0) (rmRV l Z a0 hw [] c2 h0 n0 O0 ) hZ (w_59 hw) (w_2 hw) (by decide) (by decide)) (g := (mkF m 7 #[.val (.int c1), .val (.int c2), .val (.int c3), .val (.int c4), .val (.int c5), .val (.int c6), .val (.int c7), .val (.int c8), .val (.int c9), .val (.int (own_val c1)), .unset, .unset, .unset, .unset, .unset, .unset, .unset, .unset] [(.int c2)])) rfl (by rw [hml]; rfl) (argsL := [(.int c2)]) (rest := []) (lenOf pd_15 rfl) rfl (by show 2 * 0 + _ ≤ _; exact Nat.le_of_eq rfl) (hb hby d13_7) (fun _ _ => ⟨rfl, e133, (by decide : 0 + 0 ≤ _), (by decide : 0 + 0 ≤ _)⟩)
  dsimp only [Pt.U, Pt.locs, Pt.cells, Pt.slots] at X134 l134 y134 z134 st134 hQ134
  subst l134 y134 z134
  obtain ⟨rfl, Nq134, e134⟩ := hQ134
  have N134 := Fr.app N133 Nq134
  refine OW.st (B := T134.setTop (mkF m 13 #[.val (.int c1), .val (.int c2), .val (.int c3), .val (.int c4), .val (.int c5), .val (.int c6), .val (.int c7), .val (.int c8), .val (.int c9), .val (.int (own_val c1)), .val (.int (own_val c2)), .unset, .unset, .unset, .unset, .unset, .unset, .unset] [(.int c3)])) (fun _ kk_ => st134 _ (XS.istore X134.here hx rfl (hb hby d13_10) rfl (l' := #[.val (.int c1), .val (.int c2), .val (.int c3), .val (.int c4), .val (.int c5), .val (.int c6), .val (.int c7), .val (.int c8), .val (.int c9), .val (.int (own_val c1)), .val (.int (own_val c2)), .unset, .unset, .unset, .unset, .unset, .unset, .unset]) rfl (XS.iloadN X134.here hx rfl (hb hby d13_12) rfl kk_))) ?_
  obtain ⟨_, _, ⟨T135, L135, k135, n135⟩, -, X135, ⟨Lc135, hQ135, l135, y135, z135⟩, st135⟩ := Jvm.LawKit.callS X134 hx (y := (⟨"tenorbook/book/CusipIsValidPinLaw", "refValue", "(C)I"⟩ : MethodName)) hown (mvT hZ (w_57 hw)) (mvT hZ (w_58 hw)) (mvT hZ (w_2 hw)) (mvT hZ (w_59 hw)) (by decide) (backOf (W := 0) (rmRV l Z a0 hw [] c3 h0 n0 O0 ) hZ (w_59 hw) (w_2 hw) (by decide) (by decide)) (g := (mkF m 13 #[.val (.int c1), .val (.int c2), .val (.int c3), .val (.int c4), .val (.int c5), .val (.int c6), .val (.int c7), .val (.int c8), .val (.int c9), .val (.int (own_val c1)), .val (.int (own_val c2)), .unset, .unset, .unset, .unset, .unset, .unset, .unset] [(.int c3)])) rfl (by rw [hml]; rfl) (argsL := [(.int c3)]) (rest := []) (lenOf pd_15 rfl) rfl (by show 2 * 0 + _ ≤ _; exact Nat.le_of_eq rfl) (hb hby d13_13) (fun _ _ => ⟨rfl, e134, (by decide : 0 + 0 ≤ _), (by decide : 0 + 0 ≤ _)⟩)
  dsimp only [Pt.U, Pt.locs, Pt.cells, Pt.slots] at X135 l135 y135 z135 st135 hQ135
  subst l135 y135 z135
  obtain ⟨rfl, Nq135, e135⟩ := hQ135
  have N135 := Fr.app N134 Nq135
  refine OW.st (B := T135.setTop (mkF m 19 #[.val (.int c1), .val (.int c2), .val (.int c3), .val (.int c4), .val (.int c5), .val (.int c6), .val (.int c7), .val (.int c8), .val (.int c9), .val (.int (own_val c1)), .val (.int (own_val c2)), .val (.int (own_val c3)), .unset, .unset, .unset, .unset, .unset, .unset] [(.int c4)])) (fun _ kk_ => st135 _ (XS.istore X135.here hx rfl (hb hby d13_16) rfl (l' := #[.val (.int c1), .val (.int c2), .val (.int c3), .val (.int c4), .val (.int c5), .val (.int c6), .val (.int c7), .val (.int c8), .val (.int c9), .val (.int (own_val c1)), .val (.int (own_val c2)), .val (.int (own_val c3)), .unset, .unset, .unset, .unset, .unset, .unset]) rfl (XS.iloadN X135.here hx rfl (hb hby d13_18) rfl kk_))) ?_
  obtain ⟨_, _, ⟨T136, L136, k136, n136⟩, -, X136, ⟨Lc136, hQ136, l136, y136, z136⟩, st136⟩ := Jvm.LawKit.callS X135 hx (y := (⟨"tenorbook/book/CusipIsValidPinLaw", "refValue", "(C)I"⟩ : MethodName)) hown (mvT hZ (w_57 hw)) (mvT hZ (w_58 hw)) (mvT hZ (w_2 hw)) (mvT hZ (w_59 hw)) (by decide) (backOf (W := 0) (rmRV l Z a0 hw [] c4 h0 n0 O0 ) hZ (w_59 hw) (w_2 hw) (by decide) (by decide)) (g := (mkF m 19 #[.val (.int c1), .val (.int c2), .val (.int c3), .val (.int c4), .val (.int c5), .val (.int c6), .val (.int c7), .val (.int c8), .val (.int c9), .val (.int (own_val c1)), .val (.int (own_val c2)), .val (.int (own_val c3)), .unset, .unset, .unset, .unset, .unset, .unset] [(.int c4)])) rfl (by rw [hml]; rfl) (argsL := [(.int c4)]) (rest := []) (lenOf pd_15 rfl) rfl (by show 2 * 0 + _ ≤ _; exact Nat.le_of_eq rfl) (hb hby d13_19) (fun _ _ => ⟨rfl, e135, (by decide : 0 + 0 ≤ _), (by decide : 0 + 0 ≤ _)⟩)
  dsimp only [Pt.U, Pt.locs, Pt.cells, Pt.slots] at X136 l136 y136 z136 st136 hQ136
  subst l136 y136 z136
  obtain ⟨rfl, Nq136, e136⟩ := hQ136
  have N136 := Fr.app N135 Nq136
  refine OW.st (B := T136.setTop (mkF m 26 #[.val (.int c1), .val (.int c2), .val (.int c3), .val (.int c4), .val (.int c5), .val (.int c6), .val (.int c7), .val (.int c8), .val (.int c9), .val (.int (own_val c1)), .val (.int (own_val c2)), .val (.int (own_val c3)), .val (.int (own_val c4)), .unset, .unset, .unset, .unset, .unset] [(.int c5)])) (fun _ kk_ => st136 _ (XS.istore X136.here hx rfl (hb hby d13_22) rfl (l' := #[.val (.int c1), .val (.int c2), .val (.int c3), .val (.int c4), .val (.int c5), .val (.int c6), .val (.int c7), .val (.int c8), .val (.int c9), .val (.int (own_val c1)), .val (.int (own_val c2)), .val (.int (own_val c3)), .val (.int (own_val c4)), .unset, .unset, .unset, .unset, .unset]) rfl (XS.iload X136.here hx rfl (hb hby d13_24) rfl kk_))) ?_
  obtain ⟨_, _, ⟨T137, L137, k137, n137⟩, -, X137, ⟨Lc137, hQ137, l137, y137, z137⟩, st137⟩ := Jvm.LawKit.callS X136 hx (y := (⟨"tenorbook/book/CusipIsValidPinLaw", "refValue", "(C)I"⟩ : MethodName)) hown (mvT hZ (w_57 hw)) (mvT hZ (w_58 hw)) (mvT hZ (w_2 hw)) (mvT hZ (w_59 hw)) (by decide) (backOf (W := 0) (rmRV l Z a0 hw [] c5 h0 n0 O0 ) hZ (w_59 hw) (w_2 hw) (by decide) (by decide)) (g := (mkF m 26 #[.val (.int c1), .val (.int c2), .val (.int c3), .val (.int c4), .val (.int c5), .val (.int c6), .val (.int c7), .val (.int c8), .val (.int c9), .val (.int (own_val c1)), .val (.int (own_val c2)), .val (.int (own_val c3)), .val (.int (own_val c4)), .unset, .unset, .unset, .unset, .unset] [(.int c5)])) rfl (by rw [hml]; rfl) (argsL := [(.int c5)]) (rest := []) (lenOf pd_15 rfl) rfl (by show 2 * 0 + _ ≤ _; exact Nat.le_of_eq rfl) (hb hby d13_26) (fun _ _ => ⟨rfl, e136, (by decide : 0 + 0 ≤ _), (by decide : 0 + 0 ≤ _)⟩)
  dsimp only [Pt.U, Pt.locs, Pt.cells, Pt.slots] at X137 l137 y137 z137 st137 hQ137
  subst l137 y137 z137
  obtain ⟨rfl, Nq137, e137⟩ := hQ137
  have N137 := Fr.app N136 Nq137
  refine OW.st (B := T137.setTop (mkF m 33 #[.val (.int c1), .val (.int c2), .val (.int c3), .val (.int c4), .val (.int c5), .val (.int c6), .val (.int c7), .val (.int c8), .val (.int c9), .val (.int (own_val c1)), .val (.int (own_val c2)), .val (.int (own_val c3)), .val (.int (own_val c4)), .val (.int (own_val c5)), .unset, .unset, .unset, .unset] [(.int c6)])) (fun _ kk_ => st137 _ (XS.istore X137.here hx rfl (hb hby d13_29) rfl (l' := #[.val (.int c1), .val (.int c2), .val (.int c3), .val (.int c4), .val (.int c5), .val (.int c6), .val (.int c7), .val (.int c8), .val (.int c9), .val (.int (own_val c1)), .val (.int (own_val c2)), .val (.int (own_val c3)), .val (.int (own_val c4)), .val (.int (own_val c5)), .unset, .unset, .unset, .unset]) rfl (XS.iload X137.here hx rfl (hb hby d13_31) rfl kk_))) ?_
  obtain ⟨_, _, ⟨T138, L138, k138, n138⟩, -, X138, ⟨Lc138, hQ138, l138, y138, z138⟩, st138⟩ := Jvm.LawKit.callS X137 hx (y := (⟨"tenorbook/book/CusipIsValidPinLaw", "refValue", "(C)I"⟩ : MethodName)) hown (mvT hZ (w_57 hw)) (mvT hZ (w_58 hw)) (mvT hZ (w_2 hw)) (mvT hZ (w_59 hw)) (by decide) (backOf (W := 0) (rmRV l Z a0 hw [] c6 h0 n0 O0 ) hZ (w_59 hw) (w_2 hw) (by decide) (by decide)) (g := (mkF m 33 #[.val (.int c1), .val (.int c2), .val (.int c3), .val (.int c4), .val (.int c5), .val (.int c6), .val (.int c7), .val (.int c8), .val (.int c9), .val (.int (own_val c1)), .val (.int (own_val c2)), .val (.int (own_val c3)), .val (.int (own_val c4)), .val (.int (own_val c5)), .unset, .unset, .unset, .unset] [(.int c6)])) rfl (by rw [hml]; rfl) (argsL := [(.int c6)]) (rest := []) (lenOf pd_15 rfl) rfl (by show 2 * 0 + _ ≤ _; exact Nat.le_of_eq rfl) (hb hby d13_33) (fun _ _ => ⟨rfl, e137, (by decide : 0 + 0 ≤ _), (by decide : 0 + 0 ≤ _)⟩)
  dsimp only [Pt.U, Pt.locs, Pt.cells, Pt.slots] at X138 l138 y138 z138 st138 hQ138
  subst l138 y138 z138
  obtain ⟨rfl, Nq138, e138⟩ := hQ138
  have N138 := Fr.app N137 Nq138
  refine OW.st (B := T138.setTop (mkF m 40 #[.val (.int c1), .val (.int c2), .val (.int c3), .val (.int c4), .val (.int c5), .val (.int c6), .val (.int c7), .val (.int c8), .val (.int c9), .val (.int (own_val c1)), .val (.int (own_val c2)), .val (.int (own_val c3)), .val (.int (own_val c4)), .val (.int (own_val c5)), .val (.int (own_val c6)), .unset, .unset, .unset] [(.int c7)])) (fun _ kk_ => st138 _ (XS.istore X138.here hx rfl (hb hby d13_36) rfl (l' := #[.val (.int c1), .val (.int c2), .val (.int c3), .val (.int c4), .val (.int c5), .val (.int c6), .val (.int c7), .val (.int c8), .val (.int c9), .val (.int (own_val c1)), .val (.int (own_val c2)), .val (.int (own_val c3)), .val (.int (own_val c4)), .val (.int (own_val c5)), .val (.int (own_val c6)), .unset, .unset, .unset]) rfl (XS.iload X138.here hx rfl (hb hby d13_38) rfl kk_))) ?_
  obtain ⟨_, _, ⟨T139, L139, k139, n139⟩, -, X139, ⟨Lc139, hQ139, l139, y139, z139⟩, st139⟩ := Jvm.LawKit.callS X138 hx (y := (⟨"tenorbook/book/CusipIsValidPinLaw", "refValue", "(C)I"⟩ : MethodName)) hown (mvT hZ (w_57 hw)) (mvT hZ (w_58 hw)) (mvT hZ (w_2 hw)) (mvT hZ (w_59 hw)) (by decide) (backOf (W := 0) (rmRV l Z a0 hw [] c7 h0 n0 O0 ) hZ (w_59 hw) (w_2 hw) (by decide) (by decide)) (g := (mkF m 40 #[.val (.int c1), .val (.int c2), .val (.int c3), .val (.int c4), .val (.int c5), .val (.int c6), .val (.int c7), .val (.int c8), .val (.int c9), .val (.int (own_val c1)), .val (.int (own_val c2)), .val (.int (own_val c3)), .val (.int (own_val c4)), .val (.int (own_val c5)), .val (.int (own_val c6)), .unset, .unset, .unset] [(.int c7)])) rfl (by rw [hml]; rfl) (argsL := [(.int c7)]) (rest := []) (lenOf pd_15 rfl) rfl (by show 2 * 0 + _ ≤ _; exact Nat.le_of_eq rfl) (hb hby d13_40) (fun _ _ => ⟨rfl, e138, (by decide : 0 + 0 ≤ _), (by decide : 0 + 0 ≤ _)⟩)
  dsimp only [Pt.U, Pt.locs, Pt.cells, Pt.slots] at X139 l139 y139 z139 st139 hQ139
  subst l139 y139 z139
  obtain ⟨rfl, Nq139, e139⟩ := hQ139
  have N139 := Fr.app N138 Nq139
  refine OW.st (B := T139.setTop (mkF m 47 #[.val (.int c1), .val (.int c2), .val (.int c3), .val (.int c4), .val (.int c5), .val (.int c6), .val (.int c7), .val (.int c8), .val (.int c9), .val (.int (own_val c1)), .val (.int (own_val c2)), .val (.int (own_val c3)), .val (.int (own_val c4)), .val (.int (own_val c5)), .val (.int (own_val c6)), .val (.int (own_val c7)), .unset, .unset] [(.int c8)])) (fun _ kk_ => st139 _ (XS.istore X139.here hx rfl (hb hby d13_43) rfl (l' := #[.val (.int c1), .val (.int c2), .val (.int c3), .val (.int c4), .val (.int c5), .val (.int c6), .val (.int c7), .val (.int c8), .val (.int c9), .val (.int (own_val c1)), .val (.int (own_val c2)), .val (.int (own_val c3)), .val (.int (own_val c4)), .val (.int (own_val c5)), .val (.int (own_val c6)), .val (.int (own_val c7)), .unset, .unset]) rfl (XS.iload X139.here hx rfl (hb hby d13_45) rfl kk_))) ?_
  obtain ⟨_, _, ⟨T140, L140, k140, n140⟩, -, X140, ⟨Lc140, hQ140, l140, y140, z140⟩, st140⟩ := Jvm.LawKit.callS X139 hx (y := (⟨"tenorbook/book/CusipIsValidPinLaw", "refValue", "(C)I"⟩ : MethodName)) hown (mvT hZ (w_57 hw)) (mvT hZ (w_58 hw)) (mvT hZ (w_2 hw)) (mvT hZ (w_59 hw)) (by decide) (backOf (W := 0) (rmRV l Z a0 hw [] c8 h0 n0 O0 ) hZ (w_59 hw) (w_2 hw) (by decide) (by decide)) (g := (mkF m 47 #[.val (.int c1), .val (.int c2), .val (.int c3), .val (.int c4), .val (.int c5), .val (.int c6), .val (.int c7), .val (.int c8), .val (.int c9), .val (.int (own_val c1)), .val (.int (own_val c2)), .val (.int (own_val c3)), .val (.int (own_val c4)), .val (.int (own_val c5)), .val (.int (own_val c6)), .val (.int (own_val c7)), .unset, .unset] [(.int c8)])) rfl (by rw [hml]; rfl) (argsL := [(.int c8)]) (rest := []) (lenOf pd_15 rfl) rfl (by show 2 * 0 + _ ≤ _; exact Nat.le_of_eq rfl) (hb hby d13_47) (fun _ _ => ⟨rfl, e139, (by decide : 0 + 0 ≤ _), (by decide : 0 + 0 ≤ _)⟩)
  dsimp only [Pt.U, Pt.locs, Pt.cells, Pt.slots] at X140 l140 y140 z140 st140 hQ140
  subst l140 y140 z140
  obtain ⟨rfl, Nq140, e140⟩ := hQ140
  have N140 := Fr.app N139 Nq140
  refine OW.st (B := T140.setTop (mkF m 54 #[.val (.int c1), .val (.int c2), .val (.int c3), .val (.int c4), .val (.int c5), .val (.int c6), .val (.int c7), .val (.int c8), .val (.int c9), .val (.int (own_val c1)), .val (.int (own_val c2)), .val (.int (own_val c3)), .val (.int (own_val c4)), .val (.int (own_val c5)), .val (.int (own_val c6)), .val (.int (own_val c7)), .val (.int (own_val c8)), .unset] [(.int (own_val c1))])) (fun _ kk_ => st140 _ (XS.istore X140.here hx rfl (hb hby d13_50) rfl (l' := #[.val (.int c1), .val (.int c2), .val (.int c3), .val (.int c4), .val (.int c5), .val (.int c6), .val (.int c7), .val (.int c8), .val (.int c9), .val (.int (own_val c1)), .val (.int (own_val c2)), .val (.int (own_val c3)), .val (.int (own_val c4)), .val (.int (own_val c5)), .val (.int (own_val c6)), .val (.int (own_val c7)), .val (.int (own_val c8)), .unset]) rfl (XS.iload X140.here hx rfl (hb hby d13_52) rfl kk_))) ?_
  by_cases hc141 : (own_val c1) < (0 : Int32)
  · refine OW.st (B := T140.setTop (mkF m 93 #[.val (.int c1), .val (.int c2), .val (.int c3), .val (.int c4), .val (.int c5), .val (.int c6), .val (.int c7), .val (.int c8), .val (.int c9), .val (.int (own_val c1)), .val (.int (own_val c2)), .val (.int (own_val c3)), .val (.int (own_val c4)), .val (.int (own_val c5)), .val (.int (own_val c6)), .val (.int (own_val c7)), .val (.int (own_val c8)), .unset] [(.int (0 : Int32))])) (fun _ kk_ => XS.ifYes X140.here hx rfl (pc0 := 54) (pc' := 92) rfl (hb hby d13_54) rfl ((if0 _ _).trans (tlt hc141).1) (by decide) (by decide) (XS.iconst X140.here hx rfl (hb hby d13_92) kk_)) ?_
    exact OW.ret X140 hx hlk (i := .ireturn) Bd.returns rfl (Or.inl ⟨rfl, Or.inr (Or.inl rfl), _, rfl⟩) (hb hby d13_93) e140 (by decide) (by decide) ⟨_, rfl, N140, rfl, own_ckneg 0 (by decide) (c := c1) rfl hc141⟩
  · refine OW.st (B := T140.setTop (mkF m 59 #[.val (.int c1), .val (.int c2), .val (.int c3), .val (.int c4), .val (.int c5), .val (.int c6), .val (.int c7), .val (.int c8), .val (.int c9), .val (.int (own_val c1)), .val (.int (own_val c2)), .val (.int (own_val c3)), .val (.int (own_val c4)), .val (.int (own_val c5)), .val (.int (own_val c6)), .val (.int (own_val c7)), .val (.int (own_val c8)), .unset] [(.int (own_val c2))])) (fun _ kk_ => XS.ifNo X140.here hx rfl (hb hby d13_54) rfl ((if0 _ _).trans (flt hc141).1) (XS.iload X140.here hx rfl (hb hby d13_57) rfl kk_)) ?_
    by_cases hc142 : (own_val c2) < (0 : Int32)
    · refine OW.st (B := T140.setTop (mkF m 93 #[.val (.int c1), .val (.int c2), .val (.int c3), .val (.int c4), .val (.int c5), .val (.int c6), .val (.int c7), .val (.int c8), .val (.int c9), .val (.int (own_val c1)), .val (.int (own_val c2)), .val (.int (own_val c3)), .val (.int (own_val c4)), .val (.int (own_val c5)), .val (.int (own_val c6)), .val (.int (own_val c7)), .val (.int (own_val c8)), .unset] [(.int (0 : Int32))])) (fun _ kk_ => XS.ifYes X140.here hx rfl (pc0 := 59) (pc' := 92) rfl (hb hby d13_59) rfl ((if0 _ _).trans (tlt hc142).1) (by decide) (by decide) (XS.iconst X140.here hx rfl (hb hby d13_92) kk_)) ?_
      exact OW.ret X140 hx hlk (i := .ireturn) Bd.returns rfl (Or.inl ⟨rfl, Or.inr (Or.inl rfl), _, rfl⟩) (hb hby d13_93) e140 (by decide) (by decide) ⟨_, rfl, N140, rfl, own_ckneg 1 (by decide) (c := c2) rfl hc142⟩
    · refine OW.st (B := T140.setTop (mkF m 64 #[.val (.int c1), .val (.int c2), .val (.int c3), .val (.int c4), .val (.int c5), .val (.int c6), .val (.int c7), .val (.int c8), .val (.int c9), .val (.int (own_val c1)), .val (.int (own_val c2)), .val (.int (own_val c3)), .val (.int (own_val c4)), .val (.int (own_val c5)), .val (.int (own_val c6)), .val (.int (own_val c7)), .val (.int (own_val c8)), .unset] [(.int (own_val c3))])) (fun _ kk_ => XS.ifNo X140.here hx rfl (hb hby d13_59) rfl ((if0 _ _).trans (flt hc142).1) (XS.iload X140.here hx rfl (hb hby d13_62) rfl kk_)) ?_
      by_cases hc143 : (own_val c3) < (0 : Int32)
      · refine OW.st (B := T140.setTop (mkF m 93 #[.val (.int c1), .val (.int c2), .val (.int c3), .val (.int c4), .val (.int c5), .val (.int c6), .val (.int c7), .val (.int c8), .val (.int c9), .val (.int (own_val c1)), .val (.int (own_val c2)), .val (.int (own_val c3)), .val (.int (own_val c4)), .val (.int (own_val c5)), .val (.int (own_val c6)), .val (.int (own_val c7)), .val (.int (own_val c8)), .unset] [(.int (0 : Int32))])) (fun _ kk_ => XS.ifYes X140.here hx rfl (pc0 := 64) (pc' := 92) rfl (hb hby d13_64) rfl ((if0 _ _).trans (tlt hc143).1) (by decide) (by decide) (XS.iconst X140.here hx rfl (hb hby d13_92) kk_)) ?_
        exact OW.ret X140 hx hlk (i := .ireturn) Bd.returns rfl (Or.inl ⟨rfl, Or.inr (Or.inl rfl), _, rfl⟩) (hb hby d13_93) e140 (by decide) (by decide) ⟨_, rfl, N140, rfl, own_ckneg 2 (by decide) (c := c3) rfl hc143⟩
      · refine OW.st (B := T140.setTop (mkF m 69 #[.val (.int c1), .val (.int c2), .val (.int c3), .val (.int c4), .val (.int c5), .val (.int c6), .val (.int c7), .val (.int c8), .val (.int c9), .val (.int (own_val c1)), .val (.int (own_val c2)), .val (.int (own_val c3)), .val (.int (own_val c4)), .val (.int (own_val c5)), .val (.int (own_val c6)), .val (.int (own_val c7)), .val (.int (own_val c8)), .unset] [(.int (own_val c4))])) (fun _ kk_ => XS.ifNo X140.here hx rfl (hb hby d13_64) rfl ((if0 _ _).trans (flt hc143).1) (XS.iload X140.here hx rfl (hb hby d13_67) rfl kk_)) ?_
        by_cases hc144 : (own_val c4) < (0 : Int32)
        · refine OW.st (B := T140.setTop (mkF m 93 #[.val (.int c1), .val (.int c2), .val (.int c3), .val (.int c4), .val (.int c5), .val (.int c6), .val (.int c7), .val (.int c8), .val (.int c9), .val (.int (own_val c1)), .val (.int (own_val c2)), .val (.int (own_val c3)), .val (.int (own_val c4)), .val (.int (own_val c5)), .val (.int (own_val c6)), .val (.int (own_val c7)), .val (.int (own_val c8)), .unset] [(.int (0 : Int32))])) (fun _ kk_ => XS.ifYes X140.here hx rfl (pc0 := 69) (pc' := 92) rfl (hb hby d13_69) rfl ((if0 _ _).trans (tlt hc144).1) (by decide) (by decide) (XS.iconst X140.here hx rfl (hb hby d13_92) kk_)) ?_
          exact OW.ret X140 hx hlk (i := .ireturn) Bd.returns rfl (Or.inl ⟨rfl, Or.inr (Or.inl rfl), _, rfl⟩) (hb hby d13_93) e140 (by decide) (by decide) ⟨_, rfl, N140, rfl, own_ckneg 3 (by decide) (c := c4) rfl hc144⟩
        · refine OW.st (B := T140.setTop (mkF m 74 #[.val (.int c1), .val (.int c2), .val (.int c3), .val (.int c4), .val (.int c5), .val (.int c6), .val (.int c7), .val (.int c8), .val (.int c9), .val (.int (own_val c1)), .val (.int (own_val c2)), .val (.int (own_val c3)), .val (.int (own_val c4)), .val (.int (own_val c5)), .val (.int (own_val c6)), .val (.int (own_val c7)), .val (.int (own_val c8)), .unset] [(.int (own_val c5))])) (fun _ kk_ => XS.ifNo X140.here hx rfl (hb hby d13_69) rfl ((if0 _ _).trans (flt hc144).1) (XS.iload X140.here hx rfl (hb hby d13_72) rfl kk_)) ?_
          by_cases hc145 : (own_val c5) < (0 : Int32)
          · refine OW.st (B := T140.setTop (mkF m 93 #[.val (.int c1), .val (.int c2), .val (.int c3), .val (.int c4), .val (.int c5), .val (.int c6), .val (.int c7), .val (.int c8), .val (.int c9), .val (.int (own_val c1)), .val (.int (own_val c2)), .val (.int (own_val c3)), .val (.int (own_val c4)), .val (.int (own_val c5)), .val (.int (own_val c6)), .val (.int (own_val c7)), .val (.int (own_val c8)), .unset] [(.int (0 : Int32))])) (fun _ kk_ => XS.ifYes X140.here hx rfl (pc0 := 74) (pc' := 92) rfl (hb hby d13_74) rfl ((if0 _ _).trans (tlt hc145).1) (by decide) (by decide) (XS.iconst X140.here hx rfl (hb hby d13_92) kk_)) ?_
            exact OW.ret X140 hx hlk (i := .ireturn) Bd.returns rfl (Or.inl ⟨rfl, Or.inr (Or.inl rfl), _, rfl⟩) (hb hby d13_93) e140 (by decide) (by decide) ⟨_, rfl, N140, rfl, own_ckneg 4 (by decide) (c := c5) rfl hc145⟩
          · refine OW.st (B := T140.setTop (mkF m 79 #[.val (.int c1), .val (.int c2), .val (.int c3), .val (.int c4), .val (.int c5), .val (.int c6), .val (.int c7), .val (.int c8), .val (.int c9), .val (.int (own_val c1)), .val (.int (own_val c2)), .val (.int (own_val c3)), .val (.int (own_val c4)), .val (.int (own_val c5)), .val (.int (own_val c6)), .val (.int (own_val c7)), .val (.int (own_val c8)), .unset] [(.int (own_val c6))])) (fun _ kk_ => XS.ifNo X140.here hx rfl (hb hby d13_74) rfl ((if0 _ _).trans (flt hc145).1) (XS.iload X140.here hx rfl (hb hby d13_77) rfl kk_)) ?_
            by_cases hc146 : (own_val c6) < (0 : Int32)
            · refine OW.st (B := T140.setTop (mkF m 93 #[.val (.int c1), .val (.int c2), .val (.int c3), .val (.int c4), .val (.int c5), .val (.int c6), .val (.int c7), .val (.int c8), .val (.int c9), .val (.int (own_val c1)), .val (.int (own_val c2)), .val (.int (own_val c3)), .val (.int (own_val c4)), .val (.int (own_val c5)), .val (.int (own_val c6)), .val (.int (own_val c7)), .val (.int (own_val c8)), .unset] [(.int (0 : Int32))])) (fun _ kk_ => XS.ifYes X140.here hx rfl (pc0 := 79) (pc' := 92) rfl (hb hby d13_79) rfl ((if0 _ _).trans (tlt hc146).1) (by decide) (by decide) (XS.iconst X140.here hx rfl (hb hby d13_92) kk_)) ?_
              exact OW.ret X140 hx hlk (i := .ireturn) Bd.returns rfl (Or.inl ⟨rfl, Or.inr (Or.inl rfl), _, rfl⟩) (hb hby d13_93) e140 (by decide) (by decide) ⟨_, rfl, N140, rfl, own_ckneg 5 (by decide) (c := c6) rfl hc146⟩
            · refine OW.st (B := T140.setTop (mkF m 84 #[.val (.int c1), .val (.int c2), .val (.int c3), .val (.int c4), .val (.int c5), .val (.int c6), .val (.int c7), .val (.int c8), .val (.int c9), .val (.int (own_val c1)), .val (.int (own_val c2)), .val (.int (own_val c3)), .val (.int (own_val c4)), .val (.int (own_val c5)), .val (.int (own_val c6)), .val (.int (own_val c7)), .val (.int (own_val c8)), .unset] [(.int (own_val c7))])) (fun _ kk_ => XS.ifNo X140.here hx rfl (hb hby d13_79) rfl ((if0 _ _).trans (flt hc146).1) (XS.iload X140.here hx rfl (hb hby d13_82) rfl kk_)) ?_
              by_cases hc147 : (own_val c7) < (0 : Int32)
              · refine OW.st (B := T140.setTop (mkF m 93 #[.val (.int c1), .val (.int c2), .val (.int c3), .val (.int c4), .val (.int c5), .val (.int c6), .val (.int c7), .val (.int c8), .val (.int c9), .val (.int (own_val c1)), .val (.int (own_val c2)), .val (.int (own_val c3)), .val (.int (own_val c4)), .val (.int (own_val c5)), .val (.int (own_val c6)), .val (.int (own_val c7)), .val (.int (own_val c8)), .unset] [(.int (0 : Int32))])) (fun _ kk_ => XS.ifYes X140.here hx rfl (pc0 := 84) (pc' := 92) rfl (hb hby d13_84) rfl ((if0 _ _).trans (tlt hc147).1) (by decide) (by decide) (XS.iconst X140.here hx rfl (hb hby d13_92) kk_)) ?_
                exact OW.ret X140 hx hlk (i := .ireturn) Bd.returns rfl (Or.inl ⟨rfl, Or.inr (Or.inl rfl), _, rfl⟩) (hb hby d13_93) e140 (by decide) (by decide) ⟨_, rfl, N140, rfl, own_ckneg 6 (by decide) (c := c7) rfl hc147⟩
              · refine OW.st (B := T140.setTop (mkF m 89 #[.val (.int c1), .val (.int c2), .val (.int c3), .val (.int c4), .val (.int c5), .val (.int c6), .val (.int c7), .val (.int c8), .val (.int c9), .val (.int (own_val c1)), .val (.int (own_val c2)), .val (.int (own_val c3)), .val (.int (own_val c4)), .val (.int (own_val c5)), .val (.int (own_val c6)), .val (.int (own_val c7)), .val (.int (own_val c8)), .unset] [(.int (own_val c8))])) (fun _ kk_ => XS.ifNo X140.here hx rfl (hb hby d13_84) rfl ((if0 _ _).trans (flt hc147).1) (XS.iload X140.here hx rfl (hb hby d13_87) rfl kk_)) ?_
                by_cases hc148 : (own_val c8) < (0 : Int32)
                · refine OW.st (B := T140.setTop (mkF m 93 #[.val (.int c1), .val (.int c2), .val (.int c3), .val (.int c4), .val (.int c5), .val (.int c6), .val (.int c7), .val (.int c8), .val (.int c9), .val (.int (own_val c1)), .val (.int (own_val c2)), .val (.int (own_val c3)), .val (.int (own_val c4)), .val (.int (own_val c5)), .val (.int (own_val c6)), .val (.int (own_val c7)), .val (.int (own_val c8)), .unset] [(.int (0 : Int32))])) (fun _ kk_ => XS.ifNo X140.here hx rfl (hb hby d13_89) rfl ((if0 _ _).trans (tlt hc148).2.1) (XS.iconst X140.here hx rfl (hb hby d13_92) kk_)) ?_
                  exact OW.ret X140 hx hlk (i := .ireturn) Bd.returns rfl (Or.inl ⟨rfl, Or.inr (Or.inl rfl), _, rfl⟩) (hb hby d13_93) e140 (by decide) (by decide) ⟨_, rfl, N140, rfl, own_ckneg 7 (by decide) (c := c8) rfl hc148⟩
                · refine OW.st (B := T140.setTop (mkF m 98 #[.val (.int c1), .val (.int c2), .val (.int c3), .val (.int c4), .val (.int c5), .val (.int c6), .val (.int c7), .val (.int c8), .val (.int c9), .val (.int (own_val c1)), .val (.int (own_val c2)), .val (.int (own_val c3)), .val (.int (own_val c4)), .val (.int (own_val c5)), .val (.int (own_val c6)), .val (.int (own_val c7)), .val (.int (own_val c8)), .unset] [(.int (48 : Int32)), (.int c9)])) (fun _ kk_ => XS.ifYes X140.here hx rfl (pc0 := 89) (pc' := 94) rfl (hb hby d13_89) rfl ((if0 _ _).trans (flt hc148).2.1) (by decide) (by decide) (XS.iload X140.here hx rfl (hb hby d13_94) rfl (XS.bipush X140.here hx rfl (hb hby d13_96) kk_))) ?_
                  by_cases hc149 : c9 < (48 : Int32)
                  · refine OW.st (B := T140.setTop (mkF m 109 #[.val (.int c1), .val (.int c2), .val (.int c3), .val (.int c4), .val (.int c5), .val (.int c6), .val (.int c7), .val (.int c8), .val (.int c9), .val (.int (own_val c1)), .val (.int (own_val c2)), .val (.int (own_val c3)), .val (.int (own_val c4)), .val (.int (own_val c5)), .val (.int (own_val c6)), .val (.int (own_val c7)), .val (.int (own_val c8)), .unset] [(.int (0 : Int32))])) (fun _ kk_ => XS.icmpYes X140.here hx rfl (pc0 := 98) (pc' := 108) rfl (hb hby d13_98) rfl (tlt hc149).1 (by decide) (by decide) (XS.iconst X140.here hx rfl (hb hby d13_108) kk_)) ?_
                    exact OW.ret X140 hx hlk (i := .ireturn) Bd.returns rfl (Or.inl ⟨rfl, Or.inr (Or.inl rfl), _, rfl⟩) (hb hby d13_109) e140 (by decide) (by decide) ⟨_, rfl, N140, rfl, own_ckrng (c := c9) rfl (Or.inl hc149)⟩
                  · refine OW.st (B := T140.setTop (mkF m 105 #[.val (.int c1), .val (.int c2), .val (.int c3), .val (.int c4), .val (.int c5), .val (.int c6), .val (.int c7), .val (.int c8), .val (.int c9), .val (.int (own_val c1)), .val (.int (own_val c2)), .val (.int (own_val c3)), .val (.int (own_val c4)), .val (.int (own_val c5)), .val (.int (own_val c6)), .val (.int (own_val c7)), .val (.int (own_val c8)), .unset] [(.int (57 : Int32)), (.int c9)])) (fun _ kk_ => XS.icmpNo X140.here hx rfl (hb hby d13_98) rfl (flt hc149).1 (XS.iload X140.here hx rfl (hb hby d13_101) rfl (XS.bipush X140.here hx rfl (hb hby d13_103) kk_))) ?_
                    by_cases hc150 : (57 : Int32) < c9
                    · refine OW.st (B := T140.setTop (mkF m 109 #[.val (.int c1), .val (.int c2), .val (.int c3), .val (.int c4), .val (.int c5), .val (.int c6), .val (.int c7), .val (.int c8), .val (.int c9), .val (.int (own_val c1)), .val (.int (own_val c2)), .val (.int (own_val c3)), .val (.int (own_val c4)), .val (.int (own_val c5)), .val (.int (own_val c6)), .val (.int (own_val c7)), .val (.int (own_val c8)), .unset] [(.int (0 : Int32))])) (fun _ kk_ => XS.icmpNo X140.here hx rfl (hb hby d13_105) rfl (tlt hc150).2.2.2 (XS.iconst X140.here hx rfl (hb hby d13_108) kk_)) ?_
                      exact OW.ret X140 hx hlk (i := .ireturn) Bd.returns rfl (Or.inl ⟨rfl, Or.inr (Or.inl rfl), _, rfl⟩) (hb hby d13_109) e140 (by decide) (by decide) ⟨_, rfl, N140, rfl, own_ckrng (c := c9) rfl (Or.inr hc150)⟩
                    · refine OW.st (B := T140.setTop (mkF m 112 #[.val (.int c1), .val (.int c2), .val (.int c3), .val (.int c4), .val (.int c5), .val (.int c6), .val (.int c7), .val (.int c8), .val (.int c9), .val (.int (own_val c1)), .val (.int (own_val c2)), .val (.int (own_val c3)), .val (.int (own_val c4)), .val (.int (own_val c5)), .val (.int (own_val c6)), .val (.int (own_val c7)), .val (.int (own_val c8)), .unset] [(.int (own_val c1))])) (fun _ kk_ => XS.icmpYes X140.here hx rfl (pc0 := 105) (pc' := 110) rfl (hb hby d13_105) rfl (flt hc150).2.2.2 (by decide) (by decide) (XS.iload X140.here hx rfl (hb hby d13_110) rfl kk_)) ?_
                      obtain ⟨_, _, ⟨T151, L151, k151, n151⟩, -, X151, ⟨Lc151, hQ151, l151, y151, z151⟩, st151⟩ := Jvm.LawKit.callS X140 hx (y := (⟨"tenorbook/book/CusipIsValidPinLaw", "ds", "(I)I"⟩ : MethodName)) hown (mvT hZ (w_115 hw)) (mvT hZ (w_116 hw)) (mvT hZ (w_2 hw)) (mvT hZ (w_117 hw)) (by decide) (backOf (W := 0) (rmDS l Z a0 hw [] (own_val c1) h0 n0 O0 ) hZ (w_117 hw) (w_2 hw) (by decide) (by decide)) (g := (mkF m 112 #[.val (.int c1), .val (.int c2), .val (.int c3), .val (.int c4), .val (.int c5), .val (.int c6), .val (.int c7), .val (.int c8), .val (.int c9), .val (.int (own_val c1)), .val (.int (own_val c2)), .val (.int (own_val c3)), .val (.int (own_val c4)), .val (.int (own_val c5)), .val (.int (own_val c6)), .val (.int (own_val c7)), .val (.int (own_val c8)), .unset] [(.int (own_val c1))])) rfl (by rw [hml]; rfl) (argsL := [(.int (own_val c1))]) (rest := []) (lenOf pd_2 rfl) rfl (by show 2 * 0 + _ ≤ _; exact Nat.le_of_eq rfl) (hb hby d13_112) (fun _ _ => ⟨rfl, e140, (by decide : 0 + 0 ≤ _), (by decide : 0 + 0 ≤ _)⟩)
                      dsimp only [Pt.U, Pt.locs, Pt.cells, Pt.slots] at X151 l151 y151 z151 st151 hQ151
                      subst l151 y151 z151
                      obtain ⟨rfl, Nq151, e151⟩ := hQ151
                      have N151 := Fr.app N140 Nq151
                      refine OW.st (B := T151.setTop (mkF m 119 #[.val (.int c1), .val (.int c2), .val (.int c3), .val (.int c4), .val (.int c5), .val (.int c6), .val (.int c7), .val (.int c8), .val (.int c9), .val (.int (own_val c1)), .val (.int (own_val c2)), .val (.int (own_val c3)), .val (.int (own_val c4)), .val (.int (own_val c5)), .val (.int (own_val c6)), .val (.int (own_val c7)), .val (.int (own_val c8)), .unset] [(.int ((2 : Int32) * (own_val c2))), (.int (own_dsx (own_val c1)))])) (fun _ kk_ => st151 _ (XS.iconst X151.here hx rfl (hb hby d13_115) (XS.iload X151.here hx rfl (hb hby d13_116) rfl (XS.imul X151.here hx rfl (hb hby d13_118) rfl kk_)))) ?_
                      obtain ⟨_, _, ⟨T152, L152, k152, n152⟩, -, X152, ⟨Lc152, hQ152, l152, y152, z152⟩, st152⟩ := Jvm.LawKit.callS X151 hx (y := (⟨"tenorbook/book/CusipIsValidPinLaw", "ds", "(I)I"⟩ : MethodName)) hown (mvT hZ (w_115 hw)) (mvT hZ (w_116 hw)) (mvT hZ (w_2 hw)) (mvT hZ (w_117 hw)) (by decide) (backOf (W := 1) (rmDS l Z a0 hw [] ((2 : Int32) * (own_val c2)) h0 n0 O0 ) hZ (w_117 hw) (w_2 hw) (by decide) (by decide)) (g := (mkF m 119 #[.val (.int c1), .val (.int c2), .val (.int c3), .val (.int c4), .val (.int c5), .val (.int c6), .val (.int c7), .val (.int c8), .val (.int c9), .val (.int (own_val c1)), .val (.int (own_val c2)), .val (.int (own_val c3)), .val (.int (own_val c4)), .val (.int (own_val c5)), .val (.int (own_val c6)), .val (.int (own_val c7)), .val (.int (own_val c8)), .unset] [(.int ((2 : Int32) * (own_val c2))), (.int (own_dsx (own_val c1)))])) rfl (by rw [hml]; rfl) (argsL := [(.int ((2 : Int32) * (own_val c2)))]) (rest := [(.int (own_dsx (own_val c1)))]) (lenOf pd_2 rfl) rfl (by show 2 * 0 + _ ≤ _; exact Nat.le_of_eq rfl) (hb hby d13_119) (fun _ _ => ⟨rfl, e151, (by decide : 0 + 0 ≤ _), (by decide : 0 + 0 ≤ _)⟩)
                      dsimp only [Pt.U, Pt.locs, Pt.cells, Pt.slots] at X152 l152 y152 z152 st152 hQ152
                      subst l152 y152 z152
                      obtain ⟨rfl, Nq152, e152⟩ := hQ152
                      have N152 := Fr.app N151 Nq152
                      refine OW.st (B := T152.setTop (mkF m 125 #[.val (.int c1), .val (.int c2), .val (.int c3), .val (.int c4), .val (.int c5), .val (.int c6), .val (.int c7), .val (.int c8), .val (.int c9), .val (.int (own_val c1)), .val (.int (own_val c2)), .val (.int (own_val c3)), .val (.int (own_val c4)), .val (.int (own_val c5)), .val (.int (own_val c6)), .val (.int (own_val c7)), .val (.int (own_val c8)), .unset] [(.int (own_val c3)), (.int ((own_dsx (own_val c1)) + (own_dsx ((2 : Int32) * (own_val c2)))))])) (fun _ kk_ => st152 _ (XS.iadd X152.here hx rfl (hb hby d13_122) rfl (XS.iload X152.here hx rfl (hb hby d13_123) rfl kk_))) ?_
                      obtain ⟨_, _, ⟨T153, L153, k153, n153⟩, -, X153, ⟨Lc153, hQ153, l153, y153, z153⟩, st153⟩ := Jvm.LawKit.callS X152 hx (y := (⟨"tenorbook/book/CusipIsValidPinLaw", "ds", "(I)I"⟩ : MethodName)) hown (mvT hZ (w_115 hw)) (mvT hZ (w_116 hw)) (mvT hZ (w_2 hw)) (mvT hZ (w_117 hw)) (by decide) (backOf (W := 1) (rmDS l Z a0 hw [] (own_val c3) h0 n0 O0 ) hZ (w_117 hw) (w_2 hw) (by decide) (by decide)) (g := (mkF m 125 #[.val (.int c1), .val (.int c2), .val (.int c3), .val (.int c4), .val (.int c5), .val (.int c6), .val (.int c7), .val (.int c8), .val (.int c9), .val (.int (own_val c1)), .val (.int (own_val c2)), .val (.int (own_val c3)), .val (.int (own_val c4)), .val (.int (own_val c5)), .val (.int (own_val c6)), .val (.int (own_val c7)), .val (.int (own_val c8)), .unset] [(.int (own_val c3)), (.int ((own_dsx (own_val c1)) + (own_dsx ((2 : Int32) * (own_val c2)))))])) rfl (by rw [hml]; rfl) (argsL := [(.int (own_val c3))]) (rest := [(.int ((own_dsx (own_val c1)) + (own_dsx ((2 : Int32) * (own_val c2)))))]) (lenOf pd_2 rfl) rfl (by show 2 * 0 + _ ≤ _; exact Nat.le_of_eq rfl) (hb hby d13_125) (fun _ _ => ⟨rfl, e152, (by decide : 0 + 0 ≤ _), (by decide : 0 + 0 ≤ _)⟩)
                      dsimp only [Pt.U, Pt.locs, Pt.cells, Pt.slots] at X153 l153 y153 z153 st153 hQ153
                      subst l153 y153 z153
                      obtain ⟨rfl, Nq153, e153⟩ := hQ153
                      have N153 := Fr.app N152 Nq153
                      refine OW.st (B := T153.setTop (mkF m 133 #[.val (.int c1), .val (.int c2), .val (.int c3), .val (.int c4), .val (.int c5), .val (.int c6), .val (.int c7), .val (.int c8), .val (.int c9), .val (.int (own_val c1)), .val (.int (own_val c2)), .val (.int (own_val c3)), .val (.int (own_val c4)), .val (.int (own_val c5)), .val (.int (own_val c6)), .val (.int (own_val c7)), .val (.int (own_val c8)), .unset] [(.int ((2 : Int32) * (own_val c4))), (.int (((own_dsx (own_val c1)) + (own_dsx ((2 : Int32) * (own_val c2)))) + (own_dsx (own_val c3))))])) (fun _ kk_ => st153 _ (XS.iadd X153.here hx rfl (hb hby d13_128) rfl (XS.iconst X153.here hx rfl (hb hby d13_129) (XS.iload X153.here hx rfl (hb hby d13_130) rfl (XS.imul X153.here hx rfl (hb hby d13_132) rfl kk_))))) ?_
                      obtain ⟨_, _, ⟨T154, L154, k154, n154⟩, -, X154, ⟨Lc154, hQ154, l154, y154, z154⟩, st154⟩ := Jvm.LawKit.callS X153 hx (y := (⟨"tenorbook/book/CusipIsValidPinLaw", "ds", "(I)I"⟩ : MethodName)) hown (mvT hZ (w_115 hw)) (mvT hZ (w_116 hw)) (mvT hZ (w_2 hw)) (mvT hZ (w_117 hw)) (by decide) (backOf (W := 1) (rmDS l Z a0 hw [] ((2 : Int32) * (own_val c4)) h0 n0 O0 ) hZ (w_117 hw) (w_2 hw) (by decide) (by decide)) (g := (mkF m 133 #[.val (.int c1), .val (.int c2), .val (.int c3), .val (.int c4), .val (.int c5), .val (.int c6), .val (.int c7), .val (.int c8), .val (.int c9), .val (.int (own_val c1)), .val (.int (own_val c2)), .val (.int (own_val c3)), .val (.int (own_val c4)), .val (.int (own_val c5)), .val (.int (own_val c6)), .val (.int (own_val c7)), .val (.int (own_val c8)), .unset] [(.int ((2 : Int32) * (own_val c4))), (.int (((own_dsx (own_val c1)) + (own_dsx ((2 : Int32) * (own_val c2)))) + (own_dsx (own_val c3))))])) rfl (by rw [hml]; rfl) (argsL := [(.int ((2 : Int32) * (own_val c4)))]) (rest := [(.int (((own_dsx (own_val c1)) + (own_dsx ((2 : Int32) * (own_val c2)))) + (own_dsx (own_val c3))))]) (lenOf pd_2 rfl) rfl (by show 2 * 0 + _ ≤ _; exact Nat.le_of_eq rfl) (hb hby d13_133) (fun _ _ => ⟨rfl, e153, (by decide : 0 + 0 ≤ _), (by decide : 0 + 0 ≤ _)⟩)
                      dsimp only [Pt.U, Pt.locs, Pt.cells, Pt.slots] at X154 l154 y154 z154 st154 hQ154
                      subst l154 y154 z154
                      obtain ⟨rfl, Nq154, e154⟩ := hQ154
                      have N154 := Fr.app N153 Nq154
                      refine OW.st (B := T154.setTop (mkF m 139 #[.val (.int c1), .val (.int c2), .val (.int c3), .val (.int c4), .val (.int c5), .val (.int c6), .val (.int c7), .val (.int c8), .val (.int c9), .val (.int (own_val c1)), .val (.int (own_val c2)), .val (.int (own_val c3)), .val (.int (own_val c4)), .val (.int (own_val c5)), .val (.int (own_val c6)), .val (.int (own_val c7)), .val (.int (own_val c8)), .unset] [(.int (own_val c5)), (.int ((((own_dsx (own_val c1)) + (own_dsx ((2 : Int32) * (own_val c2)))) + (own_dsx (own_val c3))) + (own_dsx ((2 : Int32) * (own_val c4)))))])) (fun _ kk_ => st154 _ (XS.iadd X154.here hx rfl (hb hby d13_136) rfl (XS.iload X154.here hx rfl (hb hby d13_137) rfl kk_))) ?_
                      obtain ⟨_, _, ⟨T155, L155, k155, n155⟩, -, X155, ⟨Lc155, hQ155, l155, y155, z155⟩, st155⟩ := Jvm.LawKit.callS X154 hx (y := (⟨"tenorbook/book/CusipIsValidPinLaw", "ds", "(I)I"⟩ : MethodName)) hown (mvT hZ (w_115 hw)) (mvT hZ (w_116 hw)) (mvT hZ (w_2 hw)) (mvT hZ (w_117 hw)) (by decide) (backOf (W := 1) (rmDS l Z a0 hw [] (own_val c5) h0 n0 O0 ) hZ (w_117 hw) (w_2 hw) (by decide) (by decide)) (g := (mkF m 139 #[.val (.int c1), .val (.int c2), .val (.int c3), .val (.int c4), .val (.int c5), .val (.int c6), .val (.int c7), .val (.int c8), .val (.int c9), .val (.int (own_val c1)), .val (.int (own_val c2)), .val (.int (own_val c3)), .val (.int (own_val c4)), .val (.int (own_val c5)), .val (.int (own_val c6)), .val (.int (own_val c7)), .val (.int (own_val c8)), .unset] [(.int (own_val c5)), (.int ((((own_dsx (own_val c1)) + (own_dsx ((2 : Int32) * (own_val c2)))) + (own_dsx (own_val c3))) + (own_dsx ((2 : Int32) * (own_val c4)))))])) rfl (by rw [hml]; rfl) (argsL := [(.int (own_val c5))]) (rest := [(.int ((((own_dsx (own_val c1)) + (own_dsx ((2 : Int32) * (own_val c2)))) + (own_dsx (own_val c3))) + (own_dsx ((2 : Int32) * (own_val c4)))))]) (lenOf pd_2 rfl) rfl (by show 2 * 0 + _ ≤ _; exact Nat.le_of_eq rfl) (hb hby d13_139) (fun _ _ => ⟨rfl, e154, (by decide : 0 + 0 ≤ _), (by decide : 0 + 0 ≤ _)⟩)
                      dsimp only [Pt.U, Pt.locs, Pt.cells, Pt.slots] at X155 l155 y155 z155 st155 hQ155
                      subst l155 y155 z155
                      obtain ⟨rfl, Nq155, e155⟩ := hQ155
                      have N155 := Fr.app N154 Nq155
                      refine OW.st (B := T155.setTop (mkF m 147 #[.val (.int c1), .val (.int c2), .val (.int c3), .val (.int c4), .val (.int c5), .val (.int c6), .val (.int c7), .val (.int c8), .val (.int c9), .val (.int (own_val c1)), .val (.int (own_val c2)), .val (.int (own_val c3)), .val (.int (own_val c4)), .val (.int (own_val c5)), .val (.int (own_val c6)), .val (.int (own_val c7)), .val (.int (own_val c8)), .unset] [(.int ((2 : Int32) * (own_val c6))), (.int (((((own_dsx (own_val c1)) + (own_dsx ((2 : Int32) * (own_val c2)))) + (own_dsx (own_val c3))) + (own_dsx ((2 : Int32) * (own_val c4)))) + (own_dsx (own_val c5))))])) (fun _ kk_ => st155 _ (XS.iadd X155.here hx rfl (hb hby d13_142) rfl (XS.iconst X155.here hx rfl (hb hby d13_143) (XS.iload X155.here hx rfl (hb hby d13_144) rfl (XS.imul X155.here hx rfl (hb hby d13_146) rfl kk_))))) ?_
                      obtain ⟨_, _, ⟨T156, L156, k156, n156⟩, -, X156, ⟨Lc156, hQ156, l156, y156, z156⟩, st156⟩ := Jvm.LawKit.callS X155 hx (y := (⟨"tenorbook/book/CusipIsValidPinLaw", "ds", "(I)I"⟩ : MethodName)) hown (mvT hZ (w_115 hw)) (mvT hZ (w_116 hw)) (mvT hZ (w_2 hw)) (mvT hZ (w_117 hw)) (by decide) (backOf (W := 1) (rmDS l Z a0 hw [] ((2 : Int32) * (own_val c6)) h0 n0 O0 ) hZ (w_117 hw) (w_2 hw) (by decide) (by decide)) (g := (mkF m 147 #[.val (.int c1), .val (.int c2), .val (.int c3), .val (.int c4), .val (.int c5), .val (.int c6), .val (.int c7), .val (.int c8), .val (.int c9), .val (.int (own_val c1)), .val (.int (own_val c2)), .val (.int (own_val c3)), .val (.int (own_val c4)), .val (.int (own_val c5)), .val (.int (own_val c6)), .val (.int (own_val c7)), .val (.int (own_val c8)), .unset] [(.int ((2 : Int32) * (own_val c6))), (.int (((((own_dsx (own_val c1)) + (own_dsx ((2 : Int32) * (own_val c2)))) + (own_dsx (own_val c3))) + (own_dsx ((2 : Int32) * (own_val c4)))) + (own_dsx (own_val c5))))])) rfl (by rw [hml]; rfl) (argsL := [(.int ((2 : Int32) * (own_val c6)))]) (rest := [(.int (((((own_dsx (own_val c1)) + (own_dsx ((2 : Int32) * (own_val c2)))) + (own_dsx (own_val c3))) + (own_dsx ((2 : Int32) * (own_val c4)))) + (own_dsx (own_val c5))))]) (lenOf pd_2 rfl) rfl (by show 2 * 0 + _ ≤ _; exact Nat.le_of_eq rfl) (hb hby d13_147) (fun _ _ => ⟨rfl, e155, (by decide : 0 + 0 ≤ _), (by decide : 0 + 0 ≤ _)⟩)
                      dsimp only [Pt.U, Pt.locs, Pt.cells, Pt.slots] at X156 l156 y156 z156 st156 hQ156
                      subst l156 y156 z156
                      obtain ⟨rfl, Nq156, e156⟩ := hQ156
                      have N156 := Fr.app N155 Nq156
                      refine OW.st (B := T156.setTop (mkF m 153 #[.val (.int c1), .val (.int c2), .val (.int c3), .val (.int c4), .val (.int c5), .val (.int c6), .val (.int c7), .val (.int c8), .val (.int c9), .val (.int (own_val c1)), .val (.int (own_val c2)), .val (.int (own_val c3)), .val (.int (own_val c4)), .val (.int (own_val c5)), .val (.int (own_val c6)), .val (.int (own_val c7)), .val (.int (own_val c8)), .unset] [(.int (own_val c7)), (.int ((((((own_dsx (own_val c1)) + (own_dsx ((2 : Int32) * (own_val c2)))) + (own_dsx (own_val c3))) + (own_dsx ((2 : Int32) * (own_val c4)))) + (own_dsx (own_val c5))) + (own_dsx ((2 : Int32) * (own_val c6)))))])) (fun _ kk_ => st156 _ (XS.iadd X156.here hx rfl (hb hby d13_150) rfl (XS.iload X156.here hx rfl (hb hby d13_151) rfl kk_))) ?_
                      obtain ⟨_, _, ⟨T157, L157, k157, n157⟩, -, X157, ⟨Lc157, hQ157, l157, y157, z157⟩, st157⟩ := Jvm.LawKit.callS X156 hx (y := (⟨"tenorbook/book/CusipIsValidPinLaw", "ds", "(I)I"⟩ : MethodName)) hown (mvT hZ (w_115 hw)) (mvT hZ (w_116 hw)) (mvT hZ (w_2 hw)) (mvT hZ (w_117 hw)) (by decide) (backOf (W := 1) (rmDS l Z a0 hw [] (own_val c7) h0 n0 O0 ) hZ (w_117 hw) (w_2 hw) (by decide) (by decide)) (g := (mkF m 153 #[.val (.int c1), .val (.int c2), .val (.int c3), .val (.int c4), .val (.int c5), .val (.int c6), .val (.int c7), .val (.int c8), .val (.int c9), .val (.int (own_val c1)), .val (.int (own_val c2)), .val (.int (own_val c3)), .val (.int (own_val c4)), .val (.int (own_val c5)), .val (.int (own_val c6)), .val (.int (own_val c7)), .val (.int (own_val c8)), .unset] [(.int (own_val c7)), (.int ((((((own_dsx (own_val c1)) + (own_dsx ((2 : Int32) * (own_val c2)))) + (own_dsx (own_val c3))) + (own_dsx ((2 : Int32) * (own_val c4)))) + (own_dsx (own_val c5))) + (own_dsx ((2 : Int32) * (own_val c6)))))])) rfl (by rw [hml]; rfl) (argsL := [(.int (own_val c7))]) (rest := [(.int ((((((own_dsx (own_val c1)) + (own_dsx ((2 : Int32) * (own_val c2)))) + (own_dsx (own_val c3))) + (own_dsx ((2 : Int32) * (own_val c4)))) + (own_dsx (own_val c5))) + (own_dsx ((2 : Int32) * (own_val c6)))))]) (lenOf pd_2 rfl) rfl (by show 2 * 0 + _ ≤ _; exact Nat.le_of_eq rfl) (hb hby d13_153) (fun _ _ => ⟨rfl, e156, (by decide : 0 + 0 ≤ _), (by decide : 0 + 0 ≤ _)⟩)
                      dsimp only [Pt.U, Pt.locs, Pt.cells, Pt.slots] at X157 l157 y157 z157 st157 hQ157
                      subst l157 y157 z157
                      obtain ⟨rfl, Nq157, e157⟩ := hQ157
                      have N157 := Fr.app N156 Nq157
                      refine OW.st (B := T157.setTop (mkF m 161 #[.val (.int c1), .val (.int c2), .val (.int c3), .val (.int c4), .val (.int c5), .val (.int c6), .val (.int c7), .val (.int c8), .val (.int c9), .val (.int (own_val c1)), .val (.int (own_val c2)), .val (.int (own_val c3)), .val (.int (own_val c4)), .val (.int (own_val c5)), .val (.int (own_val c6)), .val (.int (own_val c7)), .val (.int (own_val c8)), .unset] [(.int ((2 : Int32) * (own_val c8))), (.int (((((((own_dsx (own_val c1)) + (own_dsx ((2 : Int32) * (own_val c2)))) + (own_dsx (own_val c3))) + (own_dsx ((2 : Int32) * (own_val c4)))) + (own_dsx (own_val c5))) + (own_dsx ((2 : Int32) * (own_val c6)))) + (own_dsx (own_val c7))))])) (fun _ kk_ => st157 _ (XS.iadd X157.here hx rfl (hb hby d13_156) rfl (XS.iconst X157.here hx rfl (hb hby d13_157) (XS.iload X157.here hx rfl (hb hby d13_158) rfl (XS.imul X157.here hx rfl (hb hby d13_160) rfl kk_))))) ?_
                      obtain ⟨_, _, ⟨T158, L158, k158, n158⟩, -, X158, ⟨Lc158, hQ158, l158, y158, z158⟩, st158⟩ := Jvm.LawKit.callS X157 hx (y := (⟨"tenorbook/book/CusipIsValidPinLaw", "ds", "(I)I"⟩ : MethodName)) hown (mvT hZ (w_115 hw)) (mvT hZ (w_116 hw)) (mvT hZ (w_2 hw)) (mvT hZ (w_117 hw)) (by decide) (backOf (W := 1) (rmDS l Z a0 hw [] ((2 : Int32) * (own_val c8)) h0 n0 O0 ) hZ (w_117 hw) (w_2 hw) (by decide) (by decide)) (g := (mkF m 161 #[.val (.int c1), .val (.int c2), .val (.int c3), .val (.int c4), .val (.int c5), .val (.int c6), .val (.int c7), .val (.int c8), .val (.int c9), .val (.int (own_val c1)), .val (.int (own_val c2)), .val (.int (own_val c3)), .val (.int (own_val c4)), .val (.int (own_val c5)), .val (.int (own_val c6)), .val (.int (own_val c7)), .val (.int (own_val c8)), .unset] [(.int ((2 : Int32) * (own_val c8))), (.int (((((((own_dsx (own_val c1)) + (own_dsx ((2 : Int32) * (own_val c2)))) + (own_dsx (own_val c3))) + (own_dsx ((2 : Int32) * (own_val c4)))) + (own_dsx (own_val c5))) + (own_dsx ((2 : Int32) * (own_val c6)))) + (own_dsx (own_val c7))))])) rfl (by rw [hml]; rfl) (argsL := [(.int ((2 : Int32) * (own_val c8)))]) (rest := [(.int (((((((own_dsx (own_val c1)) + (own_dsx ((2 : Int32) * (own_val c2)))) + (own_dsx (own_val c3))) + (own_dsx ((2 : Int32) * (own_val c4)))) + (own_dsx (own_val c5))) + (own_dsx ((2 : Int32) * (own_val c6)))) + (own_dsx (own_val c7))))]) (lenOf pd_2 rfl) rfl (by show 2 * 0 + _ ≤ _; exact Nat.le_of_eq rfl) (hb hby d13_161) (fun _ _ => ⟨rfl, e157, (by decide : 0 + 0 ≤ _), (by decide : 0 + 0 ≤ _)⟩)
                      dsimp only [Pt.U, Pt.locs, Pt.cells, Pt.slots] at X158 l158 y158 z158 st158 hQ158
                      subst l158 y158 z158
                      obtain ⟨rfl, Nq158, e158⟩ := hQ158
                      have N158 := Fr.app N157 Nq158
                      refine OW.st (B := T158.setTop (mkF m 178 #[.val (.int c1), .val (.int c2), .val (.int c3), .val (.int c4), .val (.int c5), .val (.int c6), .val (.int c7), .val (.int c8), .val (.int c9), .val (.int (own_val c1)), .val (.int (own_val c2)), .val (.int (own_val c3)), .val (.int (own_val c4)), .val (.int (own_val c5)), .val (.int (own_val c6)), .val (.int (own_val c7)), .val (.int (own_val c8)), .val (.int (((((((((own_dsx (own_val c1)) + (own_dsx ((2 : Int32) * (own_val c2)))) + (own_dsx (own_val c3))) + (own_dsx ((2 : Int32) * (own_val c4)))) + (own_dsx (own_val c5))) + (own_dsx ((2 : Int32) * (own_val c6)))) + (own_dsx (own_val c7))) + (own_dsx ((2 : Int32) * (own_val c8)))) + (c9 - (48 : Int32))))] [(.int ((((((((((own_dsx (own_val c1)) + (own_dsx ((2 : Int32) * (own_val c2)))) + (own_dsx (own_val c3))) + (own_dsx ((2 : Int32) * (own_val c4)))) + (own_dsx (own_val c5))) + (own_dsx ((2 : Int32) * (own_val c6)))) + (own_dsx (own_val c7))) + (own_dsx ((2 : Int32) * (own_val c8)))) + (c9 - (48 : Int32))) % (10 : Int32)))])) (fun _ kk_ => st158 _ (XS.iadd X158.here hx rfl (hb hby d13_164) rfl (XS.iload X158.here hx rfl (hb hby d13_165) rfl (XS.bipush X158.here hx rfl (hb hby d13_167) (XS.isub X158.here hx rfl (hb hby d13_169) rfl (XS.iadd X158.here hx rfl (hb hby d13_170) rfl (XS.istore X158.here hx rfl (hb hby d13_171) rfl (l' := #[.val (.int c1), .val (.int c2), .val (.int c3), .val (.int c4), .val (.int c5), .val (.int c6), .val (.int c7), .val (.int c8), .val (.int c9), .val (.int (own_val c1)), .val (.int (own_val c2)), .val (.int (own_val c3)), .val (.int (own_val c4)), .val (.int (own_val c5)), .val (.int (own_val c6)), .val (.int (own_val c7)), .val (.int (own_val c8)), .val (.int (((((((((own_dsx (own_val c1)) + (own_dsx ((2 : Int32) * (own_val c2)))) + (own_dsx (own_val c3))) + (own_dsx ((2 : Int32) * (own_val c4)))) + (own_dsx (own_val c5))) + (own_dsx ((2 : Int32) * (own_val c6)))) + (own_dsx (own_val c7))) + (own_dsx ((2 : Int32) * (own_val c8)))) + (c9 - (48 : Int32))))]) rfl (XS.iload X158.here hx rfl (hb hby d13_173) rfl (XS.bipush X158.here hx rfl (hb hby d13_175) (iremM X158 hx rfl (hb hby d13_177) rfl (by decide) kk_)))))))))) ?_
                      by_cases hc159 : ((((((((((own_dsx (own_val c1)) + (own_dsx ((2 : Int32) * (own_val c2)))) + (own_dsx (own_val c3))) + (own_dsx ((2 : Int32) * (own_val c4)))) + (own_dsx (own_val c5))) + (own_dsx ((2 : Int32) * (own_val c6)))) + (own_dsx (own_val c7))) + (own_dsx ((2 : Int32) * (own_val c8)))) + (c9 - (48 : Int32))) % (10 : Int32)) = (0 : Int32)
                      · refine OW.st (B := T158.setTop (mkF m 186 #[.val (.int c1), .val (.int c2), .val (.int c3), .val (.int c4), .val (.int c5), .val (.int c6), .val (.int c7), .val (.int c8), .val (.int c9), .val (.int (own_val c1)), .val (.int (own_val c2)), .val (.int (own_val c3)), .val (.int (own_val c4)), .val (.int (own_val c5)), .val (.int (own_val c6)), .val (.int (own_val c7)), .val (.int (own_val c8)), .val (.int (((((((((own_dsx (own_val c1)) + (own_dsx ((2 : Int32) * (own_val c2)))) + (own_dsx (own_val c3))) + (own_dsx ((2 : Int32) * (own_val c4)))) + (own_dsx (own_val c5))) + (own_dsx ((2 : Int32) * (own_val c6)))) + (own_dsx (own_val c7))) + (own_dsx ((2 : Int32) * (own_val c8)))) + (c9 - (48 : Int32))))] [(.int (1 : Int32))])) (fun _ kk_ => XS.ifNo X158.here hx rfl (hb hby d13_178) rfl ((if0 _ _).trans (teq hc159).2) (XS.iconst X158.here hx rfl (hb hby d13_181) (XS.goto X158.here hx rfl (pc0 := 182) (pc' := 186) rfl (hb hby d13_182) (by decide) (by decide) kk_))) ?_
                        exact OW.ret X158 hx hlk (i := .ireturn) Bd.returns rfl (Or.inl ⟨rfl, Or.inr (Or.inl rfl), _, rfl⟩) (hb hby d13_186) e158 (by decide) (by decide) ⟨_, rfl, N158, rfl, Or.inr ⟨rfl, own_all8 hc141 hc142 hc143 hc144 hc145 hc146 hc147 hc148, c9, rfl, (own_fin hc141 hc142 hc143 hc144 hc145 hc146 hc147 hc148 hc149 hc150).mp hc159⟩⟩
                      · refine OW.st (B := T158.setTop (mkF m 186 #[.val (.int c1), .val (.int c2), .val (.int c3), .val (.int c4), .val (.int c5), .val (.int c6), .val (.int c7), .val (.int c8), .val (.int c9), .val (.int (own_val c1)), .val (.int (own_val c2)), .val (.int (own_val c3)), .val (.int (own_val c4)), .val (.int (own_val c5)), .val (.int (own_val c6)), .val (.int (own_val c7)), .val (.int (own_val c8)), .val (.int (((((((((own_dsx (own_val c1)) + (own_dsx ((2 : Int32) * (own_val c2)))) + (own_dsx (own_val c3))) + (own_dsx ((2 : Int32) * (own_val c4)))) + (own_dsx (own_val c5))) + (own_dsx ((2 : Int32) * (own_val c6)))) + (own_dsx (own_val c7))) + (own_dsx ((2 : Int32) * (own_val c8)))) + (c9 - (48 : Int32))))] [(.int (0 : Int32))])) (fun _ kk_ => XS.ifYes X158.here hx rfl (pc0 := 178) (pc' := 185) rfl (hb hby d13_178) rfl ((if0 _ _).trans (feq hc159).2) (by decide) (by decide) (XS.iconst X158.here hx rfl (hb hby d13_185) kk_)) ?_
                        exact OW.ret X158 hx hlk (i := .ireturn) Bd.returns rfl (Or.inl ⟨rfl, Or.inr (Or.inl rfl), _, rfl⟩) (hb hby d13_186) e158 (by decide) (by decide) ⟨_, rfl, N158, rfl, Or.inl ⟨rfl, fun ok => hc159 ((own_fin hc141 hc142 hc143 hc144 hc145 hc146 hc147 hc148 hc149 hc150).mpr (own_okc ok))⟩⟩
theorem ef_IV0 (m : MethodId) (x0 : Addr) : entryFrame m #[(.ref x0)] 5 = mkF m 0 #[.val (.ref x0), .unset, .unset, .unset, .unset] [] := by first | (simp [entryFrame, mkF, argsToLocals, Value.category]; done) | rfl
def QIV0 (Z : State) (b : Addr) (cs : List Int32) (i_COMPACT_STRINGS : Int32) (v_SIOOBE_FORMATTER : Value) (h0 : Heap) (n0 : Nat) (v : Option Value) (h : Heap) (L : List Loc) : Prop := v = some (.int 0) ∧ Fr n0 L ∧ h = h0
set_option maxRecDepth 65536 in
set_option maxHeartbeats 40000000 in
theorem rmIV0 (l : Launch) (Z : State) (a0 : Array Value) (hw : ∀ d ∈ tables_1, d.before a0 Z = true) (ws : List Jvm.Cond) (b : Addr) (cs : List Int32) (i_COMPACT_STRINGS : Int32) (v_SIOOBE_FORMATTER : Value) (h0 : Heap) (n0 : Nat) (O0 : Old Z n0 h0) (HO : OwnSt Z h0 b cs) (hmax : cs.length ≤ 10) (hch : OwnChs cs) (hS : OwnS Z i_COMPACT_STRINGS v_SIOOBE_FORMATTER) (hne : ¬ (cs.length = 9)) :
    MetFree l (⟨"tenorbook/book/Cusip", "isValid", "(Ljava/lang/String;)Z"⟩ : MethodName) (head1 (Jvm.Cond.code (⟨"tenorbook/book/Cusip", "isValid", "(Ljava/lang/String;)Z"⟩ : MethodName) prog_8_method_2_code 5 (some .boolean) :: ws) ({ frames := 2, cells := 0, slots := 0, locals := 25 } : Room)) (fun aa_ UU_ => aa_ = #[(.ref b)] ∧ Z.Warmed39 UU_.vm ∧ UU_.heap = h0) (fun _ _ _ _ _ => True) (fun _ UU_ oo_ UV_ => ∃ vv_ LL_, oo_ = .returned vv_ ∧ QIV0 Z b cs i_COMPACT_STRINGS v_SIOOBE_FORMATTER h0 n0 vv_ UV_.heap LL_ ∧ FrameEnd UU_ oo_ UV_ LL_ ({ frames := 2, cells := 0, slots := 0, locals := 25 } : Room).cells ({ frames := 2, cells := 0, slots := 0, locals := 25 } : Room).slots) := by
  refine MetFree.of_bodySF (plainFor_of_name pn_5) hisR ?_
  intro p e s m args below meth c s₁ Bd hml0 hP hK
  obtain ⟨rfl, hZ, hh⟩ := hP
  have hx := Bd.exec
  have hby := Bd.bytes
  have hlk := BodyLoose.notSynchronized Bd
  have hml : c.maxLocals = 5 := hml0
  have hown : s.vm.findClass "tenorbook/book/Cusip" = some m.cls := findClass_of_methodNamed Bd.named
  have hnm := (name_of_methodNamed Bd.named Bd.method).1
  have X0 : Stand p l e ({ frames := 2, cells := 0, slots := 0, locals := 25 } : Room) s m #[(.ref b)] below meth c s₁ [] 0 0 := Stand.of_body Bd
  have e0 : s₁.heap = h0 := by rw [← hh, Bd.state]; rfl
  have N0 := Fr.nil n0
  suffices hOW : OW p e below s (QIV0 Z b cs i_COMPACT_STRINGS v_SIOOBE_FORMATTER h0 n0) 0 0 (s₁.setTop (mkF m 0 #[.val (.ref b), .unset, .unset, .unset, .unset] [])) by
    obtain ⟨oq1_, oq2_, oq3_, oq4_⟩ := hOW
    exact ⟨oq1_, oq2_, castTop (ef_IV0 m b) oq3_, oq4_⟩
  have hS' := hS
  obtain ⟨Si_COMPACT_STRINGS, Sv_SIOOBE_FORMATTER, Rv_SIOOBE_FORMATTER, S__assertionsDisabled, S_HI_BYTE_SHIFT, S_LO_BYTE_SHIFT, Pi_COMPACT_STRINGS⟩ := hS'
  obtain ⟨E, ba, kb, zb, F1, hq⟩ := HO
  rcases hq with ⟨F2, B, hlat, hzb⟩ | ⟨F2, B, hhi, hzb⟩
  · obtain ⟨zr, hr, hlen⟩ : ∃ zr : Int32, (zb >>> ((0 : Int32) &&& 31)) = zr ∧ zr.toInt = (cs.length : Int) := ⟨_, rfl, own_lenL hzb⟩
    have hz9 : ¬ (zr = (9 : Int32)) := fun q => hne (by rw [q, show (9 : Int32).toInt = 9 by decide] at hlen; omega)
    refine OW.st (B := s₁.setTop (mkF m 1 #[.val (.ref b), .unset, .unset, .unset, .unset] [(.ref b)])) (fun _ kk_ => XS.aloadN X0.here hx rfl (hb hby d15_0) rfl rfl kk_) ?_
    obtain ⟨cq160, kq160, q160a, q160b, q160c⟩ := isOf hZ e0 E
    obtain ⟨_, _, ⟨T160, L160, k160, n160⟩, -, X160, ⟨Lc160, hQ160, l160, y160, z160⟩, st160⟩ := X0.virtualBack hx (y := (⟨"java/lang/String", "length", "()I"⟩ : MethodName)) (z := (⟨"java/lang/String", "length", "()I"⟩ : MethodName)) hown (mvT hZ (w_64 hw)) (mvT hZ (w_65 hw)) (notFace_of_selects (args := #[]) (mvT hZ (w_67 hw))) (mvT hZ (w_67 hw)) (mvT hZ (w_66 hw)) (by decide) (backOf (W := 0) (rmLE0 l Z a0 hw [] b ba kb zb cs zr i_COMPACT_STRINGS v_SIOOBE_FORMATTER h0 n0 O0 E F1 F2 B hr hS) hZ (w_68 hw) (w_7 hw) (by decide) (by decide)) q160a q160c (g := (mkF m 1 #[.val (.ref b), .unset, .unset, .unset, .unset] [(.ref b)])) rfl (by rw [hml]; rfl) (Steps.refl _) (argsL := []) (rest := []) (lenOf pd_16 rfl) rfl (by show 2 * 0 + _ ≤ _; exact Nat.le_of_eq rfl) (hb hby d15_1) (fun _ _ => ⟨rfl, e0, (by decide : 0 + 0 ≤ _), (by decide : 0 + 0 ≤ _)⟩)
    dsimp only [Pt.U, Pt.locs, Pt.cells, Pt.slots] at X160 l160 y160 z160 st160 hQ160
    subst l160 y160 z160
    obtain ⟨rfl, Nq160, e160⟩ := hQ160
    have N160 := Fr.app N0 Nq160
    refine OW.tr (B := T160.setTop (mkF m 4 #[.val (.ref b), .unset, .unset, .unset, .unset] [(.int zr)])) (st160) ?_
    refine OW.st (B := T160.setTop (mkF m 10 #[.val (.ref b), .unset, .unset, .unset, .unset] [(.int (0 : Int32))])) (fun _ kk_ => XS.bipush X160.here hx rfl (hb hby d15_4) (XS.icmpNo X160.here hx rfl (hb hby d15_6) rfl (feq hz9).1 (XS.iconst X160.here hx rfl (hb hby d15_9) kk_))) ?_
    exact OW.ret X160 hx hlk (i := .ireturn) Bd.returns rfl (Or.inl ⟨rfl, Or.inr (Or.inl rfl), _, rfl⟩) (hb hby d15_10) e160 (by decide) (by decide) ⟨rfl, N160, rfl⟩
  · obtain ⟨zr, hr, hlen⟩ : ∃ zr : Int32, (zb >>> ((1 : Int32) &&& 31)) = zr ∧ zr.toInt = (cs.length : Int) := ⟨_, rfl, own_half hzb (by omega)⟩
    have hz9 : ¬ (zr = (9 : Int32)) := fun q => hne (by rw [q, show (9 : Int32).toInt = 9 by decide] at hlen; omega)
    refine OW.st (B := s₁.setTop (mkF m 1 #[.val (.ref b), .unset, .unset, .unset, .unset] [(.ref b)])) (fun _ kk_ => XS.aloadN X0.here hx rfl (hb hby d15_0) rfl rfl kk_) ?_
    obtain ⟨cq161, kq161, q161a, q161b, q161c⟩ := isOf hZ e0 E
    obtain ⟨_, _, ⟨T161, L161, k161, n161⟩, -, X161, ⟨Lc161, hQ161, l161, y161, z161⟩, st161⟩ := X0.virtualBack hx (y := (⟨"java/lang/String", "length", "()I"⟩ : MethodName)) (z := (⟨"java/lang/String", "length", "()I"⟩ : MethodName)) hown (mvT hZ (w_64 hw)) (mvT hZ (w_65 hw)) (notFace_of_selects (args := #[]) (mvT hZ (w_67 hw))) (mvT hZ (w_67 hw)) (mvT hZ (w_66 hw)) (by decide) (backOf (W := 0) (rmLE1 l Z a0 hw [] b ba kb zb cs zr i_COMPACT_STRINGS v_SIOOBE_FORMATTER h0 n0 O0 E F1 F2 B hr hS) hZ (w_68 hw) (w_7 hw) (by decide) (by decide)) q161a q161c (g := (mkF m 1 #[.val (.ref b), .unset, .unset, .unset, .unset] [(.ref b)])) rfl (by rw [hml]; rfl) (Steps.refl _) (argsL := []) (rest := []) (lenOf pd_16 rfl) rfl (by show 2 * 0 + _ ≤ _; exact Nat.le_of_eq rfl) (hb hby d15_1) (fun _ _ => ⟨rfl, e0, (by decide : 0 + 0 ≤ _), (by decide : 0 + 0 ≤ _)⟩)
    dsimp only [Pt.U, Pt.locs, Pt.cells, Pt.slots] at X161 l161 y161 z161 st161 hQ161
    subst l161 y161 z161
    obtain ⟨rfl, Nq161, e161⟩ := hQ161
    have N161 := Fr.app N0 Nq161
    refine OW.tr (B := T161.setTop (mkF m 4 #[.val (.ref b), .unset, .unset, .unset, .unset] [(.int zr)])) (st161) ?_
    refine OW.st (B := T161.setTop (mkF m 10 #[.val (.ref b), .unset, .unset, .unset, .unset] [(.int (0 : Int32))])) (fun _ kk_ => XS.bipush X161.here hx rfl (hb hby d15_4) (XS.icmpNo X161.here hx rfl (hb hby d15_6) rfl (feq hz9).1 (XS.iconst X161.here hx rfl (hb hby d15_9) kk_))) ?_
    exact OW.ret X161 hx hlk (i := .ireturn) Bd.returns rfl (Or.inl ⟨rfl, Or.inr (Or.inl rfl), _, rfl⟩) (hb hby d15_10) e161 (by decide) (by decide) ⟨rfl, N161, rfl⟩
theorem ef_IV9 (m : MethodId) (x0 : Addr) : entryFrame m #[(.ref x0)] 5 = mkF m 0 #[.val (.ref x0), .unset, .unset, .unset, .unset] [] := by first | (simp [entryFrame, mkF, argsToLocals, Value.category]; done) | rfl
def QIV9 (Z : State) (b : Addr) (cs : List Int32) (i_COMPACT_STRINGS : Int32) (v_SIOOBE_FORMATTER : Value) (h0 : Heap) (n0 : Nat) (v : Option Value) (h : Heap) (L : List Loc) : Prop := ∃ z : Int32, v = some (.int z) ∧ Fr n0 L ∧ h = h0 ∧ OwnCk cs z
set_option maxRecDepth 65536 in
set_option maxHeartbeats 40000000 in
theorem rmIV9 (l : Launch) (Z : State) (a0 : Array Value) (hw : ∀ d ∈ tables_1, d.before a0 Z = true) (ws : List Jvm.Cond) (b : Addr) (cs : List Int32) (i_COMPACT_STRINGS : Int32) (v_SIOOBE_FORMATTER : Value) (h0 : Heap) (n0 : Nat) (O0 : Old Z n0 h0) (HO : OwnSt Z h0 b cs) (hmax : cs.length ≤ 10) (hch : OwnChs cs) (hS : OwnS Z i_COMPACT_STRINGS v_SIOOBE_FORMATTER) (h9 : cs.length = 9) :
    MetFree l (⟨"tenorbook/book/Cusip", "isValid", "(Ljava/lang/String;)Z"⟩ : MethodName) (head1 (Jvm.Cond.code (⟨"tenorbook/book/Cusip", "isValid", "(Ljava/lang/String;)Z"⟩ : MethodName) prog_8_method_2_code 5 (some .boolean) :: ws) ({ frames := 5, cells := 0, slots := 0, locals := 66 } : Room)) (fun aa_ UU_ => aa_ = #[(.ref b)] ∧ Z.Warmed39 UU_.vm ∧ UU_.heap = h0) (fun _ _ _ _ _ => True) (fun _ UU_ oo_ UV_ => ∃ vv_ LL_, oo_ = .returned vv_ ∧ QIV9 Z b cs i_COMPACT_STRINGS v_SIOOBE_FORMATTER h0 n0 vv_ UV_.heap LL_ ∧ FrameEnd UU_ oo_ UV_ LL_ ({ frames := 5, cells := 0, slots := 0, locals := 66 } : Room).cells ({ frames := 5, cells := 0, slots := 0, locals := 66 } : Room).slots) := by
  refine MetFree.of_bodySF (plainFor_of_name pn_5) hisR ?_
  intro p e s m args below meth c s₁ Bd hml0 hP hK
  obtain ⟨rfl, hZ, hh⟩ := hP
  have hx := Bd.exec
  have hby := Bd.bytes
  have hlk := BodyLoose.notSynchronized Bd
  have hml : c.maxLocals = 5 := hml0
  have hown : s.vm.findClass "tenorbook/book/Cusip" = some m.cls := findClass_of_methodNamed Bd.named
  have hnm := (name_of_methodNamed Bd.named Bd.method).1
  have X0 : Stand p l e ({ frames := 5, cells := 0, slots := 0, locals := 66 } : Room) s m #[(.ref b)] below meth c s₁ [] 0 0 := Stand.of_body Bd
  have e0 : s₁.heap = h0 := by rw [← hh, Bd.state]; rfl
  have N0 := Fr.nil n0
  suffices hOW : OW p e below s (QIV9 Z b cs i_COMPACT_STRINGS v_SIOOBE_FORMATTER h0 n0) 0 0 (s₁.setTop (mkF m 0 #[.val (.ref b), .unset, .unset, .unset, .unset] [])) by
    obtain ⟨oq1_, oq2_, oq3_, oq4_⟩ := hOW
    exact ⟨oq1_, oq2_, castTop (ef_IV9 m b) oq3_, oq4_⟩
  have hS' := hS
  obtain ⟨Si_COMPACT_STRINGS, Sv_SIOOBE_FORMATTER, Rv_SIOOBE_FORMATTER, S__assertionsDisabled, S_HI_BYTE_SHIFT, S_LO_BYTE_SHIFT, Pi_COMPACT_STRINGS⟩ := hS'
  obtain ⟨E, ba, kb, zb, F1, hq⟩ := HO
  rcases hq with ⟨F2, B, hlat, hzb⟩ | ⟨F2, B, hhi, hzb⟩
  · obtain ⟨zr, hr, hlen⟩ : ∃ zr : Int32, (zb >>> ((0 : Int32) &&& 31)) = zr ∧ zr.toInt = (cs.length : Int) := ⟨_, rfl, own_lenL hzb⟩
    have hz9 : zr = (9 : Int32) := Int32.toInt_inj.mp (by rw [hlen, h9]; rfl)
    refine OW.st (B := s₁.setTop (mkF m 1 #[.val (.ref b), .unset, .unset, .unset, .unset] [(.ref b)])) (fun _ kk_ => XS.aloadN X0.here hx rfl (hb hby d15_0) rfl rfl kk_) ?_
    obtain ⟨cq162, kq162, q162a, q162b, q162c⟩ := isOf hZ e0 E
    obtain ⟨_, _, ⟨T162, L162, k162, n162⟩, -, X162, ⟨Lc162, hQ162, l162, y162, z162⟩, st162⟩ := X0.virtualBack hx (y := (⟨"java/lang/String", "length", "()I"⟩ : MethodName)) (z := (⟨"java/lang/String", "length", "()I"⟩ : MethodName)) hown (mvT hZ (w_64 hw)) (mvT hZ (w_65 hw)) (notFace_of_selects (args := #[]) (mvT hZ (w_67 hw))) (mvT hZ (w_67 hw)) (mvT hZ (w_66 hw)) (by decide) (backOf (W := 0) (rmLE0 l Z a0 hw [] b ba kb zb cs zr i_COMPACT_STRINGS v_SIOOBE_FORMATTER h0 n0 O0 E F1 F2 B hr hS) hZ (w_68 hw) (w_7 hw) (by decide) (by decide)) q162a q162c (g := (mkF m 1 #[.val (.ref b), .unset, .unset, .unset, .unset] [(.ref b)])) rfl (by rw [hml]; rfl) (Steps.refl _) (argsL := []) (rest := []) (lenOf pd_16 rfl) rfl (by show 2 * 0 + _ ≤ _; exact Nat.le_of_eq rfl) (hb hby d15_1) (fun _ _ => ⟨rfl, e0, (by decide : 0 + 0 ≤ _), (by decide : 0 + 0 ≤ _)⟩)
    dsimp only [Pt.U, Pt.locs, Pt.cells, Pt.slots] at X162 l162 y162 z162 st162 hQ162
    subst l162 y162 z162
    obtain ⟨rfl, Nq162, e162⟩ := hQ162
    have N162 := Fr.app N0 Nq162
    refine OW.tr (B := T162.setTop (mkF m 4 #[.val (.ref b), .unset, .unset, .unset, .unset] [(.int zr)])) (st162) ?_
    refine OW.st (B := T162.setTop (mkF m 15 #[.val (.ref b), .val (.int (0 : Int32)), .val (.int (0 : Int32)), .unset, .unset] [])) (fun _ kk_ => XS.bipush X162.here hx rfl (hb hby d15_4) (XS.icmpYes X162.here hx rfl (pc0 := 6) (pc' := 11) rfl (hb hby d15_6) rfl (teq hz9).1 (by decide) (by decide) (XS.iconst X162.here hx rfl (hb hby d15_11) (XS.istoreN X162.here hx rfl (hb hby d15_12) rfl (l' := #[.val (.ref b), .val (.int (0 : Int32)), .unset, .unset, .unset]) rfl (XS.iconst X162.here hx rfl (hb hby d15_13) (XS.istoreN X162.here hx rfl (hb hby d15_14) rfl (l' := #[.val (.ref b), .val (.int (0 : Int32)), .val (.int (0 : Int32)), .unset, .unset]) rfl kk_)))))) ?_
    have J163 : ∀ (f : Nat) (T163 : State) (L163 : List Loc) (h163 : Heap) (X163 : Stand p l e ({ frames := 5, cells := 0, slots := 0, locals := 66 } : Room) s m #[(.ref b)] below meth c T163 L163 0 0) (N163 : Fr n0 L163) (e163 : T163.heap = h163) (O163 : Old Z n0 h163) (sum i : Int32) (sl3 sl4 : Slot) (mm : Nat), (h0 = h163) → (sl3 = .unset ∨ ∃ q : Int32, sl3 = .val (.int q)) → (sl4 = .unset ∨ ∃ q : Int32, sl4 = .val (.int q)) → (i.toInt = (mm : Int)) → (mm + f = 8) → (sum.toInt = own_S cs mm) → (∀ j : Nat, j < mm → ∀ c : Int32, cs[j]? = some c → ¬ (own_val c < (0 : Int32))) → OW p e below s (QIV9 Z b cs i_COMPACT_STRINGS v_SIOOBE_FORMATTER h0 n0) 0 0 (T163.setTop (mkF m 15 #[.val (.ref b), .val (.int sum), .val (.int i), sl3, sl4] [])) := by
      intro f
      induction f with
      | zero =>
        intro T163 L163 h163 X163 N163 e163 O163 sum i sl3 sl4 mm hH hs3 hs4 hi hm hsum hok
        subst hH
        have hbS := own_SR mm hok (by omega)
        have hmm : mm = 8 := by omega
        subst hmm
        obtain ⟨c9, hc9⟩ : ∃ cc, cs[8]? = some cc := ⟨_, List.getElem?_eq_getElem (by omega)⟩
        refine OW.st (B := T163.setTop (mkF m 75 #[.val (.ref b), .val (.int sum), .val (.int i), sl3, sl4] [(.int (8 : Int32)), (.ref b)])) (fun _ kk_ => XS.iloadN X163.here hx rfl (hb hby d15_15) rfl (XS.bipush X163.here hx rfl (hb hby d15_16) (XS.icmpYes X163.here hx rfl (pc0 := 18) (pc' := 72) rfl (hb hby d15_18) rfl (flt (own_nltI hi (n := 8) (by decide) (by omega))).2.1 (by decide) (by decide) (XS.aloadN X163.here hx rfl (hb hby d15_72) rfl rfl (XS.bipush X163.here hx rfl (hb hby d15_73) kk_))))) ?_
        obtain ⟨cq164, kq164, q164a, q164b, q164c⟩ := isOf hZ e163 E
        obtain ⟨_, _, ⟨T164, L164, k164, n164⟩, -, X164, ⟨Lc164, hQ164, l164, y164, z164⟩, st164⟩ := X163.virtualBack hx (y := (⟨"java/lang/String", "charAt", "(I)C"⟩ : MethodName)) (z := (⟨"java/lang/String", "charAt", "(I)C"⟩ : MethodName)) hown (mvT hZ (w_74 hw)) (mvT hZ (w_75 hw)) (notFace_of_selects (args := #[]) (mvT hZ (w_77 hw))) (mvT hZ (w_77 hw)) (mvT hZ (w_76 hw)) (by decide) (backOf (W := 0) (rmCA0 l Z a0 hw [] b ba kb zb cs (8 : Int32) 8 c9 i_COMPACT_STRINGS v_SIOOBE_FORMATTER h0 n0 O163 E F1 F2 B hzb hmax (by decide) hc9 (hch _ (List.mem_of_getElem? hc9)) (hlat _ (List.mem_of_getElem? hc9)) hS) hZ (w_78 hw) (w_7 hw) (by decide) (by decide)) q164a q164c (g := (mkF m 75 #[.val (.ref b), .val (.int sum), .val (.int i), sl3, sl4] [(.int (8 : Int32)), (.ref b)])) rfl (by rw [hml]; rfl) (Steps.refl _) (argsL := [(.int (8 : Int32))]) (rest := []) (lenOf pd_14 rfl) rfl (by show 2 * 0 + _ ≤ _; exact Nat.le_of_eq rfl) (hb hby d15_75) (fun _ _ => ⟨rfl, e163, (by decide : 0 + 0 ≤ _), (by decide : 0 + 0 ≤ _)⟩)
        dsimp only [Pt.U, Pt.locs, Pt.cells, Pt.slots] at X164 l164 y164 z164 st164 hQ164
        subst l164 y164 z164
        obtain ⟨rfl, Nq164, e164⟩ := hQ164
        have N164 := Fr.app N163 Nq164
        refine OW.tr (B := T164.setTop (mkF m 78 #[.val (.ref b), .val (.int sum), .val (.int i), sl3, sl4] [(.int c9)])) (st164) ?_
        refine OW.st (B := T164.setTop (mkF m 92 #[.val (.ref b), .val (.int sum), .val (.int i), sl3, sl4] [(.int (((48 : Int32) + (((10 : Int32) - (sum % (10 : Int32))) % (10 : Int32))).toUInt32.toUInt16.toUInt32.toInt32)), (.int c9)])) (fun _ kk_ => XS.bipush X164.here hx rfl (hb hby d15_78) (XS.bipush X164.here hx rfl (hb hby d15_80) (XS.iloadN X164.here hx rfl (hb hby d15_82) rfl (XS.bipush X164.here hx rfl (hb hby d15_83) (iremM X164 hx rfl (hb hby d15_85) rfl (by decide) (XS.isub X164.here hx rfl (hb hby d15_86) rfl (XS.bipush X164.here hx rfl (hb hby d15_87) (iremM X164 hx rfl (hb hby d15_89) rfl (by decide) (XS.iadd X164.here hx rfl (hb hby d15_90) rfl (XS.i2c X164.here hx rfl (hb hby d15_91) rfl kk_)))))))))) ?_
        by_cases hc165 : c9 = (((48 : Int32) + (((10 : Int32) - (sum % (10 : Int32))) % (10 : Int32))).toUInt32.toUInt16.toUInt32.toInt32)
        · refine OW.st (B := T164.setTop (mkF m 100 #[.val (.ref b), .val (.int sum), .val (.int i), sl3, sl4] [(.int (1 : Int32))])) (fun _ kk_ => XS.icmpNo X164.here hx rfl (hb hby d15_92) rfl (teq hc165).2 (XS.iconst X164.here hx rfl (hb hby d15_95) (XS.goto X164.here hx rfl (pc0 := 96) (pc' := 100) rfl (hb hby d15_96) (by decide) (by decide) kk_))) ?_
          exact OW.ret X164 hx hlk (i := .ireturn) Bd.returns rfl (Or.inl ⟨rfl, Or.inr (Or.inl rfl), _, rfl⟩) (hb hby d15_100) e164 (by decide) (by decide) ⟨_, rfl, N164, rfl, own_ckyes hok hc9 (own_ckd hsum (by omega)) hc165⟩
        · refine OW.st (B := T164.setTop (mkF m 100 #[.val (.ref b), .val (.int sum), .val (.int i), sl3, sl4] [(.int (0 : Int32))])) (fun _ kk_ => XS.icmpYes X164.here hx rfl (pc0 := 92) (pc' := 99) rfl (hb hby d15_92) rfl (feq hc165).2 (by decide) (by decide) (XS.iconst X164.here hx rfl (hb hby d15_99) kk_)) ?_
          exact OW.ret X164 hx hlk (i := .ireturn) Bd.returns rfl (Or.inl ⟨rfl, Or.inr (Or.inl rfl), _, rfl⟩) (hb hby d15_100) e164 (by decide) (by decide) ⟨_, rfl, N164, rfl, own_ckno hc9 (own_ckd hsum (by omega)) hc165⟩
      | succ f ih =>
        intro T163 L163 h163 X163 N163 e163 O163 sum i sl3 sl4 mm hH hs3 hs4 hi hm hsum hok
        subst hH
        have hbS := own_SR mm hok (by omega)
        obtain ⟨cc, hcc⟩ : ∃ cc, cs[mm]? = some cc := ⟨_, List.getElem?_eq_getElem (by omega)⟩
        refine OW.st (B := T163.setTop (mkF m 23 #[.val (.ref b), .val (.int sum), .val (.int i), sl3, sl4] [(.int i), (.ref b)])) (fun _ kk_ => XS.iloadN X163.here hx rfl (hb hby d15_15) rfl (XS.bipush X163.here hx rfl (hb hby d15_16) (XS.icmpNo X163.here hx rfl (hb hby d15_18) rfl (tlt (own_ltI hi (n := 8) (by decide) (by omega))).2.1 (XS.aloadN X163.here hx rfl (hb hby d15_21) rfl rfl (XS.iloadN X163.here hx rfl (hb hby d15_22) rfl kk_))))) ?_
        obtain ⟨cq166, kq166, q166a, q166b, q166c⟩ := isOf hZ e163 E
        obtain ⟨_, _, ⟨T166, L166, k166, n166⟩, -, X166, ⟨Lc166, hQ166, l166, y166, z166⟩, st166⟩ := X163.virtualBack hx (y := (⟨"java/lang/String", "charAt", "(I)C"⟩ : MethodName)) (z := (⟨"java/lang/String", "charAt", "(I)C"⟩ : MethodName)) hown (mvT hZ (w_74 hw)) (mvT hZ (w_75 hw)) (notFace_of_selects (args := #[]) (mvT hZ (w_77 hw))) (mvT hZ (w_77 hw)) (mvT hZ (w_76 hw)) (by decide) (backOf (W := 0) (rmCA0 l Z a0 hw [] b ba kb zb cs i mm cc i_COMPACT_STRINGS v_SIOOBE_FORMATTER h0 n0 O163 E F1 F2 B hzb hmax hi hcc (hch _ (List.mem_of_getElem? hcc)) (hlat _ (List.mem_of_getElem? hcc)) hS) hZ (w_78 hw) (w_7 hw) (by decide) (by decide)) q166a q166c (g := (mkF m 23 #[.val (.ref b), .val (.int sum), .val (.int i), sl3, sl4] [(.int i), (.ref b)])) rfl (by rw [hml]; rfl) (Steps.refl _) (argsL := [(.int i)]) (rest := []) (lenOf pd_14 rfl) rfl (by show 2 * 0 + _ ≤ _; exact Nat.le_of_eq rfl) (hb hby d15_23) (fun _ _ => ⟨rfl, e163, (by decide : 0 + 0 ≤ _), (by decide : 0 + 0 ≤ _)⟩)
        dsimp only [Pt.U, Pt.locs, Pt.cells, Pt.slots] at X166 l166 y166 z166 st166 hQ166
        subst l166 y166 z166
        obtain ⟨rfl, Nq166, e166⟩ := hQ166
        have N166 := Fr.app N163 Nq166
        refine OW.tr (B := T166.setTop (mkF m 26 #[.val (.ref b), .val (.int sum), .val (.int i), sl3, sl4] [(.int cc)])) (st166) ?_
        obtain ⟨_, _, ⟨T167, L167, k167, n167⟩, -, X167, ⟨Lc167, hQ167, l167, y167, z167⟩, st167⟩ := Jvm.LawKit.callS X166 hx (y := (⟨"tenorbook/book/Cusip", "value", "(C)I"⟩ : MethodName)) hown (mvT hZ (w_101 hw)) (mvT hZ (w_102 hw)) (mvT hZ (w_62 hw)) (mvT hZ (w_103 hw)) (by decide) (backOf (W := 0) (rmVA l Z a0 hw [] cc h0 n0 O163 ) hZ (w_103 hw) (w_62 hw) (by decide) (by decide)) (g := (mkF m 26 #[.val (.ref b), .val (.int sum), .val (.int i), sl3, sl4] [(.int cc)])) rfl (by rw [hml]; rfl) (argsL := [(.int cc)]) (rest := []) (lenOf pd_15 rfl) rfl (by show 2 * 0 + _ ≤ _; exact Nat.le_of_eq rfl) (hb hby d15_26) (fun _ _ => ⟨rfl, e166, (by decide : 0 + 0 ≤ _), (by decide : 0 + 0 ≤ _)⟩)
        dsimp only [Pt.U, Pt.locs, Pt.cells, Pt.slots] at X167 l167 y167 z167 st167 hQ167
        subst l167 y167 z167
        obtain ⟨rfl, Nq167, e167⟩ := hQ167
        have N167 := Fr.app N166 Nq167
        refine OW.st (B := T167.setTop (mkF m 31 #[.val (.ref b), .val (.int sum), .val (.int i), .val (.int (own_val cc)), sl4] [(.int (own_val cc))])) (fun _ kk_ => st167 _ (XS.istoreN X167.here hx rfl (hb hby d15_29) rfl (l' := #[.val (.ref b), .val (.int sum), .val (.int i), .val (.int (own_val cc)), sl4]) (by rcases hs3 with rfl | ⟨_, rfl⟩ <;> rcases hs4 with rfl | ⟨_, rfl⟩ <;> rfl) (XS.iloadN X167.here hx rfl (hb hby d15_30) rfl kk_))) ?_
        by_cases hc168 : (own_val cc) < (0 : Int32)
        · refine OW.st (B := T167.setTop (mkF m 35 #[.val (.ref b), .val (.int sum), .val (.int i), .val (.int (own_val cc)), sl4] [(.int (0 : Int32))])) (fun _ kk_ => XS.ifNo X167.here hx rfl (hb hby d15_31) rfl ((if0 _ _).trans (tlt hc168).2.1) (XS.iconst X167.here hx rfl (hb hby d15_34) kk_)) ?_
          exact OW.ret X167 hx hlk (i := .ireturn) Bd.returns rfl (Or.inl ⟨rfl, Or.inr (Or.inl rfl), _, rfl⟩) (hb hby d15_35) e167 (by decide) (by decide) ⟨_, rfl, N167, rfl, own_ckneg mm (by omega) hcc hc168⟩
        · refine OW.st (B := T167.setTop (mkF m 40 #[.val (.ref b), .val (.int sum), .val (.int i), .val (.int (own_val cc)), sl4] [(.int (1 : Int32)), (.int (i % (2 : Int32)))])) (fun _ kk_ => XS.ifYes X167.here hx rfl (pc0 := 31) (pc' := 36) rfl (hb hby d15_31) rfl ((if0 _ _).trans (flt hc168).2.1) (by decide) (by decide) (XS.iloadN X167.here hx rfl (hb hby d15_36) rfl (XS.iconst X167.here hx rfl (hb hby d15_37) (iremM X167 hx rfl (hb hby d15_38) rfl (by decide) (XS.iconst X167.here hx rfl (hb hby d15_39) kk_))))) ?_
          by_cases hc169 : (i % (2 : Int32)) = (1 : Int32)
          · refine OW.st (B := T167.setTop (mkF m 58 #[.val (.ref b), .val (.int sum), .val (.int i), .val (.int (own_val cc)), .val (.int ((2 : Int32) * (own_val cc)))] [(.int (((2 : Int32) * (own_val cc)) / (10 : Int32))), (.int sum)])) (fun _ kk_ => XS.icmpNo X167.here hx rfl (hb hby d15_40) rfl (teq hc169).2 (XS.iconst X167.here hx rfl (hb hby d15_43) (XS.iloadN X167.here hx rfl (hb hby d15_44) rfl (XS.imul X167.here hx rfl (hb hby d15_45) rfl (XS.goto X167.here hx rfl (pc0 := 46) (pc' := 50) rfl (hb hby d15_46) (by decide) (by decide) (XS.istore X167.here hx rfl (hb hby d15_50) rfl (l' := #[.val (.ref b), .val (.int sum), .val (.int i), .val (.int (own_val cc)), .val (.int ((2 : Int32) * (own_val cc)))]) (by rcases hs3 with rfl | ⟨_, rfl⟩ <;> rcases hs4 with rfl | ⟨_, rfl⟩ <;> rfl) (XS.iloadN X167.here hx rfl (hb hby d15_52) rfl (XS.iload X167.here hx rfl (hb hby d15_53) rfl (XS.bipush X167.here hx rfl (hb hby d15_55) (XS.idiv X167.here hx rfl (hb hby d15_57) rfl (by decide) kk_)))))))))) ?_
            refine OW.st (B := T167.setTop (mkF m 15 #[.val (.ref b), .val (.int (sum + ((((2 : Int32) * (own_val cc)) / (10 : Int32)) + (((2 : Int32) * (own_val cc)) % (10 : Int32))))), .val (.int (i + (1 : Int32))), .val (.int (own_val cc)), .val (.int ((2 : Int32) * (own_val cc)))] [])) (fun _ kk_ => XS.iload X167.here hx rfl (hb hby d15_58) rfl (XS.bipush X167.here hx rfl (hb hby d15_60) (iremM X167 hx rfl (hb hby d15_62) rfl (by decide) (XS.iadd X167.here hx rfl (hb hby d15_63) rfl (XS.iadd X167.here hx rfl (hb hby d15_64) rfl (XS.istoreN X167.here hx rfl (hb hby d15_65) rfl (l' := #[.val (.ref b), .val (.int (sum + ((((2 : Int32) * (own_val cc)) / (10 : Int32)) + (((2 : Int32) * (own_val cc)) % (10 : Int32))))), .val (.int i), .val (.int (own_val cc)), .val (.int ((2 : Int32) * (own_val cc)))]) rfl (XS.iinc X167.here hx rfl (hb hby d15_66) rfl (l' := #[.val (.ref b), .val (.int (sum + ((((2 : Int32) * (own_val cc)) / (10 : Int32)) + (((2 : Int32) * (own_val cc)) % (10 : Int32))))), .val (.int (i + (1 : Int32))), .val (.int (own_val cc)), .val (.int ((2 : Int32) * (own_val cc)))]) rfl (XS.goto X167.here hx rfl (pc0 := 69) (pc' := 15) rfl (hb hby d15_69) (by decide) (by decide) kk_)))))))) ?_
            exact ih _ _ _ X167 N167 e167 O163 _ _ _ _ (mm + 1) rfl (Or.inr ⟨_, rfl⟩) (Or.inr ⟨_, rfl⟩) (own_suc hi (by omega)) (by omega) (own_step1 hcc hi hc169 hsum (by omega) hc168) (fun j hj c hc => by rcases Nat.lt_succ_iff_lt_or_eq.mp hj with q | rfl; exact hok j q c hc; rw [hcc] at hc; cases hc; exact hc168)
          · refine OW.st (B := T167.setTop (mkF m 63 #[.val (.ref b), .val (.int sum), .val (.int i), .val (.int (own_val cc)), .val (.int (own_val cc))] [(.int ((own_val cc) % (10 : Int32))), (.int ((own_val cc) / (10 : Int32))), (.int sum)])) (fun _ kk_ => XS.icmpYes X167.here hx rfl (pc0 := 40) (pc' := 49) rfl (hb hby d15_40) rfl (feq hc169).2 (by decide) (by decide) (XS.iloadN X167.here hx rfl (hb hby d15_49) rfl (XS.istore X167.here hx rfl (hb hby d15_50) rfl (l' := #[.val (.ref b), .val (.int sum), .val (.int i), .val (.int (own_val cc)), .val (.int (own_val cc))]) (by rcases hs3 with rfl | ⟨_, rfl⟩ <;> rcases hs4 with rfl | ⟨_, rfl⟩ <;> rfl) (XS.iloadN X167.here hx rfl (hb hby d15_52) rfl (XS.iload X167.here hx rfl (hb hby d15_53) rfl (XS.bipush X167.here hx rfl (hb hby d15_55) (XS.idiv X167.here hx rfl (hb hby d15_57) rfl (by decide) (XS.iload X167.here hx rfl (hb hby d15_58) rfl (XS.bipush X167.here hx rfl (hb hby d15_60) (iremM X167 hx rfl (hb hby d15_62) rfl (by decide) kk_)))))))))) ?_
            refine OW.st (B := T167.setTop (mkF m 15 #[.val (.ref b), .val (.int (sum + (((own_val cc) / (10 : Int32)) + ((own_val cc) % (10 : Int32))))), .val (.int (i + (1 : Int32))), .val (.int (own_val cc)), .val (.int (own_val cc))] [])) (fun _ kk_ => XS.iadd X167.here hx rfl (hb hby d15_63) rfl (XS.iadd X167.here hx rfl (hb hby d15_64) rfl (XS.istoreN X167.here hx rfl (hb hby d15_65) rfl (l' := #[.val (.ref b), .val (.int (sum + (((own_val cc) / (10 : Int32)) + ((own_val cc) % (10 : Int32))))), .val (.int i), .val (.int (own_val cc)), .val (.int (own_val cc))]) rfl (XS.iinc X167.here hx rfl (hb hby d15_66) rfl (l' := #[.val (.ref b), .val (.int (sum + (((own_val cc) / (10 : Int32)) + ((own_val cc) % (10 : Int32))))), .val (.int (i + (1 : Int32))), .val (.int (own_val cc)), .val (.int (own_val cc))]) rfl (XS.goto X167.here hx rfl (pc0 := 69) (pc' := 15) rfl (hb hby d15_69) (by decide) (by decide) kk_))))) ?_
            exact ih _ _ _ X167 N167 e167 O163 _ _ _ _ (mm + 1) rfl (Or.inr ⟨_, rfl⟩) (Or.inr ⟨_, rfl⟩) (own_suc hi (by omega)) (by omega) (own_step0 hcc hi hc169 hsum (by omega) hc168) (fun j hj c hc => by rcases Nat.lt_succ_iff_lt_or_eq.mp hj with q | rfl; exact hok j q c hc; rw [hcc] at hc; cases hc; exact hc168)
    exact J163 8 _ _ _ X162 N162 e162 O0 _ _ _ _ 0 rfl (Or.inl rfl) (Or.inl rfl) rfl (Nat.zero_add _) rfl (fun j hj => absurd hj (Nat.not_lt_zero _))
  · obtain ⟨zr, hr, hlen⟩ : ∃ zr : Int32, (zb >>> ((1 : Int32) &&& 31)) = zr ∧ zr.toInt = (cs.length : Int) := ⟨_, rfl, own_half hzb (by omega)⟩
    have hz9 : zr = (9 : Int32) := Int32.toInt_inj.mp (by rw [hlen, h9]; rfl)
    refine OW.st (B := s₁.setTop (mkF m 1 #[.val (.ref b), .unset, .unset, .unset, .unset] [(.ref b)])) (fun _ kk_ => XS.aloadN X0.here hx rfl (hb hby d15_0) rfl rfl kk_) ?_
    obtain ⟨cq170, kq170, q170a, q170b, q170c⟩ := isOf hZ e0 E
    obtain ⟨_, _, ⟨T170, L170, k170, n170⟩, -, X170, ⟨Lc170, hQ170, l170, y170, z170⟩, st170⟩ := X0.virtualBack hx (y := (⟨"java/lang/String", "length", "()I"⟩ : MethodName)) (z := (⟨"java/lang/String", "length", "()I"⟩ : MethodName)) hown (mvT hZ (w_64 hw)) (mvT hZ (w_65 hw)) (notFace_of_selects (args := #[]) (mvT hZ (w_67 hw))) (mvT hZ (w_67 hw)) (mvT hZ (w_66 hw)) (by decide) (backOf (W := 0) (rmLE1 l Z a0 hw [] b ba kb zb cs zr i_COMPACT_STRINGS v_SIOOBE_FORMATTER h0 n0 O0 E F1 F2 B hr hS) hZ (w_68 hw) (w_7 hw) (by decide) (by decide)) q170a q170c (g := (mkF m 1 #[.val (.ref b), .unset, .unset, .unset, .unset] [(.ref b)])) rfl (by rw [hml]; rfl) (Steps.refl _) (argsL := []) (rest := []) (lenOf pd_16 rfl) rfl (by show 2 * 0 + _ ≤ _; exact Nat.le_of_eq rfl) (hb hby d15_1) (fun _ _ => ⟨rfl, e0, (by decide : 0 + 0 ≤ _), (by decide : 0 + 0 ≤ _)⟩)
    dsimp only [Pt.U, Pt.locs, Pt.cells, Pt.slots] at X170 l170 y170 z170 st170 hQ170
    subst l170 y170 z170
    obtain ⟨rfl, Nq170, e170⟩ := hQ170
    have N170 := Fr.app N0 Nq170
    refine OW.tr (B := T170.setTop (mkF m 4 #[.val (.ref b), .unset, .unset, .unset, .unset] [(.int zr)])) (st170) ?_
    refine OW.st (B := T170.setTop (mkF m 15 #[.val (.ref b), .val (.int (0 : Int32)), .val (.int (0 : Int32)), .unset, .unset] [])) (fun _ kk_ => XS.bipush X170.here hx rfl (hb hby d15_4) (XS.icmpYes X170.here hx rfl (pc0 := 6) (pc' := 11) rfl (hb hby d15_6) rfl (teq hz9).1 (by decide) (by decide) (XS.iconst X170.here hx rfl (hb hby d15_11) (XS.istoreN X170.here hx rfl (hb hby d15_12) rfl (l' := #[.val (.ref b), .val (.int (0 : Int32)), .unset, .unset, .unset]) rfl (XS.iconst X170.here hx rfl (hb hby d15_13) (XS.istoreN X170.here hx rfl (hb hby d15_14) rfl (l' := #[.val (.ref b), .val (.int (0 : Int32)), .val (.int (0 : Int32)), .unset, .unset]) rfl kk_)))))) ?_
    have J171 : ∀ (f : Nat) (T171 : State) (L171 : List Loc) (h171 : Heap) (X171 : Stand p l e ({ frames := 5, cells := 0, slots := 0, locals := 66 } : Room) s m #[(.ref b)] below meth c T171 L171 0 0) (N171 : Fr n0 L171) (e171 : T171.heap = h171) (O171 : Old Z n0 h171) (sum i : Int32) (sl3 sl4 : Slot) (mm : Nat), (h0 = h171) → (sl3 = .unset ∨ ∃ q : Int32, sl3 = .val (.int q)) → (sl4 = .unset ∨ ∃ q : Int32, sl4 = .val (.int q)) → (i.toInt = (mm : Int)) → (mm + f = 8) → (sum.toInt = own_S cs mm) → (∀ j : Nat, j < mm → ∀ c : Int32, cs[j]? = some c → ¬ (own_val c < (0 : Int32))) → OW p e below s (QIV9 Z b cs i_COMPACT_STRINGS v_SIOOBE_FORMATTER h0 n0) 0 0 (T171.setTop (mkF m 15 #[.val (.ref b), .val (.int sum), .val (.int i), sl3, sl4] [])) := by
      intro f
      induction f with
      | zero =>
        intro T171 L171 h171 X171 N171 e171 O171 sum i sl3 sl4 mm hH hs3 hs4 hi hm hsum hok
        subst hH
        have hbS := own_SR mm hok (by omega)
        have hmm : mm = 8 := by omega
        subst hmm
        obtain ⟨c9, hc9⟩ : ∃ cc, cs[8]? = some cc := ⟨_, List.getElem?_eq_getElem (by omega)⟩
        refine OW.st (B := T171.setTop (mkF m 75 #[.val (.ref b), .val (.int sum), .val (.int i), sl3, sl4] [(.int (8 : Int32)), (.ref b)])) (fun _ kk_ => XS.iloadN X171.here hx rfl (hb hby d15_15) rfl (XS.bipush X171.here hx rfl (hb hby d15_16) (XS.icmpYes X171.here hx rfl (pc0 := 18) (pc' := 72) rfl (hb hby d15_18) rfl (flt (own_nltI hi (n := 8) (by decide) (by omega))).2.1 (by decide) (by decide) (XS.aloadN X171.here hx rfl (hb hby d15_72) rfl rfl (XS.bipush X171.here hx rfl (hb hby d15_73) kk_))))) ?_
        obtain ⟨cq172, kq172, q172a, q172b, q172c⟩ := isOf hZ e171 E
        obtain ⟨_, _, ⟨T172, L172, k172, n172⟩, -, X172, ⟨Lc172, hQ172, l172, y172, z172⟩, st172⟩ := X171.virtualBack hx (y := (⟨"java/lang/String", "charAt", "(I)C"⟩ : MethodName)) (z := (⟨"java/lang/String", "charAt", "(I)C"⟩ : MethodName)) hown (mvT hZ (w_74 hw)) (mvT hZ (w_75 hw)) (notFace_of_selects (args := #[]) (mvT hZ (w_77 hw))) (mvT hZ (w_77 hw)) (mvT hZ (w_76 hw)) (by decide) (backOf (W := 0) (rmCA1 l Z a0 hw [] b ba kb zb cs (8 : Int32) 8 c9 i_COMPACT_STRINGS v_SIOOBE_FORMATTER h0 n0 O171 E F1 F2 B hzb hmax (by decide) hc9 (hch _ (List.mem_of_getElem? hc9)) hS) hZ (w_78 hw) (w_7 hw) (by decide) (by decide)) q172a q172c (g := (mkF m 75 #[.val (.ref b), .val (.int sum), .val (.int i), sl3, sl4] [(.int (8 : Int32)), (.ref b)])) rfl (by rw [hml]; rfl) (Steps.refl _) (argsL := [(.int (8 : Int32))]) (rest := []) (lenOf pd_14 rfl) rfl (by show 2 * 0 + _ ≤ _; exact Nat.le_of_eq rfl) (hb hby d15_75) (fun _ _ => ⟨rfl, e171, (by decide : 0 + 0 ≤ _), (by decide : 0 + 0 ≤ _)⟩)
        dsimp only [Pt.U, Pt.locs, Pt.cells, Pt.slots] at X172 l172 y172 z172 st172 hQ172
        subst l172 y172 z172
        obtain ⟨rfl, Nq172, e172⟩ := hQ172
        have N172 := Fr.app N171 Nq172
        refine OW.tr (B := T172.setTop (mkF m 78 #[.val (.ref b), .val (.int sum), .val (.int i), sl3, sl4] [(.int c9)])) (st172) ?_
        refine OW.st (B := T172.setTop (mkF m 92 #[.val (.ref b), .val (.int sum), .val (.int i), sl3, sl4] [(.int (((48 : Int32) + (((10 : Int32) - (sum % (10 : Int32))) % (10 : Int32))).toUInt32.toUInt16.toUInt32.toInt32)), (.int c9)])) (fun _ kk_ => XS.bipush X172.here hx rfl (hb hby d15_78) (XS.bipush X172.here hx rfl (hb hby d15_80) (XS.iloadN X172.here hx rfl (hb hby d15_82) rfl (XS.bipush X172.here hx rfl (hb hby d15_83) (iremM X172 hx rfl (hb hby d15_85) rfl (by decide) (XS.isub X172.here hx rfl (hb hby d15_86) rfl (XS.bipush X172.here hx rfl (hb hby d15_87) (iremM X172 hx rfl (hb hby d15_89) rfl (by decide) (XS.iadd X172.here hx rfl (hb hby d15_90) rfl (XS.i2c X172.here hx rfl (hb hby d15_91) rfl kk_)))))))))) ?_
        by_cases hc173 : c9 = (((48 : Int32) + (((10 : Int32) - (sum % (10 : Int32))) % (10 : Int32))).toUInt32.toUInt16.toUInt32.toInt32)
        · refine OW.st (B := T172.setTop (mkF m 100 #[.val (.ref b), .val (.int sum), .val (.int i), sl3, sl4] [(.int (1 : Int32))])) (fun _ kk_ => XS.icmpNo X172.here hx rfl (hb hby d15_92) rfl (teq hc173).2 (XS.iconst X172.here hx rfl (hb hby d15_95) (XS.goto X172.here hx rfl (pc0 := 96) (pc' := 100) rfl (hb hby d15_96) (by decide) (by decide) kk_))) ?_
          exact OW.ret X172 hx hlk (i := .ireturn) Bd.returns rfl (Or.inl ⟨rfl, Or.inr (Or.inl rfl), _, rfl⟩) (hb hby d15_100) e172 (by decide) (by decide) ⟨_, rfl, N172, rfl, own_ckyes hok hc9 (own_ckd hsum (by omega)) hc173⟩
        · refine OW.st (B := T172.setTop (mkF m 100 #[.val (.ref b), .val (.int sum), .val (.int i), sl3, sl4] [(.int (0 : Int32))])) (fun _ kk_ => XS.icmpYes X172.here hx rfl (pc0 := 92) (pc' := 99) rfl (hb hby d15_92) rfl (feq hc173).2 (by decide) (by decide) (XS.iconst X172.here hx rfl (hb hby d15_99) kk_)) ?_
          exact OW.ret X172 hx hlk (i := .ireturn) Bd.returns rfl (Or.inl ⟨rfl, Or.inr (Or.inl rfl), _, rfl⟩) (hb hby d15_100) e172 (by decide) (by decide) ⟨_, rfl, N172, rfl, own_ckno hc9 (own_ckd hsum (by omega)) hc173⟩
      | succ f ih =>
        intro T171 L171 h171 X171 N171 e171 O171 sum i sl3 sl4 mm hH hs3 hs4 hi hm hsum hok
        subst hH
        have hbS := own_SR mm hok (by omega)
        obtain ⟨cc, hcc⟩ : ∃ cc, cs[mm]? = some cc := ⟨_, List.getElem?_eq_getElem (by omega)⟩
        refine OW.st (B := T171.setTop (mkF m 23 #[.val (.ref b), .val (.int sum), .val (.int i), sl3, sl4] [(.int i), (.ref b)])) (fun _ kk_ => XS.iloadN X171.here hx rfl (hb hby d15_15) rfl (XS.bipush X171.here hx rfl (hb hby d15_16) (XS.icmpNo X171.here hx rfl (hb hby d15_18) rfl (tlt (own_ltI hi (n := 8) (by decide) (by omega))).2.1 (XS.aloadN X171.here hx rfl (hb hby d15_21) rfl rfl (XS.iloadN X171.here hx rfl (hb hby d15_22) rfl kk_))))) ?_
        obtain ⟨cq174, kq174, q174a, q174b, q174c⟩ := isOf hZ e171 E
        obtain ⟨_, _, ⟨T174, L174, k174, n174⟩, -, X174, ⟨Lc174, hQ174, l174, y174, z174⟩, st174⟩ := X171.virtualBack hx (y := (⟨"java/lang/String", "charAt", "(I)C"⟩ : MethodName)) (z := (⟨"java/lang/String", "charAt", "(I)C"⟩ : MethodName)) hown (mvT hZ (w_74 hw)) (mvT hZ (w_75 hw)) (notFace_of_selects (args := #[]) (mvT hZ (w_77 hw))) (mvT hZ (w_77 hw)) (mvT hZ (w_76 hw)) (by decide) (backOf (W := 0) (rmCA1 l Z a0 hw [] b ba kb zb cs i mm cc i_COMPACT_STRINGS v_SIOOBE_FORMATTER h0 n0 O171 E F1 F2 B hzb hmax hi hcc (hch _ (List.mem_of_getElem? hcc)) hS) hZ (w_78 hw) (w_7 hw) (by decide) (by decide)) q174a q174c (g := (mkF m 23 #[.val (.ref b), .val (.int sum), .val (.int i), sl3, sl4] [(.int i), (.ref b)])) rfl (by rw [hml]; rfl) (Steps.refl _) (argsL := [(.int i)]) (rest := []) (lenOf pd_14 rfl) rfl (by show 2 * 0 + _ ≤ _; exact Nat.le_of_eq rfl) (hb hby d15_23) (fun _ _ => ⟨rfl, e171, (by decide : 0 + 0 ≤ _), (by decide : 0 + 0 ≤ _)⟩)
        dsimp only [Pt.U, Pt.locs, Pt.cells, Pt.slots] at X174 l174 y174 z174 st174 hQ174
        subst l174 y174 z174
        obtain ⟨rfl, Nq174, e174⟩ := hQ174
        have N174 := Fr.app N171 Nq174
        refine OW.tr (B := T174.setTop (mkF m 26 #[.val (.ref b), .val (.int sum), .val (.int i), sl3, sl4] [(.int cc)])) (st174) ?_
        obtain ⟨_, _, ⟨T175, L175, k175, n175⟩, -, X175, ⟨Lc175, hQ175, l175, y175, z175⟩, st175⟩ := Jvm.LawKit.callS X174 hx (y := (⟨"tenorbook/book/Cusip", "value", "(C)I"⟩ : MethodName)) hown (mvT hZ (w_101 hw)) (mvT hZ (w_102 hw)) (mvT hZ (w_62 hw)) (mvT hZ (w_103 hw)) (by decide) (backOf (W := 0) (rmVA l Z a0 hw [] cc h0 n0 O171 ) hZ (w_103 hw) (w_62 hw) (by decide) (by decide)) (g := (mkF m 26 #[.val (.ref b), .val (.int sum), .val (.int i), sl3, sl4] [(.int cc)])) rfl (by rw [hml]; rfl) (argsL := [(.int cc)]) (rest := []) (lenOf pd_15 rfl) rfl (by show 2 * 0 + _ ≤ _; exact Nat.le_of_eq rfl) (hb hby d15_26) (fun _ _ => ⟨rfl, e174, (by decide : 0 + 0 ≤ _), (by decide : 0 + 0 ≤ _)⟩)
        dsimp only [Pt.U, Pt.locs, Pt.cells, Pt.slots] at X175 l175 y175 z175 st175 hQ175
        subst l175 y175 z175
        obtain ⟨rfl, Nq175, e175⟩ := hQ175
        have N175 := Fr.app N174 Nq175
        refine OW.st (B := T175.setTop (mkF m 31 #[.val (.ref b), .val (.int sum), .val (.int i), .val (.int (own_val cc)), sl4] [(.int (own_val cc))])) (fun _ kk_ => st175 _ (XS.istoreN X175.here hx rfl (hb hby d15_29) rfl (l' := #[.val (.ref b), .val (.int sum), .val (.int i), .val (.int (own_val cc)), sl4]) (by rcases hs3 with rfl | ⟨_, rfl⟩ <;> rcases hs4 with rfl | ⟨_, rfl⟩ <;> rfl) (XS.iloadN X175.here hx rfl (hb hby d15_30) rfl kk_))) ?_
        by_cases hc176 : (own_val cc) < (0 : Int32)
        · refine OW.st (B := T175.setTop (mkF m 35 #[.val (.ref b), .val (.int sum), .val (.int i), .val (.int (own_val cc)), sl4] [(.int (0 : Int32))])) (fun _ kk_ => XS.ifNo X175.here hx rfl (hb hby d15_31) rfl ((if0 _ _).trans (tlt hc176).2.1) (XS.iconst X175.here hx rfl (hb hby d15_34) kk_)) ?_
          exact OW.ret X175 hx hlk (i := .ireturn) Bd.returns rfl (Or.inl ⟨rfl, Or.inr (Or.inl rfl), _, rfl⟩) (hb hby d15_35) e175 (by decide) (by decide) ⟨_, rfl, N175, rfl, own_ckneg mm (by omega) hcc hc176⟩
        · refine OW.st (B := T175.setTop (mkF m 40 #[.val (.ref b), .val (.int sum), .val (.int i), .val (.int (own_val cc)), sl4] [(.int (1 : Int32)), (.int (i % (2 : Int32)))])) (fun _ kk_ => XS.ifYes X175.here hx rfl (pc0 := 31) (pc' := 36) rfl (hb hby d15_31) rfl ((if0 _ _).trans (flt hc176).2.1) (by decide) (by decide) (XS.iloadN X175.here hx rfl (hb hby d15_36) rfl (XS.iconst X175.here hx rfl (hb hby d15_37) (iremM X175 hx rfl (hb hby d15_38) rfl (by decide) (XS.iconst X175.here hx rfl (hb hby d15_39) kk_))))) ?_
          by_cases hc177 : (i % (2 : Int32)) = (1 : Int32)
          · refine OW.st (B := T175.setTop (mkF m 58 #[.val (.ref b), .val (.int sum), .val (.int i), .val (.int (own_val cc)), .val (.int ((2 : Int32) * (own_val cc)))] [(.int (((2 : Int32) * (own_val cc)) / (10 : Int32))), (.int sum)])) (fun _ kk_ => XS.icmpNo X175.here hx rfl (hb hby d15_40) rfl (teq hc177).2 (XS.iconst X175.here hx rfl (hb hby d15_43) (XS.iloadN X175.here hx rfl (hb hby d15_44) rfl (XS.imul X175.here hx rfl (hb hby d15_45) rfl (XS.goto X175.here hx rfl (pc0 := 46) (pc' := 50) rfl (hb hby d15_46) (by decide) (by decide) (XS.istore X175.here hx rfl (hb hby d15_50) rfl (l' := #[.val (.ref b), .val (.int sum), .val (.int i), .val (.int (own_val cc)), .val (.int ((2 : Int32) * (own_val cc)))]) (by rcases hs3 with rfl | ⟨_, rfl⟩ <;> rcases hs4 with rfl | ⟨_, rfl⟩ <;> rfl) (XS.iloadN X175.here hx rfl (hb hby d15_52) rfl (XS.iload X175.here hx rfl (hb hby d15_53) rfl (XS.bipush X175.here hx rfl (hb hby d15_55) (XS.idiv X175.here hx rfl (hb hby d15_57) rfl (by decide) kk_)))))))))) ?_
            refine OW.st (B := T175.setTop (mkF m 15 #[.val (.ref b), .val (.int (sum + ((((2 : Int32) * (own_val cc)) / (10 : Int32)) + (((2 : Int32) * (own_val cc)) % (10 : Int32))))), .val (.int (i + (1 : Int32))), .val (.int (own_val cc)), .val (.int ((2 : Int32) * (own_val cc)))] [])) (fun _ kk_ => XS.iload X175.here hx rfl (hb hby d15_58) rfl (XS.bipush X175.here hx rfl (hb hby d15_60) (iremM X175 hx rfl (hb hby d15_62) rfl (by decide) (XS.iadd X175.here hx rfl (hb hby d15_63) rfl (XS.iadd X175.here hx rfl (hb hby d15_64) rfl (XS.istoreN X175.here hx rfl (hb hby d15_65) rfl (l' := #[.val (.ref b), .val (.int (sum + ((((2 : Int32) * (own_val cc)) / (10 : Int32)) + (((2 : Int32) * (own_val cc)) % (10 : Int32))))), .val (.int i), .val (.int (own_val cc)), .val (.int ((2 : Int32) * (own_val cc)))]) rfl (XS.iinc X175.here hx rfl (hb hby d15_66) rfl (l' := #[.val (.ref b), .val (.int (sum + ((((2 : Int32) * (own_val cc)) / (10 : Int32)) + (((2 : Int32) * (own_val cc)) % (10 : Int32))))), .val (.int (i + (1 : Int32))), .val (.int (own_val cc)), .val (.int ((2 : Int32) * (own_val cc)))]) rfl (XS.goto X175.here hx rfl (pc0 := 69) (pc' := 15) rfl (hb hby d15_69) (by decide) (by decide) kk_)))))))) ?_
            exact ih _ _ _ X175 N175 e175 O171 _ _ _ _ (mm + 1) rfl (Or.inr ⟨_, rfl⟩) (Or.inr ⟨_, rfl⟩) (own_suc hi (by omega)) (by omega) (own_step1 hcc hi hc177 hsum (by omega) hc176) (fun j hj c hc => by rcases Nat.lt_succ_iff_lt_or_eq.mp hj with q | rfl; exact hok j q c hc; rw [hcc] at hc; cases hc; exact hc176)
          · refine OW.st (B := T175.setTop (mkF m 63 #[.val (.ref b), .val (.int sum), .val (.int i), .val (.int (own_val cc)), .val (.int (own_val cc))] [(.int ((own_val cc) % (10 : Int32))), (.int ((own_val cc) / (10 : Int32))), (.int sum)])) (fun _ kk_ => XS.icmpYes X175.here hx rfl (pc0 := 40) (pc' := 49) rfl (hb hby d15_40) rfl (feq hc177).2 (by decide) (by decide) (XS.iloadN X175.here hx rfl (hb hby d15_49) rfl (XS.istore X175.here hx rfl (hb hby d15_50) rfl (l' := #[.val (.ref b), .val (.int sum), .val (.int i), .val (.int (own_val cc)), .val (.int (own_val cc))]) (by rcases hs3 with rfl | ⟨_, rfl⟩ <;> rcases hs4 with rfl | ⟨_, rfl⟩ <;> rfl) (XS.iloadN X175.here hx rfl (hb hby d15_52) rfl (XS.iload X175.here hx rfl (hb hby d15_53) rfl (XS.bipush X175.here hx rfl (hb hby d15_55) (XS.idiv X175.here hx rfl (hb hby d15_57) rfl (by decide) (XS.iload X175.here hx rfl (hb hby d15_58) rfl (XS.bipush X175.here hx rfl (hb hby d15_60) (iremM X175 hx rfl (hb hby d15_62) rfl (by decide) kk_)))))))))) ?_
            refine OW.st (B := T175.setTop (mkF m 15 #[.val (.ref b), .val (.int (sum + (((own_val cc) / (10 : Int32)) + ((own_val cc) % (10 : Int32))))), .val (.int (i + (1 : Int32))), .val (.int (own_val cc)), .val (.int (own_val cc))] [])) (fun _ kk_ => XS.iadd X175.here hx rfl (hb hby d15_63) rfl (XS.iadd X175.here hx rfl (hb hby d15_64) rfl (XS.istoreN X175.here hx rfl (hb hby d15_65) rfl (l' := #[.val (.ref b), .val (.int (sum + (((own_val cc) / (10 : Int32)) + ((own_val cc) % (10 : Int32))))), .val (.int i), .val (.int (own_val cc)), .val (.int (own_val cc))]) rfl (XS.iinc X175.here hx rfl (hb hby d15_66) rfl (l' := #[.val (.ref b), .val (.int (sum + (((own_val cc) / (10 : Int32)) + ((own_val cc) % (10 : Int32))))), .val (.int (i + (1 : Int32))), .val (.int (own_val cc)), .val (.int (own_val cc))]) rfl (XS.goto X175.here hx rfl (pc0 := 69) (pc' := 15) rfl (hb hby d15_69) (by decide) (by decide) kk_))))) ?_
            exact ih _ _ _ X175 N175 e175 O171 _ _ _ _ (mm + 1) rfl (Or.inr ⟨_, rfl⟩) (Or.inr ⟨_, rfl⟩) (own_suc hi (by omega)) (by omega) (own_step0 hcc hi hc177 hsum (by omega) hc176) (fun j hj c hc => by rcases Nat.lt_succ_iff_lt_or_eq.mp hj with q | rfl; exact hok j q c hc; rw [hcc] at hc; cases hc; exact hc176)
    exact J171 8 _ _ _ X170 N170 e170 O0 _ _ _ _ 0 rfl (Or.inl rfl) (Or.inl rfl) rfl (Nat.zero_add _) rfl (fun j hj => absurd hj (Nat.not_lt_zero _))
theorem ef_0 (m : MethodId) (x0 : Int64) (x1 : Int64) (x2 : Int64) (x3 : Int64) (x4 : Int32) (x5 : Int32) : entryFrame m #[(.long x0), (.long x1), (.long x2), (.long x3), (.int x4), (.int x5)] maxLocals = mkF m 0 #[.val (.long x0), .second, .val (.long x1), .second, .val (.long x2), .second, .val (.long x3), .second, .val (.int x4), .val (.int x5), .unset, .unset, .unset, .unset, .unset, .unset, .unset, .unset, .unset, .unset, .unset, .unset] [] := by first | (simp [entryFrame, mkF, argsToLocals, Value.category, maxLocals]; done) | rfl
def Q0 (Z : State) (n1 : Int64) (n2 : Int64) (n3 : Int64) (n4 : Int64) (n5 : Int32) (n6 : Int32) (i_COMPACT_STRINGS : Int32) (v_SIOOBE_FORMATTER : Value) (h0 : Heap) (n0 : Nat) (v : Option Value) (h : Heap) (L : List Loc) : Prop := v = some (.int 1) ∧ Fr n0 L
set_option maxRecDepth 65536 in
set_option maxHeartbeats 40000000 in
theorem rm0 (l : Launch) (Z : State) (a0 : Array Value) (hw : ∀ d ∈ tables_1, d.before a0 Z = true) (ws : List Jvm.Cond) (n1 : Int64) (n2 : Int64) (n3 : Int64) (n4 : Int64) (n5 : Int32) (n6 : Int32) (i_COMPACT_STRINGS : Int32) (v_SIOOBE_FORMATTER : Value) (h0 : Heap) (n0 : Nat) (O0 : Old Z n0 h0) (hS : OwnS Z i_COMPACT_STRINGS v_SIOOBE_FORMATTER) :
    MetFree l x (head1 (Jvm.Cond.code x code maxLocals ret :: ws) room_1) (fun aa_ UU_ => aa_ = #[(.long n1), (.long n2), (.long n3), (.long n4), (.int n5), (.int n6)] ∧ Z.Warmed39 UU_.vm ∧ UU_.heap = h0 ∧ CHv Z consts_1 UU_.vm h0) (fun _ _ _ _ _ => True) (fun _ UU_ oo_ UV_ => ∃ vv_ LL_, oo_ = .returned vv_ ∧ Q0 Z n1 n2 n3 n4 n5 n6 i_COMPACT_STRINGS v_SIOOBE_FORMATTER h0 n0 vv_ UV_.heap LL_ ∧ CHr Z consts_1 UU_.vm UU_.heap UV_.vm UV_.heap ∧ ReturnedEndW UU_ oo_ UV_ LL_ 6 44) := by
  refine MetFree.of_bodySF (plainFor_of_name pn_4) hisR ?_
  intro p e s m args below meth c s₁ Bd hml0 hP hK
  obtain ⟨rfl, hZ, hh, hCH⟩ := hP
  have hx := Bd.exec
  have hby := Bd.bytes
  have hlk := BodyLoose.notSynchronized Bd
  have hml : c.maxLocals = 22 := hml0
  have hown : s.vm.findClass "tenorbook/book/CusipIsValidPinLaw" = some m.cls := findClass_of_methodNamed Bd.named
  have hnm := (name_of_methodNamed Bd.named Bd.method).1
  have X0 : Stand p l e room_1 s m #[(.long n1), (.long n2), (.long n3), (.long n4), (.int n5), (.int n6)] below meth c s₁ [] 0 0 := Stand.of_body Bd
  have e0 : s₁.heap = h0 := by rw [← hh, Bd.state]; rfl
  have N0 := Fr.nil n0
  have hS0 : s.Since s.vm 0 := (State.WarmedH.refl s).since 0
  have hk0 : 0 ≤ h0.size := Nat.zero_le _
  have CR0 : CHr Z consts_1 s.vm h0 s.vm h0 := CHr.refl hCH
  suffices hOW : OWH Z consts_1 h0 p e below s (Q0 Z n1 n2 n3 n4 n5 n6 i_COMPACT_STRINGS v_SIOOBE_FORMATTER h0 n0) 6 44 (s₁.setTop (mkF m 0 #[.val (.long n1), .second, .val (.long n2), .second, .val (.long n3), .second, .val (.long n4), .second, .val (.int n5), .val (.int n6), .unset, .unset, .unset, .unset, .unset, .unset, .unset, .unset, .unset, .unset, .unset, .unset] [])) by
    obtain ⟨oq1_, oq2_, oq3_, oq4_⟩ := hOW
    obtain ⟨oq5_, oq6_, oq7_, oq8_, oq9_, or1_, or2_, or3_⟩ := oq4_
    exact ⟨oq1_, oq2_, castTop (ef_0 m n1 n2 n3 n4 n5 n6) oq3_, oq5_, oq6_, oq7_, oq8_, oq9_, or1_, by rw [hh]; exact or2_, or3_⟩
  have hS' := hS
  obtain ⟨Si_COMPACT_STRINGS, Sv_SIOOBE_FORMATTER, Rv_SIOOBE_FORMATTER, S__assertionsDisabled, S_HI_BYTE_SHIFT, S_LO_BYTE_SHIFT, Pi_COMPACT_STRINGS⟩ := hS'
  refine OWH.st (B := s₁.setTop (mkF m 2 #[.val (.long n1), .second, .val (.long n2), .second, .val (.long n3), .second, .val (.long n4), .second, .val (.int n5), .val (.int n6), .unset, .unset, .unset, .unset, .unset, .unset, .unset, .unset, .unset, .unset, .unset, .unset] [(.int (n1.toInt32))])) (fun _ kk_ => XS.lloadN X0.here hx rfl (hb hby at_0) rfl (XS.l2i X0.here hx rfl (hb hby at_1) rfl kk_)) ?_
  obtain ⟨_, _, ⟨T178, L178, k178, n178⟩, -, X178, ⟨Lc178, hQ178, l178, y178, z178⟩, st178⟩ := Jvm.LawKit.callS X0 hx (y := (⟨"tenorbook/book/CusipIsValidPinLaw", "draw", "(I)C"⟩ : MethodName)) hown (mvT hZ (w_0 hw)) (mvT hZ (w_1 hw)) (mvT hZ (w_2 hw)) (mvT hZ (w_3 hw)) (by decide) (backOf (W := 0) (rmDR l Z a0 hw [] (n1.toInt32) h0 n0 O0 ) hZ (w_3 hw) (w_2 hw) (by decide) (by decide)) (g := (mkF m 2 #[.val (.long n1), .second, .val (.long n2), .second, .val (.long n3), .second, .val (.long n4), .second, .val (.int n5), .val (.int n6), .unset, .unset, .unset, .unset, .unset, .unset, .unset, .unset, .unset, .unset, .unset, .unset] [(.int (n1.toInt32))])) rfl (by rw [hml]; rfl) (argsL := [(.int (n1.toInt32))]) (rest := []) (lenOf pd_14 rfl) rfl (by show 2 * 0 + _ ≤ _; exact Nat.le_of_eq rfl) (hb hby at_2) (fun _ _ => ⟨rfl, e0, (by decide : 0 + 0 ≤ _), (by decide : 0 + 0 ≤ _)⟩)
  dsimp only [Pt.U, Pt.locs, Pt.cells, Pt.slots] at X178 l178 y178 z178 st178 hQ178
  subst l178 y178 z178
  obtain ⟨u178, rfl, Nq178, e178, hn178⟩ := hQ178
  have N178 := Fr.app N0 Nq178
  refine OWH.st (B := T178.setTop (mkF m 12 #[.val (.long n1), .second, .val (.long n2), .second, .val (.long n3), .second, .val (.long n4), .second, .val (.int n5), .val (.int n6), .val (.int u178), .unset, .unset, .unset, .unset, .unset, .unset, .unset, .unset, .unset, .unset, .unset] [(.int (((n1.toUInt64 >>> ((32 : Int32) &&& 0x3f).toInt64.toUInt64).toInt64).toInt32))])) (fun _ kk_ => st178 _ (XS.istore X178.here hx rfl (hb hby at_5) rfl (l' := #[.val (.long n1), .second, .val (.long n2), .second, .val (.long n3), .second, .val (.long n4), .second, .val (.int n5), .val (.int n6), .val (.int u178), .unset, .unset, .unset, .unset, .unset, .unset, .unset, .unset, .unset, .unset, .unset]) rfl (XS.lloadN X178.here hx rfl (hb hby at_7) rfl (XS.bipush X178.here hx rfl (hb hby at_8) (XS.lushr X178.here hx rfl (hb hby at_10) rfl (XS.l2i X178.here hx rfl (hb hby at_11) rfl kk_)))))) ?_
  obtain ⟨_, _, ⟨T179, L179, k179, n179⟩, -, X179, ⟨Lc179, hQ179, l179, y179, z179⟩, st179⟩ := Jvm.LawKit.callS X178 hx (y := (⟨"tenorbook/book/CusipIsValidPinLaw", "draw", "(I)C"⟩ : MethodName)) hown (mvT hZ (w_0 hw)) (mvT hZ (w_1 hw)) (mvT hZ (w_2 hw)) (mvT hZ (w_3 hw)) (by decide) (backOf (W := 0) (rmDR l Z a0 hw [] (((n1.toUInt64 >>> ((32 : Int32) &&& 0x3f).toInt64.toUInt64).toInt64).toInt32) h0 n0 O0 ) hZ (w_3 hw) (w_2 hw) (by decide) (by decide)) (g := (mkF m 12 #[.val (.long n1), .second, .val (.long n2), .second, .val (.long n3), .second, .val (.long n4), .second, .val (.int n5), .val (.int n6), .val (.int u178), .unset, .unset, .unset, .unset, .unset, .unset, .unset, .unset, .unset, .unset, .unset] [(.int (((n1.toUInt64 >>> ((32 : Int32) &&& 0x3f).toInt64.toUInt64).toInt64).toInt32))])) rfl (by rw [hml]; rfl) (argsL := [(.int (((n1.toUInt64 >>> ((32 : Int32) &&& 0x3f).toInt64.toUInt64).toInt64).toInt32))]) (rest := []) (lenOf pd_14 rfl) rfl (by show 2 * 0 + _ ≤ _; exact Nat.le_of_eq rfl) (hb hby at_12) (fun _ _ => ⟨rfl, e178, (by decide : 0 + 0 ≤ _), (by decide : 0 + 0 ≤ _)⟩)
  dsimp only [Pt.U, Pt.locs, Pt.cells, Pt.slots] at X179 l179 y179 z179 st179 hQ179
  subst l179 y179 z179
  obtain ⟨u179, rfl, Nq179, e179, hn179⟩ := hQ179
  have N179 := Fr.app N178 Nq179
  refine OWH.st (B := T179.setTop (mkF m 19 #[.val (.long n1), .second, .val (.long n2), .second, .val (.long n3), .second, .val (.long n4), .second, .val (.int n5), .val (.int n6), .val (.int u178), .val (.int u179), .unset, .unset, .unset, .unset, .unset, .unset, .unset, .unset, .unset, .unset] [(.int (n2.toInt32))])) (fun _ kk_ => st179 _ (XS.istore X179.here hx rfl (hb hby at_15) rfl (l' := #[.val (.long n1), .second, .val (.long n2), .second, .val (.long n3), .second, .val (.long n4), .second, .val (.int n5), .val (.int n6), .val (.int u178), .val (.int u179), .unset, .unset, .unset, .unset, .unset, .unset, .unset, .unset, .unset, .unset]) rfl (XS.lloadN X179.here hx rfl (hb hby at_17) rfl (XS.l2i X179.here hx rfl (hb hby at_18) rfl kk_)))) ?_
  obtain ⟨_, _, ⟨T180, L180, k180, n180⟩, -, X180, ⟨Lc180, hQ180, l180, y180, z180⟩, st180⟩ := Jvm.LawKit.callS X179 hx (y := (⟨"tenorbook/book/CusipIsValidPinLaw", "draw", "(I)C"⟩ : MethodName)) hown (mvT hZ (w_0 hw)) (mvT hZ (w_1 hw)) (mvT hZ (w_2 hw)) (mvT hZ (w_3 hw)) (by decide) (backOf (W := 0) (rmDR l Z a0 hw [] (n2.toInt32) h0 n0 O0 ) hZ (w_3 hw) (w_2 hw) (by decide) (by decide)) (g := (mkF m 19 #[.val (.long n1), .second, .val (.long n2), .second, .val (.long n3), .second, .val (.long n4), .second, .val (.int n5), .val (.int n6), .val (.int u178), .val (.int u179), .unset, .unset, .unset, .unset, .unset, .unset, .unset, .unset, .unset, .unset] [(.int (n2.toInt32))])) rfl (by rw [hml]; rfl) (argsL := [(.int (n2.toInt32))]) (rest := []) (lenOf pd_14 rfl) rfl (by show 2 * 0 + _ ≤ _; exact Nat.le_of_eq rfl) (hb hby at_19) (fun _ _ => ⟨rfl, e179, (by decide : 0 + 0 ≤ _), (by decide : 0 + 0 ≤ _)⟩)
  dsimp only [Pt.U, Pt.locs, Pt.cells, Pt.slots] at X180 l180 y180 z180 st180 hQ180
  subst l180 y180 z180
  obtain ⟨u180, rfl, Nq180, e180, hn180⟩ := hQ180
  have N180 := Fr.app N179 Nq180
  refine OWH.st (B := T180.setTop (mkF m 29 #[.val (.long n1), .second, .val (.long n2), .second, .val (.long n3), .second, .val (.long n4), .second, .val (.int n5), .val (.int n6), .val (.int u178), .val (.int u179), .val (.int u180), .unset, .unset, .unset, .unset, .unset, .unset, .unset, .unset, .unset] [(.int (((n2.toUInt64 >>> ((32 : Int32) &&& 0x3f).toInt64.toUInt64).toInt64).toInt32))])) (fun _ kk_ => st180 _ (XS.istore X180.here hx rfl (hb hby at_22) rfl (l' := #[.val (.long n1), .second, .val (.long n2), .second, .val (.long n3), .second, .val (.long n4), .second, .val (.int n5), .val (.int n6), .val (.int u178), .val (.int u179), .val (.int u180), .unset, .unset, .unset, .unset, .unset, .unset, .unset, .unset, .unset]) rfl (XS.lloadN X180.here hx rfl (hb hby at_24) rfl (XS.bipush X180.here hx rfl (hb hby at_25) (XS.lushr X180.here hx rfl (hb hby at_27) rfl (XS.l2i X180.here hx rfl (hb hby at_28) rfl kk_)))))) ?_
  obtain ⟨_, _, ⟨T181, L181, k181, n181⟩, -, X181, ⟨Lc181, hQ181, l181, y181, z181⟩, st181⟩ := Jvm.LawKit.callS X180 hx (y := (⟨"tenorbook/book/CusipIsValidPinLaw", "draw", "(I)C"⟩ : MethodName)) hown (mvT hZ (w_0 hw)) (mvT hZ (w_1 hw)) (mvT hZ (w_2 hw)) (mvT hZ (w_3 hw)) (by decide) (backOf (W := 0) (rmDR l Z a0 hw [] (((n2.toUInt64 >>> ((32 : Int32) &&& 0x3f).toInt64.toUInt64).toInt64).toInt32) h0 n0 O0 ) hZ (w_3 hw) (w_2 hw) (by decide) (by decide)) (g := (mkF m 29 #[.val (.long n1), .second, .val (.long n2), .second, .val (.long n3), .second, .val (.long n4), .second, .val (.int n5), .val (.int n6), .val (.int u178), .val (.int u179), .val (.int u180), .unset, .unset, .unset, .unset, .unset, .unset, .unset, .unset, .unset] [(.int (((n2.toUInt64 >>> ((32 : Int32) &&& 0x3f).toInt64.toUInt64).toInt64).toInt32))])) rfl (by rw [hml]; rfl) (argsL := [(.int (((n2.toUInt64 >>> ((32 : Int32) &&& 0x3f).toInt64.toUInt64).toInt64).toInt32))]) (rest := []) (lenOf pd_14 rfl) rfl (by show 2 * 0 + _ ≤ _; exact Nat.le_of_eq rfl) (hb hby at_29) (fun _ _ => ⟨rfl, e180, (by decide : 0 + 0 ≤ _), (by decide : 0 + 0 ≤ _)⟩)
  dsimp only [Pt.U, Pt.locs, Pt.cells, Pt.slots] at X181 l181 y181 z181 st181 hQ181
  subst l181 y181 z181
  obtain ⟨u181, rfl, Nq181, e181, hn181⟩ := hQ181
  have N181 := Fr.app N180 Nq181
  refine OWH.st (B := T181.setTop (mkF m 37 #[.val (.long n1), .second, .val (.long n2), .second, .val (.long n3), .second, .val (.long n4), .second, .val (.int n5), .val (.int n6), .val (.int u178), .val (.int u179), .val (.int u180), .val (.int u181), .unset, .unset, .unset, .unset, .unset, .unset, .unset, .unset] [(.int (n3.toInt32))])) (fun _ kk_ => st181 _ (XS.istore X181.here hx rfl (hb hby at_32) rfl (l' := #[.val (.long n1), .second, .val (.long n2), .second, .val (.long n3), .second, .val (.long n4), .second, .val (.int n5), .val (.int n6), .val (.int u178), .val (.int u179), .val (.int u180), .val (.int u181), .unset, .unset, .unset, .unset, .unset, .unset, .unset, .unset]) rfl (XS.lload X181.here hx rfl (hb hby at_34) rfl (XS.l2i X181.here hx rfl (hb hby at_36) rfl kk_)))) ?_
  obtain ⟨_, _, ⟨T182, L182, k182, n182⟩, -, X182, ⟨Lc182, hQ182, l182, y182, z182⟩, st182⟩ := Jvm.LawKit.callS X181 hx (y := (⟨"tenorbook/book/CusipIsValidPinLaw", "draw", "(I)C"⟩ : MethodName)) hown (mvT hZ (w_0 hw)) (mvT hZ (w_1 hw)) (mvT hZ (w_2 hw)) (mvT hZ (w_3 hw)) (by decide) (backOf (W := 0) (rmDR l Z a0 hw [] (n3.toInt32) h0 n0 O0 ) hZ (w_3 hw) (w_2 hw) (by decide) (by decide)) (g := (mkF m 37 #[.val (.long n1), .second, .val (.long n2), .second, .val (.long n3), .second, .val (.long n4), .second, .val (.int n5), .val (.int n6), .val (.int u178), .val (.int u179), .val (.int u180), .val (.int u181), .unset, .unset, .unset, .unset, .unset, .unset, .unset, .unset] [(.int (n3.toInt32))])) rfl (by rw [hml]; rfl) (argsL := [(.int (n3.toInt32))]) (rest := []) (lenOf pd_14 rfl) rfl (by show 2 * 0 + _ ≤ _; exact Nat.le_of_eq rfl) (hb hby at_37) (fun _ _ => ⟨rfl, e181, (by decide : 0 + 0 ≤ _), (by decide : 0 + 0 ≤ _)⟩)
  dsimp only [Pt.U, Pt.locs, Pt.cells, Pt.slots] at X182 l182 y182 z182 st182 hQ182
  subst l182 y182 z182
  obtain ⟨u182, rfl, Nq182, e182, hn182⟩ := hQ182
  have N182 := Fr.app N181 Nq182
  refine OWH.st (B := T182.setTop (mkF m 48 #[.val (.long n1), .second, .val (.long n2), .second, .val (.long n3), .second, .val (.long n4), .second, .val (.int n5), .val (.int n6), .val (.int u178), .val (.int u179), .val (.int u180), .val (.int u181), .val (.int u182), .unset, .unset, .unset, .unset, .unset, .unset, .unset] [(.int (((n3.toUInt64 >>> ((32 : Int32) &&& 0x3f).toInt64.toUInt64).toInt64).toInt32))])) (fun _ kk_ => st182 _ (XS.istore X182.here hx rfl (hb hby at_40) rfl (l' := #[.val (.long n1), .second, .val (.long n2), .second, .val (.long n3), .second, .val (.long n4), .second, .val (.int n5), .val (.int n6), .val (.int u178), .val (.int u179), .val (.int u180), .val (.int u181), .val (.int u182), .unset, .unset, .unset, .unset, .unset, .unset, .unset]) rfl (XS.lload X182.here hx rfl (hb hby at_42) rfl (XS.bipush X182.here hx rfl (hb hby at_44) (XS.lushr X182.here hx rfl (hb hby at_46) rfl (XS.l2i X182.here hx rfl (hb hby at_47) rfl kk_)))))) ?_
  obtain ⟨_, _, ⟨T183, L183, k183, n183⟩, -, X183, ⟨Lc183, hQ183, l183, y183, z183⟩, st183⟩ := Jvm.LawKit.callS X182 hx (y := (⟨"tenorbook/book/CusipIsValidPinLaw", "draw", "(I)C"⟩ : MethodName)) hown (mvT hZ (w_0 hw)) (mvT hZ (w_1 hw)) (mvT hZ (w_2 hw)) (mvT hZ (w_3 hw)) (by decide) (backOf (W := 0) (rmDR l Z a0 hw [] (((n3.toUInt64 >>> ((32 : Int32) &&& 0x3f).toInt64.toUInt64).toInt64).toInt32) h0 n0 O0 ) hZ (w_3 hw) (w_2 hw) (by decide) (by decide)) (g := (mkF m 48 #[.val (.long n1), .second, .val (.long n2), .second, .val (.long n3), .second, .val (.long n4), .second, .val (.int n5), .val (.int n6), .val (.int u178), .val (.int u179), .val (.int u180), .val (.int u181), .val (.int u182), .unset, .unset, .unset, .unset, .unset, .unset, .unset] [(.int (((n3.toUInt64 >>> ((32 : Int32) &&& 0x3f).toInt64.toUInt64).toInt64).toInt32))])) rfl (by rw [hml]; rfl) (argsL := [(.int (((n3.toUInt64 >>> ((32 : Int32) &&& 0x3f).toInt64.toUInt64).toInt64).toInt32))]) (rest := []) (lenOf pd_14 rfl) rfl (by show 2 * 0 + _ ≤ _; exact Nat.le_of_eq rfl) (hb hby at_48) (fun _ _ => ⟨rfl, e182, (by decide : 0 + 0 ≤ _), (by decide : 0 + 0 ≤ _)⟩)
  dsimp only [Pt.U, Pt.locs, Pt.cells, Pt.slots] at X183 l183 y183 z183 st183 hQ183
  subst l183 y183 z183
  obtain ⟨u183, rfl, Nq183, e183, hn183⟩ := hQ183
  have N183 := Fr.app N182 Nq183
  refine OWH.st (B := T183.setTop (mkF m 56 #[.val (.long n1), .second, .val (.long n2), .second, .val (.long n3), .second, .val (.long n4), .second, .val (.int n5), .val (.int n6), .val (.int u178), .val (.int u179), .val (.int u180), .val (.int u181), .val (.int u182), .val (.int u183), .unset, .unset, .unset, .unset, .unset, .unset] [(.int (n4.toInt32))])) (fun _ kk_ => st183 _ (XS.istore X183.here hx rfl (hb hby at_51) rfl (l' := #[.val (.long n1), .second, .val (.long n2), .second, .val (.long n3), .second, .val (.long n4), .second, .val (.int n5), .val (.int n6), .val (.int u178), .val (.int u179), .val (.int u180), .val (.int u181), .val (.int u182), .val (.int u183), .unset, .unset, .unset, .unset, .unset, .unset]) rfl (XS.lload X183.here hx rfl (hb hby at_53) rfl (XS.l2i X183.here hx rfl (hb hby at_55) rfl kk_)))) ?_
  obtain ⟨_, _, ⟨T184, L184, k184, n184⟩, -, X184, ⟨Lc184, hQ184, l184, y184, z184⟩, st184⟩ := Jvm.LawKit.callS X183 hx (y := (⟨"tenorbook/book/CusipIsValidPinLaw", "draw", "(I)C"⟩ : MethodName)) hown (mvT hZ (w_0 hw)) (mvT hZ (w_1 hw)) (mvT hZ (w_2 hw)) (mvT hZ (w_3 hw)) (by decide) (backOf (W := 0) (rmDR l Z a0 hw [] (n4.toInt32) h0 n0 O0 ) hZ (w_3 hw) (w_2 hw) (by decide) (by decide)) (g := (mkF m 56 #[.val (.long n1), .second, .val (.long n2), .second, .val (.long n3), .second, .val (.long n4), .second, .val (.int n5), .val (.int n6), .val (.int u178), .val (.int u179), .val (.int u180), .val (.int u181), .val (.int u182), .val (.int u183), .unset, .unset, .unset, .unset, .unset, .unset] [(.int (n4.toInt32))])) rfl (by rw [hml]; rfl) (argsL := [(.int (n4.toInt32))]) (rest := []) (lenOf pd_14 rfl) rfl (by show 2 * 0 + _ ≤ _; exact Nat.le_of_eq rfl) (hb hby at_56) (fun _ _ => ⟨rfl, e183, (by decide : 0 + 0 ≤ _), (by decide : 0 + 0 ≤ _)⟩)
  dsimp only [Pt.U, Pt.locs, Pt.cells, Pt.slots] at X184 l184 y184 z184 st184 hQ184
  subst l184 y184 z184
  obtain ⟨u184, rfl, Nq184, e184, hn184⟩ := hQ184
  have N184 := Fr.app N183 Nq184
  refine OWH.st (B := T184.setTop (mkF m 67 #[.val (.long n1), .second, .val (.long n2), .second, .val (.long n3), .second, .val (.long n4), .second, .val (.int n5), .val (.int n6), .val (.int u178), .val (.int u179), .val (.int u180), .val (.int u181), .val (.int u182), .val (.int u183), .val (.int u184), .unset, .unset, .unset, .unset, .unset] [(.int (((n4.toUInt64 >>> ((32 : Int32) &&& 0x3f).toInt64.toUInt64).toInt64).toInt32))])) (fun _ kk_ => st184 _ (XS.istore X184.here hx rfl (hb hby at_59) rfl (l' := #[.val (.long n1), .second, .val (.long n2), .second, .val (.long n3), .second, .val (.long n4), .second, .val (.int n5), .val (.int n6), .val (.int u178), .val (.int u179), .val (.int u180), .val (.int u181), .val (.int u182), .val (.int u183), .val (.int u184), .unset, .unset, .unset, .unset, .unset]) rfl (XS.lload X184.here hx rfl (hb hby at_61) rfl (XS.bipush X184.here hx rfl (hb hby at_63) (XS.lushr X184.here hx rfl (hb hby at_65) rfl (XS.l2i X184.here hx rfl (hb hby at_66) rfl kk_)))))) ?_
  obtain ⟨_, _, ⟨T185, L185, k185, n185⟩, -, X185, ⟨Lc185, hQ185, l185, y185, z185⟩, st185⟩ := Jvm.LawKit.callS X184 hx (y := (⟨"tenorbook/book/CusipIsValidPinLaw", "draw", "(I)C"⟩ : MethodName)) hown (mvT hZ (w_0 hw)) (mvT hZ (w_1 hw)) (mvT hZ (w_2 hw)) (mvT hZ (w_3 hw)) (by decide) (backOf (W := 0) (rmDR l Z a0 hw [] (((n4.toUInt64 >>> ((32 : Int32) &&& 0x3f).toInt64.toUInt64).toInt64).toInt32) h0 n0 O0 ) hZ (w_3 hw) (w_2 hw) (by decide) (by decide)) (g := (mkF m 67 #[.val (.long n1), .second, .val (.long n2), .second, .val (.long n3), .second, .val (.long n4), .second, .val (.int n5), .val (.int n6), .val (.int u178), .val (.int u179), .val (.int u180), .val (.int u181), .val (.int u182), .val (.int u183), .val (.int u184), .unset, .unset, .unset, .unset, .unset] [(.int (((n4.toUInt64 >>> ((32 : Int32) &&& 0x3f).toInt64.toUInt64).toInt64).toInt32))])) rfl (by rw [hml]; rfl) (argsL := [(.int (((n4.toUInt64 >>> ((32 : Int32) &&& 0x3f).toInt64.toUInt64).toInt64).toInt32))]) (rest := []) (lenOf pd_14 rfl) rfl (by show 2 * 0 + _ ≤ _; exact Nat.le_of_eq rfl) (hb hby at_67) (fun _ _ => ⟨rfl, e184, (by decide : 0 + 0 ≤ _), (by decide : 0 + 0 ≤ _)⟩)
  dsimp only [Pt.U, Pt.locs, Pt.cells, Pt.slots] at X185 l185 y185 z185 st185 hQ185
  subst l185 y185 z185
  obtain ⟨u185, rfl, Nq185, e185, hn185⟩ := hQ185
  have N185 := Fr.app N184 Nq185
  refine OWH.st (B := T185.setTop (mkF m 79 #[.val (.long n1), .second, .val (.long n2), .second, .val (.long n3), .second, .val (.long n4), .second, .val (.int n5), .val (.int n6), .val (.int u178), .val (.int u179), .val (.int u180), .val (.int u181), .val (.int u182), .val (.int u183), .val (.int u184), .val (.int u185), .unset, .unset, .unset, .unset] [(.int (((n5.toUInt32 >>> ((16 : Int32) &&& 31).toUInt32).toInt32) &&& (1 : Int32)))])) (fun _ kk_ => st185 _ (XS.istore X185.here hx rfl (hb hby at_70) rfl (l' := #[.val (.long n1), .second, .val (.long n2), .second, .val (.long n3), .second, .val (.long n4), .second, .val (.int n5), .val (.int n6), .val (.int u178), .val (.int u179), .val (.int u180), .val (.int u181), .val (.int u182), .val (.int u183), .val (.int u184), .val (.int u185), .unset, .unset, .unset, .unset]) rfl (XS.iload X185.here hx rfl (hb hby at_72) rfl (XS.bipush X185.here hx rfl (hb hby at_74) (XS.iushr X185.here hx rfl (hb hby at_76) rfl (XS.iconst X185.here hx rfl (hb hby at_77) (XS.iand X185.here hx rfl (hb hby at_78) rfl kk_))))))) ?_
  have J186 : ∀ (T186 : State) (L186 : List Loc) (X186 : Stand p l e room_1 s m #[(.long n1), (.long n2), (.long n3), (.long n4), (.int n5), (.int n6)] below meth c T186 L186 0 0) (N186 : Fr n0 L186) (e186 : T186.heap = h0) (u9 : Int32), (nar .char u9 = u9) → OWH Z consts_1 h0 p e below s (Q0 Z n1 n2 n3 n4 n5 n6 i_COMPACT_STRINGS v_SIOOBE_FORMATTER h0 n0) 6 44 (T186.setTop (mkF m 103 #[.val (.long n1), .second, .val (.long n2), .second, .val (.long n3), .second, .val (.long n4), .second, .val (.int n5), .val (.int n6), .val (.int u178), .val (.int u179), .val (.int u180), .val (.int u181), .val (.int u182), .val (.int u183), .val (.int u184), .val (.int u185), .unset, .unset, .unset, .unset] [(.int u9)])) := by
    intro T186 L186 X186 N186 e186 u9 hn9
    refine OWH.st (B := T186.setTop (mkF m 115 #[.val (.long n1), .second, .val (.long n2), .second, .val (.long n3), .second, .val (.long n4), .second, .val (.int n5), .val (.int n6), .val (.int u178), .val (.int u179), .val (.int u180), .val (.int u181), .val (.int u182), .val (.int u183), .val (.int u184), .val (.int u185), .val (.int u9), .val (.int (n6 &&& (7 : Int32))), .unset, .unset] [(.int (4 : Int32)), (.int (n6 &&& (7 : Int32)))])) (fun _ kk_ => XS.istore X186.here hx rfl (hb hby at_103) rfl (l' := #[.val (.long n1), .second, .val (.long n2), .second, .val (.long n3), .second, .val (.long n4), .second, .val (.int n5), .val (.int n6), .val (.int u178), .val (.int u179), .val (.int u180), .val (.int u181), .val (.int u182), .val (.int u183), .val (.int u184), .val (.int u185), .val (.int u9), .unset, .unset, .unset]) rfl (XS.iload X186.here hx rfl (hb hby at_105) rfl (XS.bipush X186.here hx rfl (hb hby at_107) (XS.iand X186.here hx rfl (hb hby at_109) rfl (XS.istore X186.here hx rfl (hb hby at_110) rfl (l' := #[.val (.long n1), .second, .val (.long n2), .second, .val (.long n3), .second, .val (.long n4), .second, .val (.int n5), .val (.int n6), .val (.int u178), .val (.int u179), .val (.int u180), .val (.int u181), .val (.int u182), .val (.int u183), .val (.int u184), .val (.int u185), .val (.int u9), .val (.int (n6 &&& (7 : Int32))), .unset, .unset]) rfl (XS.iload X186.here hx rfl (hb hby at_112) rfl (XS.iconst X186.here hx rfl (hb hby at_114) kk_))))))) ?_
    by_cases hc187 : (4 : Int32) < (n6 &&& (7 : Int32))
    · refine OWH.st (B := T186.setTop (mkF m 208 #[.val (.long n1), .second, .val (.long n2), .second, .val (.long n3), .second, .val (.long n4), .second, .val (.int n5), .val (.int n6), .val (.int u178), .val (.int u179), .val (.int u180), .val (.int u181), .val (.int u182), .val (.int u183), .val (.int u184), .val (.int u185), .val (.int u9), .val (.int (n6 &&& (7 : Int32))), .unset, .unset] [(.int (5 : Int32)), (.int (n6 &&& (7 : Int32)))])) (fun _ kk_ => XS.icmpYes X186.here hx rfl (pc0 := 115) (pc' := 205) rfl (hb hby at_115) rfl (tlt hc187).2.2.1 (by decide) (by decide) (XS.iload X186.here hx rfl (hb hby at_205) rfl (XS.iconst X186.here hx rfl (hb hby at_207) kk_))) ?_
      by_cases hc188 : (n6 &&& (7 : Int32)) = (5 : Int32)
      · refine OWH.st (B := T186.setTop (mkF m 211 #[.val (.long n1), .second, .val (.long n2), .second, .val (.long n3), .second, .val (.long n4), .second, .val (.int n5), .val (.int n6), .val (.int u178), .val (.int u179), .val (.int u180), .val (.int u181), .val (.int u182), .val (.int u183), .val (.int u184), .val (.int u185), .val (.int u9), .val (.int (n6 &&& (7 : Int32))), .unset, .unset] [])) (fun _ kk_ => XS.icmpNo X186.here hx rfl (hb hby at_208) rfl (teq hc188).2 kk_) ?_
        obtain ⟨T189, h189, X189, e189, E189, A189, D189, -, st189⟩ := newO X186 hx hZ hown (w_5 hw) (w_6 hw) (w_7 hw) e186 (g := (mkF m 211 #[.val (.long n1), .second, .val (.long n2), .second, .val (.long n3), .second, .val (.long n4), .second, .val (.int n5), .val (.int n6), .val (.int u178), .val (.int u179), .val (.int u180), .val (.int u181), .val (.int u182), .val (.int u183), .val (.int u184), .val (.int u185), .val (.int u9), .val (.int (n6 &&& (7 : Int32))), .unset, .unset] [])) rfl (hb hby at_211) (by decide) (by decide)
        obtain ⟨b189, g189⟩ : ∃ z, z = h0.size := ⟨_, rfl⟩
        rw [← g189] at A189 D189 st189
        have n_b189 : n0 ≤ b189 := Nat.le_trans (own_oldle O0) (Nat.le_of_eq g189.symm)
        have O189 : Old Z n0 h189 := O0.ext E189
        have CS189 : CHr Z consts_1 s.vm h0 s.vm h189 := CHr.ext E189 CR0.1
        have CR189 := CHr.trans CR0 CS189
        have Sf189_b189 : Safe Z consts_1 s.vm h189 b189 := Safe.ext E189 CR0.1 (Safe.new (Nat.le_of_eq g189.symm))
        have F189_51 : Fld Z h189 b189 "java/lang/String" "coder" "B" (.int (0 : Int32)) := D189 (Or.inr (w_51 hw)) (ty := .byte) (by decide)
        have F189_53 : Fld Z h189 b189 "java/lang/String" "value" "[B" .null := D189 (Or.inr (w_53 hw)) (ty := (.array .byte)) (by decide)
        refine OWH.st (B := T189.setTop (mkF m 217 #[.val (.long n1), .second, .val (.long n2), .second, .val (.long n3), .second, .val (.long n4), .second, .val (.int n5), .val (.int n6), .val (.int u178), .val (.int u179), .val (.int u180), .val (.int u181), .val (.int u182), .val (.int u183), .val (.int u184), .val (.int u185), .val (.int u9), .val (.int (n6 &&& (7 : Int32))), .unset, .unset] [(.int (8 : Int32)), (.ref b189), (.ref b189)])) (fun _ kk_ => st189 _ (XS.dup X189.here hx rfl (hb hby at_214) rfl rfl (XS.bipush X189.here hx rfl (hb hby at_215) kk_))) ?_
        obtain ⟨T190, h190, k190, X190, e190, E190, A190, st190⟩ := newP (aty := .char) X189 hx hZ (w_8 hw) e189 (g := (mkF m 217 #[.val (.long n1), .second, .val (.long n2), .second, .val (.long n3), .second, .val (.long n4), .second, .val (.int n5), .val (.int n6), .val (.int u178), .val (.int u179), .val (.int u180), .val (.int u181), .val (.int u182), .val (.int u183), .val (.int u184), .val (.int u185), .val (.int u9), .val (.int (n6 &&& (7 : Int32))), .unset, .unset] [(.int (8 : Int32)), (.ref b189), (.ref b189)])) rfl (hb hby at_217) rfl (by decide) (cap := 8) (by decide +kernel) (by decide +kernel) (by decide +kernel) (by decide +kernel)
        obtain ⟨b190, g190⟩ : ∃ z, z = h189.size := ⟨_, rfl⟩
        rw [← g190] at A190 st190
        have n_b190 : n0 ≤ b190 := Nat.le_trans (own_oldle O189) (Nat.le_of_eq g190.symm)
        have O190 : Old Z n0 h190 := O189.ext E190
        have CS190 : CHr Z consts_1 s.vm h189 s.vm h190 := CHr.ext E190 CR189.1
        have Sf190_b189 := CHr.safe CS190 A189.lt Sf189_b189
        have CR190 := CHr.trans CR189 CS190
        have Sf190_b190 : Safe Z consts_1 s.vm h190 b190 := Safe.ext E190 CR189.1 (Safe.new (Nat.le_of_eq g190.symm))
        have V190 : Arv Z h190 b190 k190 .char (8 : Int32) [(.int (0 : Int32)), (.int (0 : Int32)), (.int (0 : Int32)), (.int (0 : Int32)), (.int (0 : Int32)), (.int (0 : Int32)), (.int (0 : Int32)), (.int (0 : Int32))] (.int (0 : Int32)) := (Arv.new A190 (by decide)).pad (pad_rep [] (.int (0 : Int32)) 8)
        refine OWH.st (B := T190.setTop (mkF m 223 #[.val (.long n1), .second, .val (.long n2), .second, .val (.long n3), .second, .val (.long n4), .second, .val (.int n5), .val (.int n6), .val (.int u178), .val (.int u179), .val (.int u180), .val (.int u181), .val (.int u182), .val (.int u183), .val (.int u184), .val (.int u185), .val (.int u9), .val (.int (n6 &&& (7 : Int32))), .unset, .unset] [(.int u178), (.int (0 : Int32)), (.ref b190), (.ref b190), (.ref b189), (.ref b189)])) (fun _ kk_ => st190 _ (XS.dup X190.here hx rfl (hb hby at_219) rfl rfl (XS.iconst X190.here hx rfl (hb hby at_220) (XS.iload X190.here hx rfl (hb hby at_221) rfl kk_)))) ?_
        obtain ⟨cl191, Ar191, q191, S191, Ng191, Hs191, G191⟩ := id V190
        have hin191 : ¬ ((0 : Int32) < 0 ∨ cl191.slots.size ≤ ((0 : Int32)).toNatClampNeg) := inb_of S191 ⟨by decide, by decide⟩
        obtain ⟨T192, h192, X192, e192, W192, st192⟩ := stC X190 hx hZ e190 Ar191 (j := (0 : Int32)) hin191 (g := (mkF m 223 #[.val (.long n1), .second, .val (.long n2), .second, .val (.long n3), .second, .val (.long n4), .second, .val (.int n5), .val (.int n6), .val (.int u178), .val (.int u179), .val (.int u180), .val (.int u181), .val (.int u182), .val (.int u183), .val (.int u184), .val (.int u185), .val (.int u9), .val (.int (n6 &&& (7 : Int32))), .unset, .unset] [(.int u178), (.int (0 : Int32)), (.ref b190), (.ref b190), (.ref b189), (.ref b189)])) rfl rfl (hb hby at_223)
        rw [hn178] at W192
        have N192 := Fr.snoc X192 N186 n_b190
        have O192 : Old Z n0 h192 := O190.wr W192 n_b190
        have CS192 : CHr Z consts_1 s.vm h190 s.vm h192 := CHr.wr W192 (Safe.arv hZ.alike V190 (by decide)) CR190.1
        have Sf192_b189 := CHr.safe CS192 (A189.ext E190).lt Sf190_b189
        have Sf192_b190 := CHr.safe CS192 V190.lt Sf190_b190
        have CR192 := CHr.trans CR190 CS192
        have V192 : Arv Z h192 b190 k190 .char (8 : Int32) [(.int u178), (.int (0 : Int32)), (.int (0 : Int32)), (.int (0 : Int32)), (.int (0 : Int32)), (.int (0 : Int32)), (.int (0 : Int32)), (.int (0 : Int32))] (.int (0 : Int32)) := Arv.set Ar191 q191 S191 Ng191 Hs191 G191 (hn178 ▸ (fits_nar_char _)) W192 0 rfl (Nat.le_of_ble_eq_true rfl)
        refine OWH.st (B := T192.setTop (mkF m 228 #[.val (.long n1), .second, .val (.long n2), .second, .val (.long n3), .second, .val (.long n4), .second, .val (.int n5), .val (.int n6), .val (.int u178), .val (.int u179), .val (.int u180), .val (.int u181), .val (.int u182), .val (.int u183), .val (.int u184), .val (.int u185), .val (.int u9), .val (.int (n6 &&& (7 : Int32))), .unset, .unset] [(.int u179), (.int (1 : Int32)), (.ref b190), (.ref b190), (.ref b189), (.ref b189)])) (fun _ kk_ => st192 _ (XS.dup X192.here hx rfl (hb hby at_224) rfl rfl (XS.iconst X192.here hx rfl (hb hby at_225) (XS.iload X192.here hx rfl (hb hby at_226) rfl kk_)))) ?_
        obtain ⟨cl193, Ar193, q193, S193, Ng193, Hs193, G193⟩ := id V192
        have hin193 : ¬ ((1 : Int32) < 0 ∨ cl193.slots.size ≤ ((1 : Int32)).toNatClampNeg) := inb_of S193 ⟨by decide, by decide⟩
        obtain ⟨T194, h194, X194, e194, W194, st194⟩ := stC X192 hx hZ e192 Ar193 (j := (1 : Int32)) hin193 (g := (mkF m 228 #[.val (.long n1), .second, .val (.long n2), .second, .val (.long n3), .second, .val (.long n4), .second, .val (.int n5), .val (.int n6), .val (.int u178), .val (.int u179), .val (.int u180), .val (.int u181), .val (.int u182), .val (.int u183), .val (.int u184), .val (.int u185), .val (.int u9), .val (.int (n6 &&& (7 : Int32))), .unset, .unset] [(.int u179), (.int (1 : Int32)), (.ref b190), (.ref b190), (.ref b189), (.ref b189)])) rfl rfl (hb hby at_228)
        rw [hn179] at W194
        have N194 := Fr.snoc X194 N192 n_b190
        have O194 : Old Z n0 h194 := O192.wr W194 n_b190
        have CS194 : CHr Z consts_1 s.vm h192 s.vm h194 := CHr.wr W194 (Safe.arv hZ.alike V192 (by decide)) CR192.1
        have Sf194_b189 := CHr.safe CS194 ((A189.ext E190).wr W192).lt Sf192_b189
        have Sf194_b190 := CHr.safe CS194 V192.lt Sf192_b190
        have CR194 := CHr.trans CR192 CS194
        have V194 : Arv Z h194 b190 k190 .char (8 : Int32) [(.int u178), (.int u179), (.int (0 : Int32)), (.int (0 : Int32)), (.int (0 : Int32)), (.int (0 : Int32)), (.int (0 : Int32)), (.int (0 : Int32))] (.int (0 : Int32)) := Arv.set Ar193 q193 S193 Ng193 Hs193 G193 (hn179 ▸ (fits_nar_char _)) W194 1 rfl (Nat.le_of_ble_eq_true rfl)
        refine OWH.st (B := T194.setTop (mkF m 233 #[.val (.long n1), .second, .val (.long n2), .second, .val (.long n3), .second, .val (.long n4), .second, .val (.int n5), .val (.int n6), .val (.int u178), .val (.int u179), .val (.int u180), .val (.int u181), .val (.int u182), .val (.int u183), .val (.int u184), .val (.int u185), .val (.int u9), .val (.int (n6 &&& (7 : Int32))), .unset, .unset] [(.int u180), (.int (2 : Int32)), (.ref b190), (.ref b190), (.ref b189), (.ref b189)])) (fun _ kk_ => st194 _ (XS.dup X194.here hx rfl (hb hby at_229) rfl rfl (XS.iconst X194.here hx rfl (hb hby at_230) (XS.iload X194.here hx rfl (hb hby at_231) rfl kk_)))) ?_
        obtain ⟨cl195, Ar195, q195, S195, Ng195, Hs195, G195⟩ := id V194
        have hin195 : ¬ ((2 : Int32) < 0 ∨ cl195.slots.size ≤ ((2 : Int32)).toNatClampNeg) := inb_of S195 ⟨by decide, by decide⟩
        obtain ⟨T196, h196, X196, e196, W196, st196⟩ := stC X194 hx hZ e194 Ar195 (j := (2 : Int32)) hin195 (g := (mkF m 233 #[.val (.long n1), .second, .val (.long n2), .second, .val (.long n3), .second, .val (.long n4), .second, .val (.int n5), .val (.int n6), .val (.int u178), .val (.int u179), .val (.int u180), .val (.int u181), .val (.int u182), .val (.int u183), .val (.int u184), .val (.int u185), .val (.int u9), .val (.int (n6 &&& (7 : Int32))), .unset, .unset] [(.int u180), (.int (2 : Int32)), (.ref b190), (.ref b190), (.ref b189), (.ref b189)])) rfl rfl (hb hby at_233)
        rw [hn180] at W196
        have N196 := Fr.snoc X196 N194 n_b190
        have O196 : Old Z n0 h196 := O194.wr W196 n_b190
        have CS196 : CHr Z consts_1 s.vm h194 s.vm h196 := CHr.wr W196 (Safe.arv hZ.alike V194 (by decide)) CR194.1
        have Sf196_b189 := CHr.safe CS196 (((A189.ext E190).wr W192).wr W194).lt Sf194_b189
        have Sf196_b190 := CHr.safe CS196 V194.lt Sf194_b190
        have CR196 := CHr.trans CR194 CS196
        have V196 : Arv Z h196 b190 k190 .char (8 : Int32) [(.int u178), (.int u179), (.int u180), (.int (0 : Int32)), (.int (0 : Int32)), (.int (0 : Int32)), (.int (0 : Int32)), (.int (0 : Int32))] (.int (0 : Int32)) := Arv.set Ar195 q195 S195 Ng195 Hs195 G195 (hn180 ▸ (fits_nar_char _)) W196 2 rfl (Nat.le_of_ble_eq_true rfl)
        refine OWH.st (B := T196.setTop (mkF m 238 #[.val (.long n1), .second, .val (.long n2), .second, .val (.long n3), .second, .val (.long n4), .second, .val (.int n5), .val (.int n6), .val (.int u178), .val (.int u179), .val (.int u180), .val (.int u181), .val (.int u182), .val (.int u183), .val (.int u184), .val (.int u185), .val (.int u9), .val (.int (n6 &&& (7 : Int32))), .unset, .unset] [(.int u181), (.int (3 : Int32)), (.ref b190), (.ref b190), (.ref b189), (.ref b189)])) (fun _ kk_ => st196 _ (XS.dup X196.here hx rfl (hb hby at_234) rfl rfl (XS.iconst X196.here hx rfl (hb hby at_235) (XS.iload X196.here hx rfl (hb hby at_236) rfl kk_)))) ?_
        obtain ⟨cl197, Ar197, q197, S197, Ng197, Hs197, G197⟩ := id V196
        have hin197 : ¬ ((3 : Int32) < 0 ∨ cl197.slots.size ≤ ((3 : Int32)).toNatClampNeg) := inb_of S197 ⟨by decide, by decide⟩
        obtain ⟨T198, h198, X198, e198, W198, st198⟩ := stC X196 hx hZ e196 Ar197 (j := (3 : Int32)) hin197 (g := (mkF m 238 #[.val (.long n1), .second, .val (.long n2), .second, .val (.long n3), .second, .val (.long n4), .second, .val (.int n5), .val (.int n6), .val (.int u178), .val (.int u179), .val (.int u180), .val (.int u181), .val (.int u182), .val (.int u183), .val (.int u184), .val (.int u185), .val (.int u9), .val (.int (n6 &&& (7 : Int32))), .unset, .unset] [(.int u181), (.int (3 : Int32)), (.ref b190), (.ref b190), (.ref b189), (.ref b189)])) rfl rfl (hb hby at_238)
        rw [hn181] at W198
        have N198 := Fr.snoc X198 N196 n_b190
        have O198 : Old Z n0 h198 := O196.wr W198 n_b190
        have CS198 : CHr Z consts_1 s.vm h196 s.vm h198 := CHr.wr W198 (Safe.arv hZ.alike V196 (by decide)) CR196.1
        have Sf198_b189 := CHr.safe CS198 ((((A189.ext E190).wr W192).wr W194).wr W196).lt Sf196_b189
        have Sf198_b190 := CHr.safe CS198 V196.lt Sf196_b190
        have CR198 := CHr.trans CR196 CS198
        have V198 : Arv Z h198 b190 k190 .char (8 : Int32) [(.int u178), (.int u179), (.int u180), (.int u181), (.int (0 : Int32)), (.int (0 : Int32)), (.int (0 : Int32)), (.int (0 : Int32))] (.int (0 : Int32)) := Arv.set Ar197 q197 S197 Ng197 Hs197 G197 (hn181 ▸ (fits_nar_char _)) W198 3 rfl (Nat.le_of_ble_eq_true rfl)
        refine OWH.st (B := T198.setTop (mkF m 243 #[.val (.long n1), .second, .val (.long n2), .second, .val (.long n3), .second, .val (.long n4), .second, .val (.int n5), .val (.int n6), .val (.int u178), .val (.int u179), .val (.int u180), .val (.int u181), .val (.int u182), .val (.int u183), .val (.int u184), .val (.int u185), .val (.int u9), .val (.int (n6 &&& (7 : Int32))), .unset, .unset] [(.int u182), (.int (4 : Int32)), (.ref b190), (.ref b190), (.ref b189), (.ref b189)])) (fun _ kk_ => st198 _ (XS.dup X198.here hx rfl (hb hby at_239) rfl rfl (XS.iconst X198.here hx rfl (hb hby at_240) (XS.iload X198.here hx rfl (hb hby at_241) rfl kk_)))) ?_
        obtain ⟨cl199, Ar199, q199, S199, Ng199, Hs199, G199⟩ := id V198
        have hin199 : ¬ ((4 : Int32) < 0 ∨ cl199.slots.size ≤ ((4 : Int32)).toNatClampNeg) := inb_of S199 ⟨by decide, by decide⟩
        obtain ⟨T200, h200, X200, e200, W200, st200⟩ := stC X198 hx hZ e198 Ar199 (j := (4 : Int32)) hin199 (g := (mkF m 243 #[.val (.long n1), .second, .val (.long n2), .second, .val (.long n3), .second, .val (.long n4), .second, .val (.int n5), .val (.int n6), .val (.int u178), .val (.int u179), .val (.int u180), .val (.int u181), .val (.int u182), .val (.int u183), .val (.int u184), .val (.int u185), .val (.int u9), .val (.int (n6 &&& (7 : Int32))), .unset, .unset] [(.int u182), (.int (4 : Int32)), (.ref b190), (.ref b190), (.ref b189), (.ref b189)])) rfl rfl (hb hby at_243)
        rw [hn182] at W200
        have N200 := Fr.snoc X200 N198 n_b190
        have O200 : Old Z n0 h200 := O198.wr W200 n_b190
        have CS200 : CHr Z consts_1 s.vm h198 s.vm h200 := CHr.wr W200 (Safe.arv hZ.alike V198 (by decide)) CR198.1
        have Sf200_b189 := CHr.safe CS200 (((((A189.ext E190).wr W192).wr W194).wr W196).wr W198).lt Sf198_b189
        have Sf200_b190 := CHr.safe CS200 V198.lt Sf198_b190
        have CR200 := CHr.trans CR198 CS200
        have V200 : Arv Z h200 b190 k190 .char (8 : Int32) [(.int u178), (.int u179), (.int u180), (.int u181), (.int u182), (.int (0 : Int32)), (.int (0 : Int32)), (.int (0 : Int32))] (.int (0 : Int32)) := Arv.set Ar199 q199 S199 Ng199 Hs199 G199 (hn182 ▸ (fits_nar_char _)) W200 4 rfl (Nat.le_of_ble_eq_true rfl)
        refine OWH.st (B := T200.setTop (mkF m 248 #[.val (.long n1), .second, .val (.long n2), .second, .val (.long n3), .second, .val (.long n4), .second, .val (.int n5), .val (.int n6), .val (.int u178), .val (.int u179), .val (.int u180), .val (.int u181), .val (.int u182), .val (.int u183), .val (.int u184), .val (.int u185), .val (.int u9), .val (.int (n6 &&& (7 : Int32))), .unset, .unset] [(.int u183), (.int (5 : Int32)), (.ref b190), (.ref b190), (.ref b189), (.ref b189)])) (fun _ kk_ => st200 _ (XS.dup X200.here hx rfl (hb hby at_244) rfl rfl (XS.iconst X200.here hx rfl (hb hby at_245) (XS.iload X200.here hx rfl (hb hby at_246) rfl kk_)))) ?_
        obtain ⟨cl201, Ar201, q201, S201, Ng201, Hs201, G201⟩ := id V200
        have hin201 : ¬ ((5 : Int32) < 0 ∨ cl201.slots.size ≤ ((5 : Int32)).toNatClampNeg) := inb_of S201 ⟨by decide, by decide⟩
        obtain ⟨T202, h202, X202, e202, W202, st202⟩ := stC X200 hx hZ e200 Ar201 (j := (5 : Int32)) hin201 (g := (mkF m 248 #[.val (.long n1), .second, .val (.long n2), .second, .val (.long n3), .second, .val (.long n4), .second, .val (.int n5), .val (.int n6), .val (.int u178), .val (.int u179), .val (.int u180), .val (.int u181), .val (.int u182), .val (.int u183), .val (.int u184), .val (.int u185), .val (.int u9), .val (.int (n6 &&& (7 : Int32))), .unset, .unset] [(.int u183), (.int (5 : Int32)), (.ref b190), (.ref b190), (.ref b189), (.ref b189)])) rfl rfl (hb hby at_248)
        rw [hn183] at W202
        have N202 := Fr.snoc X202 N200 n_b190
        have O202 : Old Z n0 h202 := O200.wr W202 n_b190
        have CS202 : CHr Z consts_1 s.vm h200 s.vm h202 := CHr.wr W202 (Safe.arv hZ.alike V200 (by decide)) CR200.1
        have Sf202_b189 := CHr.safe CS202 ((((((A189.ext E190).wr W192).wr W194).wr W196).wr W198).wr W200).lt Sf200_b189
        have Sf202_b190 := CHr.safe CS202 V200.lt Sf200_b190
        have CR202 := CHr.trans CR200 CS202
        have V202 : Arv Z h202 b190 k190 .char (8 : Int32) [(.int u178), (.int u179), (.int u180), (.int u181), (.int u182), (.int u183), (.int (0 : Int32)), (.int (0 : Int32))] (.int (0 : Int32)) := Arv.set Ar201 q201 S201 Ng201 Hs201 G201 (hn183 ▸ (fits_nar_char _)) W202 5 rfl (Nat.le_of_ble_eq_true rfl)
        refine OWH.st (B := T202.setTop (mkF m 254 #[.val (.long n1), .second, .val (.long n2), .second, .val (.long n3), .second, .val (.long n4), .second, .val (.int n5), .val (.int n6), .val (.int u178), .val (.int u179), .val (.int u180), .val (.int u181), .val (.int u182), .val (.int u183), .val (.int u184), .val (.int u185), .val (.int u9), .val (.int (n6 &&& (7 : Int32))), .unset, .unset] [(.int u184), (.int (6 : Int32)), (.ref b190), (.ref b190), (.ref b189), (.ref b189)])) (fun _ kk_ => st202 _ (XS.dup X202.here hx rfl (hb hby at_249) rfl rfl (XS.bipush X202.here hx rfl (hb hby at_250) (XS.iload X202.here hx rfl (hb hby at_252) rfl kk_)))) ?_
        obtain ⟨cl203, Ar203, q203, S203, Ng203, Hs203, G203⟩ := id V202
        have hin203 : ¬ ((6 : Int32) < 0 ∨ cl203.slots.size ≤ ((6 : Int32)).toNatClampNeg) := inb_of S203 ⟨by decide, by decide⟩
        obtain ⟨T204, h204, X204, e204, W204, st204⟩ := stC X202 hx hZ e202 Ar203 (j := (6 : Int32)) hin203 (g := (mkF m 254 #[.val (.long n1), .second, .val (.long n2), .second, .val (.long n3), .second, .val (.long n4), .second, .val (.int n5), .val (.int n6), .val (.int u178), .val (.int u179), .val (.int u180), .val (.int u181), .val (.int u182), .val (.int u183), .val (.int u184), .val (.int u185), .val (.int u9), .val (.int (n6 &&& (7 : Int32))), .unset, .unset] [(.int u184), (.int (6 : Int32)), (.ref b190), (.ref b190), (.ref b189), (.ref b189)])) rfl rfl (hb hby at_254)
        rw [hn184] at W204
        have N204 := Fr.snoc X204 N202 n_b190
        have O204 : Old Z n0 h204 := O202.wr W204 n_b190
        have CS204 : CHr Z consts_1 s.vm h202 s.vm h204 := CHr.wr W204 (Safe.arv hZ.alike V202 (by decide)) CR202.1
        have Sf204_b189 := CHr.safe CS204 (((((((A189.ext E190).wr W192).wr W194).wr W196).wr W198).wr W200).wr W202).lt Sf202_b189
        have Sf204_b190 := CHr.safe CS204 V202.lt Sf202_b190
        have CR204 := CHr.trans CR202 CS204
        have V204 : Arv Z h204 b190 k190 .char (8 : Int32) [(.int u178), (.int u179), (.int u180), (.int u181), (.int u182), (.int u183), (.int u184), (.int (0 : Int32))] (.int (0 : Int32)) := Arv.set Ar203 q203 S203 Ng203 Hs203 G203 (hn184 ▸ (fits_nar_char _)) W204 6 rfl (Nat.le_of_ble_eq_true rfl)
        refine OWH.st (B := T204.setTop (mkF m 260 #[.val (.long n1), .second, .val (.long n2), .second, .val (.long n3), .second, .val (.long n4), .second, .val (.int n5), .val (.int n6), .val (.int u178), .val (.int u179), .val (.int u180), .val (.int u181), .val (.int u182), .val (.int u183), .val (.int u184), .val (.int u185), .val (.int u9), .val (.int (n6 &&& (7 : Int32))), .unset, .unset] [(.int u185), (.int (7 : Int32)), (.ref b190), (.ref b190), (.ref b189), (.ref b189)])) (fun _ kk_ => st204 _ (XS.dup X204.here hx rfl (hb hby at_255) rfl rfl (XS.bipush X204.here hx rfl (hb hby at_256) (XS.iload X204.here hx rfl (hb hby at_258) rfl kk_)))) ?_
        obtain ⟨cl205, Ar205, q205, S205, Ng205, Hs205, G205⟩ := id V204
        have hin205 : ¬ ((7 : Int32) < 0 ∨ cl205.slots.size ≤ ((7 : Int32)).toNatClampNeg) := inb_of S205 ⟨by decide, by decide⟩
        obtain ⟨T206, h206, X206, e206, W206, st206⟩ := stC X204 hx hZ e204 Ar205 (j := (7 : Int32)) hin205 (g := (mkF m 260 #[.val (.long n1), .second, .val (.long n2), .second, .val (.long n3), .second, .val (.long n4), .second, .val (.int n5), .val (.int n6), .val (.int u178), .val (.int u179), .val (.int u180), .val (.int u181), .val (.int u182), .val (.int u183), .val (.int u184), .val (.int u185), .val (.int u9), .val (.int (n6 &&& (7 : Int32))), .unset, .unset] [(.int u185), (.int (7 : Int32)), (.ref b190), (.ref b190), (.ref b189), (.ref b189)])) rfl rfl (hb hby at_260)
        rw [hn185] at W206
        have N206 := Fr.snoc X206 N204 n_b190
        have O206 : Old Z n0 h206 := O204.wr W206 n_b190
        have CS206 : CHr Z consts_1 s.vm h204 s.vm h206 := CHr.wr W206 (Safe.arv hZ.alike V204 (by decide)) CR204.1
        have Sf206_b189 := CHr.safe CS206 ((((((((A189.ext E190).wr W192).wr W194).wr W196).wr W198).wr W200).wr W202).wr W204).lt Sf204_b189
        have Sf206_b190 := CHr.safe CS206 V204.lt Sf204_b190
        have CR206 := CHr.trans CR204 CS206
        have V206 : Arv Z h206 b190 k190 .char (8 : Int32) [(.int u178), (.int u179), (.int u180), (.int u181), (.int u182), (.int u183), (.int u184), (.int u185)] (.int (0 : Int32)) := Arv.set Ar205 q205 S205 Ng205 Hs205 G205 (hn185 ▸ (fits_nar_char _)) W206 7 rfl (Nat.le_of_ble_eq_true rfl)
        refine OWH.st (B := T206.setTop (mkF m 261 #[.val (.long n1), .second, .val (.long n2), .second, .val (.long n3), .second, .val (.long n4), .second, .val (.int n5), .val (.int n6), .val (.int u178), .val (.int u179), .val (.int u180), .val (.int u181), .val (.int u182), .val (.int u183), .val (.int u184), .val (.int u185), .val (.int u9), .val (.int (n6 &&& (7 : Int32))), .unset, .unset] [(.ref b190), (.ref b189), (.ref b189)])) (fun _ kk_ => st206 _ kk_) ?_
        obtain ⟨_, _, ⟨T207, L207, k207, n207⟩, -, X207, ⟨Lc207, hQ207, l207, y207, z207⟩, st207⟩ := X206.specialBack hx (y := (⟨"java/lang/String", "<init>", "([C)V"⟩ : MethodName)) rfl hown (mvT hZ (w_9 hw)) (mvT hZ (w_10 hw)) (mvT hZ (w_11 hw)) (by decide) (backOf (W := 1) (rmS0X l Z a0 hw [] b189 b190 k190 (8 : Int32) [u178, u179, u180, u181, u182, u183, u184, u185] i_COMPACT_STRINGS v_SIOOBE_FORMATTER h206 n0 O206 (((((((((A189.ext E190).wr W192).wr W194).wr W196).wr W198).wr W200).wr W202).wr W204).wr W206) (((((((((F189_53.ext E190).other W192 (Or.inl (Nat.ne_of_lt (Nat.lt_of_lt_of_le A189.lt (Nat.le_of_eq g190.symm))))).other W194 (Or.inl (Nat.ne_of_lt (Nat.lt_of_lt_of_le A189.lt (Nat.le_of_eq g190.symm))))).other W196 (Or.inl (Nat.ne_of_lt (Nat.lt_of_lt_of_le A189.lt (Nat.le_of_eq g190.symm))))).other W198 (Or.inl (Nat.ne_of_lt (Nat.lt_of_lt_of_le A189.lt (Nat.le_of_eq g190.symm))))).other W200 (Or.inl (Nat.ne_of_lt (Nat.lt_of_lt_of_le A189.lt (Nat.le_of_eq g190.symm))))).other W202 (Or.inl (Nat.ne_of_lt (Nat.lt_of_lt_of_le A189.lt (Nat.le_of_eq g190.symm))))).other W204 (Or.inl (Nat.ne_of_lt (Nat.lt_of_lt_of_le A189.lt (Nat.le_of_eq g190.symm))))).other W206 (Or.inl (Nat.ne_of_lt (Nat.lt_of_lt_of_le A189.lt (Nat.le_of_eq g190.symm))))) (((((((((F189_51.ext E190).other W192 (Or.inl (Nat.ne_of_lt (Nat.lt_of_lt_of_le A189.lt (Nat.le_of_eq g190.symm))))).other W194 (Or.inl (Nat.ne_of_lt (Nat.lt_of_lt_of_le A189.lt (Nat.le_of_eq g190.symm))))).other W196 (Or.inl (Nat.ne_of_lt (Nat.lt_of_lt_of_le A189.lt (Nat.le_of_eq g190.symm))))).other W198 (Or.inl (Nat.ne_of_lt (Nat.lt_of_lt_of_le A189.lt (Nat.le_of_eq g190.symm))))).other W200 (Or.inl (Nat.ne_of_lt (Nat.lt_of_lt_of_le A189.lt (Nat.le_of_eq g190.symm))))).other W202 (Or.inl (Nat.ne_of_lt (Nat.lt_of_lt_of_le A189.lt (Nat.le_of_eq g190.symm))))).other W204 (Or.inl (Nat.ne_of_lt (Nat.lt_of_lt_of_le A189.lt (Nat.le_of_eq g190.symm))))).other W206 (Or.inl (Nat.ne_of_lt (Nat.lt_of_lt_of_le A189.lt (Nat.le_of_eq g190.symm))))) n_b189 V206 rfl (Nat.le_of_ble_eq_true rfl) (Nat.zero_lt_succ _) (OwnChs.cons hn178 (OwnChs.cons hn179 (OwnChs.cons hn180 (OwnChs.cons hn181 (OwnChs.cons hn182 (OwnChs.cons hn183 (OwnChs.cons hn184 (OwnChs.cons hn185 OwnChs.nil)))))))) hS) hZ (w_11 hw) (w_7 hw) (by decide) (by decide)) (g := (mkF m 261 #[.val (.long n1), .second, .val (.long n2), .second, .val (.long n3), .second, .val (.long n4), .second, .val (.int n5), .val (.int n6), .val (.int u178), .val (.int u179), .val (.int u180), .val (.int u181), .val (.int u182), .val (.int u183), .val (.int u184), .val (.int u185), .val (.int u9), .val (.int (n6 &&& (7 : Int32))), .unset, .unset] [(.ref b190), (.ref b189), (.ref b189)])) rfl (by rw [hml]; rfl) (Steps.refl _) (a := b189) (argsL := [(.ref b190)]) (rest := [(.ref b189)]) (lenOf pd_17 rfl) rfl (by show 2 * 0 + _ ≤ _; exact Nat.le_of_eq rfl) (hb hby at_261) (fun _ _ => ⟨rfl, e206, (by decide : 2 + 2 ≤ _), (by decide : 12 + 30 ≤ _)⟩)
        dsimp only [Pt.U, Pt.locs, Pt.cells, Pt.slots] at X207 l207 y207 z207 st207 hQ207
        subst l207 y207 z207
        obtain ⟨rfl, Nq207, K207, HO207⟩ := hQ207
        have N207 := Fr.app N206 Nq207
        have O207 : Old Z n0 T207.heap := O206.keep K207 (allS n_b189 all0)
        have CS207 : CHr Z consts_1 s.vm h206 s.vm T207.heap := CHr.keep K207 (allS Sf206_b189 all0) CR206.1
        have Sf207_b189 := CHr.safe CS207 (((((((((A189.ext E190).wr W192).wr W194).wr W196).wr W198).wr W200).wr W202).wr W204).wr W206).lt Sf206_b189
        have Sf207_b190 := CHr.safe CS207 V206.lt Sf206_b190
        have CR207 := CHr.trans CR206 CS207
        refine OWH.tr (B := T207.setTop (mkF m 264 #[.val (.long n1), .second, .val (.long n2), .second, .val (.long n3), .second, .val (.long n4), .second, .val (.int n5), .val (.int n6), .val (.int u178), .val (.int u179), .val (.int u180), .val (.int u181), .val (.int u182), .val (.int u183), .val (.int u184), .val (.int u185), .val (.int u9), .val (.int (n6 &&& (7 : Int32))), .unset, .unset] [(.ref b189)])) (st207) ?_
        refine OWH.st (B := T207.setTop (mkF m 369 #[.val (.long n1), .second, .val (.long n2), .second, .val (.long n3), .second, .val (.long n4), .second, .val (.int n5), .val (.int n6), .val (.int u178), .val (.int u179), .val (.int u180), .val (.int u181), .val (.int u182), .val (.int u183), .val (.int u184), .val (.int u185), .val (.int u9), .val (.int (n6 &&& (7 : Int32))), .val (.ref b189), .val (.int (0 : Int32))] [(.ref b189)])) (fun _ kk_ => XS.astore X207.here hx rfl (hb hby at_264) rfl rfl (l' := #[.val (.long n1), .second, .val (.long n2), .second, .val (.long n3), .second, .val (.long n4), .second, .val (.int n5), .val (.int n6), .val (.int u178), .val (.int u179), .val (.int u180), .val (.int u181), .val (.int u182), .val (.int u183), .val (.int u184), .val (.int u185), .val (.int u9), .val (.int (n6 &&& (7 : Int32))), .val (.ref b189), .unset]) rfl (XS.iconst X207.here hx rfl (hb hby at_266) (XS.istore X207.here hx rfl (hb hby at_267) rfl (l' := #[.val (.long n1), .second, .val (.long n2), .second, .val (.long n3), .second, .val (.long n4), .second, .val (.int n5), .val (.int n6), .val (.int u178), .val (.int u179), .val (.int u180), .val (.int u181), .val (.int u182), .val (.int u183), .val (.int u184), .val (.int u185), .val (.int u9), .val (.int (n6 &&& (7 : Int32))), .val (.ref b189), .val (.int (0 : Int32))]) rfl (XS.goto X207.here hx rfl (pc0 := 269) (pc' := 367) rfl (hb hby at_269) (by decide) (by decide) (XS.aload X207.here hx rfl (hb hby at_367) rfl rfl kk_))))) ?_
        obtain ⟨_, _, ⟨T208, L208, k208, n208⟩, -, X208, ⟨Lc208, hQ208, l208, y208, z208⟩, st208⟩ := Jvm.LawKit.callS X207 hx (y := (⟨"tenorbook/book/Cusip", "isValid", "(Ljava/lang/String;)Z"⟩ : MethodName)) hown (mvT hZ (w_60 hw)) (mvT hZ (w_61 hw)) (mvT hZ (w_62 hw)) (mvT hZ (w_63 hw)) (by decide) (backOf (W := 0) (rmIV0 l Z a0 hw [] b189 [u178, u179, u180, u181, u182, u183, u184, u185] i_COMPACT_STRINGS v_SIOOBE_FORMATTER T207.heap n0 O207 HO207 (Nat.le_of_ble_eq_true rfl) (OwnChs.cons hn178 (OwnChs.cons hn179 (OwnChs.cons hn180 (OwnChs.cons hn181 (OwnChs.cons hn182 (OwnChs.cons hn183 (OwnChs.cons hn184 (OwnChs.cons hn185 OwnChs.nil)))))))) hS (by simp)) hZ (w_63 hw) (w_62 hw) (by decide) (by decide)) (g := (mkF m 369 #[.val (.long n1), .second, .val (.long n2), .second, .val (.long n3), .second, .val (.long n4), .second, .val (.int n5), .val (.int n6), .val (.int u178), .val (.int u179), .val (.int u180), .val (.int u181), .val (.int u182), .val (.int u183), .val (.int u184), .val (.int u185), .val (.int u9), .val (.int (n6 &&& (7 : Int32))), .val (.ref b189), .val (.int (0 : Int32))] [(.ref b189)])) rfl (by rw [hml]; rfl) (argsL := [(.ref b189)]) (rest := []) (lenOf pd_18 rfl) rfl (by show 2 * 0 + _ ≤ _; exact Nat.le_of_eq rfl) (hb hby at_369) (fun _ _ => ⟨rfl, rfl, (by decide : 4 + 0 ≤ _), (by decide : 42 + 0 ≤ _)⟩)
        dsimp only [Pt.U, Pt.locs, Pt.cells, Pt.slots] at X208 l208 y208 z208 st208 hQ208
        subst l208 y208 z208
        obtain ⟨rfl, Nq208, e208⟩ := hQ208
        have N208 := Fr.app N207 Nq208
        refine OWH.st (B := T208.setTop (mkF m 382 #[.val (.long n1), .second, .val (.long n2), .second, .val (.long n3), .second, .val (.long n4), .second, .val (.int n5), .val (.int n6), .val (.int u178), .val (.int u179), .val (.int u180), .val (.int u181), .val (.int u182), .val (.int u183), .val (.int u184), .val (.int u185), .val (.int u9), .val (.int (n6 &&& (7 : Int32))), .val (.ref b189), .val (.int (0 : Int32))] [(.int (1 : Int32))])) (fun _ kk_ => st208 _ (XS.iload X208.here hx rfl (hb hby at_372) rfl (XS.icmpNo X208.here hx rfl (hb hby at_374) rfl (teq (by decide)).2 (XS.iconst X208.here hx rfl (hb hby at_377) (XS.goto X208.here hx rfl (pc0 := 378) (pc' := 382) rfl (hb hby at_378) (by decide) (by decide) kk_))))) ?_
        exact OWH.ret X208 (s := s) (vm0 := s.vm) hS0 (Nat.le_trans (Nat.le_trans (Nat.le_trans (Nat.le_trans (Nat.le_trans (Nat.le_trans (Nat.le_trans (Nat.le_trans (Nat.le_trans (Nat.le_trans (Nat.le_trans hk0 E189.1) E190.1) (Keep.of_wr W192).1) (Keep.of_wr W194).1) (Keep.of_wr W196).1) (Keep.of_wr W198).1) (Keep.of_wr W200).1) (Keep.of_wr W202).1) (Keep.of_wr W204).1) (Keep.of_wr W206).1) K207.1) hx hlk CR207 hZ (own_EW hw) (i := .ireturn) Bd.returns rfl (Or.inl ⟨rfl, Or.inr (Or.inl rfl), _, rfl⟩) (hb hby at_382) e208 (by decide) (by decide) ⟨rfl, N208⟩
      · refine OWH.st (B := T186.setTop (mkF m 276 #[.val (.long n1), .second, .val (.long n2), .second, .val (.long n3), .second, .val (.long n4), .second, .val (.int n5), .val (.int n6), .val (.int u178), .val (.int u179), .val (.int u180), .val (.int u181), .val (.int u182), .val (.int u183), .val (.int u184), .val (.int u185), .val (.int u9), .val (.int (n6 &&& (7 : Int32))), .unset, .unset] [(.int (6 : Int32)), (.int (n6 &&& (7 : Int32)))])) (fun _ kk_ => XS.icmpYes X186.here hx rfl (pc0 := 208) (pc' := 272) rfl (hb hby at_208) rfl (feq hc188).2 (by decide) (by decide) (XS.iload X186.here hx rfl (hb hby at_272) rfl (XS.bipush X186.here hx rfl (hb hby at_274) kk_))) ?_
        by_cases hc209 : (n6 &&& (7 : Int32)) = (6 : Int32)
        · refine OWH.st (B := T186.setTop (mkF m 279 #[.val (.long n1), .second, .val (.long n2), .second, .val (.long n3), .second, .val (.long n4), .second, .val (.int n5), .val (.int n6), .val (.int u178), .val (.int u179), .val (.int u180), .val (.int u181), .val (.int u182), .val (.int u183), .val (.int u184), .val (.int u185), .val (.int u9), .val (.int (n6 &&& (7 : Int32))), .unset, .unset] [])) (fun _ kk_ => XS.icmpNo X186.here hx rfl (hb hby at_276) rfl (teq hc209).2 kk_) ?_
          obtain ⟨T210, h210, X210, e210, E210, A210, D210, -, st210⟩ := newO X186 hx hZ hown (w_5 hw) (w_6 hw) (w_7 hw) e186 (g := (mkF m 279 #[.val (.long n1), .second, .val (.long n2), .second, .val (.long n3), .second, .val (.long n4), .second, .val (.int n5), .val (.int n6), .val (.int u178), .val (.int u179), .val (.int u180), .val (.int u181), .val (.int u182), .val (.int u183), .val (.int u184), .val (.int u185), .val (.int u9), .val (.int (n6 &&& (7 : Int32))), .unset, .unset] [])) rfl (hb hby at_279) (by decide) (by decide)
          obtain ⟨b210, g210⟩ : ∃ z, z = h0.size := ⟨_, rfl⟩
          rw [← g210] at A210 D210 st210
          have n_b210 : n0 ≤ b210 := Nat.le_trans (own_oldle O0) (Nat.le_of_eq g210.symm)
          have O210 : Old Z n0 h210 := O0.ext E210
          have CS210 : CHr Z consts_1 s.vm h0 s.vm h210 := CHr.ext E210 CR0.1
          have CR210 := CHr.trans CR0 CS210
          have Sf210_b210 : Safe Z consts_1 s.vm h210 b210 := Safe.ext E210 CR0.1 (Safe.new (Nat.le_of_eq g210.symm))
          have F210_51 : Fld Z h210 b210 "java/lang/String" "coder" "B" (.int (0 : Int32)) := D210 (Or.inr (w_51 hw)) (ty := .byte) (by decide)
          have F210_53 : Fld Z h210 b210 "java/lang/String" "value" "[B" .null := D210 (Or.inr (w_53 hw)) (ty := (.array .byte)) (by decide)
          refine OWH.st (B := T210.setTop (mkF m 285 #[.val (.long n1), .second, .val (.long n2), .second, .val (.long n3), .second, .val (.long n4), .second, .val (.int n5), .val (.int n6), .val (.int u178), .val (.int u179), .val (.int u180), .val (.int u181), .val (.int u182), .val (.int u183), .val (.int u184), .val (.int u185), .val (.int u9), .val (.int (n6 &&& (7 : Int32))), .unset, .unset] [(.int (10 : Int32)), (.ref b210), (.ref b210)])) (fun _ kk_ => st210 _ (XS.dup X210.here hx rfl (hb hby at_282) rfl rfl (XS.bipush X210.here hx rfl (hb hby at_283) kk_))) ?_
          obtain ⟨T211, h211, k211, X211, e211, E211, A211, st211⟩ := newP (aty := .char) X210 hx hZ (w_8 hw) e210 (g := (mkF m 285 #[.val (.long n1), .second, .val (.long n2), .second, .val (.long n3), .second, .val (.long n4), .second, .val (.int n5), .val (.int n6), .val (.int u178), .val (.int u179), .val (.int u180), .val (.int u181), .val (.int u182), .val (.int u183), .val (.int u184), .val (.int u185), .val (.int u9), .val (.int (n6 &&& (7 : Int32))), .unset, .unset] [(.int (10 : Int32)), (.ref b210), (.ref b210)])) rfl (hb hby at_285) rfl (by decide) (cap := 10) (by decide +kernel) (by decide +kernel) (by decide +kernel) (by decide +kernel)
          obtain ⟨b211, g211⟩ : ∃ z, z = h210.size := ⟨_, rfl⟩
          rw [← g211] at A211 st211
          have n_b211 : n0 ≤ b211 := Nat.le_trans (own_oldle O210) (Nat.le_of_eq g211.symm)
          have O211 : Old Z n0 h211 := O210.ext E211
          have CS211 : CHr Z consts_1 s.vm h210 s.vm h211 := CHr.ext E211 CR210.1
          have Sf211_b210 := CHr.safe CS211 A210.lt Sf210_b210
          have CR211 := CHr.trans CR210 CS211
          have Sf211_b211 : Safe Z consts_1 s.vm h211 b211 := Safe.ext E211 CR210.1 (Safe.new (Nat.le_of_eq g211.symm))
          have V211 : Arv Z h211 b211 k211 .char (10 : Int32) [(.int (0 : Int32)), (.int (0 : Int32)), (.int (0 : Int32)), (.int (0 : Int32)), (.int (0 : Int32)), (.int (0 : Int32)), (.int (0 : Int32)), (.int (0 : Int32)), (.int (0 : Int32)), (.int (0 : Int32))] (.int (0 : Int32)) := (Arv.new A211 (by decide)).pad (pad_rep [] (.int (0 : Int32)) 10)
          refine OWH.st (B := T211.setTop (mkF m 291 #[.val (.long n1), .second, .val (.long n2), .second, .val (.long n3), .second, .val (.long n4), .second, .val (.int n5), .val (.int n6), .val (.int u178), .val (.int u179), .val (.int u180), .val (.int u181), .val (.int u182), .val (.int u183), .val (.int u184), .val (.int u185), .val (.int u9), .val (.int (n6 &&& (7 : Int32))), .unset, .unset] [(.int u178), (.int (0 : Int32)), (.ref b211), (.ref b211), (.ref b210), (.ref b210)])) (fun _ kk_ => st211 _ (XS.dup X211.here hx rfl (hb hby at_287) rfl rfl (XS.iconst X211.here hx rfl (hb hby at_288) (XS.iload X211.here hx rfl (hb hby at_289) rfl kk_)))) ?_
          obtain ⟨cl212, Ar212, q212, S212, Ng212, Hs212, G212⟩ := id V211
          have hin212 : ¬ ((0 : Int32) < 0 ∨ cl212.slots.size ≤ ((0 : Int32)).toNatClampNeg) := inb_of S212 ⟨by decide, by decide⟩
          obtain ⟨T213, h213, X213, e213, W213, st213⟩ := stC X211 hx hZ e211 Ar212 (j := (0 : Int32)) hin212 (g := (mkF m 291 #[.val (.long n1), .second, .val (.long n2), .second, .val (.long n3), .second, .val (.long n4), .second, .val (.int n5), .val (.int n6), .val (.int u178), .val (.int u179), .val (.int u180), .val (.int u181), .val (.int u182), .val (.int u183), .val (.int u184), .val (.int u185), .val (.int u9), .val (.int (n6 &&& (7 : Int32))), .unset, .unset] [(.int u178), (.int (0 : Int32)), (.ref b211), (.ref b211), (.ref b210), (.ref b210)])) rfl rfl (hb hby at_291)
          rw [hn178] at W213
          have N213 := Fr.snoc X213 N186 n_b211
          have O213 : Old Z n0 h213 := O211.wr W213 n_b211
          have CS213 : CHr Z consts_1 s.vm h211 s.vm h213 := CHr.wr W213 (Safe.arv hZ.alike V211 (by decide)) CR211.1
          have Sf213_b210 := CHr.safe CS213 (A210.ext E211).lt Sf211_b210
          have Sf213_b211 := CHr.safe CS213 V211.lt Sf211_b211
          have CR213 := CHr.trans CR211 CS213
          have V213 : Arv Z h213 b211 k211 .char (10 : Int32) [(.int u178), (.int (0 : Int32)), (.int (0 : Int32)), (.int (0 : Int32)), (.int (0 : Int32)), (.int (0 : Int32)), (.int (0 : Int32)), (.int (0 : Int32)), (.int (0 : Int32)), (.int (0 : Int32))] (.int (0 : Int32)) := Arv.set Ar212 q212 S212 Ng212 Hs212 G212 (hn178 ▸ (fits_nar_char _)) W213 0 rfl (Nat.le_of_ble_eq_true rfl)
          refine OWH.st (B := T213.setTop (mkF m 296 #[.val (.long n1), .second, .val (.long n2), .second, .val (.long n3), .second, .val (.long n4), .second, .val (.int n5), .val (.int n6), .val (.int u178), .val (.int u179), .val (.int u180), .val (.int u181), .val (.int u182), .val (.int u183), .val (.int u184), .val (.int u185), .val (.int u9), .val (.int (n6 &&& (7 : Int32))), .unset, .unset] [(.int u179), (.int (1 : Int32)), (.ref b211), (.ref b211), (.ref b210), (.ref b210)])) (fun _ kk_ => st213 _ (XS.dup X213.here hx rfl (hb hby at_292) rfl rfl (XS.iconst X213.here hx rfl (hb hby at_293) (XS.iload X213.here hx rfl (hb hby at_294) rfl kk_)))) ?_
          obtain ⟨cl214, Ar214, q214, S214, Ng214, Hs214, G214⟩ := id V213
          have hin214 : ¬ ((1 : Int32) < 0 ∨ cl214.slots.size ≤ ((1 : Int32)).toNatClampNeg) := inb_of S214 ⟨by decide, by decide⟩
          obtain ⟨T215, h215, X215, e215, W215, st215⟩ := stC X213 hx hZ e213 Ar214 (j := (1 : Int32)) hin214 (g := (mkF m 296 #[.val (.long n1), .second, .val (.long n2), .second, .val (.long n3), .second, .val (.long n4), .second, .val (.int n5), .val (.int n6), .val (.int u178), .val (.int u179), .val (.int u180), .val (.int u181), .val (.int u182), .val (.int u183), .val (.int u184), .val (.int u185), .val (.int u9), .val (.int (n6 &&& (7 : Int32))), .unset, .unset] [(.int u179), (.int (1 : Int32)), (.ref b211), (.ref b211), (.ref b210), (.ref b210)])) rfl rfl (hb hby at_296)
          rw [hn179] at W215
          have N215 := Fr.snoc X215 N213 n_b211
          have O215 : Old Z n0 h215 := O213.wr W215 n_b211
          have CS215 : CHr Z consts_1 s.vm h213 s.vm h215 := CHr.wr W215 (Safe.arv hZ.alike V213 (by decide)) CR213.1
          have Sf215_b210 := CHr.safe CS215 ((A210.ext E211).wr W213).lt Sf213_b210
          have Sf215_b211 := CHr.safe CS215 V213.lt Sf213_b211
          have CR215 := CHr.trans CR213 CS215
          have V215 : Arv Z h215 b211 k211 .char (10 : Int32) [(.int u178), (.int u179), (.int (0 : Int32)), (.int (0 : Int32)), (.int (0 : Int32)), (.int (0 : Int32)), (.int (0 : Int32)), (.int (0 : Int32)), (.int (0 : Int32)), (.int (0 : Int32))] (.int (0 : Int32)) := Arv.set Ar214 q214 S214 Ng214 Hs214 G214 (hn179 ▸ (fits_nar_char _)) W215 1 rfl (Nat.le_of_ble_eq_true rfl)
          refine OWH.st (B := T215.setTop (mkF m 301 #[.val (.long n1), .second, .val (.long n2), .second, .val (.long n3), .second, .val (.long n4), .second, .val (.int n5), .val (.int n6), .val (.int u178), .val (.int u179), .val (.int u180), .val (.int u181), .val (.int u182), .val (.int u183), .val (.int u184), .val (.int u185), .val (.int u9), .val (.int (n6 &&& (7 : Int32))), .unset, .unset] [(.int u180), (.int (2 : Int32)), (.ref b211), (.ref b211), (.ref b210), (.ref b210)])) (fun _ kk_ => st215 _ (XS.dup X215.here hx rfl (hb hby at_297) rfl rfl (XS.iconst X215.here hx rfl (hb hby at_298) (XS.iload X215.here hx rfl (hb hby at_299) rfl kk_)))) ?_
          obtain ⟨cl216, Ar216, q216, S216, Ng216, Hs216, G216⟩ := id V215
          have hin216 : ¬ ((2 : Int32) < 0 ∨ cl216.slots.size ≤ ((2 : Int32)).toNatClampNeg) := inb_of S216 ⟨by decide, by decide⟩
          obtain ⟨T217, h217, X217, e217, W217, st217⟩ := stC X215 hx hZ e215 Ar216 (j := (2 : Int32)) hin216 (g := (mkF m 301 #[.val (.long n1), .second, .val (.long n2), .second, .val (.long n3), .second, .val (.long n4), .second, .val (.int n5), .val (.int n6), .val (.int u178), .val (.int u179), .val (.int u180), .val (.int u181), .val (.int u182), .val (.int u183), .val (.int u184), .val (.int u185), .val (.int u9), .val (.int (n6 &&& (7 : Int32))), .unset, .unset] [(.int u180), (.int (2 : Int32)), (.ref b211), (.ref b211), (.ref b210), (.ref b210)])) rfl rfl (hb hby at_301)
          rw [hn180] at W217
          have N217 := Fr.snoc X217 N215 n_b211
          have O217 : Old Z n0 h217 := O215.wr W217 n_b211
          have CS217 : CHr Z consts_1 s.vm h215 s.vm h217 := CHr.wr W217 (Safe.arv hZ.alike V215 (by decide)) CR215.1
          have Sf217_b210 := CHr.safe CS217 (((A210.ext E211).wr W213).wr W215).lt Sf215_b210
          have Sf217_b211 := CHr.safe CS217 V215.lt Sf215_b211
          have CR217 := CHr.trans CR215 CS217
          have V217 : Arv Z h217 b211 k211 .char (10 : Int32) [(.int u178), (.int u179), (.int u180), (.int (0 : Int32)), (.int (0 : Int32)), (.int (0 : Int32)), (.int (0 : Int32)), (.int (0 : Int32)), (.int (0 : Int32)), (.int (0 : Int32))] (.int (0 : Int32)) := Arv.set Ar216 q216 S216 Ng216 Hs216 G216 (hn180 ▸ (fits_nar_char _)) W217 2 rfl (Nat.le_of_ble_eq_true rfl)
          refine OWH.st (B := T217.setTop (mkF m 306 #[.val (.long n1), .second, .val (.long n2), .second, .val (.long n3), .second, .val (.long n4), .second, .val (.int n5), .val (.int n6), .val (.int u178), .val (.int u179), .val (.int u180), .val (.int u181), .val (.int u182), .val (.int u183), .val (.int u184), .val (.int u185), .val (.int u9), .val (.int (n6 &&& (7 : Int32))), .unset, .unset] [(.int u181), (.int (3 : Int32)), (.ref b211), (.ref b211), (.ref b210), (.ref b210)])) (fun _ kk_ => st217 _ (XS.dup X217.here hx rfl (hb hby at_302) rfl rfl (XS.iconst X217.here hx rfl (hb hby at_303) (XS.iload X217.here hx rfl (hb hby at_304) rfl kk_)))) ?_
          obtain ⟨cl218, Ar218, q218, S218, Ng218, Hs218, G218⟩ := id V217
          have hin218 : ¬ ((3 : Int32) < 0 ∨ cl218.slots.size ≤ ((3 : Int32)).toNatClampNeg) := inb_of S218 ⟨by decide, by decide⟩
          obtain ⟨T219, h219, X219, e219, W219, st219⟩ := stC X217 hx hZ e217 Ar218 (j := (3 : Int32)) hin218 (g := (mkF m 306 #[.val (.long n1), .second, .val (.long n2), .second, .val (.long n3), .second, .val (.long n4), .second, .val (.int n5), .val (.int n6), .val (.int u178), .val (.int u179), .val (.int u180), .val (.int u181), .val (.int u182), .val (.int u183), .val (.int u184), .val (.int u185), .val (.int u9), .val (.int (n6 &&& (7 : Int32))), .unset, .unset] [(.int u181), (.int (3 : Int32)), (.ref b211), (.ref b211), (.ref b210), (.ref b210)])) rfl rfl (hb hby at_306)
          rw [hn181] at W219
          have N219 := Fr.snoc X219 N217 n_b211
          have O219 : Old Z n0 h219 := O217.wr W219 n_b211
          have CS219 : CHr Z consts_1 s.vm h217 s.vm h219 := CHr.wr W219 (Safe.arv hZ.alike V217 (by decide)) CR217.1
          have Sf219_b210 := CHr.safe CS219 ((((A210.ext E211).wr W213).wr W215).wr W217).lt Sf217_b210
          have Sf219_b211 := CHr.safe CS219 V217.lt Sf217_b211
          have CR219 := CHr.trans CR217 CS219
          have V219 : Arv Z h219 b211 k211 .char (10 : Int32) [(.int u178), (.int u179), (.int u180), (.int u181), (.int (0 : Int32)), (.int (0 : Int32)), (.int (0 : Int32)), (.int (0 : Int32)), (.int (0 : Int32)), (.int (0 : Int32))] (.int (0 : Int32)) := Arv.set Ar218 q218 S218 Ng218 Hs218 G218 (hn181 ▸ (fits_nar_char _)) W219 3 rfl (Nat.le_of_ble_eq_true rfl)
          refine OWH.st (B := T219.setTop (mkF m 311 #[.val (.long n1), .second, .val (.long n2), .second, .val (.long n3), .second, .val (.long n4), .second, .val (.int n5), .val (.int n6), .val (.int u178), .val (.int u179), .val (.int u180), .val (.int u181), .val (.int u182), .val (.int u183), .val (.int u184), .val (.int u185), .val (.int u9), .val (.int (n6 &&& (7 : Int32))), .unset, .unset] [(.int u182), (.int (4 : Int32)), (.ref b211), (.ref b211), (.ref b210), (.ref b210)])) (fun _ kk_ => st219 _ (XS.dup X219.here hx rfl (hb hby at_307) rfl rfl (XS.iconst X219.here hx rfl (hb hby at_308) (XS.iload X219.here hx rfl (hb hby at_309) rfl kk_)))) ?_
          obtain ⟨cl220, Ar220, q220, S220, Ng220, Hs220, G220⟩ := id V219
          have hin220 : ¬ ((4 : Int32) < 0 ∨ cl220.slots.size ≤ ((4 : Int32)).toNatClampNeg) := inb_of S220 ⟨by decide, by decide⟩
          obtain ⟨T221, h221, X221, e221, W221, st221⟩ := stC X219 hx hZ e219 Ar220 (j := (4 : Int32)) hin220 (g := (mkF m 311 #[.val (.long n1), .second, .val (.long n2), .second, .val (.long n3), .second, .val (.long n4), .second, .val (.int n5), .val (.int n6), .val (.int u178), .val (.int u179), .val (.int u180), .val (.int u181), .val (.int u182), .val (.int u183), .val (.int u184), .val (.int u185), .val (.int u9), .val (.int (n6 &&& (7 : Int32))), .unset, .unset] [(.int u182), (.int (4 : Int32)), (.ref b211), (.ref b211), (.ref b210), (.ref b210)])) rfl rfl (hb hby at_311)
          rw [hn182] at W221
          have N221 := Fr.snoc X221 N219 n_b211
          have O221 : Old Z n0 h221 := O219.wr W221 n_b211
          have CS221 : CHr Z consts_1 s.vm h219 s.vm h221 := CHr.wr W221 (Safe.arv hZ.alike V219 (by decide)) CR219.1
          have Sf221_b210 := CHr.safe CS221 (((((A210.ext E211).wr W213).wr W215).wr W217).wr W219).lt Sf219_b210
          have Sf221_b211 := CHr.safe CS221 V219.lt Sf219_b211
          have CR221 := CHr.trans CR219 CS221
          have V221 : Arv Z h221 b211 k211 .char (10 : Int32) [(.int u178), (.int u179), (.int u180), (.int u181), (.int u182), (.int (0 : Int32)), (.int (0 : Int32)), (.int (0 : Int32)), (.int (0 : Int32)), (.int (0 : Int32))] (.int (0 : Int32)) := Arv.set Ar220 q220 S220 Ng220 Hs220 G220 (hn182 ▸ (fits_nar_char _)) W221 4 rfl (Nat.le_of_ble_eq_true rfl)
          refine OWH.st (B := T221.setTop (mkF m 316 #[.val (.long n1), .second, .val (.long n2), .second, .val (.long n3), .second, .val (.long n4), .second, .val (.int n5), .val (.int n6), .val (.int u178), .val (.int u179), .val (.int u180), .val (.int u181), .val (.int u182), .val (.int u183), .val (.int u184), .val (.int u185), .val (.int u9), .val (.int (n6 &&& (7 : Int32))), .unset, .unset] [(.int u183), (.int (5 : Int32)), (.ref b211), (.ref b211), (.ref b210), (.ref b210)])) (fun _ kk_ => st221 _ (XS.dup X221.here hx rfl (hb hby at_312) rfl rfl (XS.iconst X221.here hx rfl (hb hby at_313) (XS.iload X221.here hx rfl (hb hby at_314) rfl kk_)))) ?_
          obtain ⟨cl222, Ar222, q222, S222, Ng222, Hs222, G222⟩ := id V221
          have hin222 : ¬ ((5 : Int32) < 0 ∨ cl222.slots.size ≤ ((5 : Int32)).toNatClampNeg) := inb_of S222 ⟨by decide, by decide⟩
          obtain ⟨T223, h223, X223, e223, W223, st223⟩ := stC X221 hx hZ e221 Ar222 (j := (5 : Int32)) hin222 (g := (mkF m 316 #[.val (.long n1), .second, .val (.long n2), .second, .val (.long n3), .second, .val (.long n4), .second, .val (.int n5), .val (.int n6), .val (.int u178), .val (.int u179), .val (.int u180), .val (.int u181), .val (.int u182), .val (.int u183), .val (.int u184), .val (.int u185), .val (.int u9), .val (.int (n6 &&& (7 : Int32))), .unset, .unset] [(.int u183), (.int (5 : Int32)), (.ref b211), (.ref b211), (.ref b210), (.ref b210)])) rfl rfl (hb hby at_316)
          rw [hn183] at W223
          have N223 := Fr.snoc X223 N221 n_b211
          have O223 : Old Z n0 h223 := O221.wr W223 n_b211
          have CS223 : CHr Z consts_1 s.vm h221 s.vm h223 := CHr.wr W223 (Safe.arv hZ.alike V221 (by decide)) CR221.1
          have Sf223_b210 := CHr.safe CS223 ((((((A210.ext E211).wr W213).wr W215).wr W217).wr W219).wr W221).lt Sf221_b210
          have Sf223_b211 := CHr.safe CS223 V221.lt Sf221_b211
          have CR223 := CHr.trans CR221 CS223
          have V223 : Arv Z h223 b211 k211 .char (10 : Int32) [(.int u178), (.int u179), (.int u180), (.int u181), (.int u182), (.int u183), (.int (0 : Int32)), (.int (0 : Int32)), (.int (0 : Int32)), (.int (0 : Int32))] (.int (0 : Int32)) := Arv.set Ar222 q222 S222 Ng222 Hs222 G222 (hn183 ▸ (fits_nar_char _)) W223 5 rfl (Nat.le_of_ble_eq_true rfl)
          refine OWH.st (B := T223.setTop (mkF m 322 #[.val (.long n1), .second, .val (.long n2), .second, .val (.long n3), .second, .val (.long n4), .second, .val (.int n5), .val (.int n6), .val (.int u178), .val (.int u179), .val (.int u180), .val (.int u181), .val (.int u182), .val (.int u183), .val (.int u184), .val (.int u185), .val (.int u9), .val (.int (n6 &&& (7 : Int32))), .unset, .unset] [(.int u184), (.int (6 : Int32)), (.ref b211), (.ref b211), (.ref b210), (.ref b210)])) (fun _ kk_ => st223 _ (XS.dup X223.here hx rfl (hb hby at_317) rfl rfl (XS.bipush X223.here hx rfl (hb hby at_318) (XS.iload X223.here hx rfl (hb hby at_320) rfl kk_)))) ?_
          obtain ⟨cl224, Ar224, q224, S224, Ng224, Hs224, G224⟩ := id V223
          have hin224 : ¬ ((6 : Int32) < 0 ∨ cl224.slots.size ≤ ((6 : Int32)).toNatClampNeg) := inb_of S224 ⟨by decide, by decide⟩
          obtain ⟨T225, h225, X225, e225, W225, st225⟩ := stC X223 hx hZ e223 Ar224 (j := (6 : Int32)) hin224 (g := (mkF m 322 #[.val (.long n1), .second, .val (.long n2), .second, .val (.long n3), .second, .val (.long n4), .second, .val (.int n5), .val (.int n6), .val (.int u178), .val (.int u179), .val (.int u180), .val (.int u181), .val (.int u182), .val (.int u183), .val (.int u184), .val (.int u185), .val (.int u9), .val (.int (n6 &&& (7 : Int32))), .unset, .unset] [(.int u184), (.int (6 : Int32)), (.ref b211), (.ref b211), (.ref b210), (.ref b210)])) rfl rfl (hb hby at_322)
          rw [hn184] at W225
          have N225 := Fr.snoc X225 N223 n_b211
          have O225 : Old Z n0 h225 := O223.wr W225 n_b211
          have CS225 : CHr Z consts_1 s.vm h223 s.vm h225 := CHr.wr W225 (Safe.arv hZ.alike V223 (by decide)) CR223.1
          have Sf225_b210 := CHr.safe CS225 (((((((A210.ext E211).wr W213).wr W215).wr W217).wr W219).wr W221).wr W223).lt Sf223_b210
          have Sf225_b211 := CHr.safe CS225 V223.lt Sf223_b211
          have CR225 := CHr.trans CR223 CS225
          have V225 : Arv Z h225 b211 k211 .char (10 : Int32) [(.int u178), (.int u179), (.int u180), (.int u181), (.int u182), (.int u183), (.int u184), (.int (0 : Int32)), (.int (0 : Int32)), (.int (0 : Int32))] (.int (0 : Int32)) := Arv.set Ar224 q224 S224 Ng224 Hs224 G224 (hn184 ▸ (fits_nar_char _)) W225 6 rfl (Nat.le_of_ble_eq_true rfl)
          refine OWH.st (B := T225.setTop (mkF m 328 #[.val (.long n1), .second, .val (.long n2), .second, .val (.long n3), .second, .val (.long n4), .second, .val (.int n5), .val (.int n6), .val (.int u178), .val (.int u179), .val (.int u180), .val (.int u181), .val (.int u182), .val (.int u183), .val (.int u184), .val (.int u185), .val (.int u9), .val (.int (n6 &&& (7 : Int32))), .unset, .unset] [(.int u185), (.int (7 : Int32)), (.ref b211), (.ref b211), (.ref b210), (.ref b210)])) (fun _ kk_ => st225 _ (XS.dup X225.here hx rfl (hb hby at_323) rfl rfl (XS.bipush X225.here hx rfl (hb hby at_324) (XS.iload X225.here hx rfl (hb hby at_326) rfl kk_)))) ?_
          obtain ⟨cl226, Ar226, q226, S226, Ng226, Hs226, G226⟩ := id V225
          have hin226 : ¬ ((7 : Int32) < 0 ∨ cl226.slots.size ≤ ((7 : Int32)).toNatClampNeg) := inb_of S226 ⟨by decide, by decide⟩
          obtain ⟨T227, h227, X227, e227, W227, st227⟩ := stC X225 hx hZ e225 Ar226 (j := (7 : Int32)) hin226 (g := (mkF m 328 #[.val (.long n1), .second, .val (.long n2), .second, .val (.long n3), .second, .val (.long n4), .second, .val (.int n5), .val (.int n6), .val (.int u178), .val (.int u179), .val (.int u180), .val (.int u181), .val (.int u182), .val (.int u183), .val (.int u184), .val (.int u185), .val (.int u9), .val (.int (n6 &&& (7 : Int32))), .unset, .unset] [(.int u185), (.int (7 : Int32)), (.ref b211), (.ref b211), (.ref b210), (.ref b210)])) rfl rfl (hb hby at_328)
          rw [hn185] at W227
          have N227 := Fr.snoc X227 N225 n_b211
          have O227 : Old Z n0 h227 := O225.wr W227 n_b211
          have CS227 : CHr Z consts_1 s.vm h225 s.vm h227 := CHr.wr W227 (Safe.arv hZ.alike V225 (by decide)) CR225.1
          have Sf227_b210 := CHr.safe CS227 ((((((((A210.ext E211).wr W213).wr W215).wr W217).wr W219).wr W221).wr W223).wr W225).lt Sf225_b210
          have Sf227_b211 := CHr.safe CS227 V225.lt Sf225_b211
          have CR227 := CHr.trans CR225 CS227
          have V227 : Arv Z h227 b211 k211 .char (10 : Int32) [(.int u178), (.int u179), (.int u180), (.int u181), (.int u182), (.int u183), (.int u184), (.int u185), (.int (0 : Int32)), (.int (0 : Int32))] (.int (0 : Int32)) := Arv.set Ar226 q226 S226 Ng226 Hs226 G226 (hn185 ▸ (fits_nar_char _)) W227 7 rfl (Nat.le_of_ble_eq_true rfl)
          refine OWH.st (B := T227.setTop (mkF m 334 #[.val (.long n1), .second, .val (.long n2), .second, .val (.long n3), .second, .val (.long n4), .second, .val (.int n5), .val (.int n6), .val (.int u178), .val (.int u179), .val (.int u180), .val (.int u181), .val (.int u182), .val (.int u183), .val (.int u184), .val (.int u185), .val (.int u9), .val (.int (n6 &&& (7 : Int32))), .unset, .unset] [(.int u9), (.int (8 : Int32)), (.ref b211), (.ref b211), (.ref b210), (.ref b210)])) (fun _ kk_ => st227 _ (XS.dup X227.here hx rfl (hb hby at_329) rfl rfl (XS.bipush X227.here hx rfl (hb hby at_330) (XS.iload X227.here hx rfl (hb hby at_332) rfl kk_)))) ?_
          obtain ⟨cl228, Ar228, q228, S228, Ng228, Hs228, G228⟩ := id V227
          have hin228 : ¬ ((8 : Int32) < 0 ∨ cl228.slots.size ≤ ((8 : Int32)).toNatClampNeg) := inb_of S228 ⟨by decide, by decide⟩
          obtain ⟨T229, h229, X229, e229, W229, st229⟩ := stC X227 hx hZ e227 Ar228 (j := (8 : Int32)) hin228 (g := (mkF m 334 #[.val (.long n1), .second, .val (.long n2), .second, .val (.long n3), .second, .val (.long n4), .second, .val (.int n5), .val (.int n6), .val (.int u178), .val (.int u179), .val (.int u180), .val (.int u181), .val (.int u182), .val (.int u183), .val (.int u184), .val (.int u185), .val (.int u9), .val (.int (n6 &&& (7 : Int32))), .unset, .unset] [(.int u9), (.int (8 : Int32)), (.ref b211), (.ref b211), (.ref b210), (.ref b210)])) rfl rfl (hb hby at_334)
          rw [hn9] at W229
          have N229 := Fr.snoc X229 N227 n_b211
          have O229 : Old Z n0 h229 := O227.wr W229 n_b211
          have CS229 : CHr Z consts_1 s.vm h227 s.vm h229 := CHr.wr W229 (Safe.arv hZ.alike V227 (by decide)) CR227.1
          have Sf229_b210 := CHr.safe CS229 (((((((((A210.ext E211).wr W213).wr W215).wr W217).wr W219).wr W221).wr W223).wr W225).wr W227).lt Sf227_b210
          have Sf229_b211 := CHr.safe CS229 V227.lt Sf227_b211
          have CR229 := CHr.trans CR227 CS229
          have V229 : Arv Z h229 b211 k211 .char (10 : Int32) [(.int u178), (.int u179), (.int u180), (.int u181), (.int u182), (.int u183), (.int u184), (.int u185), (.int u9), (.int (0 : Int32))] (.int (0 : Int32)) := Arv.set Ar228 q228 S228 Ng228 Hs228 G228 (hn9 ▸ (fits_nar_char _)) W229 8 rfl (Nat.le_of_ble_eq_true rfl)
          refine OWH.st (B := T229.setTop (mkF m 340 #[.val (.long n1), .second, .val (.long n2), .second, .val (.long n3), .second, .val (.long n4), .second, .val (.int n5), .val (.int n6), .val (.int u178), .val (.int u179), .val (.int u180), .val (.int u181), .val (.int u182), .val (.int u183), .val (.int u184), .val (.int u185), .val (.int u9), .val (.int (n6 &&& (7 : Int32))), .unset, .unset] [(.int u178), (.int (9 : Int32)), (.ref b211), (.ref b211), (.ref b210), (.ref b210)])) (fun _ kk_ => st229 _ (XS.dup X229.here hx rfl (hb hby at_335) rfl rfl (XS.bipush X229.here hx rfl (hb hby at_336) (XS.iload X229.here hx rfl (hb hby at_338) rfl kk_)))) ?_
          obtain ⟨cl230, Ar230, q230, S230, Ng230, Hs230, G230⟩ := id V229
          have hin230 : ¬ ((9 : Int32) < 0 ∨ cl230.slots.size ≤ ((9 : Int32)).toNatClampNeg) := inb_of S230 ⟨by decide, by decide⟩
          obtain ⟨T231, h231, X231, e231, W231, st231⟩ := stC X229 hx hZ e229 Ar230 (j := (9 : Int32)) hin230 (g := (mkF m 340 #[.val (.long n1), .second, .val (.long n2), .second, .val (.long n3), .second, .val (.long n4), .second, .val (.int n5), .val (.int n6), .val (.int u178), .val (.int u179), .val (.int u180), .val (.int u181), .val (.int u182), .val (.int u183), .val (.int u184), .val (.int u185), .val (.int u9), .val (.int (n6 &&& (7 : Int32))), .unset, .unset] [(.int u178), (.int (9 : Int32)), (.ref b211), (.ref b211), (.ref b210), (.ref b210)])) rfl rfl (hb hby at_340)
          rw [hn178] at W231
          have N231 := Fr.snoc X231 N229 n_b211
          have O231 : Old Z n0 h231 := O229.wr W231 n_b211
          have CS231 : CHr Z consts_1 s.vm h229 s.vm h231 := CHr.wr W231 (Safe.arv hZ.alike V229 (by decide)) CR229.1
          have Sf231_b210 := CHr.safe CS231 ((((((((((A210.ext E211).wr W213).wr W215).wr W217).wr W219).wr W221).wr W223).wr W225).wr W227).wr W229).lt Sf229_b210
          have Sf231_b211 := CHr.safe CS231 V229.lt Sf229_b211
          have CR231 := CHr.trans CR229 CS231
          have V231 : Arv Z h231 b211 k211 .char (10 : Int32) [(.int u178), (.int u179), (.int u180), (.int u181), (.int u182), (.int u183), (.int u184), (.int u185), (.int u9), (.int u178)] (.int (0 : Int32)) := Arv.set Ar230 q230 S230 Ng230 Hs230 G230 (hn178 ▸ (fits_nar_char _)) W231 9 rfl (Nat.le_of_ble_eq_true rfl)
          refine OWH.st (B := T231.setTop (mkF m 341 #[.val (.long n1), .second, .val (.long n2), .second, .val (.long n3), .second, .val (.long n4), .second, .val (.int n5), .val (.int n6), .val (.int u178), .val (.int u179), .val (.int u180), .val (.int u181), .val (.int u182), .val (.int u183), .val (.int u184), .val (.int u185), .val (.int u9), .val (.int (n6 &&& (7 : Int32))), .unset, .unset] [(.ref b211), (.ref b210), (.ref b210)])) (fun _ kk_ => st231 _ kk_) ?_
          obtain ⟨_, _, ⟨T232, L232, k232, n232⟩, -, X232, ⟨Lc232, hQ232, l232, y232, z232⟩, st232⟩ := X231.specialBack hx (y := (⟨"java/lang/String", "<init>", "([C)V"⟩ : MethodName)) rfl hown (mvT hZ (w_9 hw)) (mvT hZ (w_10 hw)) (mvT hZ (w_11 hw)) (by decide) (backOf (W := 1) (rmS0X l Z a0 hw [] b210 b211 k211 (10 : Int32) [u178, u179, u180, u181, u182, u183, u184, u185, u9, u178] i_COMPACT_STRINGS v_SIOOBE_FORMATTER h231 n0 O231 (((((((((((A210.ext E211).wr W213).wr W215).wr W217).wr W219).wr W221).wr W223).wr W225).wr W227).wr W229).wr W231) (((((((((((F210_53.ext E211).other W213 (Or.inl (Nat.ne_of_lt (Nat.lt_of_lt_of_le A210.lt (Nat.le_of_eq g211.symm))))).other W215 (Or.inl (Nat.ne_of_lt (Nat.lt_of_lt_of_le A210.lt (Nat.le_of_eq g211.symm))))).other W217 (Or.inl (Nat.ne_of_lt (Nat.lt_of_lt_of_le A210.lt (Nat.le_of_eq g211.symm))))).other W219 (Or.inl (Nat.ne_of_lt (Nat.lt_of_lt_of_le A210.lt (Nat.le_of_eq g211.symm))))).other W221 (Or.inl (Nat.ne_of_lt (Nat.lt_of_lt_of_le A210.lt (Nat.le_of_eq g211.symm))))).other W223 (Or.inl (Nat.ne_of_lt (Nat.lt_of_lt_of_le A210.lt (Nat.le_of_eq g211.symm))))).other W225 (Or.inl (Nat.ne_of_lt (Nat.lt_of_lt_of_le A210.lt (Nat.le_of_eq g211.symm))))).other W227 (Or.inl (Nat.ne_of_lt (Nat.lt_of_lt_of_le A210.lt (Nat.le_of_eq g211.symm))))).other W229 (Or.inl (Nat.ne_of_lt (Nat.lt_of_lt_of_le A210.lt (Nat.le_of_eq g211.symm))))).other W231 (Or.inl (Nat.ne_of_lt (Nat.lt_of_lt_of_le A210.lt (Nat.le_of_eq g211.symm))))) (((((((((((F210_51.ext E211).other W213 (Or.inl (Nat.ne_of_lt (Nat.lt_of_lt_of_le A210.lt (Nat.le_of_eq g211.symm))))).other W215 (Or.inl (Nat.ne_of_lt (Nat.lt_of_lt_of_le A210.lt (Nat.le_of_eq g211.symm))))).other W217 (Or.inl (Nat.ne_of_lt (Nat.lt_of_lt_of_le A210.lt (Nat.le_of_eq g211.symm))))).other W219 (Or.inl (Nat.ne_of_lt (Nat.lt_of_lt_of_le A210.lt (Nat.le_of_eq g211.symm))))).other W221 (Or.inl (Nat.ne_of_lt (Nat.lt_of_lt_of_le A210.lt (Nat.le_of_eq g211.symm))))).other W223 (Or.inl (Nat.ne_of_lt (Nat.lt_of_lt_of_le A210.lt (Nat.le_of_eq g211.symm))))).other W225 (Or.inl (Nat.ne_of_lt (Nat.lt_of_lt_of_le A210.lt (Nat.le_of_eq g211.symm))))).other W227 (Or.inl (Nat.ne_of_lt (Nat.lt_of_lt_of_le A210.lt (Nat.le_of_eq g211.symm))))).other W229 (Or.inl (Nat.ne_of_lt (Nat.lt_of_lt_of_le A210.lt (Nat.le_of_eq g211.symm))))).other W231 (Or.inl (Nat.ne_of_lt (Nat.lt_of_lt_of_le A210.lt (Nat.le_of_eq g211.symm))))) n_b210 V231 rfl (Nat.le_of_ble_eq_true rfl) (Nat.zero_lt_succ _) (OwnChs.cons hn178 (OwnChs.cons hn179 (OwnChs.cons hn180 (OwnChs.cons hn181 (OwnChs.cons hn182 (OwnChs.cons hn183 (OwnChs.cons hn184 (OwnChs.cons hn185 (OwnChs.cons hn9 (OwnChs.cons hn178 OwnChs.nil)))))))))) hS) hZ (w_11 hw) (w_7 hw) (by decide) (by decide)) (g := (mkF m 341 #[.val (.long n1), .second, .val (.long n2), .second, .val (.long n3), .second, .val (.long n4), .second, .val (.int n5), .val (.int n6), .val (.int u178), .val (.int u179), .val (.int u180), .val (.int u181), .val (.int u182), .val (.int u183), .val (.int u184), .val (.int u185), .val (.int u9), .val (.int (n6 &&& (7 : Int32))), .unset, .unset] [(.ref b211), (.ref b210), (.ref b210)])) rfl (by rw [hml]; rfl) (Steps.refl _) (a := b210) (argsL := [(.ref b211)]) (rest := [(.ref b210)]) (lenOf pd_17 rfl) rfl (by show 2 * 0 + _ ≤ _; exact Nat.le_of_eq rfl) (hb hby at_341) (fun _ _ => ⟨rfl, e231, (by decide : 2 + 2 ≤ _), (by decide : 14 + 30 ≤ _)⟩)
          dsimp only [Pt.U, Pt.locs, Pt.cells, Pt.slots] at X232 l232 y232 z232 st232 hQ232
          subst l232 y232 z232
          obtain ⟨rfl, Nq232, K232, HO232⟩ := hQ232
          have N232 := Fr.app N231 Nq232
          have O232 : Old Z n0 T232.heap := O231.keep K232 (allS n_b210 all0)
          have CS232 : CHr Z consts_1 s.vm h231 s.vm T232.heap := CHr.keep K232 (allS Sf231_b210 all0) CR231.1
          have Sf232_b210 := CHr.safe CS232 (((((((((((A210.ext E211).wr W213).wr W215).wr W217).wr W219).wr W221).wr W223).wr W225).wr W227).wr W229).wr W231).lt Sf231_b210
          have Sf232_b211 := CHr.safe CS232 V231.lt Sf231_b211
          have CR232 := CHr.trans CR231 CS232
          refine OWH.tr (B := T232.setTop (mkF m 344 #[.val (.long n1), .second, .val (.long n2), .second, .val (.long n3), .second, .val (.long n4), .second, .val (.int n5), .val (.int n6), .val (.int u178), .val (.int u179), .val (.int u180), .val (.int u181), .val (.int u182), .val (.int u183), .val (.int u184), .val (.int u185), .val (.int u9), .val (.int (n6 &&& (7 : Int32))), .unset, .unset] [(.ref b210)])) (st232) ?_
          refine OWH.st (B := T232.setTop (mkF m 369 #[.val (.long n1), .second, .val (.long n2), .second, .val (.long n3), .second, .val (.long n4), .second, .val (.int n5), .val (.int n6), .val (.int u178), .val (.int u179), .val (.int u180), .val (.int u181), .val (.int u182), .val (.int u183), .val (.int u184), .val (.int u185), .val (.int u9), .val (.int (n6 &&& (7 : Int32))), .val (.ref b210), .val (.int (0 : Int32))] [(.ref b210)])) (fun _ kk_ => XS.astore X232.here hx rfl (hb hby at_344) rfl rfl (l' := #[.val (.long n1), .second, .val (.long n2), .second, .val (.long n3), .second, .val (.long n4), .second, .val (.int n5), .val (.int n6), .val (.int u178), .val (.int u179), .val (.int u180), .val (.int u181), .val (.int u182), .val (.int u183), .val (.int u184), .val (.int u185), .val (.int u9), .val (.int (n6 &&& (7 : Int32))), .val (.ref b210), .unset]) rfl (XS.iconst X232.here hx rfl (hb hby at_346) (XS.istore X232.here hx rfl (hb hby at_347) rfl (l' := #[.val (.long n1), .second, .val (.long n2), .second, .val (.long n3), .second, .val (.long n4), .second, .val (.int n5), .val (.int n6), .val (.int u178), .val (.int u179), .val (.int u180), .val (.int u181), .val (.int u182), .val (.int u183), .val (.int u184), .val (.int u185), .val (.int u9), .val (.int (n6 &&& (7 : Int32))), .val (.ref b210), .val (.int (0 : Int32))]) rfl (XS.goto X232.here hx rfl (pc0 := 349) (pc' := 367) rfl (hb hby at_349) (by decide) (by decide) (XS.aload X232.here hx rfl (hb hby at_367) rfl rfl kk_))))) ?_
          obtain ⟨_, _, ⟨T233, L233, k233, n233⟩, -, X233, ⟨Lc233, hQ233, l233, y233, z233⟩, st233⟩ := Jvm.LawKit.callS X232 hx (y := (⟨"tenorbook/book/Cusip", "isValid", "(Ljava/lang/String;)Z"⟩ : MethodName)) hown (mvT hZ (w_60 hw)) (mvT hZ (w_61 hw)) (mvT hZ (w_62 hw)) (mvT hZ (w_63 hw)) (by decide) (backOf (W := 0) (rmIV0 l Z a0 hw [] b210 [u178, u179, u180, u181, u182, u183, u184, u185, u9, u178] i_COMPACT_STRINGS v_SIOOBE_FORMATTER T232.heap n0 O232 HO232 (Nat.le_of_ble_eq_true rfl) (OwnChs.cons hn178 (OwnChs.cons hn179 (OwnChs.cons hn180 (OwnChs.cons hn181 (OwnChs.cons hn182 (OwnChs.cons hn183 (OwnChs.cons hn184 (OwnChs.cons hn185 (OwnChs.cons hn9 (OwnChs.cons hn178 OwnChs.nil)))))))))) hS (by simp)) hZ (w_63 hw) (w_62 hw) (by decide) (by decide)) (g := (mkF m 369 #[.val (.long n1), .second, .val (.long n2), .second, .val (.long n3), .second, .val (.long n4), .second, .val (.int n5), .val (.int n6), .val (.int u178), .val (.int u179), .val (.int u180), .val (.int u181), .val (.int u182), .val (.int u183), .val (.int u184), .val (.int u185), .val (.int u9), .val (.int (n6 &&& (7 : Int32))), .val (.ref b210), .val (.int (0 : Int32))] [(.ref b210)])) rfl (by rw [hml]; rfl) (argsL := [(.ref b210)]) (rest := []) (lenOf pd_18 rfl) rfl (by show 2 * 0 + _ ≤ _; exact Nat.le_of_eq rfl) (hb hby at_369) (fun _ _ => ⟨rfl, rfl, (by decide : 4 + 0 ≤ _), (by decide : 44 + 0 ≤ _)⟩)
          dsimp only [Pt.U, Pt.locs, Pt.cells, Pt.slots] at X233 l233 y233 z233 st233 hQ233
          subst l233 y233 z233
          obtain ⟨rfl, Nq233, e233⟩ := hQ233
          have N233 := Fr.app N232 Nq233
          refine OWH.st (B := T233.setTop (mkF m 382 #[.val (.long n1), .second, .val (.long n2), .second, .val (.long n3), .second, .val (.long n4), .second, .val (.int n5), .val (.int n6), .val (.int u178), .val (.int u179), .val (.int u180), .val (.int u181), .val (.int u182), .val (.int u183), .val (.int u184), .val (.int u185), .val (.int u9), .val (.int (n6 &&& (7 : Int32))), .val (.ref b210), .val (.int (0 : Int32))] [(.int (1 : Int32))])) (fun _ kk_ => st233 _ (XS.iload X233.here hx rfl (hb hby at_372) rfl (XS.icmpNo X233.here hx rfl (hb hby at_374) rfl (teq (by decide)).2 (XS.iconst X233.here hx rfl (hb hby at_377) (XS.goto X233.here hx rfl (pc0 := 378) (pc' := 382) rfl (hb hby at_378) (by decide) (by decide) kk_))))) ?_
          exact OWH.ret X233 (s := s) (vm0 := s.vm) hS0 (Nat.le_trans (Nat.le_trans (Nat.le_trans (Nat.le_trans (Nat.le_trans (Nat.le_trans (Nat.le_trans (Nat.le_trans (Nat.le_trans (Nat.le_trans (Nat.le_trans (Nat.le_trans (Nat.le_trans hk0 E210.1) E211.1) (Keep.of_wr W213).1) (Keep.of_wr W215).1) (Keep.of_wr W217).1) (Keep.of_wr W219).1) (Keep.of_wr W221).1) (Keep.of_wr W223).1) (Keep.of_wr W225).1) (Keep.of_wr W227).1) (Keep.of_wr W229).1) (Keep.of_wr W231).1) K232.1) hx hlk CR232 hZ (own_EW hw) (i := .ireturn) Bd.returns rfl (Or.inl ⟨rfl, Or.inr (Or.inl rfl), _, rfl⟩) (hb hby at_382) e233 (by decide) (by decide) ⟨rfl, N233⟩
        · refine OWH.st (B := T186.setTop (mkF m 352 #[.val (.long n1), .second, .val (.long n2), .second, .val (.long n3), .second, .val (.long n4), .second, .val (.int n5), .val (.int n6), .val (.int u178), .val (.int u179), .val (.int u180), .val (.int u181), .val (.int u182), .val (.int u183), .val (.int u184), .val (.int u185), .val (.int u9), .val (.int (n6 &&& (7 : Int32))), .unset, .unset] [])) (fun _ kk_ => XS.icmpYes X186.here hx rfl (pc0 := 276) (pc' := 352) rfl (hb hby at_276) rfl (feq hc209).2 (by decide) (by decide) kk_) ?_
          obtain ⟨T234, h234, X234, e234, E234, A234, D234, -, st234⟩ := newO X186 hx hZ hown (w_5 hw) (w_6 hw) (w_7 hw) e186 (g := (mkF m 352 #[.val (.long n1), .second, .val (.long n2), .second, .val (.long n3), .second, .val (.long n4), .second, .val (.int n5), .val (.int n6), .val (.int u178), .val (.int u179), .val (.int u180), .val (.int u181), .val (.int u182), .val (.int u183), .val (.int u184), .val (.int u185), .val (.int u9), .val (.int (n6 &&& (7 : Int32))), .unset, .unset] [])) rfl (hb hby at_352) (by decide) (by decide)
          obtain ⟨b234, g234⟩ : ∃ z, z = h0.size := ⟨_, rfl⟩
          rw [← g234] at A234 D234 st234
          have n_b234 : n0 ≤ b234 := Nat.le_trans (own_oldle O0) (Nat.le_of_eq g234.symm)
          have O234 : Old Z n0 h234 := O0.ext E234
          have CS234 : CHr Z consts_1 s.vm h0 s.vm h234 := CHr.ext E234 CR0.1
          have CR234 := CHr.trans CR0 CS234
          have Sf234_b234 : Safe Z consts_1 s.vm h234 b234 := Safe.ext E234 CR0.1 (Safe.new (Nat.le_of_eq g234.symm))
          have F234_51 : Fld Z h234 b234 "java/lang/String" "coder" "B" (.int (0 : Int32)) := D234 (Or.inr (w_51 hw)) (ty := .byte) (by decide)
          have F234_53 : Fld Z h234 b234 "java/lang/String" "value" "[B" .null := D234 (Or.inr (w_53 hw)) (ty := (.array .byte)) (by decide)
          refine OWH.st (B := T234.setTop (mkF m 357 #[.val (.long n1), .second, .val (.long n2), .second, .val (.long n3), .second, .val (.long n4), .second, .val (.int n5), .val (.int n6), .val (.int u178), .val (.int u179), .val (.int u180), .val (.int u181), .val (.int u182), .val (.int u183), .val (.int u184), .val (.int u185), .val (.int u9), .val (.int (n6 &&& (7 : Int32))), .unset, .unset] [(.int (0 : Int32)), (.ref b234), (.ref b234)])) (fun _ kk_ => st234 _ (XS.dup X234.here hx rfl (hb hby at_355) rfl rfl (XS.iconst X234.here hx rfl (hb hby at_356) kk_))) ?_
          obtain ⟨T235, h235, k235, X235, e235, E235, A235, st235⟩ := newP (aty := .char) X234 hx hZ (w_8 hw) e234 (g := (mkF m 357 #[.val (.long n1), .second, .val (.long n2), .second, .val (.long n3), .second, .val (.long n4), .second, .val (.int n5), .val (.int n6), .val (.int u178), .val (.int u179), .val (.int u180), .val (.int u181), .val (.int u182), .val (.int u183), .val (.int u184), .val (.int u185), .val (.int u9), .val (.int (n6 &&& (7 : Int32))), .unset, .unset] [(.int (0 : Int32)), (.ref b234), (.ref b234)])) rfl (hb hby at_357) rfl (by decide) (cap := 0) (by decide +kernel) (by decide +kernel) (by decide +kernel) (by decide +kernel)
          obtain ⟨b235, g235⟩ : ∃ z, z = h234.size := ⟨_, rfl⟩
          rw [← g235] at A235 st235
          have n_b235 : n0 ≤ b235 := Nat.le_trans (own_oldle O234) (Nat.le_of_eq g235.symm)
          have O235 : Old Z n0 h235 := O234.ext E235
          have CS235 : CHr Z consts_1 s.vm h234 s.vm h235 := CHr.ext E235 CR234.1
          have Sf235_b234 := CHr.safe CS235 A234.lt Sf234_b234
          have CR235 := CHr.trans CR234 CS235
          have Sf235_b235 : Safe Z consts_1 s.vm h235 b235 := Safe.ext E235 CR234.1 (Safe.new (Nat.le_of_eq g235.symm))
          have V235 : Arv Z h235 b235 k235 .char (0 : Int32) [] (.int (0 : Int32)) := (Arv.new A235 (by decide)).pad (pad_rep [] (.int (0 : Int32)) 0)
          refine OWH.st (B := T235.setTop (mkF m 359 #[.val (.long n1), .second, .val (.long n2), .second, .val (.long n3), .second, .val (.long n4), .second, .val (.int n5), .val (.int n6), .val (.int u178), .val (.int u179), .val (.int u180), .val (.int u181), .val (.int u182), .val (.int u183), .val (.int u184), .val (.int u185), .val (.int u9), .val (.int (n6 &&& (7 : Int32))), .unset, .unset] [(.ref b235), (.ref b234), (.ref b234)])) (fun _ kk_ => st235 _ kk_) ?_
          obtain ⟨_, _, ⟨T236, L236, k236, n236⟩, -, X236, hs236, hsz236, ⟨Lc236, hQ236, l236, y236, z236, CQ236⟩, st236⟩ := X235.specialBackS hx (y := (⟨"java/lang/String", "<init>", "([C)V"⟩ : MethodName)) rfl hown (mvT hZ (w_9 hw)) (mvT hZ (w_10 hw)) (mvT hZ (w_11 hw)) (by decide) (backOfSH (W := 1) (rmS0_0 l Z a0 hw [] b234 b235 k235 h235 n0 O235 (A234.ext E235) (F234_53.ext E235) (F234_51.ext E235) n_b234 V235) hZ (w_11 hw) (w_7 hw) (by decide) (by decide) (own_EW hw) CR235.1) (g := (mkF m 359 #[.val (.long n1), .second, .val (.long n2), .second, .val (.long n3), .second, .val (.long n4), .second, .val (.int n5), .val (.int n6), .val (.int u178), .val (.int u179), .val (.int u180), .val (.int u181), .val (.int u182), .val (.int u183), .val (.int u184), .val (.int u185), .val (.int u9), .val (.int (n6 &&& (7 : Int32))), .unset, .unset] [(.ref b235), (.ref b234), (.ref b234)])) rfl (by rw [hml]; rfl) (Steps.refl _) (a := b234) (argsL := [(.ref b235)]) (rest := [(.ref b234)]) (lenOf pd_17 rfl) rfl (by show 2 * 0 + _ ≤ _; exact Nat.le_of_eq rfl) (hb hby at_359) (fun _ _ => ⟨rfl, e235, (by decide : 2 + 4 ≤ _), (by decide : 4 + 8 ≤ _)⟩)
          dsimp only [Pt.U, Pt.locs, Pt.cells, Pt.slots] at hs236 hsz236
          have hS236 := foldS hS0 (show _ ≤ T235.heap.size by rw [e235]; exact (Nat.le_trans (Nat.le_trans hk0 E234.1) E235.1)) hs236 hsz236
          have hZ236 : Z.Warmed39 (s.setVm T236.vm).vm := State.Warmed39.trans (t := s) hZ hs236.1
          have hown236 : (s.setVm T236.vm).vm.findClass "tenorbook/book/CusipIsValidPinLaw" = some m.cls := by rw [show (s.setVm T236.vm).vm = T236.vm from rfl, hs236.1.alike.findClass]; exact hown
          dsimp only [Pt.U, Pt.locs, Pt.cells, Pt.slots] at X236 l236 y236 z236 st236 hQ236 CQ236
          subst l236 y236 z236
          obtain ⟨rfl, Nq236, K236, Es236, ba236, kb236, Fc236, Fv236, Vs236⟩ := hQ236
          have N236 := Fr.app N186 Nq236
          have O236 : Old Z n0 T236.heap := O235.keep K236 (allS n_b234 all0)
          have CS236 : CHr Z consts_1 s.vm h235 T236.vm T236.heap := CQ236
          have Sf236_b234 := CHr.safe CS236 (A234.ext E235).lt Sf235_b234
          have Sf236_b235 := CHr.safe CS236 V235.lt Sf235_b235
          have CR236 := CHr.trans CR235 CS236
          have hk236 : T236.heap.size ≤ T236.heap.size := Nat.le_of_eq (by rfl)
          refine OWH.tr (B := T236.setTop (mkF m 362 #[.val (.long n1), .second, .val (.long n2), .second, .val (.long n3), .second, .val (.long n4), .second, .val (.int n5), .val (.int n6), .val (.int u178), .val (.int u179), .val (.int u180), .val (.int u181), .val (.int u182), .val (.int u183), .val (.int u184), .val (.int u185), .val (.int u9), .val (.int (n6 &&& (7 : Int32))), .unset, .unset] [(.ref b234)])) (st236) ?_
          refine OWH.st (B := T236.setTop (mkF m 369 #[.val (.long n1), .second, .val (.long n2), .second, .val (.long n3), .second, .val (.long n4), .second, .val (.int n5), .val (.int n6), .val (.int u178), .val (.int u179), .val (.int u180), .val (.int u181), .val (.int u182), .val (.int u183), .val (.int u184), .val (.int u185), .val (.int u9), .val (.int (n6 &&& (7 : Int32))), .val (.ref b234), .val (.int (0 : Int32))] [(.ref b234)])) (fun _ kk_ => XS.astore X236.here hx rfl (hb hby at_362) rfl rfl (l' := #[.val (.long n1), .second, .val (.long n2), .second, .val (.long n3), .second, .val (.long n4), .second, .val (.int n5), .val (.int n6), .val (.int u178), .val (.int u179), .val (.int u180), .val (.int u181), .val (.int u182), .val (.int u183), .val (.int u184), .val (.int u185), .val (.int u9), .val (.int (n6 &&& (7 : Int32))), .val (.ref b234), .unset]) rfl (XS.iconst X236.here hx rfl (hb hby at_364) (XS.istore X236.here hx rfl (hb hby at_365) rfl (l' := #[.val (.long n1), .second, .val (.long n2), .second, .val (.long n3), .second, .val (.long n4), .second, .val (.int n5), .val (.int n6), .val (.int u178), .val (.int u179), .val (.int u180), .val (.int u181), .val (.int u182), .val (.int u183), .val (.int u184), .val (.int u185), .val (.int u9), .val (.int (n6 &&& (7 : Int32))), .val (.ref b234), .val (.int (0 : Int32))]) rfl (XS.aload X236.here hx rfl (hb hby at_367) rfl rfl kk_)))) ?_
          obtain ⟨_, _, ⟨T237, L237, k237, n237⟩, -, X237, ⟨Lc237, hQ237, l237, y237, z237⟩, st237⟩ := Jvm.LawKit.callS X236 hx (y := (⟨"tenorbook/book/Cusip", "isValid", "(Ljava/lang/String;)Z"⟩ : MethodName)) hown236 (mvT hZ236 (w_60 hw)) (mvT hZ236 (w_61 hw)) (mvT hZ236 (w_62 hw)) (mvT hZ236 (w_63 hw)) (by decide) (backOf (W := 0) (rmIV0 l Z a0 hw [] b234 [] i_COMPACT_STRINGS v_SIOOBE_FORMATTER T236.heap n0 O236 ⟨((A234.ext E235).keep K236), ba236, kb236, (0 : Int32), Fv236, Or.inl ⟨Fc236, Vs236, OwnLat.nil, rfl⟩⟩ (Nat.le_of_ble_eq_true rfl) OwnChs.nil hS (by simp)) hZ236 (w_63 hw) (w_62 hw) (by decide) (by decide)) (g := (mkF m 369 #[.val (.long n1), .second, .val (.long n2), .second, .val (.long n3), .second, .val (.long n4), .second, .val (.int n5), .val (.int n6), .val (.int u178), .val (.int u179), .val (.int u180), .val (.int u181), .val (.int u182), .val (.int u183), .val (.int u184), .val (.int u185), .val (.int u9), .val (.int (n6 &&& (7 : Int32))), .val (.ref b234), .val (.int (0 : Int32))] [(.ref b234)])) rfl (by rw [hml]; rfl) (argsL := [(.ref b234)]) (rest := []) (lenOf pd_18 rfl) rfl (by show 2 * 0 + _ ≤ _; exact Nat.le_of_eq rfl) (hb hby at_369) (fun _ _ => ⟨rfl, rfl, (by decide : 6 + 0 ≤ _), (by decide : 12 + 0 ≤ _)⟩)
          dsimp only [Pt.U, Pt.locs, Pt.cells, Pt.slots] at X237 l237 y237 z237 st237 hQ237
          subst l237 y237 z237
          obtain ⟨rfl, Nq237, e237⟩ := hQ237
          have N237 := Fr.app N236 Nq237
          refine OWH.st (B := T237.setTop (mkF m 382 #[.val (.long n1), .second, .val (.long n2), .second, .val (.long n3), .second, .val (.long n4), .second, .val (.int n5), .val (.int n6), .val (.int u178), .val (.int u179), .val (.int u180), .val (.int u181), .val (.int u182), .val (.int u183), .val (.int u184), .val (.int u185), .val (.int u9), .val (.int (n6 &&& (7 : Int32))), .val (.ref b234), .val (.int (0 : Int32))] [(.int (1 : Int32))])) (fun _ kk_ => st237 _ (XS.iload X237.here hx rfl (hb hby at_372) rfl (XS.icmpNo X237.here hx rfl (hb hby at_374) rfl (teq (by decide)).2 (XS.iconst X237.here hx rfl (hb hby at_377) (XS.goto X237.here hx rfl (pc0 := 378) (pc' := 382) rfl (hb hby at_378) (by decide) (by decide) kk_))))) ?_
          exact OWH.ret X237 (s := s) (vm0 := T236.vm) hS236 hk236 hx hlk CR236 hZ236 (own_EW hw) (i := .ireturn) Bd.returns rfl (Or.inl ⟨rfl, Or.inr (Or.inl rfl), _, rfl⟩) (hb hby at_382) e237 (by decide) (by decide) ⟨rfl, N237⟩
    · refine OWH.st (B := T186.setTop (mkF m 118 #[.val (.long n1), .second, .val (.long n2), .second, .val (.long n3), .second, .val (.long n4), .second, .val (.int n5), .val (.int n6), .val (.int u178), .val (.int u179), .val (.int u180), .val (.int u181), .val (.int u182), .val (.int u183), .val (.int u184), .val (.int u185), .val (.int u9), .val (.int (n6 &&& (7 : Int32))), .unset, .unset] [])) (fun _ kk_ => XS.icmpNo X186.here hx rfl (hb hby at_115) rfl (flt hc187).2.2.1 kk_) ?_
      obtain ⟨T238, h238, X238, e238, E238, A238, D238, -, st238⟩ := newO X186 hx hZ hown (w_5 hw) (w_6 hw) (w_7 hw) e186 (g := (mkF m 118 #[.val (.long n1), .second, .val (.long n2), .second, .val (.long n3), .second, .val (.long n4), .second, .val (.int n5), .val (.int n6), .val (.int u178), .val (.int u179), .val (.int u180), .val (.int u181), .val (.int u182), .val (.int u183), .val (.int u184), .val (.int u185), .val (.int u9), .val (.int (n6 &&& (7 : Int32))), .unset, .unset] [])) rfl (hb hby at_118) (by decide) (by decide)
      obtain ⟨b238, g238⟩ : ∃ z, z = h0.size := ⟨_, rfl⟩
      rw [← g238] at A238 D238 st238
      have n_b238 : n0 ≤ b238 := Nat.le_trans (own_oldle O0) (Nat.le_of_eq g238.symm)
      have O238 : Old Z n0 h238 := O0.ext E238
      have CS238 : CHr Z consts_1 s.vm h0 s.vm h238 := CHr.ext E238 CR0.1
      have CR238 := CHr.trans CR0 CS238
      have Sf238_b238 : Safe Z consts_1 s.vm h238 b238 := Safe.ext E238 CR0.1 (Safe.new (Nat.le_of_eq g238.symm))
      have F238_51 : Fld Z h238 b238 "java/lang/String" "coder" "B" (.int (0 : Int32)) := D238 (Or.inr (w_51 hw)) (ty := .byte) (by decide)
      have F238_53 : Fld Z h238 b238 "java/lang/String" "value" "[B" .null := D238 (Or.inr (w_53 hw)) (ty := (.array .byte)) (by decide)
      refine OWH.st (B := T238.setTop (mkF m 124 #[.val (.long n1), .second, .val (.long n2), .second, .val (.long n3), .second, .val (.long n4), .second, .val (.int n5), .val (.int n6), .val (.int u178), .val (.int u179), .val (.int u180), .val (.int u181), .val (.int u182), .val (.int u183), .val (.int u184), .val (.int u185), .val (.int u9), .val (.int (n6 &&& (7 : Int32))), .unset, .unset] [(.int (9 : Int32)), (.ref b238), (.ref b238)])) (fun _ kk_ => st238 _ (XS.dup X238.here hx rfl (hb hby at_121) rfl rfl (XS.bipush X238.here hx rfl (hb hby at_122) kk_))) ?_
      obtain ⟨T239, h239, k239, X239, e239, E239, A239, st239⟩ := newP (aty := .char) X238 hx hZ (w_8 hw) e238 (g := (mkF m 124 #[.val (.long n1), .second, .val (.long n2), .second, .val (.long n3), .second, .val (.long n4), .second, .val (.int n5), .val (.int n6), .val (.int u178), .val (.int u179), .val (.int u180), .val (.int u181), .val (.int u182), .val (.int u183), .val (.int u184), .val (.int u185), .val (.int u9), .val (.int (n6 &&& (7 : Int32))), .unset, .unset] [(.int (9 : Int32)), (.ref b238), (.ref b238)])) rfl (hb hby at_124) rfl (by decide) (cap := 9) (by decide +kernel) (by decide +kernel) (by decide +kernel) (by decide +kernel)
      obtain ⟨b239, g239⟩ : ∃ z, z = h238.size := ⟨_, rfl⟩
      rw [← g239] at A239 st239
      have n_b239 : n0 ≤ b239 := Nat.le_trans (own_oldle O238) (Nat.le_of_eq g239.symm)
      have O239 : Old Z n0 h239 := O238.ext E239
      have CS239 : CHr Z consts_1 s.vm h238 s.vm h239 := CHr.ext E239 CR238.1
      have Sf239_b238 := CHr.safe CS239 A238.lt Sf238_b238
      have CR239 := CHr.trans CR238 CS239
      have Sf239_b239 : Safe Z consts_1 s.vm h239 b239 := Safe.ext E239 CR238.1 (Safe.new (Nat.le_of_eq g239.symm))
      have V239 : Arv Z h239 b239 k239 .char (9 : Int32) [(.int (0 : Int32)), (.int (0 : Int32)), (.int (0 : Int32)), (.int (0 : Int32)), (.int (0 : Int32)), (.int (0 : Int32)), (.int (0 : Int32)), (.int (0 : Int32)), (.int (0 : Int32))] (.int (0 : Int32)) := (Arv.new A239 (by decide)).pad (pad_rep [] (.int (0 : Int32)) 9)
      refine OWH.st (B := T239.setTop (mkF m 130 #[.val (.long n1), .second, .val (.long n2), .second, .val (.long n3), .second, .val (.long n4), .second, .val (.int n5), .val (.int n6), .val (.int u178), .val (.int u179), .val (.int u180), .val (.int u181), .val (.int u182), .val (.int u183), .val (.int u184), .val (.int u185), .val (.int u9), .val (.int (n6 &&& (7 : Int32))), .unset, .unset] [(.int u178), (.int (0 : Int32)), (.ref b239), (.ref b239), (.ref b238), (.ref b238)])) (fun _ kk_ => st239 _ (XS.dup X239.here hx rfl (hb hby at_126) rfl rfl (XS.iconst X239.here hx rfl (hb hby at_127) (XS.iload X239.here hx rfl (hb hby at_128) rfl kk_)))) ?_
      obtain ⟨cl240, Ar240, q240, S240, Ng240, Hs240, G240⟩ := id V239
      have hin240 : ¬ ((0 : Int32) < 0 ∨ cl240.slots.size ≤ ((0 : Int32)).toNatClampNeg) := inb_of S240 ⟨by decide, by decide⟩
      obtain ⟨T241, h241, X241, e241, W241, st241⟩ := stC X239 hx hZ e239 Ar240 (j := (0 : Int32)) hin240 (g := (mkF m 130 #[.val (.long n1), .second, .val (.long n2), .second, .val (.long n3), .second, .val (.long n4), .second, .val (.int n5), .val (.int n6), .val (.int u178), .val (.int u179), .val (.int u180), .val (.int u181), .val (.int u182), .val (.int u183), .val (.int u184), .val (.int u185), .val (.int u9), .val (.int (n6 &&& (7 : Int32))), .unset, .unset] [(.int u178), (.int (0 : Int32)), (.ref b239), (.ref b239), (.ref b238), (.ref b238)])) rfl rfl (hb hby at_130)
      rw [hn178] at W241
      have N241 := Fr.snoc X241 N186 n_b239
      have O241 : Old Z n0 h241 := O239.wr W241 n_b239
      have CS241 : CHr Z consts_1 s.vm h239 s.vm h241 := CHr.wr W241 (Safe.arv hZ.alike V239 (by decide)) CR239.1
      have Sf241_b238 := CHr.safe CS241 (A238.ext E239).lt Sf239_b238
      have Sf241_b239 := CHr.safe CS241 V239.lt Sf239_b239
      have CR241 := CHr.trans CR239 CS241
      have V241 : Arv Z h241 b239 k239 .char (9 : Int32) [(.int u178), (.int (0 : Int32)), (.int (0 : Int32)), (.int (0 : Int32)), (.int (0 : Int32)), (.int (0 : Int32)), (.int (0 : Int32)), (.int (0 : Int32)), (.int (0 : Int32))] (.int (0 : Int32)) := Arv.set Ar240 q240 S240 Ng240 Hs240 G240 (hn178 ▸ (fits_nar_char _)) W241 0 rfl (Nat.le_of_ble_eq_true rfl)
      refine OWH.st (B := T241.setTop (mkF m 135 #[.val (.long n1), .second, .val (.long n2), .second, .val (.long n3), .second, .val (.long n4), .second, .val (.int n5), .val (.int n6), .val (.int u178), .val (.int u179), .val (.int u180), .val (.int u181), .val (.int u182), .val (.int u183), .val (.int u184), .val (.int u185), .val (.int u9), .val (.int (n6 &&& (7 : Int32))), .unset, .unset] [(.int u179), (.int (1 : Int32)), (.ref b239), (.ref b239), (.ref b238), (.ref b238)])) (fun _ kk_ => st241 _ (XS.dup X241.here hx rfl (hb hby at_131) rfl rfl (XS.iconst X241.here hx rfl (hb hby at_132) (XS.iload X241.here hx rfl (hb hby at_133) rfl kk_)))) ?_
      obtain ⟨cl242, Ar242, q242, S242, Ng242, Hs242, G242⟩ := id V241
      have hin242 : ¬ ((1 : Int32) < 0 ∨ cl242.slots.size ≤ ((1 : Int32)).toNatClampNeg) := inb_of S242 ⟨by decide, by decide⟩
      obtain ⟨T243, h243, X243, e243, W243, st243⟩ := stC X241 hx hZ e241 Ar242 (j := (1 : Int32)) hin242 (g := (mkF m 135 #[.val (.long n1), .second, .val (.long n2), .second, .val (.long n3), .second, .val (.long n4), .second, .val (.int n5), .val (.int n6), .val (.int u178), .val (.int u179), .val (.int u180), .val (.int u181), .val (.int u182), .val (.int u183), .val (.int u184), .val (.int u185), .val (.int u9), .val (.int (n6 &&& (7 : Int32))), .unset, .unset] [(.int u179), (.int (1 : Int32)), (.ref b239), (.ref b239), (.ref b238), (.ref b238)])) rfl rfl (hb hby at_135)
      rw [hn179] at W243
      have N243 := Fr.snoc X243 N241 n_b239
      have O243 : Old Z n0 h243 := O241.wr W243 n_b239
      have CS243 : CHr Z consts_1 s.vm h241 s.vm h243 := CHr.wr W243 (Safe.arv hZ.alike V241 (by decide)) CR241.1
      have Sf243_b238 := CHr.safe CS243 ((A238.ext E239).wr W241).lt Sf241_b238
      have Sf243_b239 := CHr.safe CS243 V241.lt Sf241_b239
      have CR243 := CHr.trans CR241 CS243
      have V243 : Arv Z h243 b239 k239 .char (9 : Int32) [(.int u178), (.int u179), (.int (0 : Int32)), (.int (0 : Int32)), (.int (0 : Int32)), (.int (0 : Int32)), (.int (0 : Int32)), (.int (0 : Int32)), (.int (0 : Int32))] (.int (0 : Int32)) := Arv.set Ar242 q242 S242 Ng242 Hs242 G242 (hn179 ▸ (fits_nar_char _)) W243 1 rfl (Nat.le_of_ble_eq_true rfl)
      refine OWH.st (B := T243.setTop (mkF m 140 #[.val (.long n1), .second, .val (.long n2), .second, .val (.long n3), .second, .val (.long n4), .second, .val (.int n5), .val (.int n6), .val (.int u178), .val (.int u179), .val (.int u180), .val (.int u181), .val (.int u182), .val (.int u183), .val (.int u184), .val (.int u185), .val (.int u9), .val (.int (n6 &&& (7 : Int32))), .unset, .unset] [(.int u180), (.int (2 : Int32)), (.ref b239), (.ref b239), (.ref b238), (.ref b238)])) (fun _ kk_ => st243 _ (XS.dup X243.here hx rfl (hb hby at_136) rfl rfl (XS.iconst X243.here hx rfl (hb hby at_137) (XS.iload X243.here hx rfl (hb hby at_138) rfl kk_)))) ?_
      obtain ⟨cl244, Ar244, q244, S244, Ng244, Hs244, G244⟩ := id V243
      have hin244 : ¬ ((2 : Int32) < 0 ∨ cl244.slots.size ≤ ((2 : Int32)).toNatClampNeg) := inb_of S244 ⟨by decide, by decide⟩
      obtain ⟨T245, h245, X245, e245, W245, st245⟩ := stC X243 hx hZ e243 Ar244 (j := (2 : Int32)) hin244 (g := (mkF m 140 #[.val (.long n1), .second, .val (.long n2), .second, .val (.long n3), .second, .val (.long n4), .second, .val (.int n5), .val (.int n6), .val (.int u178), .val (.int u179), .val (.int u180), .val (.int u181), .val (.int u182), .val (.int u183), .val (.int u184), .val (.int u185), .val (.int u9), .val (.int (n6 &&& (7 : Int32))), .unset, .unset] [(.int u180), (.int (2 : Int32)), (.ref b239), (.ref b239), (.ref b238), (.ref b238)])) rfl rfl (hb hby at_140)
      rw [hn180] at W245
      have N245 := Fr.snoc X245 N243 n_b239
      have O245 : Old Z n0 h245 := O243.wr W245 n_b239
      have CS245 : CHr Z consts_1 s.vm h243 s.vm h245 := CHr.wr W245 (Safe.arv hZ.alike V243 (by decide)) CR243.1
      have Sf245_b238 := CHr.safe CS245 (((A238.ext E239).wr W241).wr W243).lt Sf243_b238
      have Sf245_b239 := CHr.safe CS245 V243.lt Sf243_b239
      have CR245 := CHr.trans CR243 CS245
      have V245 : Arv Z h245 b239 k239 .char (9 : Int32) [(.int u178), (.int u179), (.int u180), (.int (0 : Int32)), (.int (0 : Int32)), (.int (0 : Int32)), (.int (0 : Int32)), (.int (0 : Int32)), (.int (0 : Int32))] (.int (0 : Int32)) := Arv.set Ar244 q244 S244 Ng244 Hs244 G244 (hn180 ▸ (fits_nar_char _)) W245 2 rfl (Nat.le_of_ble_eq_true rfl)
      refine OWH.st (B := T245.setTop (mkF m 145 #[.val (.long n1), .second, .val (.long n2), .second, .val (.long n3), .second, .val (.long n4), .second, .val (.int n5), .val (.int n6), .val (.int u178), .val (.int u179), .val (.int u180), .val (.int u181), .val (.int u182), .val (.int u183), .val (.int u184), .val (.int u185), .val (.int u9), .val (.int (n6 &&& (7 : Int32))), .unset, .unset] [(.int u181), (.int (3 : Int32)), (.ref b239), (.ref b239), (.ref b238), (.ref b238)])) (fun _ kk_ => st245 _ (XS.dup X245.here hx rfl (hb hby at_141) rfl rfl (XS.iconst X245.here hx rfl (hb hby at_142) (XS.iload X245.here hx rfl (hb hby at_143) rfl kk_)))) ?_
      obtain ⟨cl246, Ar246, q246, S246, Ng246, Hs246, G246⟩ := id V245
      have hin246 : ¬ ((3 : Int32) < 0 ∨ cl246.slots.size ≤ ((3 : Int32)).toNatClampNeg) := inb_of S246 ⟨by decide, by decide⟩
      obtain ⟨T247, h247, X247, e247, W247, st247⟩ := stC X245 hx hZ e245 Ar246 (j := (3 : Int32)) hin246 (g := (mkF m 145 #[.val (.long n1), .second, .val (.long n2), .second, .val (.long n3), .second, .val (.long n4), .second, .val (.int n5), .val (.int n6), .val (.int u178), .val (.int u179), .val (.int u180), .val (.int u181), .val (.int u182), .val (.int u183), .val (.int u184), .val (.int u185), .val (.int u9), .val (.int (n6 &&& (7 : Int32))), .unset, .unset] [(.int u181), (.int (3 : Int32)), (.ref b239), (.ref b239), (.ref b238), (.ref b238)])) rfl rfl (hb hby at_145)
      rw [hn181] at W247
      have N247 := Fr.snoc X247 N245 n_b239
      have O247 : Old Z n0 h247 := O245.wr W247 n_b239
      have CS247 : CHr Z consts_1 s.vm h245 s.vm h247 := CHr.wr W247 (Safe.arv hZ.alike V245 (by decide)) CR245.1
      have Sf247_b238 := CHr.safe CS247 ((((A238.ext E239).wr W241).wr W243).wr W245).lt Sf245_b238
      have Sf247_b239 := CHr.safe CS247 V245.lt Sf245_b239
      have CR247 := CHr.trans CR245 CS247
      have V247 : Arv Z h247 b239 k239 .char (9 : Int32) [(.int u178), (.int u179), (.int u180), (.int u181), (.int (0 : Int32)), (.int (0 : Int32)), (.int (0 : Int32)), (.int (0 : Int32)), (.int (0 : Int32))] (.int (0 : Int32)) := Arv.set Ar246 q246 S246 Ng246 Hs246 G246 (hn181 ▸ (fits_nar_char _)) W247 3 rfl (Nat.le_of_ble_eq_true rfl)
      refine OWH.st (B := T247.setTop (mkF m 150 #[.val (.long n1), .second, .val (.long n2), .second, .val (.long n3), .second, .val (.long n4), .second, .val (.int n5), .val (.int n6), .val (.int u178), .val (.int u179), .val (.int u180), .val (.int u181), .val (.int u182), .val (.int u183), .val (.int u184), .val (.int u185), .val (.int u9), .val (.int (n6 &&& (7 : Int32))), .unset, .unset] [(.int u182), (.int (4 : Int32)), (.ref b239), (.ref b239), (.ref b238), (.ref b238)])) (fun _ kk_ => st247 _ (XS.dup X247.here hx rfl (hb hby at_146) rfl rfl (XS.iconst X247.here hx rfl (hb hby at_147) (XS.iload X247.here hx rfl (hb hby at_148) rfl kk_)))) ?_
      obtain ⟨cl248, Ar248, q248, S248, Ng248, Hs248, G248⟩ := id V247
      have hin248 : ¬ ((4 : Int32) < 0 ∨ cl248.slots.size ≤ ((4 : Int32)).toNatClampNeg) := inb_of S248 ⟨by decide, by decide⟩
      obtain ⟨T249, h249, X249, e249, W249, st249⟩ := stC X247 hx hZ e247 Ar248 (j := (4 : Int32)) hin248 (g := (mkF m 150 #[.val (.long n1), .second, .val (.long n2), .second, .val (.long n3), .second, .val (.long n4), .second, .val (.int n5), .val (.int n6), .val (.int u178), .val (.int u179), .val (.int u180), .val (.int u181), .val (.int u182), .val (.int u183), .val (.int u184), .val (.int u185), .val (.int u9), .val (.int (n6 &&& (7 : Int32))), .unset, .unset] [(.int u182), (.int (4 : Int32)), (.ref b239), (.ref b239), (.ref b238), (.ref b238)])) rfl rfl (hb hby at_150)
      rw [hn182] at W249
      have N249 := Fr.snoc X249 N247 n_b239
      have O249 : Old Z n0 h249 := O247.wr W249 n_b239
      have CS249 : CHr Z consts_1 s.vm h247 s.vm h249 := CHr.wr W249 (Safe.arv hZ.alike V247 (by decide)) CR247.1
      have Sf249_b238 := CHr.safe CS249 (((((A238.ext E239).wr W241).wr W243).wr W245).wr W247).lt Sf247_b238
      have Sf249_b239 := CHr.safe CS249 V247.lt Sf247_b239
      have CR249 := CHr.trans CR247 CS249
      have V249 : Arv Z h249 b239 k239 .char (9 : Int32) [(.int u178), (.int u179), (.int u180), (.int u181), (.int u182), (.int (0 : Int32)), (.int (0 : Int32)), (.int (0 : Int32)), (.int (0 : Int32))] (.int (0 : Int32)) := Arv.set Ar248 q248 S248 Ng248 Hs248 G248 (hn182 ▸ (fits_nar_char _)) W249 4 rfl (Nat.le_of_ble_eq_true rfl)
      refine OWH.st (B := T249.setTop (mkF m 155 #[.val (.long n1), .second, .val (.long n2), .second, .val (.long n3), .second, .val (.long n4), .second, .val (.int n5), .val (.int n6), .val (.int u178), .val (.int u179), .val (.int u180), .val (.int u181), .val (.int u182), .val (.int u183), .val (.int u184), .val (.int u185), .val (.int u9), .val (.int (n6 &&& (7 : Int32))), .unset, .unset] [(.int u183), (.int (5 : Int32)), (.ref b239), (.ref b239), (.ref b238), (.ref b238)])) (fun _ kk_ => st249 _ (XS.dup X249.here hx rfl (hb hby at_151) rfl rfl (XS.iconst X249.here hx rfl (hb hby at_152) (XS.iload X249.here hx rfl (hb hby at_153) rfl kk_)))) ?_
      obtain ⟨cl250, Ar250, q250, S250, Ng250, Hs250, G250⟩ := id V249
      have hin250 : ¬ ((5 : Int32) < 0 ∨ cl250.slots.size ≤ ((5 : Int32)).toNatClampNeg) := inb_of S250 ⟨by decide, by decide⟩
      obtain ⟨T251, h251, X251, e251, W251, st251⟩ := stC X249 hx hZ e249 Ar250 (j := (5 : Int32)) hin250 (g := (mkF m 155 #[.val (.long n1), .second, .val (.long n2), .second, .val (.long n3), .second, .val (.long n4), .second, .val (.int n5), .val (.int n6), .val (.int u178), .val (.int u179), .val (.int u180), .val (.int u181), .val (.int u182), .val (.int u183), .val (.int u184), .val (.int u185), .val (.int u9), .val (.int (n6 &&& (7 : Int32))), .unset, .unset] [(.int u183), (.int (5 : Int32)), (.ref b239), (.ref b239), (.ref b238), (.ref b238)])) rfl rfl (hb hby at_155)
      rw [hn183] at W251
      have N251 := Fr.snoc X251 N249 n_b239
      have O251 : Old Z n0 h251 := O249.wr W251 n_b239
      have CS251 : CHr Z consts_1 s.vm h249 s.vm h251 := CHr.wr W251 (Safe.arv hZ.alike V249 (by decide)) CR249.1
      have Sf251_b238 := CHr.safe CS251 ((((((A238.ext E239).wr W241).wr W243).wr W245).wr W247).wr W249).lt Sf249_b238
      have Sf251_b239 := CHr.safe CS251 V249.lt Sf249_b239
      have CR251 := CHr.trans CR249 CS251
      have V251 : Arv Z h251 b239 k239 .char (9 : Int32) [(.int u178), (.int u179), (.int u180), (.int u181), (.int u182), (.int u183), (.int (0 : Int32)), (.int (0 : Int32)), (.int (0 : Int32))] (.int (0 : Int32)) := Arv.set Ar250 q250 S250 Ng250 Hs250 G250 (hn183 ▸ (fits_nar_char _)) W251 5 rfl (Nat.le_of_ble_eq_true rfl)
      refine OWH.st (B := T251.setTop (mkF m 161 #[.val (.long n1), .second, .val (.long n2), .second, .val (.long n3), .second, .val (.long n4), .second, .val (.int n5), .val (.int n6), .val (.int u178), .val (.int u179), .val (.int u180), .val (.int u181), .val (.int u182), .val (.int u183), .val (.int u184), .val (.int u185), .val (.int u9), .val (.int (n6 &&& (7 : Int32))), .unset, .unset] [(.int u184), (.int (6 : Int32)), (.ref b239), (.ref b239), (.ref b238), (.ref b238)])) (fun _ kk_ => st251 _ (XS.dup X251.here hx rfl (hb hby at_156) rfl rfl (XS.bipush X251.here hx rfl (hb hby at_157) (XS.iload X251.here hx rfl (hb hby at_159) rfl kk_)))) ?_
      obtain ⟨cl252, Ar252, q252, S252, Ng252, Hs252, G252⟩ := id V251
      have hin252 : ¬ ((6 : Int32) < 0 ∨ cl252.slots.size ≤ ((6 : Int32)).toNatClampNeg) := inb_of S252 ⟨by decide, by decide⟩
      obtain ⟨T253, h253, X253, e253, W253, st253⟩ := stC X251 hx hZ e251 Ar252 (j := (6 : Int32)) hin252 (g := (mkF m 161 #[.val (.long n1), .second, .val (.long n2), .second, .val (.long n3), .second, .val (.long n4), .second, .val (.int n5), .val (.int n6), .val (.int u178), .val (.int u179), .val (.int u180), .val (.int u181), .val (.int u182), .val (.int u183), .val (.int u184), .val (.int u185), .val (.int u9), .val (.int (n6 &&& (7 : Int32))), .unset, .unset] [(.int u184), (.int (6 : Int32)), (.ref b239), (.ref b239), (.ref b238), (.ref b238)])) rfl rfl (hb hby at_161)
      rw [hn184] at W253
      have N253 := Fr.snoc X253 N251 n_b239
      have O253 : Old Z n0 h253 := O251.wr W253 n_b239
      have CS253 : CHr Z consts_1 s.vm h251 s.vm h253 := CHr.wr W253 (Safe.arv hZ.alike V251 (by decide)) CR251.1
      have Sf253_b238 := CHr.safe CS253 (((((((A238.ext E239).wr W241).wr W243).wr W245).wr W247).wr W249).wr W251).lt Sf251_b238
      have Sf253_b239 := CHr.safe CS253 V251.lt Sf251_b239
      have CR253 := CHr.trans CR251 CS253
      have V253 : Arv Z h253 b239 k239 .char (9 : Int32) [(.int u178), (.int u179), (.int u180), (.int u181), (.int u182), (.int u183), (.int u184), (.int (0 : Int32)), (.int (0 : Int32))] (.int (0 : Int32)) := Arv.set Ar252 q252 S252 Ng252 Hs252 G252 (hn184 ▸ (fits_nar_char _)) W253 6 rfl (Nat.le_of_ble_eq_true rfl)
      refine OWH.st (B := T253.setTop (mkF m 167 #[.val (.long n1), .second, .val (.long n2), .second, .val (.long n3), .second, .val (.long n4), .second, .val (.int n5), .val (.int n6), .val (.int u178), .val (.int u179), .val (.int u180), .val (.int u181), .val (.int u182), .val (.int u183), .val (.int u184), .val (.int u185), .val (.int u9), .val (.int (n6 &&& (7 : Int32))), .unset, .unset] [(.int u185), (.int (7 : Int32)), (.ref b239), (.ref b239), (.ref b238), (.ref b238)])) (fun _ kk_ => st253 _ (XS.dup X253.here hx rfl (hb hby at_162) rfl rfl (XS.bipush X253.here hx rfl (hb hby at_163) (XS.iload X253.here hx rfl (hb hby at_165) rfl kk_)))) ?_
      obtain ⟨cl254, Ar254, q254, S254, Ng254, Hs254, G254⟩ := id V253
      have hin254 : ¬ ((7 : Int32) < 0 ∨ cl254.slots.size ≤ ((7 : Int32)).toNatClampNeg) := inb_of S254 ⟨by decide, by decide⟩
      obtain ⟨T255, h255, X255, e255, W255, st255⟩ := stC X253 hx hZ e253 Ar254 (j := (7 : Int32)) hin254 (g := (mkF m 167 #[.val (.long n1), .second, .val (.long n2), .second, .val (.long n3), .second, .val (.long n4), .second, .val (.int n5), .val (.int n6), .val (.int u178), .val (.int u179), .val (.int u180), .val (.int u181), .val (.int u182), .val (.int u183), .val (.int u184), .val (.int u185), .val (.int u9), .val (.int (n6 &&& (7 : Int32))), .unset, .unset] [(.int u185), (.int (7 : Int32)), (.ref b239), (.ref b239), (.ref b238), (.ref b238)])) rfl rfl (hb hby at_167)
      rw [hn185] at W255
      have N255 := Fr.snoc X255 N253 n_b239
      have O255 : Old Z n0 h255 := O253.wr W255 n_b239
      have CS255 : CHr Z consts_1 s.vm h253 s.vm h255 := CHr.wr W255 (Safe.arv hZ.alike V253 (by decide)) CR253.1
      have Sf255_b238 := CHr.safe CS255 ((((((((A238.ext E239).wr W241).wr W243).wr W245).wr W247).wr W249).wr W251).wr W253).lt Sf253_b238
      have Sf255_b239 := CHr.safe CS255 V253.lt Sf253_b239
      have CR255 := CHr.trans CR253 CS255
      have V255 : Arv Z h255 b239 k239 .char (9 : Int32) [(.int u178), (.int u179), (.int u180), (.int u181), (.int u182), (.int u183), (.int u184), (.int u185), (.int (0 : Int32))] (.int (0 : Int32)) := Arv.set Ar254 q254 S254 Ng254 Hs254 G254 (hn185 ▸ (fits_nar_char _)) W255 7 rfl (Nat.le_of_ble_eq_true rfl)
      refine OWH.st (B := T255.setTop (mkF m 173 #[.val (.long n1), .second, .val (.long n2), .second, .val (.long n3), .second, .val (.long n4), .second, .val (.int n5), .val (.int n6), .val (.int u178), .val (.int u179), .val (.int u180), .val (.int u181), .val (.int u182), .val (.int u183), .val (.int u184), .val (.int u185), .val (.int u9), .val (.int (n6 &&& (7 : Int32))), .unset, .unset] [(.int u9), (.int (8 : Int32)), (.ref b239), (.ref b239), (.ref b238), (.ref b238)])) (fun _ kk_ => st255 _ (XS.dup X255.here hx rfl (hb hby at_168) rfl rfl (XS.bipush X255.here hx rfl (hb hby at_169) (XS.iload X255.here hx rfl (hb hby at_171) rfl kk_)))) ?_
      obtain ⟨cl256, Ar256, q256, S256, Ng256, Hs256, G256⟩ := id V255
      have hin256 : ¬ ((8 : Int32) < 0 ∨ cl256.slots.size ≤ ((8 : Int32)).toNatClampNeg) := inb_of S256 ⟨by decide, by decide⟩
      obtain ⟨T257, h257, X257, e257, W257, st257⟩ := stC X255 hx hZ e255 Ar256 (j := (8 : Int32)) hin256 (g := (mkF m 173 #[.val (.long n1), .second, .val (.long n2), .second, .val (.long n3), .second, .val (.long n4), .second, .val (.int n5), .val (.int n6), .val (.int u178), .val (.int u179), .val (.int u180), .val (.int u181), .val (.int u182), .val (.int u183), .val (.int u184), .val (.int u185), .val (.int u9), .val (.int (n6 &&& (7 : Int32))), .unset, .unset] [(.int u9), (.int (8 : Int32)), (.ref b239), (.ref b239), (.ref b238), (.ref b238)])) rfl rfl (hb hby at_173)
      rw [hn9] at W257
      have N257 := Fr.snoc X257 N255 n_b239
      have O257 : Old Z n0 h257 := O255.wr W257 n_b239
      have CS257 : CHr Z consts_1 s.vm h255 s.vm h257 := CHr.wr W257 (Safe.arv hZ.alike V255 (by decide)) CR255.1
      have Sf257_b238 := CHr.safe CS257 (((((((((A238.ext E239).wr W241).wr W243).wr W245).wr W247).wr W249).wr W251).wr W253).wr W255).lt Sf255_b238
      have Sf257_b239 := CHr.safe CS257 V255.lt Sf255_b239
      have CR257 := CHr.trans CR255 CS257
      have V257 : Arv Z h257 b239 k239 .char (9 : Int32) [(.int u178), (.int u179), (.int u180), (.int u181), (.int u182), (.int u183), (.int u184), (.int u185), (.int u9)] (.int (0 : Int32)) := Arv.set Ar256 q256 S256 Ng256 Hs256 G256 (hn9 ▸ (fits_nar_char _)) W257 8 rfl (Nat.le_of_ble_eq_true rfl)
      refine OWH.st (B := T257.setTop (mkF m 174 #[.val (.long n1), .second, .val (.long n2), .second, .val (.long n3), .second, .val (.long n4), .second, .val (.int n5), .val (.int n6), .val (.int u178), .val (.int u179), .val (.int u180), .val (.int u181), .val (.int u182), .val (.int u183), .val (.int u184), .val (.int u185), .val (.int u9), .val (.int (n6 &&& (7 : Int32))), .unset, .unset] [(.ref b239), (.ref b238), (.ref b238)])) (fun _ kk_ => st257 _ kk_) ?_
      obtain ⟨_, _, ⟨T258, L258, k258, n258⟩, -, X258, ⟨Lc258, hQ258, l258, y258, z258⟩, st258⟩ := X257.specialBack hx (y := (⟨"java/lang/String", "<init>", "([C)V"⟩ : MethodName)) rfl hown (mvT hZ (w_9 hw)) (mvT hZ (w_10 hw)) (mvT hZ (w_11 hw)) (by decide) (backOf (W := 1) (rmS0X l Z a0 hw [] b238 b239 k239 (9 : Int32) [u178, u179, u180, u181, u182, u183, u184, u185, u9] i_COMPACT_STRINGS v_SIOOBE_FORMATTER h257 n0 O257 ((((((((((A238.ext E239).wr W241).wr W243).wr W245).wr W247).wr W249).wr W251).wr W253).wr W255).wr W257) ((((((((((F238_53.ext E239).other W241 (Or.inl (Nat.ne_of_lt (Nat.lt_of_lt_of_le A238.lt (Nat.le_of_eq g239.symm))))).other W243 (Or.inl (Nat.ne_of_lt (Nat.lt_of_lt_of_le A238.lt (Nat.le_of_eq g239.symm))))).other W245 (Or.inl (Nat.ne_of_lt (Nat.lt_of_lt_of_le A238.lt (Nat.le_of_eq g239.symm))))).other W247 (Or.inl (Nat.ne_of_lt (Nat.lt_of_lt_of_le A238.lt (Nat.le_of_eq g239.symm))))).other W249 (Or.inl (Nat.ne_of_lt (Nat.lt_of_lt_of_le A238.lt (Nat.le_of_eq g239.symm))))).other W251 (Or.inl (Nat.ne_of_lt (Nat.lt_of_lt_of_le A238.lt (Nat.le_of_eq g239.symm))))).other W253 (Or.inl (Nat.ne_of_lt (Nat.lt_of_lt_of_le A238.lt (Nat.le_of_eq g239.symm))))).other W255 (Or.inl (Nat.ne_of_lt (Nat.lt_of_lt_of_le A238.lt (Nat.le_of_eq g239.symm))))).other W257 (Or.inl (Nat.ne_of_lt (Nat.lt_of_lt_of_le A238.lt (Nat.le_of_eq g239.symm))))) ((((((((((F238_51.ext E239).other W241 (Or.inl (Nat.ne_of_lt (Nat.lt_of_lt_of_le A238.lt (Nat.le_of_eq g239.symm))))).other W243 (Or.inl (Nat.ne_of_lt (Nat.lt_of_lt_of_le A238.lt (Nat.le_of_eq g239.symm))))).other W245 (Or.inl (Nat.ne_of_lt (Nat.lt_of_lt_of_le A238.lt (Nat.le_of_eq g239.symm))))).other W247 (Or.inl (Nat.ne_of_lt (Nat.lt_of_lt_of_le A238.lt (Nat.le_of_eq g239.symm))))).other W249 (Or.inl (Nat.ne_of_lt (Nat.lt_of_lt_of_le A238.lt (Nat.le_of_eq g239.symm))))).other W251 (Or.inl (Nat.ne_of_lt (Nat.lt_of_lt_of_le A238.lt (Nat.le_of_eq g239.symm))))).other W253 (Or.inl (Nat.ne_of_lt (Nat.lt_of_lt_of_le A238.lt (Nat.le_of_eq g239.symm))))).other W255 (Or.inl (Nat.ne_of_lt (Nat.lt_of_lt_of_le A238.lt (Nat.le_of_eq g239.symm))))).other W257 (Or.inl (Nat.ne_of_lt (Nat.lt_of_lt_of_le A238.lt (Nat.le_of_eq g239.symm))))) n_b238 V257 rfl (Nat.le_of_ble_eq_true rfl) (Nat.zero_lt_succ _) (OwnChs.cons hn178 (OwnChs.cons hn179 (OwnChs.cons hn180 (OwnChs.cons hn181 (OwnChs.cons hn182 (OwnChs.cons hn183 (OwnChs.cons hn184 (OwnChs.cons hn185 (OwnChs.cons hn9 OwnChs.nil))))))))) hS) hZ (w_11 hw) (w_7 hw) (by decide) (by decide)) (g := (mkF m 174 #[.val (.long n1), .second, .val (.long n2), .second, .val (.long n3), .second, .val (.long n4), .second, .val (.int n5), .val (.int n6), .val (.int u178), .val (.int u179), .val (.int u180), .val (.int u181), .val (.int u182), .val (.int u183), .val (.int u184), .val (.int u185), .val (.int u9), .val (.int (n6 &&& (7 : Int32))), .unset, .unset] [(.ref b239), (.ref b238), (.ref b238)])) rfl (by rw [hml]; rfl) (Steps.refl _) (a := b238) (argsL := [(.ref b239)]) (rest := [(.ref b238)]) (lenOf pd_17 rfl) rfl (by show 2 * 0 + _ ≤ _; exact Nat.le_of_eq rfl) (hb hby at_174) (fun _ _ => ⟨rfl, e257, (by decide : 2 + 2 ≤ _), (by decide : 13 + 30 ≤ _)⟩)
      dsimp only [Pt.U, Pt.locs, Pt.cells, Pt.slots] at X258 l258 y258 z258 st258 hQ258
      subst l258 y258 z258
      obtain ⟨rfl, Nq258, K258, HO258⟩ := hQ258
      have N258 := Fr.app N257 Nq258
      have O258 : Old Z n0 T258.heap := O257.keep K258 (allS n_b238 all0)
      have CS258 : CHr Z consts_1 s.vm h257 s.vm T258.heap := CHr.keep K258 (allS Sf257_b238 all0) CR257.1
      have Sf258_b238 := CHr.safe CS258 ((((((((((A238.ext E239).wr W241).wr W243).wr W245).wr W247).wr W249).wr W251).wr W253).wr W255).wr W257).lt Sf257_b238
      have Sf258_b239 := CHr.safe CS258 V257.lt Sf257_b239
      have CR258 := CHr.trans CR257 CS258
      refine OWH.tr (B := T258.setTop (mkF m 177 #[.val (.long n1), .second, .val (.long n2), .second, .val (.long n3), .second, .val (.long n4), .second, .val (.int n5), .val (.int n6), .val (.int u178), .val (.int u179), .val (.int u180), .val (.int u181), .val (.int u182), .val (.int u183), .val (.int u184), .val (.int u185), .val (.int u9), .val (.int (n6 &&& (7 : Int32))), .unset, .unset] [(.ref b238)])) (st258) ?_
      refine OWH.st (B := T258.setTop (mkF m 197 #[.val (.long n1), .second, .val (.long n2), .second, .val (.long n3), .second, .val (.long n4), .second, .val (.int n5), .val (.int n6), .val (.int u178), .val (.int u179), .val (.int u180), .val (.int u181), .val (.int u182), .val (.int u183), .val (.int u184), .val (.int u185), .val (.int u9), .val (.int (n6 &&& (7 : Int32))), .val (.ref b238), .unset] [(.int u9), (.int u185), (.int u184), (.int u183), (.int u182), (.int u181), (.int u180), (.int u179), (.int u178)])) (fun _ kk_ => XS.astore X258.here hx rfl (hb hby at_177) rfl rfl (l' := #[.val (.long n1), .second, .val (.long n2), .second, .val (.long n3), .second, .val (.long n4), .second, .val (.int n5), .val (.int n6), .val (.int u178), .val (.int u179), .val (.int u180), .val (.int u181), .val (.int u182), .val (.int u183), .val (.int u184), .val (.int u185), .val (.int u9), .val (.int (n6 &&& (7 : Int32))), .val (.ref b238), .unset]) rfl (XS.iload X258.here hx rfl (hb hby at_179) rfl (XS.iload X258.here hx rfl (hb hby at_181) rfl (XS.iload X258.here hx rfl (hb hby at_183) rfl (XS.iload X258.here hx rfl (hb hby at_185) rfl (XS.iload X258.here hx rfl (hb hby at_187) rfl (XS.iload X258.here hx rfl (hb hby at_189) rfl (XS.iload X258.here hx rfl (hb hby at_191) rfl (XS.iload X258.here hx rfl (hb hby at_193) rfl (XS.iload X258.here hx rfl (hb hby at_195) rfl kk_)))))))))) ?_
      obtain ⟨_, _, ⟨T259, L259, k259, n259⟩, -, X259, ⟨Lc259, hQ259, l259, y259, z259⟩, st259⟩ := Jvm.LawKit.callS X258 hx (y := (⟨"tenorbook/book/CusipIsValidPinLaw", "reference", "(CCCCCCCCC)Z"⟩ : MethodName)) hown (mvT hZ (w_54 hw)) (mvT hZ (w_55 hw)) (mvT hZ (w_2 hw)) (mvT hZ (w_56 hw)) (by decide) (backOf (W := 0) (rmRF l Z a0 hw [] u178 u179 u180 u181 u182 u183 u184 u185 u9 T258.heap n0 O258 ) hZ (w_56 hw) (w_2 hw) (by decide) (by decide)) (g := (mkF m 197 #[.val (.long n1), .second, .val (.long n2), .second, .val (.long n3), .second, .val (.long n4), .second, .val (.int n5), .val (.int n6), .val (.int u178), .val (.int u179), .val (.int u180), .val (.int u181), .val (.int u182), .val (.int u183), .val (.int u184), .val (.int u185), .val (.int u9), .val (.int (n6 &&& (7 : Int32))), .val (.ref b238), .unset] [(.int u9), (.int u185), (.int u184), (.int u183), (.int u182), (.int u181), (.int u180), (.int u179), (.int u178)])) rfl (by rw [hml]; rfl) (argsL := [(.int u178), (.int u179), (.int u180), (.int u181), (.int u182), (.int u183), (.int u184), (.int u185), (.int u9)]) (rest := []) (lenOf pd_19 rfl) rfl (by show 2 * 0 + _ ≤ _; exact Nat.le_of_eq rfl) (hb hby at_197) (fun _ _ => ⟨rfl, rfl, (by decide : 4 + 0 ≤ _), (by decide : 43 + 0 ≤ _)⟩)
      dsimp only [Pt.U, Pt.locs, Pt.cells, Pt.slots] at X259 l259 y259 z259 st259 hQ259
      subst l259 y259 z259
      obtain ⟨z259, rfl, Nq259, e259, hz259⟩ := hQ259
      have N259 := Fr.app N258 Nq259
      refine OWH.st (B := T259.setTop (mkF m 369 #[.val (.long n1), .second, .val (.long n2), .second, .val (.long n3), .second, .val (.long n4), .second, .val (.int n5), .val (.int n6), .val (.int u178), .val (.int u179), .val (.int u180), .val (.int u181), .val (.int u182), .val (.int u183), .val (.int u184), .val (.int u185), .val (.int u9), .val (.int (n6 &&& (7 : Int32))), .val (.ref b238), .val (.int z259)] [(.ref b238)])) (fun _ kk_ => st259 _ (XS.istore X259.here hx rfl (hb hby at_200) rfl (l' := #[.val (.long n1), .second, .val (.long n2), .second, .val (.long n3), .second, .val (.long n4), .second, .val (.int n5), .val (.int n6), .val (.int u178), .val (.int u179), .val (.int u180), .val (.int u181), .val (.int u182), .val (.int u183), .val (.int u184), .val (.int u185), .val (.int u9), .val (.int (n6 &&& (7 : Int32))), .val (.ref b238), .val (.int z259)]) rfl (XS.goto X259.here hx rfl (pc0 := 202) (pc' := 367) rfl (hb hby at_202) (by decide) (by decide) (XS.aload X259.here hx rfl (hb hby at_367) rfl rfl kk_)))) ?_
      obtain ⟨_, _, ⟨T260, L260, k260, n260⟩, -, X260, ⟨Lc260, hQ260, l260, y260, z260⟩, st260⟩ := Jvm.LawKit.callS X259 hx (y := (⟨"tenorbook/book/Cusip", "isValid", "(Ljava/lang/String;)Z"⟩ : MethodName)) hown (mvT hZ (w_60 hw)) (mvT hZ (w_61 hw)) (mvT hZ (w_62 hw)) (mvT hZ (w_63 hw)) (by decide) (backOf (W := 0) (rmIV9 l Z a0 hw [] b238 [u178, u179, u180, u181, u182, u183, u184, u185, u9] i_COMPACT_STRINGS v_SIOOBE_FORMATTER T258.heap n0 O258 HO258 (Nat.le_of_ble_eq_true rfl) (OwnChs.cons hn178 (OwnChs.cons hn179 (OwnChs.cons hn180 (OwnChs.cons hn181 (OwnChs.cons hn182 (OwnChs.cons hn183 (OwnChs.cons hn184 (OwnChs.cons hn185 (OwnChs.cons hn9 OwnChs.nil))))))))) hS rfl) hZ (w_63 hw) (w_62 hw) (by decide) (by decide)) (g := (mkF m 369 #[.val (.long n1), .second, .val (.long n2), .second, .val (.long n3), .second, .val (.long n4), .second, .val (.int n5), .val (.int n6), .val (.int u178), .val (.int u179), .val (.int u180), .val (.int u181), .val (.int u182), .val (.int u183), .val (.int u184), .val (.int u185), .val (.int u9), .val (.int (n6 &&& (7 : Int32))), .val (.ref b238), .val (.int z259)] [(.ref b238)])) rfl (by rw [hml]; rfl) (argsL := [(.ref b238)]) (rest := []) (lenOf pd_18 rfl) rfl (by show 2 * 0 + _ ≤ _; exact Nat.le_of_eq rfl) (hb hby at_369) (fun _ _ => ⟨rfl, e259, (by decide : 4 + 0 ≤ _), (by decide : 43 + 0 ≤ _)⟩)
      dsimp only [Pt.U, Pt.locs, Pt.cells, Pt.slots] at X260 l260 y260 z260 st260 hQ260
      subst l260 y260 z260
      obtain ⟨z260, rfl, Nq260, e260, hz260⟩ := hQ260
      have N260 := Fr.app N259 Nq260
      refine OWH.st (B := T260.setTop (mkF m 382 #[.val (.long n1), .second, .val (.long n2), .second, .val (.long n3), .second, .val (.long n4), .second, .val (.int n5), .val (.int n6), .val (.int u178), .val (.int u179), .val (.int u180), .val (.int u181), .val (.int u182), .val (.int u183), .val (.int u184), .val (.int u185), .val (.int u9), .val (.int (n6 &&& (7 : Int32))), .val (.ref b238), .val (.int z259)] [(.int (1 : Int32))])) (fun _ kk_ => st260 _ (XS.iload X260.here hx rfl (hb hby at_372) rfl (XS.icmpNo X260.here hx rfl (hb hby at_374) rfl (teq (own_ckeq hz260 hz259)).2 (XS.iconst X260.here hx rfl (hb hby at_377) (XS.goto X260.here hx rfl (pc0 := 378) (pc' := 382) rfl (hb hby at_378) (by decide) (by decide) kk_))))) ?_
      exact OWH.ret X260 (s := s) (vm0 := s.vm) hS0 (Nat.le_trans (Nat.le_trans (Nat.le_trans (Nat.le_trans (Nat.le_trans (Nat.le_trans (Nat.le_trans (Nat.le_trans (Nat.le_trans (Nat.le_trans (Nat.le_trans (Nat.le_trans hk0 E238.1) E239.1) (Keep.of_wr W241).1) (Keep.of_wr W243).1) (Keep.of_wr W245).1) (Keep.of_wr W247).1) (Keep.of_wr W249).1) (Keep.of_wr W251).1) (Keep.of_wr W253).1) (Keep.of_wr W255).1) (Keep.of_wr W257).1) K258.1) hx hlk CR258 hZ (own_EW hw) (i := .ireturn) Bd.returns rfl (Or.inl ⟨rfl, Or.inr (Or.inl rfl), _, rfl⟩) (hb hby at_382) e260 (by decide) (by decide) ⟨rfl, N260⟩
  by_cases hc261 : (((n5.toUInt32 >>> ((16 : Int32) &&& 31).toUInt32).toInt32) &&& (1 : Int32)) = (0 : Int32)
  · refine OWH.st (B := T185.setTop (mkF m 103 #[.val (.long n1), .second, .val (.long n2), .second, .val (.long n3), .second, .val (.long n4), .second, .val (.int n5), .val (.int n6), .val (.int u178), .val (.int u179), .val (.int u180), .val (.int u181), .val (.int u182), .val (.int u183), .val (.int u184), .val (.int u185), .unset, .unset, .unset, .unset] [(.int ((n5 &&& (65535 : Int32)).toUInt32.toUInt16.toUInt32.toInt32))])) (fun _ kk_ => XS.ifYes X185.here hx rfl (pc0 := 79) (pc' := 97) rfl (hb hby at_79) rfl ((if0 _ _).trans (teq hc261).1) (by decide) (by decide) (XS.iload X185.here hx rfl (hb hby at_97) rfl ((X185.ldcInt hx hown (mvT hZ (w_4 hw)) (g := (mkF m 99 #[.val (.long n1), .second, .val (.long n2), .second, .val (.long n3), .second, .val (.long n4), .second, .val (.int n5), .val (.int n6), .val (.int u178), .val (.int u179), .val (.int u180), .val (.int u181), .val (.int u182), .val (.int u183), .val (.int u184), .val (.int u185), .unset, .unset, .unset, .unset] [(.int n5)])) rfl (hb hby at_99)) _ (XS.iand X185.here hx rfl (hb hby at_101) rfl (XS.i2c X185.here hx rfl (hb hby at_102) rfl kk_))))) ?_
    exact J186 _ _ X185 N185 e185 _ (own_nch _)
  · refine OWH.st (B := T185.setTop (mkF m 103 #[.val (.long n1), .second, .val (.long n2), .second, .val (.long n3), .second, .val (.long n4), .second, .val (.int n5), .val (.int n6), .val (.int u178), .val (.int u179), .val (.int u180), .val (.int u181), .val (.int u182), .val (.int u183), .val (.int u184), .val (.int u185), .unset, .unset, .unset, .unset] [(.int (((48 : Int32) + ((n5 &&& (65535 : Int32)) % (10 : Int32))).toUInt32.toUInt16.toUInt32.toInt32))])) (fun _ kk_ => XS.ifNo X185.here hx rfl (hb hby at_79) rfl ((if0 _ _).trans (feq hc261).1) (XS.bipush X185.here hx rfl (hb hby at_82) (XS.iload X185.here hx rfl (hb hby at_84) rfl ((X185.ldcInt hx hown (mvT hZ (w_4 hw)) (g := (mkF m 86 #[.val (.long n1), .second, .val (.long n2), .second, .val (.long n3), .second, .val (.long n4), .second, .val (.int n5), .val (.int n6), .val (.int u178), .val (.int u179), .val (.int u180), .val (.int u181), .val (.int u182), .val (.int u183), .val (.int u184), .val (.int u185), .unset, .unset, .unset, .unset] [(.int n5), (.int (48 : Int32))])) rfl (hb hby at_86)) _ (XS.iand X185.here hx rfl (hb hby at_88) rfl (XS.bipush X185.here hx rfl (hb hby at_89) (iremM X185 hx rfl (hb hby at_91) rfl (by decide) (XS.iadd X185.here hx rfl (hb hby at_92) rfl (XS.i2c X185.here hx rfl (hb hby at_93) rfl (XS.goto X185.here hx rfl (pc0 := 94) (pc' := 103) rfl (hb hby at_94) (by decide) (by decide) kk_)))))))))) ?_
    exact J186 _ _ X185 N185 e185 _ (own_nch _)
set_option maxRecDepth 65536 in
set_option maxHeartbeats 40000000 in
theorem comes_1 {Post : Tables → Env → Array Value → State → Outcome → State → Prop} (hpost : ∀ tb e args s v u, (limb_1_1.after args s (.returned v) u = true ∧ limb_1_2.after args s (.returned v) u = true ∧ True) → ReturnedEndW s (.returned v) u (Jvm.fieldLocs frame_1_writes args s ++ Jvm.arrayLocs frame_1_arrays args s ++ Jvm.staticLocs frame_1_statics s) 24 1216 → Post tb e args s (.returned v) u) :
    ArmFor flags0 classFile x code maxLocals ret World_1 tables_1 room_1 Calls_1 rest_1 Pre_1 Post := by
  intro l hfl _ _ p e ha hc hk s m args below hf hA hF happ hP
  obtain ⟨hcalls, hrest, hpre⟩ := hP
  obtain ⟨-, -, -, hnamed, -, -, -, hat⟩ := (Spec.applies_iff hf).mp happ
  obtain ⟨hg, hn⟩ := and_e (Cond.before_iff.mp (show (Jvm.Cond.and given_1 narrow_1).before args s = true from hpre))
  obtain ⟨k262, k263⟩ := and_e hg
  obtain ⟨k264, k265⟩ := and_e k263
  obtain ⟨k266, k267⟩ := and_e k265
  obtain ⟨k268, k269⟩ := and_e k267
  obtain ⟨k270, k271⟩ := and_e k269
  obtain ⟨k272, k273⟩ := and_e k271
  obtain ⟨w0, w1, w2, w3, w4, w5, rfl⟩ : ∃ w0 w1 w2 w3 w4 w5 : Value, args = #[w0, w1, w2, w3, w4, w5] := by
    have hs : args.size = 6 := by simpa [Cond.value, given_1] using k262
    obtain ⟨L⟩ := args
    match L, hs with
    | [w0, w1, w2, w3, w4, w5], _ => exact ⟨w0, w1, w2, w3, w4, w5, rfl⟩
  have hw := fun d (hd : d ∈ tables_1) => atoms_spec (ws := Jvm.Cond.code x code maxLocals ret :: tables_1) hat d (List.mem_cons_of_mem _ hd)
  have hfit : Fit s := fun {y c} hc i hi => by
    obtain ⟨ha, rfl⟩ := Array.getElem?_eq_some_iff.mp hc
    have q := List.all_eq_true.mp ((Array.all_eq_true_iff_forall_mem.mp hF) _ (Array.getElem_mem ha)) i (List.mem_range.mpr hi)
    simpa [Array.getElem?_eq_getElem hi] using q
  obtain ⟨i0, ei0⟩ := isL_v k264
  obtain rfl : w0 = (.long i0) := Option.some.inj ei0
  obtain ⟨i1, ei1⟩ := isL_v k266
  obtain rfl : w1 = (.long i1) := Option.some.inj ei1
  obtain ⟨i2, ei2⟩ := isL_v k268
  obtain rfl : w2 = (.long i2) := Option.some.inj ei2
  obtain ⟨i3, ei3⟩ := isL_v k270
  obtain rfl : w3 = (.long i3) := Option.some.inj ei3
  obtain ⟨i4, ei4⟩ := is_v k272
  obtain rfl : w4 = (.int i4) := Option.some.inj ei4
  obtain ⟨i5, ei5⟩ := is_v k273
  obtain rfl : w5 = (.int i5) := Option.some.inj ei5
  obtain ⟨hsets, hown0⟩ := atoms_of _ (rest_1_c_eq ▸ (show rest_1_c.before _ s = true from hrest))
  have hr0 := Cond.before_iff.mp hown0
  obtain ⟨i_COMPACT_STRINGS, evi_COMPACT_STRINGS⟩ := is_v (Cond.before_iff.mp (hsets _ (List.mem_of_getElem? (i := 1) rfl)))
  obtain ⟨v_SIOOBE_FORMATTER, evv_SIOOBE_FORMATTER, rvv_SIOOBE_FORMATTER⟩ := isR_v (Cond.before_iff.mp (hsets _ (List.mem_of_getElem? (i := 8) rfl)))
  have hS : OwnS s i_COMPACT_STRINGS v_SIOOBE_FORMATTER := ⟨Sta.start evi_COMPACT_STRINGS (Or.inl (hsets _ (List.mem_of_getElem? (i := 0) rfl))), Sta.start evv_SIOOBE_FORMATTER (Or.inl (hsets _ (List.mem_of_getElem? (i := 7) rfl))), rvv_SIOOBE_FORMATTER, Sta.start (own_eq_int (Cond.before_iff.mp (hsets _ (List.mem_of_getElem? (i := 12) rfl)))) (Or.inl (hsets _ (List.mem_of_getElem? (i := 11) rfl))), Sta.start (own_eq_int (Cond.before_iff.mp (hsets _ (List.mem_of_getElem? (i := 15) rfl)))) (Or.inl (hsets _ (List.mem_of_getElem? (i := 14) rfl))), Sta.start (own_eq_int (Cond.before_iff.mp (hsets _ (List.mem_of_getElem? (i := 18) rfl)))) (Or.inl (hsets _ (List.mem_of_getElem? (i := 17) rfl))), gotF (Cond.eq_ints evi_COMPACT_STRINGS (Term.int_eval (0 : Int32))) (not_v (Cond.before_iff.mp (hsets _ (List.mem_of_getElem? (i := 2) rfl))))⟩
  have hCH : CHv s consts_1 s.vm s.heap := CHv.start (own_EW hw) (fun q hq => hcalls.1 q hq) (show Jvm.Lit.compactW.before _ s = true from (hsets _ (List.mem_of_getElem? (i := 2) rfl))) (w_24 hw) (w_6 hw)
  obtain ⟨n, o, h1, h2, h3, _, L, rfl, ⟨rfl, N⟩, -, hq⟩ := rm0 l s _ hw tables_1 i0 i1 i2 i3 i4 i5 i_COMPACT_STRINGS v_SIOOBE_FORMATTER s.heap s.heap.size (Old.start s) hS p e ha hc hk s m _ below hf ((Spec.applies_iff_loose hf).mp happ).1 ⟨rfl, State.Warmed39.refl s, rfl, hCH⟩ trivial
  refine ⟨n, _, h1, h2, h3, hpost _ _ _ _ _ _ ⟨Cond.after_iff.mpr rfl, Cond.after_iff.mpr (eq_i res_at (Term.int_eval (1)) rfl), trivial⟩ ⟨hq.1, hq.2.1, hq.2.2.1, (hq.2.2.2.sift fun y hy => Or.inr (N y hy)).mono (by decide) (by decide)⟩⟩
theorem main_1_1 : Claimed_1_1 := comes_1 fun _ _ _ _ _ _ h hF => ⟨h.1, hF⟩
theorem main_1_2 : Claimed_1_2 := comes_1 fun _ _ _ _ _ _ h hF => ⟨h.2.1, hF⟩
end Jvm.Pilot.@@N@@
namespace Jvm.Pilot.@@N@@
open Jvm Jvm.ClassFile Sem Op Lib Jvm.Free Jvm.Stand Jvm.Pilot.@@N@@.Jvm.D
/-! MADE BY PROGRAM (witnessworld.py) out of the Statement's table words and the real class files: 20 classes; the members and pool entries that the words name. The judged class is class 1, her method 1. -/
namespace start1
open Jvm.ClassFile
def u (s : String) : CpInfo := .utf8 (stringToUtf16 s)
/-- a pool by its gaps: so many unusable entries, then the entry; so many at the end -/
def gap : Nat → List CpInfo → List CpInfo
  | 0, r => r
  | n + 1, r => .unusable :: gap n r
def poolList (es : List (Nat × CpInfo)) (last : Nat) : List CpInfo := es.foldr (fun e r => gap e.1 (e.2 :: r)) (gap last [])
def pool (es : List (Nat × CpInfo)) (last : Nat) : Array CpInfo := ⟨poolList es last⟩
def fileOf (pool : Array CpInfo) (this : Nat) (attrs : Array Attribute := #[]) (ms : Array MethodInfo := #[]) (fl : Nat := 33) (sup : Nat := 0) (ifs : Array Nat := #[]) (fds : Array FieldInfo := #[]) : ClassFile where
  minorVersion := 0
  majorVersion := 65
  constantPool := pool
  accessFlags := fl
  thisClass := this
  superClass := sup
  interfaces := ifs
  fields := fds
  methods := ms
  attributes := attrs
def plain (name : String) (sup : Option ClassId) : Class where
  name := name
  kind := .ordinary
  loader := none
  accessFlags := 33
  super := sup
  interfaces := #[]
  cf := none
  fields := #[]
  methods := #[]
  instanceTypes := #[]
  staticTypes := #[]
  resolved := #[]
  callSites := []
  init := .initialized
  statics := none
  mirror := none

def pool0 : Array CpInfo := pool [(5, u "<init>"), (0, u "()V"), (1, .class_ 10), (1, u "java/lang/Object")] 113

def k0c0 : Code := { maxStack := 0, maxLocals := 1, code := object_method_1_code, exceptionTable := #[], attributes := #[] }
def k0m0 : Method := { name := "<init>", desc := "()V", sig := { parameters := [], returnType := none }, accessFlags := 1, code := some k0c0 }
/-- java/lang/Object -/
def k0 : Class := { plain "java/lang/Object" none with
  accessFlags := 33
  interfaces := #[]
  cf := some (fileOf pool0 8 #[] #[{ accessFlags := 1, nameIndex := 5, descriptorIndex := 6, attributes := #[] }] 33 0 #[] #[])
  fields := #[]
  methods := #[k0m0]
  instanceTypes := #[]
  staticTypes := #[]
  resolved := Array.replicate 124 none
  statics := none }

def pool1 : Array CpInfo := pool [(2, .class_ 4), (1, u "java/lang/Object"), (0, u "<init>"), (0, u "()V"), (0, .methodref 8 9), (0, .class_ 10), (0, .nameAndType 11 12), (0, u "tenorbook/book/CusipIsValidPinLaw"), (0, u "draw"), (0, u "(I)C"), (0, .integer 65535), (0, .class_ 15), (0, u "java/lang/String"), (0, .methodref 14 17), (0, .nameAndType 5 18), (0, u "([C)V"), (0, .methodref 8 20), (0, .nameAndType 21 22), (0, u "reference"), (0, u "(CCCCCCCCC)Z"), (0, .methodref 24 25), (0, .class_ 26), (0, .nameAndType 27 28), (0, u "tenorbook/book/Cusip"), (0, u "isValid"), (0, u "(Ljava/lang/String;)Z"), (0, .methodref 8 30), (0, .nameAndType 31 12), (0, u "alpha"), (0, .methodref 8 33), (0, .nameAndType 34 35), (0, u "refValue"), (0, u "(C)I"), (0, .methodref 8 37), (0, .nameAndType 38 39), (0, u "ds"), (0, u "(I)I"), (2, u "law"), (0, u "(JJJJII)Z")] 3

def k1m0 : Method := { name := "<init>", desc := "()V", sig := { parameters := [], returnType := none }, accessFlags := 2, code := none }
def k1c1 : Code := { maxStack := 9, maxLocals := 22, code := code, exceptionTable := #[], attributes := #[] }
def k1m1 : Method := { name := "law", desc := "(JJJJII)Z", sig := { parameters := [.long, .long, .long, .long, .int, .int], returnType := some .boolean }, accessFlags := 9, code := some k1c1 }
def k1c2 : Code := { maxStack := 2, maxLocals := 1, code := method_3_code, exceptionTable := #[], attributes := #[] }
def k1m2 : Method := { name := "draw", desc := "(I)C", sig := { parameters := [.int], returnType := some .char }, accessFlags := 10, code := some k1c2 }
def k1c3 : Code := { maxStack := 3, maxLocals := 1, code := method_4_code, exceptionTable := #[], attributes := #[] }
def k1m3 : Method := { name := "alpha", desc := "(I)C", sig := { parameters := [.int], returnType := some .char }, accessFlags := 10, code := some k1c3 }
def k1c4 : Code := { maxStack := 2, maxLocals := 1, code := method_5_code, exceptionTable := #[], attributes := #[] }
def k1m4 : Method := { name := "refValue", desc := "(C)I", sig := { parameters := [.char], returnType := some .int }, accessFlags := 10, code := some k1c4 }
def k1c5 : Code := { maxStack := 4, maxLocals := 1, code := method_6_code, exceptionTable := #[], attributes := #[] }
def k1m5 : Method := { name := "ds", desc := "(I)I", sig := { parameters := [.int], returnType := some .int }, accessFlags := 10, code := some k1c5 }
def k1c6 : Code := { maxStack := 3, maxLocals := 18, code := method_7_code, exceptionTable := #[], attributes := #[] }
def k1m6 : Method := { name := "reference", desc := "(CCCCCCCCC)Z", sig := { parameters := [.char, .char, .char, .char, .char, .char, .char, .char, .char], returnType := some .boolean }, accessFlags := 10, code := some k1c6 }
/-- tenorbook/book/CusipIsValidPinLaw -/
def k1 : Class := { plain "tenorbook/book/CusipIsValidPinLaw" (some 0) with
  accessFlags := 49
  interfaces := #[]
  cf := some (fileOf pool1 8 #[] #[{ accessFlags := 2, nameIndex := 5, descriptorIndex := 6, attributes := #[] }, { accessFlags := 9, nameIndex := 42, descriptorIndex := 43, attributes := #[] }, { accessFlags := 10, nameIndex := 11, descriptorIndex := 12, attributes := #[] }, { accessFlags := 10, nameIndex := 31, descriptorIndex := 12, attributes := #[] }, { accessFlags := 10, nameIndex := 34, descriptorIndex := 35, attributes := #[] }, { accessFlags := 10, nameIndex := 38, descriptorIndex := 39, attributes := #[] }, { accessFlags := 10, nameIndex := 21, descriptorIndex := 22, attributes := #[] }] 49 2 #[] #[])
  fields := #[]
  methods := #[k1m0, k1m1, k1m2, k1m3, k1m4, k1m5, k1m6]
  instanceTypes := #[]
  staticTypes := #[]
  resolved := Array.replicate 47 none
  statics := none }

def pool2 : Array CpInfo := pool [(1, .class_ 2), (0, u "java/io/Serializable"), (0, .class_ 4), (0, u "java/lang/Object")] 2

/-- java/io/Serializable -/
def k2 : Class := { plain "java/io/Serializable" (some 0) with
  accessFlags := 1537
  interfaces := #[]
  cf := some (fileOf pool2 1 #[] #[] 1537 3 #[] #[])
  fields := #[]
  methods := #[]
  instanceTypes := #[]
  staticTypes := #[]
  resolved := Array.replicate 7 none
  statics := none }

def pool3 : Array CpInfo := pool [(1, .class_ 2), (0, u "java/lang/Comparable"), (0, .class_ 4), (0, u "java/lang/Object")] 7

/-- java/lang/Comparable -/
def k3 : Class := { plain "java/lang/Comparable" (some 0) with
  accessFlags := 1537
  interfaces := #[]
  cf := some (fileOf pool3 1 #[] #[] 1537 3 #[] #[])
  fields := #[]
  methods := #[]
  instanceTypes := #[]
  staticTypes := #[]
  resolved := Array.replicate 12 none
  statics := none }

def pool4 : Array CpInfo := pool [(2, .class_ 4), (1, u "java/lang/CharSequence"), (42, .class_ 48), (0, u "java/lang/CharSequence$1CodePointIterator"), (10, .class_ 60), (0, u "java/lang/CharSequence$1CharIterator"), (5, .class_ 67), (0, u "java/lang/Object")] 63

/-- java/lang/CharSequence -/
def k4 : Class := { plain "java/lang/CharSequence" (some 0) with
  accessFlags := 1537
  interfaces := #[]
  cf := some (fileOf pool4 2 #[.nestMembers #[47, 59]] #[] 1537 66 #[] #[])
  fields := #[]
  methods := #[]
  instanceTypes := #[]
  staticTypes := #[]
  resolved := Array.replicate 131 none
  statics := none }

def pool5 : Array CpInfo := pool [(1, .class_ 2), (0, u "java/lang/constant/Constable"), (0, .class_ 4), (0, u "java/lang/Object")] 6

/-- java/lang/constant/Constable -/
def k5 : Class := { plain "java/lang/constant/Constable" (some 0) with
  accessFlags := 1537
  interfaces := #[]
  cf := some (fileOf pool5 1 #[] #[] 1537 3 #[] #[])
  fields := #[]
  methods := #[]
  instanceTypes := #[]
  staticTypes := #[]
  resolved := Array.replicate 11 none
  statics := none }

def pool6 : Array CpInfo := pool [(1, .class_ 2), (0, u "java/lang/constant/ConstantDesc"), (0, .class_ 4), (0, u "java/lang/Object")] 32

/-- java/lang/constant/ConstantDesc -/
def k6 : Class := { plain "java/lang/constant/ConstantDesc" (some 0) with
  accessFlags := 1537
  interfaces := #[]
  cf := some (fileOf pool6 1 #[] #[] 1537 3 #[] #[])
  fields := #[]
  methods := #[]
  instanceTypes := #[]
  staticTypes := #[]
  resolved := Array.replicate 37 none
  statics := none }

def pool7 : Array CpInfo := pool [(1, .methodref 2 3), (0, .class_ 4), (0, .nameAndType 5 6), (0, u "java/lang/Object"), (0, u "<init>"), (0, u "()V"), (0, .string 8), (0, u ""), (0, .fieldref 10 11), (0, .class_ 12), (0, .nameAndType 13 14), (0, u "java/lang/String"), (0, u "value"), (0, u "[B"), (0, .fieldref 10 16), (0, .nameAndType 17 18), (0, u "coder"), (0, u "B"), (2, u "hash"), (0, u "I"), (2, u "hashIsZero"), (0, u "Z"), (0, .methodref 10 28), (0, .nameAndType 5 29), (0, u "([CIILjava/lang/Void;)V"), (8, .fieldref 10 39), (0, .nameAndType 40 26), (0, u "COMPACT_STRINGS"), (1, .class_ 44), (1, u "java/lang/StringUTF16"), (0, u "compress"), (1, .methodref 42 48), (0, .nameAndType 49 50), (0, u "coderFromArrayLen"), (0, u "([BI)B"), (56, .class_ 109), (1, u "java/lang/StringLatin1"), (32, u "()Z"), (34, .methodref 42 178), (0, .nameAndType 45 179), (0, u "([CII)[B"), (154, u "()I"), (0, .methodref 10 336), (0, .nameAndType 17 337), (0, u "()B"), (25, u "([BI)C"), (27, u "(II)V"), (35, u "(I)C"), (64, .methodref 10 493), (0, .nameAndType 494 142), (0, u "isLatin1"), (0, .methodref 107 496), (0, .nameAndType 497 363), (0, u "charAt"), (0, .methodref 42 496), (2, u "checkIndex"), (5, u "length"), (67, .class_ 576), (0, u "java/lang/CharSequence"), (22, u "CASE_INSENSITIVE_ORDER"), (0, u "Ljava/util/Comparator;"), (409, u "([C)V"), (42, .fieldref 1054 1055), (0, .class_ 1056), (0, .nameAndType 1057 1058), (0, u "jdk/internal/util/Preconditions"), (0, u "SIOOBE_FORMATTER"), (0, u "Ljava/util/function/BiFunction;"), (0, .methodref 1054 1060), (0, .nameAndType 501 1061), (0, u "(IILjava/util/function/BiFunction;)I"), (39, u "serialPersistentFields"), (0, u "[Ljava/io/ObjectStreamField;"), (0, .class_ 1104), (0, u "java/lang/String$CaseInsensitiveComparator"), (1, .class_ 1107), (0, u "java/io/Serializable"), (0, .class_ 1109), (0, u "java/lang/Comparable"), (0, .class_ 1111), (0, u "java/lang/constant/Constable"), (0, .class_ 1113), (0, u "java/lang/constant/ConstantDesc"), (2, u "serialVersionUID"), (0, u "J"), (3, u "REPL"), (0, u "C"), (2, u "LATIN1"), (1, u "UTF16")] 323

def k7m0 : Method := { name := "<init>", desc := "()V", sig := { parameters := [], returnType := none }, accessFlags := 1, code := none }
def k7c1 : Code := { maxStack := 5, maxLocals := 2, code := jdk_42_method_3_code, exceptionTable := #[], attributes := #[] }
def k7m1 : Method := { name := "<init>", desc := "([C)V", sig := { parameters := [(.array .char)], returnType := none }, accessFlags := 1, code := some k7c1 }
def k7c2 : Code := { maxStack := 2, maxLocals := 1, code := jdk_42_method_54_code, exceptionTable := #[], attributes := #[] }
def k7m2 : Method := { name := "length", desc := "()I", sig := { parameters := [], returnType := some .int }, accessFlags := 1, code := some k7c2 }
def k7c3 : Code := { maxStack := 2, maxLocals := 2, code := jdk_42_method_56_code, exceptionTable := #[], attributes := #[] }
def k7m3 : Method := { name := "charAt", desc := "(I)C", sig := { parameters := [.int], returnType := some .char }, accessFlags := 1, code := some k7c3 }
def k7c4 : Code := { maxStack := 4, maxLocals := 6, code := jdk_42_method_149_code, exceptionTable := #[], attributes := #[] }
def k7m4 : Method := { name := "<init>", desc := "([CIILjava/lang/Void;)V", sig := { parameters := [(.array .char), .int, .int, (.object "java/lang/Void")], returnType := none }, accessFlags := 2, code := some k7c4 }
def k7c5 : Code := { maxStack := 1, maxLocals := 1, code := jdk_42_method_152_code, exceptionTable := #[], attributes := #[] }
def k7m5 : Method := { name := "coder", desc := "()B", sig := { parameters := [], returnType := some .byte }, accessFlags := 0, code := some k7c5 }
def k7c6 : Code := { maxStack := 1, maxLocals := 1, code := jdk_42_method_154_code, exceptionTable := #[], attributes := #[] }
def k7m6 : Method := { name := "isLatin1", desc := "()Z", sig := { parameters := [], returnType := some .boolean }, accessFlags := 0, code := some k7c6 }
def k7c7 : Code := { maxStack := 3, maxLocals := 2, code := jdk_42_method_155_code, exceptionTable := #[], attributes := #[] }
def k7m7 : Method := { name := "checkIndex", desc := "(II)V", sig := { parameters := [.int, .int], returnType := none }, accessFlags := 8, code := some k7c7 }
/-- java/lang/String -/
def k7 : Class := { plain "java/lang/String" (some 0) with
  accessFlags := 49
  interfaces := #[2, 3, 4, 5, 6]
  cf := some (fileOf pool7 10 #[.nestMembers #[1103]] #[{ accessFlags := 1, nameIndex := 5, descriptorIndex := 6, attributes := #[] }, { accessFlags := 1, nameIndex := 5, descriptorIndex := 1010, attributes := #[] }, { accessFlags := 1, nameIndex := 507, descriptorIndex := 334, attributes := #[] }, { accessFlags := 1, nameIndex := 497, descriptorIndex := 427, attributes := #[] }, { accessFlags := 2, nameIndex := 5, descriptorIndex := 29, attributes := #[] }, { accessFlags := 0, nameIndex := 17, descriptorIndex := 337, attributes := #[] }, { accessFlags := 0, nameIndex := 494, descriptorIndex := 142, attributes := #[] }, { accessFlags := 8, nameIndex := 501, descriptorIndex := 391, attributes := #[] }] 49 2 #[1106, 1108, 575, 1110, 1112] #[{ accessFlags := 18, nameIndex := 13, descriptorIndex := 14, attributes := #[] }, { accessFlags := 18, nameIndex := 17, descriptorIndex := 18, attributes := #[] }, { accessFlags := 2, nameIndex := 21, descriptorIndex := 22, attributes := #[] }, { accessFlags := 2, nameIndex := 25, descriptorIndex := 26, attributes := #[] }, { accessFlags := 26, nameIndex := 1116, descriptorIndex := 1117, attributes := #[] }, { accessFlags := 24, nameIndex := 40, descriptorIndex := 26, attributes := #[] }, { accessFlags := 26, nameIndex := 1101, descriptorIndex := 1102, attributes := #[] }, { accessFlags := 26, nameIndex := 1121, descriptorIndex := 1122, attributes := #[] }, { accessFlags := 25, nameIndex := 599, descriptorIndex := 600, attributes := #[] }, { accessFlags := 24, nameIndex := 1125, descriptorIndex := 18, attributes := #[] }, { accessFlags := 24, nameIndex := 1127, descriptorIndex := 18, attributes := #[] }])
  fields := #[{ name := "value", type := (.array .byte), accessFlags := 18, slot := 0, constantValue := 0 }, { name := "coder", type := .byte, accessFlags := 18, slot := 1, constantValue := 0 }, { name := "hash", type := .int, accessFlags := 2, slot := 2, constantValue := 0 }, { name := "hashIsZero", type := .boolean, accessFlags := 2, slot := 3, constantValue := 0 }, { name := "serialVersionUID", type := .long, accessFlags := 26, slot := 0, constantValue := 0 }, { name := "COMPACT_STRINGS", type := .boolean, accessFlags := 24, slot := 1, constantValue := 0 }, { name := "serialPersistentFields", type := (.array (.object "java/io/ObjectStreamField")), accessFlags := 26, slot := 2, constantValue := 0 }, { name := "REPL", type := .char, accessFlags := 26, slot := 3, constantValue := 0 }, { name := "CASE_INSENSITIVE_ORDER", type := (.object "java/util/Comparator"), accessFlags := 25, slot := 4, constantValue := 0 }, { name := "LATIN1", type := .byte, accessFlags := 24, slot := 5, constantValue := 0 }, { name := "UTF16", type := .byte, accessFlags := 24, slot := 6, constantValue := 0 }]
  methods := #[k7m0, k7m1, k7m2, k7m3, k7m4, k7m5, k7m6, k7m7]
  instanceTypes := #[(.array .byte), .byte, .int, .boolean]
  staticTypes := #[.long, .boolean, (.array (.object "java/io/ObjectStreamField")), .char, (.object "java/util/Comparator"), .byte, .byte]
  resolved := Array.replicate 1451 none
  statics := some 0 }

def pool8 : Array CpInfo := pool [(3, .class_ 4), (0, u "java/lang/String"), (1, .class_ 8), (1, u "java/lang/Object"), (0, u "<init>"), (0, u "()V"), (0, .methodref 12 13), (0, .class_ 14), (0, .nameAndType 15 16), (0, u "java/lang/StringUTF16"), (0, u "newBytesLength"), (0, u "(I)I"), (3, .integer 1073741823), (23, .fieldref 12 45), (0, .nameAndType 46 47), (0, u "$assertionsDisabled"), (0, u "Z"), (0, .methodref 12 49), (0, .nameAndType 50 51), (0, u "length"), (0, u "([B)I"), (7, .fieldref 12 60), (0, .nameAndType 61 62), (0, u "HI_BYTE_SHIFT"), (0, u "I"), (0, .fieldref 12 64), (0, .nameAndType 65 62), (0, u "LO_BYTE_SHIFT"), (1, .methodref 12 68), (0, .nameAndType 69 70), (0, u "checkIndex"), (0, u "(I[B)V"), (0, .methodref 12 72), (0, .nameAndType 73 74), (0, u "getChar"), (0, u "([BI)C"), (32, .methodref 12 108), (0, .nameAndType 109 110), (0, u "newBytesFor"), (0, u "(I)[B"), (0, .methodref 12 112), (0, .nameAndType 113 114), (0, u "putChar"), (0, u "([BII)V"), (0, .methodref 12 116), (0, .nameAndType 117 118), (0, u "compress"), (0, u "([CI[BII)I"), (0, .methodref 12 120), (0, .nameAndType 121 122), (0, u "toBytes"), (0, u "([CII)[B"), (138, u "coderFromArrayLen"), (0, u "([BI)B"), (106, .class_ 371), (1, u "java/lang/StringUTF16$LinesSpliterator"), (20, u "charAt"), (21, .methodref 3 415), (0, .nameAndType 69 416), (0, u "(II)V"), (13, u "MAX_LENGTH"), (196, .class_ 628), (0, u "java/lang/StringUTF16$CodePointsSpliterator"), (0, .class_ 630), (0, u "java/lang/StringUTF16$CharsSpliterator")] 4

def k8m0 : Method := { name := "<init>", desc := "()V", sig := { parameters := [], returnType := none }, accessFlags := 0, code := none }
def k8c1 : Code := { maxStack := 1, maxLocals := 1, code := jdk_52_method_2_code, exceptionTable := #[], attributes := #[] }
def k8m1 : Method := { name := "newBytesFor", desc := "(I)[B", sig := { parameters := [.int], returnType := some (.array .byte) }, accessFlags := 9, code := some k8c1 }
def k8c2 : Code := { maxStack := 4, maxLocals := 1, code := jdk_52_method_3_code, exceptionTable := #[], attributes := #[] }
def k8m2 : Method := { name := "newBytesLength", desc := "(I)I", sig := { parameters := [.int], returnType := some .int }, accessFlags := 9, code := some k8c2 }
def k8c3 : Code := { maxStack := 4, maxLocals := 3, code := jdk_52_method_4_code, exceptionTable := #[], attributes := #[] }
def k8m3 : Method := { name := "putChar", desc := "([BII)V", sig := { parameters := [(.array .byte), .int, .int], returnType := none }, accessFlags := 8, code := some k8c3 }
def k8c4 : Code := { maxStack := 3, maxLocals := 2, code := jdk_52_method_5_code, exceptionTable := #[], attributes := #[] }
def k8m4 : Method := { name := "getChar", desc := "([BI)C", sig := { parameters := [(.array .byte), .int], returnType := some .char }, accessFlags := 8, code := some k8c4 }
def k8c5 : Code := { maxStack := 2, maxLocals := 1, code := jdk_52_method_6_code, exceptionTable := #[], attributes := #[] }
def k8m5 : Method := { name := "length", desc := "([B)I", sig := { parameters := [(.array .byte)], returnType := some .int }, accessFlags := 9, code := some k8c5 }
def k8c6 : Code := { maxStack := 4, maxLocals := 5, code := jdk_52_method_14_code, exceptionTable := #[], attributes := #[] }
def k8m6 : Method := { name := "toBytes", desc := "([CII)[B", sig := { parameters := [(.array .char), .int, .int], returnType := some (.array .byte) }, accessFlags := 9, code := some k8c6 }
def k8c7 : Code := { maxStack := 2, maxLocals := 2, code := jdk_52_method_15_code, exceptionTable := #[], attributes := #[] }
def k8m7 : Method := { name := "coderFromArrayLen", desc := "([BI)B", sig := { parameters := [(.array .byte), .int], returnType := some .byte }, accessFlags := 8, code := some k8c7 }
def k8c8 : Code := { maxStack := 5, maxLocals := 6, code := jdk_52_method_16_code, exceptionTable := #[], attributes := #[] }
def k8m8 : Method := { name := "compress", desc := "([CII)[B", sig := { parameters := [(.array .char), .int, .int], returnType := some (.array .byte) }, accessFlags := 9, code := some k8c8 }
def k8c9 : Code := { maxStack := 3, maxLocals := 7, code := jdk_52_method_21_code, exceptionTable := #[], attributes := #[] }
def k8m9 : Method := { name := "compress", desc := "([CI[BII)I", sig := { parameters := [(.array .char), .int, (.array .byte), .int, .int], returnType := some .int }, accessFlags := 9, code := some k8c9 }
def k8c10 : Code := { maxStack := 2, maxLocals := 2, code := jdk_52_method_83_code, exceptionTable := #[], attributes := #[] }
def k8m10 : Method := { name := "charAt", desc := "([BI)C", sig := { parameters := [(.array .byte), .int], returnType := some .char }, accessFlags := 9, code := some k8c10 }
def k8c11 : Code := { maxStack := 2, maxLocals := 2, code := jdk_52_method_91_code, exceptionTable := #[], attributes := #[] }
def k8m11 : Method := { name := "checkIndex", desc := "(I[B)V", sig := { parameters := [.int, (.array .byte)], returnType := none }, accessFlags := 9, code := some k8c11 }
/-- java/lang/StringUTF16 -/
def k8 : Class := { plain "java/lang/StringUTF16" (some 0) with
  accessFlags := 48
  interfaces := #[]
  cf := some (fileOf pool8 12 #[.nestMembers #[627, 629, 369]] #[{ accessFlags := 0, nameIndex := 9, descriptorIndex := 10, attributes := #[] }, { accessFlags := 9, nameIndex := 109, descriptorIndex := 110, attributes := #[] }, { accessFlags := 9, nameIndex := 15, descriptorIndex := 16, attributes := #[] }, { accessFlags := 8, nameIndex := 113, descriptorIndex := 114, attributes := #[] }, { accessFlags := 8, nameIndex := 73, descriptorIndex := 74, attributes := #[] }, { accessFlags := 9, nameIndex := 50, descriptorIndex := 51, attributes := #[] }, { accessFlags := 9, nameIndex := 121, descriptorIndex := 122, attributes := #[] }, { accessFlags := 8, nameIndex := 261, descriptorIndex := 262, attributes := #[] }, { accessFlags := 9, nameIndex := 117, descriptorIndex := 122, attributes := #[] }, { accessFlags := 9, nameIndex := 117, descriptorIndex := 118, attributes := #[] }, { accessFlags := 9, nameIndex := 392, descriptorIndex := 74, attributes := #[] }, { accessFlags := 9, nameIndex := 69, descriptorIndex := 70, attributes := #[] }] 48 6 #[] #[{ accessFlags := 26, nameIndex := 61, descriptorIndex := 62, attributes := #[] }, { accessFlags := 26, nameIndex := 65, descriptorIndex := 62, attributes := #[] }, { accessFlags := 24, nameIndex := 430, descriptorIndex := 62, attributes := #[] }, { accessFlags := 4120, nameIndex := 46, descriptorIndex := 47, attributes := #[] }])
  fields := #[{ name := "HI_BYTE_SHIFT", type := .int, accessFlags := 26, slot := 0, constantValue := 0 }, { name := "LO_BYTE_SHIFT", type := .int, accessFlags := 26, slot := 1, constantValue := 0 }, { name := "MAX_LENGTH", type := .int, accessFlags := 24, slot := 2, constantValue := 0 }, { name := "$assertionsDisabled", type := .boolean, accessFlags := 4120, slot := 3, constantValue := 0 }]
  methods := #[k8m0, k8m1, k8m2, k8m3, k8m4, k8m5, k8m6, k8m7, k8m8, k8m9, k8m10, k8m11]
  instanceTypes := #[]
  staticTypes := #[.int, .int, .int, .boolean]
  resolved := Array.replicate 635 none
  statics := some 1 }

def pool9 : Array CpInfo := pool [(2, .class_ 4), (1, u "java/lang/Object"), (0, u "<init>"), (0, u "()V"), (0, .methodref 8 9), (0, .class_ 10), (0, .nameAndType 11 12), (0, u "java/lang/String"), (0, u "length"), (0, u "()I"), (0, .class_ 14), (0, u "tenorbook/book/Cusip"), (0, .methodref 8 16), (0, .nameAndType 17 18), (0, u "charAt"), (0, u "(I)C"), (0, .methodref 13 20), (0, .nameAndType 21 22), (0, u "value"), (0, u "(C)I"), (0, u "LENGTH"), (0, u "I"), (4, u "isValid"), (0, u "(Ljava/lang/String;)Z")] 3

def k9m0 : Method := { name := "<init>", desc := "()V", sig := { parameters := [], returnType := none }, accessFlags := 2, code := none }
def k9c1 : Code := { maxStack := 5, maxLocals := 5, code := prog_8_method_2_code, exceptionTable := #[], attributes := #[] }
def k9m1 : Method := { name := "isValid", desc := "(Ljava/lang/String;)Z", sig := { parameters := [(.object "java/lang/String")], returnType := some .boolean }, accessFlags := 8, code := some k9c1 }
def k9c2 : Code := { maxStack := 2, maxLocals := 1, code := prog_8_method_3_code, exceptionTable := #[], attributes := #[] }
def k9m2 : Method := { name := "value", desc := "(C)I", sig := { parameters := [.char], returnType := some .int }, accessFlags := 10, code := some k9c2 }
/-- tenorbook/book/Cusip -/
def k9 : Class := { plain "tenorbook/book/Cusip" (some 0) with
  accessFlags := 48
  interfaces := #[]
  cf := some (fileOf pool9 13 #[] #[{ accessFlags := 2, nameIndex := 5, descriptorIndex := 6, attributes := #[] }, { accessFlags := 8, nameIndex := 29, descriptorIndex := 30, attributes := #[] }, { accessFlags := 10, nameIndex := 21, descriptorIndex := 22, attributes := #[] }] 48 2 #[] #[{ accessFlags := 24, nameIndex := 23, descriptorIndex := 24, attributes := #[] }])
  fields := #[{ name := "LENGTH", type := .int, accessFlags := 24, slot := 0, constantValue := 0 }]
  methods := #[k9m0, k9m1, k9m2]
  instanceTypes := #[]
  staticTypes := #[.int]
  resolved := Array.replicate 34 none
  statics := none }

def pool10 : Array CpInfo := pool [(2, .class_ 4), (1, u "java/lang/Object"), (0, u "<init>"), (0, u "()V"), (17, .class_ 26), (1, u "jdk/internal/util/Preconditions"), (6, u "checkIndex"), (21, .class_ 56), (0, u "jdk/internal/util/Preconditions$4"), (57, .class_ 115), (0, u "jdk/internal/util/Preconditions$1"), (7, u "SIOOBE_FORMATTER"), (0, u "Ljava/util/function/BiFunction;"), (0, .class_ 126), (0, u "jdk/internal/util/Preconditions$2"), (3, u "AIOOBE_FORMATTER"), (0, .class_ 132), (0, u "jdk/internal/util/Preconditions$3"), (3, u "IOOBE_FORMATTER"), (41, u "(IILjava/util/function/BiFunction;)I")] 15

def k10m0 : Method := { name := "<init>", desc := "()V", sig := { parameters := [], returnType := none }, accessFlags := 1, code := none }
def k10c1 : Code := { maxStack := 3, maxLocals := 3, code := jdk_41_method_11_code, exceptionTable := #[], attributes := #[] }
def k10m1 : Method := { name := "checkIndex", desc := "(IILjava/util/function/BiFunction;)I", sig := { parameters := [.int, .int, (.object "java/util/function/BiFunction")], returnType := some .int }, accessFlags := 9, code := some k10c1 }
/-- jdk/internal/util/Preconditions -/
def k10 : Class := { plain "jdk/internal/util/Preconditions" (some 0) with
  accessFlags := 33
  interfaces := #[]
  cf := some (fileOf pool10 24 #[.nestMembers #[55, 131, 125, 114]] #[{ accessFlags := 1, nameIndex := 5, descriptorIndex := 6, attributes := #[] }, { accessFlags := 9, nameIndex := 33, descriptorIndex := 178, attributes := #[] }] 33 2 #[] #[{ accessFlags := 25, nameIndex := 123, descriptorIndex := 124, attributes := #[] }, { accessFlags := 25, nameIndex := 130, descriptorIndex := 124, attributes := #[] }, { accessFlags := 25, nameIndex := 136, descriptorIndex := 124, attributes := #[] }])
  fields := #[{ name := "SIOOBE_FORMATTER", type := (.object "java/util/function/BiFunction"), accessFlags := 25, slot := 0, constantValue := 0 }, { name := "AIOOBE_FORMATTER", type := (.object "java/util/function/BiFunction"), accessFlags := 25, slot := 1, constantValue := 0 }, { name := "IOOBE_FORMATTER", type := (.object "java/util/function/BiFunction"), accessFlags := 25, slot := 2, constantValue := 0 }]
  methods := #[k10m0, k10m1]
  instanceTypes := #[]
  staticTypes := #[(.object "java/util/function/BiFunction"), (.object "java/util/function/BiFunction"), (.object "java/util/function/BiFunction")]
  resolved := Array.replicate 194 none
  statics := some 2 }

def pool11 : Array CpInfo := pool [(1, .class_ 2), (0, u "java/lang/String"), (1, .class_ 6), (1, u "java/lang/Object"), (0, u "<init>"), (0, u "()V"), (0, .methodref 1 10), (0, .nameAndType 11 12), (0, u "checkIndex"), (0, u "(II)V"), (1, .class_ 16), (1, u "java/lang/StringLatin1"), (36, u "([BI)C"), (67, u "$assertionsDisabled"), (0, u "Z"), (98, .class_ 223), (1, u "java/lang/StringLatin1$LinesSpliterator"), (28, u "charAt"), (137, .class_ 391), (0, u "java/lang/StringLatin1$CharsSpliterator")] 3

def k11m0 : Method := { name := "<init>", desc := "()V", sig := { parameters := [], returnType := none }, accessFlags := 0, code := none }
def k11c1 : Code := { maxStack := 2, maxLocals := 2, code := jdk_43_method_2_code, exceptionTable := #[], attributes := #[] }
def k11m1 : Method := { name := "charAt", desc := "([BI)C", sig := { parameters := [(.array .byte), .int], returnType := some .char }, accessFlags := 9, code := some k11c1 }
/-- java/lang/StringLatin1 -/
def k11 : Class := { plain "java/lang/StringLatin1" (some 0) with
  accessFlags := 48
  interfaces := #[]
  cf := some (fileOf pool11 14 #[.nestMembers #[390, 221]] #[{ accessFlags := 0, nameIndex := 7, descriptorIndex := 8, attributes := #[] }, { accessFlags := 9, nameIndex := 252, descriptorIndex := 53, attributes := #[] }] 48 4 #[] #[{ accessFlags := 4120, nameIndex := 121, descriptorIndex := 122, attributes := #[] }])
  fields := #[{ name := "$assertionsDisabled", type := .boolean, accessFlags := 4120, slot := 0, constantValue := 0 }]
  methods := #[k11m0, k11m1]
  instanceTypes := #[]
  staticTypes := #[.boolean]
  resolved := Array.replicate 395 none
  statics := none }

def pool12 : Array CpInfo := pool [(9, u "<init>"), (6, .class_ 18), (1, u "java/lang/Object"), (0, u "()V"), (1, .class_ 23), (1, u "jdk/internal/util/ArraysSupport"), (0, u "LOG2_ARRAY_LONG_INDEX_SCALE"), (0, u "I"), (2, u "U"), (0, u "Ljdk/internal/misc/Unsafe;"), (8, u "BIG_ENDIAN"), (0, u "Z"), (8, u "LOG2_BYTE_BIT_SIZE"), (4, u "LOG2_ARRAY_INT_INDEX_SCALE"), (54, u "JLA"), (0, u "Ljdk/internal/access/JavaLangAccess;"), (11, u "LOG2_ARRAY_BOOLEAN_INDEX_SCALE"), (9, u "LOG2_ARRAY_BYTE_INDEX_SCALE"), (5, u "LOG2_ARRAY_CHAR_INDEX_SCALE"), (5, u "LOG2_ARRAY_SHORT_INDEX_SCALE"), (18, u "LOG2_ARRAY_FLOAT_INDEX_SCALE"), (24, u "LOG2_ARRAY_DOUBLE_INDEX_SCALE"), (89, u "T_BOOLEAN"), (2, u "T_CHAR"), (1, u "T_FLOAT"), (1, u "T_DOUBLE"), (1, u "T_BYTE"), (1, u "T_SHORT"), (1, u "T_INT"), (1, u "T_LONG"), (1, u "SOFT_MAX_ARRAY_LENGTH")] 83

def k12m0 : Method := { name := "<init>", desc := "()V", sig := { parameters := [], returnType := none }, accessFlags := 2, code := none }
/-- jdk/internal/util/ArraysSupport -/
def k12 : Class := { plain "jdk/internal/util/ArraysSupport" (some 0) with
  accessFlags := 33
  interfaces := #[]
  cf := some (fileOf pool12 21 #[] #[{ accessFlags := 2, nameIndex := 9, descriptorIndex := 19, attributes := #[] }] 33 16 #[] #[{ accessFlags := 24, nameIndex := 28, descriptorIndex := 29, attributes := #[] }, { accessFlags := 26, nameIndex := 38, descriptorIndex := 39, attributes := #[] }, { accessFlags := 25, nameIndex := 121, descriptorIndex := 25, attributes := #[] }, { accessFlags := 25, nameIndex := 131, descriptorIndex := 25, attributes := #[] }, { accessFlags := 25, nameIndex := 137, descriptorIndex := 25, attributes := #[] }, { accessFlags := 25, nameIndex := 143, descriptorIndex := 25, attributes := #[] }, { accessFlags := 25, nameIndex := 53, descriptorIndex := 25, attributes := #[] }, { accessFlags := 25, nameIndex := 24, descriptorIndex := 25, attributes := #[] }, { accessFlags := 25, nameIndex := 162, descriptorIndex := 25, attributes := #[] }, { accessFlags := 25, nameIndex := 187, descriptorIndex := 25, attributes := #[] }, { accessFlags := 26, nameIndex := 48, descriptorIndex := 25, attributes := #[] }, { accessFlags := 25, nameIndex := 277, descriptorIndex := 25, attributes := #[] }, { accessFlags := 25, nameIndex := 280, descriptorIndex := 25, attributes := #[] }, { accessFlags := 25, nameIndex := 282, descriptorIndex := 25, attributes := #[] }, { accessFlags := 25, nameIndex := 284, descriptorIndex := 25, attributes := #[] }, { accessFlags := 25, nameIndex := 286, descriptorIndex := 25, attributes := #[] }, { accessFlags := 25, nameIndex := 288, descriptorIndex := 25, attributes := #[] }, { accessFlags := 25, nameIndex := 290, descriptorIndex := 25, attributes := #[] }, { accessFlags := 25, nameIndex := 292, descriptorIndex := 25, attributes := #[] }, { accessFlags := 26, nameIndex := 108, descriptorIndex := 109, attributes := #[] }, { accessFlags := 25, nameIndex := 294, descriptorIndex := 25, attributes := #[] }])
  fields := #[{ name := "U", type := (.object "jdk/internal/misc/Unsafe"), accessFlags := 24, slot := 0, constantValue := 0 }, { name := "BIG_ENDIAN", type := .boolean, accessFlags := 26, slot := 1, constantValue := 0 }, { name := "LOG2_ARRAY_BOOLEAN_INDEX_SCALE", type := .int, accessFlags := 25, slot := 2, constantValue := 0 }, { name := "LOG2_ARRAY_BYTE_INDEX_SCALE", type := .int, accessFlags := 25, slot := 3, constantValue := 0 }, { name := "LOG2_ARRAY_CHAR_INDEX_SCALE", type := .int, accessFlags := 25, slot := 4, constantValue := 0 }, { name := "LOG2_ARRAY_SHORT_INDEX_SCALE", type := .int, accessFlags := 25, slot := 5, constantValue := 0 }, { name := "LOG2_ARRAY_INT_INDEX_SCALE", type := .int, accessFlags := 25, slot := 6, constantValue := 0 }, { name := "LOG2_ARRAY_LONG_INDEX_SCALE", type := .int, accessFlags := 25, slot := 7, constantValue := 0 }, { name := "LOG2_ARRAY_FLOAT_INDEX_SCALE", type := .int, accessFlags := 25, slot := 8, constantValue := 0 }, { name := "LOG2_ARRAY_DOUBLE_INDEX_SCALE", type := .int, accessFlags := 25, slot := 9, constantValue := 0 }, { name := "LOG2_BYTE_BIT_SIZE", type := .int, accessFlags := 26, slot := 10, constantValue := 0 }, { name := "T_BOOLEAN", type := .int, accessFlags := 25, slot := 11, constantValue := 0 }, { name := "T_CHAR", type := .int, accessFlags := 25, slot := 12, constantValue := 0 }, { name := "T_FLOAT", type := .int, accessFlags := 25, slot := 13, constantValue := 0 }, { name := "T_DOUBLE", type := .int, accessFlags := 25, slot := 14, constantValue := 0 }, { name := "T_BYTE", type := .int, accessFlags := 25, slot := 15, constantValue := 0 }, { name := "T_SHORT", type := .int, accessFlags := 25, slot := 16, constantValue := 0 }, { name := "T_INT", type := .int, accessFlags := 25, slot := 17, constantValue := 0 }, { name := "T_LONG", type := .int, accessFlags := 25, slot := 18, constantValue := 0 }, { name := "JLA", type := (.object "jdk/internal/access/JavaLangAccess"), accessFlags := 26, slot := 19, constantValue := 0 }, { name := "SOFT_MAX_ARRAY_LENGTH", type := .int, accessFlags := 25, slot := 20, constantValue := 0 }]
  methods := #[k12m0]
  instanceTypes := #[]
  staticTypes := #[(.object "jdk/internal/misc/Unsafe"), .boolean, .int, .int, .int, .int, .int, .int, .int, .int, .int, .int, .int, .int, .int, .int, .int, .int, .int, (.object "jdk/internal/access/JavaLangAccess"), .int]
  resolved := Array.replicate 378 none
  statics := none }

def pool13 : Array CpInfo := pool [(1, u "java/lang/Cloneable"), (0, .class_ 1), (0, u "java/lang/Object"), (0, .class_ 3)] 3

/-- java/lang/Cloneable -/
def k13 : Class := { plain "java/lang/Cloneable" (some 0) with
  accessFlags := 1537
  interfaces := #[]
  cf := some (fileOf pool13 2 #[] #[] 1537 4 #[] #[])
  fields := #[]
  methods := #[]
  instanceTypes := #[]
  staticTypes := #[]
  resolved := Array.replicate 8 none
  statics := none }

/-- the primitive byte -/
def k14 : Class := { plain "byte" none with kind := .primitive 'B', accessFlags := 0x411 }
/-- [B -/
def k15 : Class := { plain "[B" (some 0) with kind := .array 14 .byte, interfaces := #[13, 2], accessFlags := 1041 }

/-- the primitive char -/
def k16 : Class := { plain "char" none with kind := .primitive 'C', accessFlags := 0x411 }
/-- [C -/
def k17 : Class := { plain "[C" (some 0) with kind := .array 16 .char, interfaces := #[13, 2], accessFlags := 1041 }

/-- the primitive int -/
def k18 : Class := { plain "int" none with kind := .primitive 'I', accessFlags := 0x411 }
/-- [I -/
def k19 : Class := { plain "[I" (some 0) with kind := .array 18 .int, interfaces := #[13, 2], accessFlags := 1041 }

def heap : Heap := #[{ cls := 7, slots := #[.long 0, .int 1, .null, .int 0, .null, .int 0, .int 0], vm := .statics 7 },
  { cls := 8, slots := #[.int 0, .int 8, .int 0, .int 1], vm := .statics 8 },
  { cls := 10, slots := #[.null, .null, .null], vm := .statics 10 }]
def classes : Array Class := #[k0, k1, k2, k3, k4, k5, k6, k7, k8, k9, k10, k11, k12, k13, k14, k15, k16, k17, k18, k19]
def interned : List (Array UInt16 × Addr) := []
def slotsUsed : Nat := 14
def theMethod : MethodId := ⟨1, 1⟩
def args0 : Array Value := #[.long 5, .long 7, .long 1, .long 2, .int 3, .int 4]
def aboutOver (below : List Frame) : State where
  vm := { classes := classes, interned := interned.toArray }
  heap := heap
  slotsUsed := slotsUsed
  threads := #[{ frames := .invoking theMethod args0 :: below }]
def below0 : List Frame := [.native { method := ⟨0, 0⟩, args := #[] }]
def about1 : State := aboutOver below0
def p0 : Program := .bare "" "" ""
def e0 : Env := launch0.env 0 0 0
theorem w_frames : about1.frames = Frame.invoking theMethod args0 :: below0 := rfl
set_option maxRecDepth 65536 in
theorem w_args : argsFit about1.vm theMethod args0 = true := by decide +kernel
set_option maxRecDepth 65536 in
theorem w_heap : heapFits about1 = true := by decide +kernel
set_option maxRecDepth 65536 in
theorem w_runnable : about1.curStatus? = some .runnable := by decide +kernel
set_option maxRecDepth 65536 in
theorem w_alone : about1.alone = true := by decide +kernel
set_option maxRecDepth 65536 in
theorem w_named : about1.methodNamed? x = some theMethod := by decide +kernel
set_option maxRecDepth 65536 in
theorem w_hears : about1.hears theMethod below0 = true := by decide +kernel
set_option maxRecDepth 65536 in
theorem w_ripe : about1.ripe theMethod args0 below0 = true := by decide +kernel
theorem w_running : about1.status = .running := rfl
set_option maxRecDepth 65536 in
theorem w_room : about1.hasRoom e0.platform room_1 = true :=
  launch0.hasRoom_least _ room_1 (by decide +kernel) (by decide +kernel) (by decide +kernel) (by decide +kernel) (by decide +kernel) (by decide +kernel)
theorem allAtoms_all (ts : List Jvm.Cond) (a : Array Jvm.Value) (st : Jvm.State) : (allAtoms ts).before a st = ts.all (fun c => c.before a st) := by
  induction ts with
  | nil => rfl
  | cons c t ih =>
    show (Jvm.Cond.and c (allAtoms t)).before a st = _
    rw [Jvm.Cond.before_and, ih, List.all_cons]
def words1 : List Jvm.Cond := Jvm.Cond.code x code maxLocals ret :: tables_1
/-- a 'code' word, met by the world's own term for the bytes: nothing is compared byte by byte -/
theorem code_word {y : MethodName} {bytes : ByteArray} {mx : Nat} {rt : Option FieldType} {a : Array Value} {s : State} {m : MethodId} {meth : Method} {c : Code} (h1 : s.methodNamed? y = some m) (h2 : s.vm.method? m = some meth) (h3 : meth.code = some c) (h4 : c.code = bytes)
    (h5 : (c.maxLocals == mx && c.exceptionTable.isEmpty && decide (c.maxStack ≤ mostOperands) && decide (meth.sig.returnType = rt) && !meth.locks && decide (parseMethodDescriptor y.desc = some meth.sig)) = true) : (Jvm.Cond.code y bytes mx rt).before a s = true := by
  simp only [Bool.and_eq_true, beq_iff_eq, Bool.not_eq_true', decide_eq_true_eq] at h5
  obtain ⟨⟨⟨⟨⟨g1, g2⟩, g3⟩, g4⟩, g5⟩, g6⟩ := h5
  simp [Cond.before, Cond.holds, Cond.value, h1, h2, h3, h4, g1, g2, g3, g4, g5, g6]
def isCode : Jvm.Cond → Bool
  | .code _ _ _ _ => true
  | _ => false
theorem all_split {L : List Jvm.Cond} {P : Jvm.Cond → Bool} (h1 : L.all (fun c => isCode c || P c) = true) (h2 : ∀ c ∈ L.filter isCode, P c = true) : L.all P = true := by
  refine List.all_eq_true.mpr fun c hc => ?_
  have h := List.all_eq_true.mp h1 c hc
  rcases Bool.eq_false_or_eq_true (isCode c) with hi | hi
  · exact h2 c (List.mem_filter.mpr ⟨hc, hi⟩)
  · simpa [hi] using h
set_option maxRecDepth 65536 in
theorem w_c0 : (Jvm.Cond.code x code maxLocals ret).before args0 about1 = true := code_word (m := ⟨1, 1⟩) (meth := k1m1) (c := k1c1) (by decide +kernel) rfl rfl rfl (by decide +kernel)
set_option maxRecDepth 65536 in
theorem w_c1 : (Jvm.Cond.code ({ cls := "tenorbook/book/CusipIsValidPinLaw", name := "draw", desc := "(I)C" } : Jvm.MethodName) method_3_code (1 : Nat) (Option.some Jvm.ClassFile.FieldType.char)).before args0 about1 = true := code_word (m := ⟨1, 2⟩) (meth := k1m2) (c := k1c2) (by decide +kernel) rfl rfl rfl (by decide +kernel)
set_option maxRecDepth 65536 in
theorem w_c2 : (Jvm.Cond.code ({ cls := "java/lang/String", name := "<init>", desc := "([C)V" } : Jvm.MethodName) jdk_42_method_3_code (2 : Nat) (Option.none : Option Jvm.ClassFile.FieldType)).before args0 about1 = true := code_word (m := ⟨7, 1⟩) (meth := k7m1) (c := k7c1) (by decide +kernel) rfl rfl rfl (by decide +kernel)
set_option maxRecDepth 65536 in
theorem w_c3 : (Jvm.Cond.code ({ cls := "java/lang/String", name := "<init>", desc := "([CIILjava/lang/Void;)V" } : Jvm.MethodName) jdk_42_method_149_code (6 : Nat) (Option.none : Option Jvm.ClassFile.FieldType)).before args0 about1 = true := code_word (m := ⟨7, 4⟩) (meth := k7m4) (c := k7c4) (by decide +kernel) rfl rfl rfl (by decide +kernel)
set_option maxRecDepth 65536 in
theorem w_c4 : (Jvm.Cond.code ({ cls := "java/lang/Object", name := "<init>", desc := "()V" } : Jvm.MethodName) object_method_1_code (1 : Nat) (Option.none : Option Jvm.ClassFile.FieldType)).before args0 about1 = true := code_word (m := ⟨0, 0⟩) (meth := k0m0) (c := k0c0) (by decide +kernel) rfl rfl rfl (by decide +kernel)
set_option maxRecDepth 65536 in
theorem w_c5 : (Jvm.Cond.code ({ cls := "java/lang/StringUTF16", name := "compress", desc := "([CII)[B" } : Jvm.MethodName) jdk_52_method_16_code (6 : Nat) (Option.some (Jvm.ClassFile.FieldType.array Jvm.ClassFile.FieldType.byte))).before args0 about1 = true := code_word (m := ⟨8, 8⟩) (meth := k8m8) (c := k8c8) (by decide +kernel) rfl rfl rfl (by decide +kernel)
set_option maxRecDepth 65536 in
theorem w_c6 : (Jvm.Cond.code ({ cls := "java/lang/StringUTF16", name := "compress", desc := "([CI[BII)I" } : Jvm.MethodName) jdk_52_method_21_code (7 : Nat) (Option.some Jvm.ClassFile.FieldType.int)).before args0 about1 = true := code_word (m := ⟨8, 9⟩) (meth := k8m9) (c := k8c9) (by decide +kernel) rfl rfl rfl (by decide +kernel)
set_option maxRecDepth 65536 in
theorem w_c7 : (Jvm.Cond.code ({ cls := "java/lang/StringUTF16", name := "toBytes", desc := "([CII)[B" } : Jvm.MethodName) jdk_52_method_14_code (5 : Nat) (Option.some (Jvm.ClassFile.FieldType.array Jvm.ClassFile.FieldType.byte))).before args0 about1 = true := code_word (m := ⟨8, 6⟩) (meth := k8m6) (c := k8c6) (by decide +kernel) rfl rfl rfl (by decide +kernel)
set_option maxRecDepth 65536 in
theorem w_c8 : (Jvm.Cond.code ({ cls := "java/lang/StringUTF16", name := "newBytesFor", desc := "(I)[B" } : Jvm.MethodName) jdk_52_method_2_code (1 : Nat) (Option.some (Jvm.ClassFile.FieldType.array Jvm.ClassFile.FieldType.byte))).before args0 about1 = true := code_word (m := ⟨8, 1⟩) (meth := k8m1) (c := k8c1) (by decide +kernel) rfl rfl rfl (by decide +kernel)
set_option maxRecDepth 65536 in
theorem w_c9 : (Jvm.Cond.code ({ cls := "java/lang/StringUTF16", name := "newBytesLength", desc := "(I)I" } : Jvm.MethodName) jdk_52_method_3_code (1 : Nat) (Option.some Jvm.ClassFile.FieldType.int)).before args0 about1 = true := code_word (m := ⟨8, 2⟩) (meth := k8m2) (c := k8c2) (by decide +kernel) rfl rfl rfl (by decide +kernel)
set_option maxRecDepth 65536 in
theorem w_c10 : (Jvm.Cond.code ({ cls := "java/lang/StringUTF16", name := "putChar", desc := "([BII)V" } : Jvm.MethodName) jdk_52_method_4_code (3 : Nat) (Option.none : Option Jvm.ClassFile.FieldType)).before args0 about1 = true := code_word (m := ⟨8, 3⟩) (meth := k8m3) (c := k8c3) (by decide +kernel) rfl rfl rfl (by decide +kernel)
set_option maxRecDepth 65536 in
theorem w_c11 : (Jvm.Cond.code ({ cls := "java/lang/StringUTF16", name := "getChar", desc := "([BI)C" } : Jvm.MethodName) jdk_52_method_5_code (2 : Nat) (Option.some Jvm.ClassFile.FieldType.char)).before args0 about1 = true := code_word (m := ⟨8, 4⟩) (meth := k8m4) (c := k8c4) (by decide +kernel) rfl rfl rfl (by decide +kernel)
set_option maxRecDepth 65536 in
theorem w_c12 : (Jvm.Cond.code ({ cls := "java/lang/StringUTF16", name := "coderFromArrayLen", desc := "([BI)B" } : Jvm.MethodName) jdk_52_method_15_code (2 : Nat) (Option.some Jvm.ClassFile.FieldType.byte)).before args0 about1 = true := code_word (m := ⟨8, 7⟩) (meth := k8m7) (c := k8c7) (by decide +kernel) rfl rfl rfl (by decide +kernel)
set_option maxRecDepth 65536 in
theorem w_c13 : (Jvm.Cond.code ({ cls := "tenorbook/book/CusipIsValidPinLaw", name := "reference", desc := "(CCCCCCCCC)Z" } : Jvm.MethodName) method_7_code (18 : Nat) (Option.some Jvm.ClassFile.FieldType.boolean)).before args0 about1 = true := code_word (m := ⟨1, 6⟩) (meth := k1m6) (c := k1c6) (by decide +kernel) rfl rfl rfl (by decide +kernel)
set_option maxRecDepth 65536 in
theorem w_c14 : (Jvm.Cond.code ({ cls := "tenorbook/book/CusipIsValidPinLaw", name := "refValue", desc := "(C)I" } : Jvm.MethodName) method_5_code (1 : Nat) (Option.some Jvm.ClassFile.FieldType.int)).before args0 about1 = true := code_word (m := ⟨1, 4⟩) (meth := k1m4) (c := k1c4) (by decide +kernel) rfl rfl rfl (by decide +kernel)
set_option maxRecDepth 65536 in
theorem w_c15 : (Jvm.Cond.code ({ cls := "tenorbook/book/Cusip", name := "isValid", desc := "(Ljava/lang/String;)Z" } : Jvm.MethodName) prog_8_method_2_code (5 : Nat) (Option.some Jvm.ClassFile.FieldType.boolean)).before args0 about1 = true := code_word (m := ⟨9, 1⟩) (meth := k9m1) (c := k9c1) (by decide +kernel) rfl rfl rfl (by decide +kernel)
set_option maxRecDepth 65536 in
theorem w_c16 : (Jvm.Cond.code ({ cls := "java/lang/String", name := "length", desc := "()I" } : Jvm.MethodName) jdk_42_method_54_code (1 : Nat) (Option.some Jvm.ClassFile.FieldType.int)).before args0 about1 = true := code_word (m := ⟨7, 2⟩) (meth := k7m2) (c := k7c2) (by decide +kernel) rfl rfl rfl (by decide +kernel)
set_option maxRecDepth 65536 in
theorem w_c17 : (Jvm.Cond.code ({ cls := "java/lang/String", name := "coder", desc := "()B" } : Jvm.MethodName) jdk_42_method_152_code (1 : Nat) (Option.some Jvm.ClassFile.FieldType.byte)).before args0 about1 = true := code_word (m := ⟨7, 5⟩) (meth := k7m5) (c := k7c5) (by decide +kernel) rfl rfl rfl (by decide +kernel)
set_option maxRecDepth 65536 in
theorem w_c18 : (Jvm.Cond.code ({ cls := "java/lang/String", name := "charAt", desc := "(I)C" } : Jvm.MethodName) jdk_42_method_56_code (2 : Nat) (Option.some Jvm.ClassFile.FieldType.char)).before args0 about1 = true := code_word (m := ⟨7, 3⟩) (meth := k7m3) (c := k7c3) (by decide +kernel) rfl rfl rfl (by decide +kernel)
set_option maxRecDepth 65536 in
theorem w_c19 : (Jvm.Cond.code ({ cls := "java/lang/String", name := "isLatin1", desc := "()Z" } : Jvm.MethodName) jdk_42_method_154_code (1 : Nat) (Option.some Jvm.ClassFile.FieldType.boolean)).before args0 about1 = true := code_word (m := ⟨7, 6⟩) (meth := k7m6) (c := k7c6) (by decide +kernel) rfl rfl rfl (by decide +kernel)
set_option maxRecDepth 65536 in
theorem w_c20 : (Jvm.Cond.code ({ cls := "java/lang/StringUTF16", name := "charAt", desc := "([BI)C" } : Jvm.MethodName) jdk_52_method_83_code (2 : Nat) (Option.some Jvm.ClassFile.FieldType.char)).before args0 about1 = true := code_word (m := ⟨8, 10⟩) (meth := k8m10) (c := k8c10) (by decide +kernel) rfl rfl rfl (by decide +kernel)
set_option maxRecDepth 65536 in
theorem w_c21 : (Jvm.Cond.code ({ cls := "java/lang/StringUTF16", name := "checkIndex", desc := "(I[B)V" } : Jvm.MethodName) jdk_52_method_91_code (2 : Nat) (Option.none : Option Jvm.ClassFile.FieldType)).before args0 about1 = true := code_word (m := ⟨8, 11⟩) (meth := k8m11) (c := k8c11) (by decide +kernel) rfl rfl rfl (by decide +kernel)
set_option maxRecDepth 65536 in
theorem w_c22 : (Jvm.Cond.code ({ cls := "java/lang/StringUTF16", name := "length", desc := "([B)I" } : Jvm.MethodName) jdk_52_method_6_code (1 : Nat) (Option.some Jvm.ClassFile.FieldType.int)).before args0 about1 = true := code_word (m := ⟨8, 5⟩) (meth := k8m5) (c := k8c5) (by decide +kernel) rfl rfl rfl (by decide +kernel)
set_option maxRecDepth 65536 in
theorem w_c23 : (Jvm.Cond.code ({ cls := "java/lang/String", name := "checkIndex", desc := "(II)V" } : Jvm.MethodName) jdk_42_method_155_code (2 : Nat) (Option.none : Option Jvm.ClassFile.FieldType)).before args0 about1 = true := code_word (m := ⟨7, 7⟩) (meth := k7m7) (c := k7c7) (by decide +kernel) rfl rfl rfl (by decide +kernel)
set_option maxRecDepth 65536 in
theorem w_c24 : (Jvm.Cond.code ({ cls := "jdk/internal/util/Preconditions", name := "checkIndex", desc := "(IILjava/util/function/BiFunction;)I" } : Jvm.MethodName) jdk_41_method_11_code (3 : Nat) (Option.some Jvm.ClassFile.FieldType.int)).before args0 about1 = true := code_word (m := ⟨10, 1⟩) (meth := k10m1) (c := k10c1) (by decide +kernel) rfl rfl rfl (by decide +kernel)
set_option maxRecDepth 65536 in
theorem w_c25 : (Jvm.Cond.code ({ cls := "tenorbook/book/Cusip", name := "value", desc := "(C)I" } : Jvm.MethodName) prog_8_method_3_code (1 : Nat) (Option.some Jvm.ClassFile.FieldType.int)).before args0 about1 = true := code_word (m := ⟨9, 2⟩) (meth := k9m2) (c := k9c2) (by decide +kernel) rfl rfl rfl (by decide +kernel)
set_option maxRecDepth 65536 in
theorem w_c26 : (Jvm.Cond.code ({ cls := "tenorbook/book/CusipIsValidPinLaw", name := "alpha", desc := "(I)C" } : Jvm.MethodName) method_4_code (1 : Nat) (Option.some Jvm.ClassFile.FieldType.char)).before args0 about1 = true := code_word (m := ⟨1, 3⟩) (meth := k1m3) (c := k1c3) (by decide +kernel) rfl rfl rfl (by decide +kernel)
set_option maxRecDepth 65536 in
theorem w_c27 : (Jvm.Cond.code ({ cls := "java/lang/StringLatin1", name := "charAt", desc := "([BI)C" } : Jvm.MethodName) jdk_43_method_2_code (2 : Nat) (Option.some Jvm.ClassFile.FieldType.char)).before args0 about1 = true := code_word (m := ⟨11, 1⟩) (meth := k11m1) (c := k11c1) (by decide +kernel) rfl rfl rfl (by decide +kernel)
set_option maxRecDepth 65536 in
theorem w_c28 : (Jvm.Cond.code ({ cls := "tenorbook/book/CusipIsValidPinLaw", name := "ds", desc := "(I)I" } : Jvm.MethodName) method_6_code (1 : Nat) (Option.some Jvm.ClassFile.FieldType.int)).before args0 about1 = true := code_word (m := ⟨1, 5⟩) (meth := k1m5) (c := k1c5) (by decide +kernel) rfl rfl rfl (by decide +kernel)
def codes1 : List Jvm.Cond := [Jvm.Cond.code x code maxLocals ret, Jvm.Cond.code ({ cls := "tenorbook/book/CusipIsValidPinLaw", name := "draw", desc := "(I)C" } : Jvm.MethodName) method_3_code (1 : Nat) (Option.some Jvm.ClassFile.FieldType.char), Jvm.Cond.code ({ cls := "java/lang/String", name := "<init>", desc := "([C)V" } : Jvm.MethodName) jdk_42_method_3_code (2 : Nat) (Option.none : Option Jvm.ClassFile.FieldType), Jvm.Cond.code ({ cls := "java/lang/String", name := "<init>", desc := "([CIILjava/lang/Void;)V" } : Jvm.MethodName) jdk_42_method_149_code (6 : Nat) (Option.none : Option Jvm.ClassFile.FieldType), Jvm.Cond.code ({ cls := "java/lang/Object", name := "<init>", desc := "()V" } : Jvm.MethodName) object_method_1_code (1 : Nat) (Option.none : Option Jvm.ClassFile.FieldType), Jvm.Cond.code ({ cls := "java/lang/StringUTF16", name := "compress", desc := "([CII)[B" } : Jvm.MethodName) jdk_52_method_16_code (6 : Nat) (Option.some (Jvm.ClassFile.FieldType.array Jvm.ClassFile.FieldType.byte)), Jvm.Cond.code ({ cls := "java/lang/StringUTF16", name := "compress", desc := "([CI[BII)I" } : Jvm.MethodName) jdk_52_method_21_code (7 : Nat) (Option.some Jvm.ClassFile.FieldType.int), Jvm.Cond.code ({ cls := "java/lang/StringUTF16", name := "toBytes", desc := "([CII)[B" } : Jvm.MethodName) jdk_52_method_14_code (5 : Nat) (Option.some (Jvm.ClassFile.FieldType.array Jvm.ClassFile.FieldType.byte)), Jvm.Cond.code ({ cls := "java/lang/StringUTF16", name := "newBytesFor", desc := "(I)[B" } : Jvm.MethodName) jdk_52_method_2_code (1 : Nat) (Option.some (Jvm.ClassFile.FieldType.array Jvm.ClassFile.FieldType.byte)), Jvm.Cond.code ({ cls := "java/lang/StringUTF16", name := "newBytesLength", desc := "(I)I" } : Jvm.MethodName) jdk_52_method_3_code (1 : Nat) (Option.some Jvm.ClassFile.FieldType.int), Jvm.Cond.code ({ cls := "java/lang/StringUTF16", name := "putChar", desc := "([BII)V" } : Jvm.MethodName) jdk_52_method_4_code (3 : Nat) (Option.none : Option Jvm.ClassFile.FieldType), Jvm.Cond.code ({ cls := "java/lang/StringUTF16", name := "getChar", desc := "([BI)C" } : Jvm.MethodName) jdk_52_method_5_code (2 : Nat) (Option.some Jvm.ClassFile.FieldType.char), Jvm.Cond.code ({ cls := "java/lang/StringUTF16", name := "coderFromArrayLen", desc := "([BI)B" } : Jvm.MethodName) jdk_52_method_15_code (2 : Nat) (Option.some Jvm.ClassFile.FieldType.byte), Jvm.Cond.code ({ cls := "tenorbook/book/CusipIsValidPinLaw", name := "reference", desc := "(CCCCCCCCC)Z" } : Jvm.MethodName) method_7_code (18 : Nat) (Option.some Jvm.ClassFile.FieldType.boolean), Jvm.Cond.code ({ cls := "tenorbook/book/CusipIsValidPinLaw", name := "refValue", desc := "(C)I" } : Jvm.MethodName) method_5_code (1 : Nat) (Option.some Jvm.ClassFile.FieldType.int), Jvm.Cond.code ({ cls := "tenorbook/book/Cusip", name := "isValid", desc := "(Ljava/lang/String;)Z" } : Jvm.MethodName) prog_8_method_2_code (5 : Nat) (Option.some Jvm.ClassFile.FieldType.boolean), Jvm.Cond.code ({ cls := "java/lang/String", name := "length", desc := "()I" } : Jvm.MethodName) jdk_42_method_54_code (1 : Nat) (Option.some Jvm.ClassFile.FieldType.int), Jvm.Cond.code ({ cls := "java/lang/String", name := "coder", desc := "()B" } : Jvm.MethodName) jdk_42_method_152_code (1 : Nat) (Option.some Jvm.ClassFile.FieldType.byte), Jvm.Cond.code ({ cls := "java/lang/String", name := "charAt", desc := "(I)C" } : Jvm.MethodName) jdk_42_method_56_code (2 : Nat) (Option.some Jvm.ClassFile.FieldType.char), Jvm.Cond.code ({ cls := "java/lang/String", name := "isLatin1", desc := "()Z" } : Jvm.MethodName) jdk_42_method_154_code (1 : Nat) (Option.some Jvm.ClassFile.FieldType.boolean), Jvm.Cond.code ({ cls := "java/lang/StringUTF16", name := "charAt", desc := "([BI)C" } : Jvm.MethodName) jdk_52_method_83_code (2 : Nat) (Option.some Jvm.ClassFile.FieldType.char), Jvm.Cond.code ({ cls := "java/lang/StringUTF16", name := "checkIndex", desc := "(I[B)V" } : Jvm.MethodName) jdk_52_method_91_code (2 : Nat) (Option.none : Option Jvm.ClassFile.FieldType), Jvm.Cond.code ({ cls := "java/lang/StringUTF16", name := "length", desc := "([B)I" } : Jvm.MethodName) jdk_52_method_6_code (1 : Nat) (Option.some Jvm.ClassFile.FieldType.int), Jvm.Cond.code ({ cls := "java/lang/String", name := "checkIndex", desc := "(II)V" } : Jvm.MethodName) jdk_42_method_155_code (2 : Nat) (Option.none : Option Jvm.ClassFile.FieldType), Jvm.Cond.code ({ cls := "jdk/internal/util/Preconditions", name := "checkIndex", desc := "(IILjava/util/function/BiFunction;)I" } : Jvm.MethodName) jdk_41_method_11_code (3 : Nat) (Option.some Jvm.ClassFile.FieldType.int), Jvm.Cond.code ({ cls := "tenorbook/book/Cusip", name := "value", desc := "(C)I" } : Jvm.MethodName) prog_8_method_3_code (1 : Nat) (Option.some Jvm.ClassFile.FieldType.int), Jvm.Cond.code ({ cls := "tenorbook/book/CusipIsValidPinLaw", name := "alpha", desc := "(I)C" } : Jvm.MethodName) method_4_code (1 : Nat) (Option.some Jvm.ClassFile.FieldType.char), Jvm.Cond.code ({ cls := "java/lang/StringLatin1", name := "charAt", desc := "([BI)C" } : Jvm.MethodName) jdk_43_method_2_code (2 : Nat) (Option.some Jvm.ClassFile.FieldType.char), Jvm.Cond.code ({ cls := "tenorbook/book/CusipIsValidPinLaw", name := "ds", desc := "(I)I" } : Jvm.MethodName) method_6_code (1 : Nat) (Option.some Jvm.ClassFile.FieldType.int)]
set_option maxRecDepth 65536 in
theorem codes_eq : words1.filter isCode = codes1 := rfl
theorem w_codes : ∀ c ∈ words1.filter isCode, c.before args0 about1 = true := by
  rw [codes_eq]
  intro c hc
  simp only [codes1, List.mem_cons, List.not_mem_nil, or_false] at hc
  rcases hc with rfl | rfl | rfl | rfl | rfl | rfl | rfl | rfl | rfl | rfl | rfl | rfl | rfl | rfl | rfl | rfl | rfl | rfl | rfl | rfl | rfl | rfl | rfl | rfl | rfl | rfl | rfl | rfl | rfl
  · exact w_c0
  · exact w_c1
  · exact w_c2
  · exact w_c3
  · exact w_c4
  · exact w_c5
  · exact w_c6
  · exact w_c7
  · exact w_c8
  · exact w_c9
  · exact w_c10
  · exact w_c11
  · exact w_c12
  · exact w_c13
  · exact w_c14
  · exact w_c15
  · exact w_c16
  · exact w_c17
  · exact w_c18
  · exact w_c19
  · exact w_c20
  · exact w_c21
  · exact w_c22
  · exact w_c23
  · exact w_c24
  · exact w_c25
  · exact w_c26
  · exact w_c27
  · exact w_c28
set_option maxRecDepth 65536 in
theorem w_t1 : (words1.take 24).all (fun c => isCode c || c.before args0 about1) = true := by decide +kernel
set_option maxRecDepth 65536 in
theorem w_t2 : ((words1.drop 24).take 24).all (fun c => isCode c || c.before args0 about1) = true := by decide +kernel
set_option maxRecDepth 65536 in
theorem w_t3 : (((words1.drop 24).drop 24).take 24).all (fun c => isCode c || c.before args0 about1) = true := by decide +kernel
set_option maxRecDepth 65536 in
theorem w_t4 : ((((words1.drop 24).drop 24).drop 24).take 24).all (fun c => isCode c || c.before args0 about1) = true := by decide +kernel
set_option maxRecDepth 65536 in
theorem w_t5 : ((((words1.drop 24).drop 24).drop 24).drop 24).all (fun c => isCode c || c.before args0 about1) = true := by decide +kernel
theorem w_tables : (allAtoms (Jvm.Cond.code x code maxLocals ret :: tables_1)).before args0 about1 = true := by
  rw [allAtoms_all]
  show words1.all (fun c => c.before args0 about1) = true
  refine all_split ?_ w_codes
  rw [← List.take_append_drop 24 words1, List.all_append, w_t1, ← List.take_append_drop 24 (words1.drop 24), List.all_append, w_t2, ← List.take_append_drop 24 ((words1.drop 24).drop 24), List.all_append, w_t3, ← List.take_append_drop 24 (((words1.drop 24).drop 24).drop 24), List.all_append, w_t4, w_t5]
  rfl
set_option maxRecDepth 65536 in
theorem w_rest : rest_1_c.before args0 about1 = true := by decide +kernel
set_option maxRecDepth 65536 in
theorem w_case : (Jvm.Cond.and given_1 narrow_1).before args0 about1 = true := by decide +kernel
set_option maxRecDepth 65536 in
theorem w_consts : constsHeld consts_1 about1 := Jvm.Lit.constsHeldB_iff.mp (by decide +kernel)
theorem w_applies : (headSpec (Jvm.Cond.code x code maxLocals ret :: tables_1) room_1).applies x e0.platform about1 = true :=
  (Spec.applies_iff w_frames).mpr ⟨w_running, w_runnable, w_alone, w_named, w_hears, w_ripe, w_room, w_tables⟩
theorem atStart : AtStart classFile x code maxLocals ret World_1 tables_1 room_1 Calls_1 rest_1 Pre_1 launch0 p0 e0 about1 theMethod args0 below0 :=
  ⟨lists_1, trivial, launch0.admits_env _ _ _, launch0.least_env, fairChoices_fair.cas, fairChoices_fair.clock, w_frames, w_args, w_heap, w_applies, ⟨w_consts, trivial⟩, w_rest, w_case⟩
end start1
theorem witness_1 : WitnessClaimed_1 := ⟨start1.p0, start1.e0, start1.about1, start1.theMethod, start1.args0, start1.below0, start1.atStart⟩
end Jvm.Pilot.@@N@@
