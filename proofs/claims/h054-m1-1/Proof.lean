import JvmDerived
import JvmDerived.Pilot.@@N@@Statement
import JvmDerived.Pilot.@@N@@Code
set_option linter.unusedVariables false
set_option linter.unusedSimpArgs false
namespace Jvm.Pilot.@@N@@
open Jvm Jvm.ClassFile Sem Op Lib Jvm.Free Jvm.Stand Jvm.LawKit Jvm.RoadKit Bundle Jvm.Pilot.@@N@@.Jvm.D
section OwnKit
variable {p : Program} {l : Launch} {e : Env} {R : Room} {s : State} {m : MethodId} {args : Array Value} {below : List Frame} {meth : Method} {c : Code} {T : State} {locs : List Loc} {cells slots kc ks : Nat} {Q : Option Value → Heap → List Loc → Prop} {A B : State}
/-- the rest of a walk: from the state A the run comes to a return that Q describes -/
def OW (p : Program) (e : Env) (below : List Frame) (s : State) (Q : Option Value → Heap → List Loc → Prop) (kc ks : Nat) (A : State) : Prop :=
  ∃ s₂ o, Steps p.tables e below A s₂ ∧ s₂.status = .running ∧ Ended s₂ below o ∧ ∃ v L, o = .returned v ∧ Q v s₂.heap L ∧ FrameEnd s o s₂ L kc ks
theorem OW.st (h : ∀ t, Steps p.tables e below B t → Steps p.tables e below A t) (k : OW p e below s Q kc ks B) : OW p e below s Q kc ks A := by
  obtain ⟨a, o, h1, h2⟩ := k; exact ⟨a, o, h _ h1, h2⟩
theorem OW.tr (h : Steps p.tables e below A B) (k : OW p e below s Q kc ks B) : OW p e below s Q kc ks A := by
  obtain ⟨a, o, h1, h2⟩ := k; exact ⟨a, o, h.trans h1, h2⟩
theorem OW.ret (X : Stand p l e R s m args below meth c T locs cells slots) (hx : p.tables.exec = Jvm.exec) (hlk : meth.locks = false) {pc : Nat} {Ls : Array Slot} {w : Value} {t : FieldType} {i : Instr} {rest : List Value} (hret : meth.sig.returnType = some t) (hn : narrow t w = w)
    (hi : (i = .ireturn ∧ (t = .int ∨ t = .boolean ∨ t = .byte ∨ t = .char ∨ t = .short) ∧ ∃ z, w = .int z) ∨ (i = .lreturn ∧ t = .long ∧ ∃ z, w = .long z) ∨ (i = .dreturn ∧ t = .double ∧ ∃ z, w = .double z) ∨ (i = .freturn ∧ t = .float ∧ ∃ z, w = .float z) ∨ (i = .areturn ∧ t.isReference = true ∧ w.isRef = true))
    (hd : decode c.code pc = .ok (i, 1)) {h : Heap} (eT : T.heap = h) (hc : cells ≤ kc) (hs : slots ≤ ks) (q : Q (some w) h locs) : OW p e below s Q kc ks (T.setTop (mkF m pc Ls (w :: rest))) := by
  obtain ⟨fs, hr, hrun, hended, hW, hsame⟩ := X.leave (v := some w) (fun h => by rw [hret] at h; cases h) hlk
  subst eT
  exact ⟨_, _, retOut X hx hret hn hi hd hr, hrun, hended, _, _, rfl, q, ⟨_, rfl⟩, hW, hsame.mono hc hs⟩
theorem OW.retV (X : Stand p l e R s m args below meth c T locs cells slots) (hx : p.tables.exec = Jvm.exec) (hlk : meth.locks = false) {pc : Nat} {Ls : Array Slot} (hret : meth.sig.returnType = none)
    (hd : decode c.code pc = .ok (.return_, 1)) {h : Heap} (eT : T.heap = h) (hc : cells ≤ kc) (hs : slots ≤ ks) (q : Q none h locs) : OW p e below s Q kc ks (T.setTop (mkF m pc Ls [])) := by
  obtain ⟨fs, hr, hrun, hended, hW, hsame⟩ := X.leave (v := none) (fun _ => rfl) hlk
  subst eT
  exact ⟨_, _, X.returnOut hx hret hd hr, hrun, hended, _, _, rfl, q, ⟨_, rfl⟩, hW, hsame.mono hc hs⟩
/-- the same for a walk that may intern: its Stand is over 's.setVm vm0' -/
def OWW (p : Program) (e : Env) (below : List Frame) (s : State) (Q : Option Value → Heap → List Loc → Prop) (kc ks : Nat) (A : State) : Prop :=
  ∃ s₂ o, Steps p.tables e below A s₂ ∧ s₂.status = .running ∧ Ended s₂ below o ∧ ∃ v L, o = .returned v ∧ Q v s₂.heap L ∧ ReturnedEndW s o s₂ L kc ks
theorem OWW.st (h : ∀ t, Steps p.tables e below B t → Steps p.tables e below A t) (k : OWW p e below s Q kc ks B) : OWW p e below s Q kc ks A := by
  obtain ⟨a, o, h1, h2⟩ := k; exact ⟨a, o, h _ h1, h2⟩
theorem OWW.tr (h : Steps p.tables e below A B) (k : OWW p e below s Q kc ks B) : OWW p e below s Q kc ks A := by
  obtain ⟨a, o, h1, h2⟩ := k; exact ⟨a, o, h.trans h1, h2⟩
theorem OWW.ret {vm0 : Vm} {k0 : Nat} (X : Stand p l e R (s.setVm vm0) m args below meth c T locs cells slots) {h : Heap} (hS : s.Since vm0 k0) (hk : k0 ≤ h.size) (hx : p.tables.exec = Jvm.exec) (hlk : meth.locks = false) {pc : Nat} {Ls : Array Slot} {w : Value} {t : FieldType} {i : Instr} {rest : List Value} (hret : meth.sig.returnType = some t) (hn : narrow t w = w)
    (hi : (i = .ireturn ∧ (t = .int ∨ t = .boolean ∨ t = .byte ∨ t = .char ∨ t = .short) ∧ ∃ z, w = .int z) ∨ (i = .lreturn ∧ t = .long ∧ ∃ z, w = .long z) ∨ (i = .dreturn ∧ t = .double ∧ ∃ z, w = .double z) ∨ (i = .freturn ∧ t = .float ∧ ∃ z, w = .float z) ∨ (i = .areturn ∧ t.isReference = true ∧ w.isRef = true))
    (hd : decode c.code pc = .ok (i, 1)) (eT : T.heap = h) (hc : cells ≤ kc) (hs : slots ≤ ks) (q : Q (some w) h locs) : OWW p e below s Q kc ks (T.setTop (mkF m pc Ls (w :: rest))) := by
  obtain ⟨fs, hr, hrun, hended, hW, hsame⟩ := X.leave (v := some w) (fun h => by rw [hret] at h; cases h) hlk
  subst eT
  obtain ⟨g1, g2, g3⟩ := hS.ended (U := T.setFrames fs) hW hk hsame
  exact ⟨_, _, retOut X hx hret hn hi hd hr, hrun, hended, _, _, rfl, q, ⟨_, rfl⟩, g1, g2, g3.mono hc hs⟩
theorem OWW.retV {vm0 : Vm} {k0 : Nat} (X : Stand p l e R (s.setVm vm0) m args below meth c T locs cells slots) {h : Heap} (hS : s.Since vm0 k0) (hk : k0 ≤ h.size) (hx : p.tables.exec = Jvm.exec) (hlk : meth.locks = false) {pc : Nat} {Ls : Array Slot} (hret : meth.sig.returnType = none)
    (hd : decode c.code pc = .ok (.return_, 1)) (eT : T.heap = h) (hc : cells ≤ kc) (hs : slots ≤ ks) (q : Q none h locs) : OWW p e below s Q kc ks (T.setTop (mkF m pc Ls [])) := by
  obtain ⟨fs, hr, hrun, hended, hW, hsame⟩ := X.leave (v := none) (fun _ => rfl) hlk
  subst eT
  obtain ⟨g1, g2, g3⟩ := hS.ended (U := T.setFrames fs) hW hk hsame
  exact ⟨_, _, X.returnOut hx hret hd hr, hrun, hended, _, _, rfl, q, ⟨_, rfl⟩, g1, g2, g3.mono hc hs⟩
end OwnKit
section OwnWords
variable {args : Array Value} {first s : State} {o : Option Outcome} {idx : List Nat} {t : Term}
theorem own_eq_int {k : Int32} (h : (Jvm.Cond.eq t (.int k)).value args first o s idx = some true) : t.eval args first o idx s = some (.int k) := by
  obtain ⟨x, y, h1, h2, k1, k2⟩ := cmp_v (Or.inl h)
  rw [Term.int_eval] at h2
  cases h2
  obtain ⟨z, rfl⟩ := k2
  rw [h1, gotT (Cond.eq_ints h1 (Term.int_eval k)) h]
theorem own_eq_ref {u : Term} {a : Addr} (h : (Jvm.Cond.eq t u).value args first o s idx = some true) (hu : u.eval args first o idx s = some (.ref a)) : t.eval args first o idx s = some (.ref a) := by
  obtain ⟨x, y, h1, h2, k1, k2⟩ := cmp_v (Or.inl h)
  cases hu.symm.trans h2
  have q := gotT (eq_R h1 hu k2.2 rfl) h
  rw [h1, q]
theorem own_eq_dbl {n : Int64} {b : UInt64} (hb : Jvm.Unary.bitsD.apply (.long n) = some (.double b)) (h : (Jvm.Cond.eq t (.op1 .bitsD (.long n))).value args first o s idx = some true) : t.eval args first o idx s = some (.double b) := by
  obtain ⟨x, y, h1, h2, k1, k2⟩ := cmp_v (Or.inl h)
  rw [op1_f (long_at n), hb] at h2
  cases h2
  obtain ⟨z, rfl⟩ := k2
  have h3 : (Term.op1 Jvm.Unary.bitsD (.long n)).eval args first o idx s = some (.double b) := by rw [op1_f (long_at n), hb]
  simp only [Cond.value, h1, h3, Option.some.injEq, decide_eq_true_eq] at h
  rw [h1, h]
theorem own_arr {ty : FieldType} {a : Addr} {z : Int32} (ev : t.eval args s none [] s = some (.ref a)) (ha : (Jvm.Cond.arrayOf t ty).value args s none s [] = some true) (hl : (Term.length t).eval args s none [] s = some (.int z)) :
    ∃ cl : Cell, Arr s s.heap a cl ty ∧ cl.slots.size < 2 ^ 31 ∧ cl.slots.size.toInt32 = z ∧ ∀ j : Int32, ¬ j < 0 → ∀ v, (Term.elem t (.int j)).eval args s none [] s = some v → cl.slots[j.toNatClampNeg]? = some v := by
  obtain ⟨cl, A⟩ := Arr.start ev ha
  have hat := A.fin (Vm.Alike.refl _)
  have hlt : cl.slots.size < 2 ^ 31 := by
    refine Decidable.byContradiction fun q => ?_
    simp [Term.eval, ev, hat, q] at hl
  refine ⟨cl, A, hlt, ?_, fun j hj v hv => ?_⟩
  · rw [len_f ev hat hlt] at hl; exact Value.int.inj (Option.some.inj hl)
  · rw [elem_f ev (Term.int_eval j) hat hj] at hv; exact hv
end OwnWords
theorem own_oldle {Z : State} {n0 : Nat} {h : Heap} (X : Old Z n0 h) : n0 ≤ h.size := X.1 ▸ X.2.1
theorem own_cat {v : Value} (h : v.isRef = true) : v.category = 1 := by cases v <;> first | rfl | simp [Value.isRef] at h
theorem own_nar {v : Value} {t : FieldType} (h : v.isRef = true) (ht : t.isReference = true) : narrow t v = v := by cases t <;> first | (cases ht; done) | (cases v <;> first | rfl | simp [Value.isRef] at h)
theorem own_fit {v : Value} {t : FieldType} (h : v.isRef = true) (ht : t.isReference = true) : fits t v = true := by cases t <;> first | (cases ht; done) | (cases v <;> first | rfl | simp [Value.isRef] at h)

theorem own_nz {r : Int32} (h : r = 0 ∨ r = 1) : narrow .boolean (.int r) = .int r := by rcases h with rfl | rfl <;> rfl
theorem own_fz {r : Int32} (h : r = 0 ∨ r = 1) : fits .boolean (.int r) = true := by rcases h with rfl | rfl <;> rfl
section OwnHeld
open Jvm.Free.SB Jvm.Free.SBG
variable {p : Program} {l : Launch} {e : Env} {R : Room} {s : State} {m : MethodId} {args : Array Value} {below : List Frame} {meth : Method} {c : Code} {T : State} {locs : List Loc} {cells slots kc ks : Nat} {Q : Option Value → Heap → List Loc → Prop} {A B : State} {Z : State} {EL : List (String × Nat)} {h0 : Heap} {a0 : Array Value}
/-- the rest of a walk that may intern, and keeps what is held of the String constants EL -/
def OWH (Z : State) (EL : List (String × Nat)) (h0 : Heap) (p : Program) (e : Env) (below : List Frame) (s : State) (Q : Option Value → Heap → List Loc → Prop) (kc ks : Nat) (A : State) : Prop :=
  ∃ s₂ o, Steps p.tables e below A s₂ ∧ s₂.status = .running ∧ Ended s₂ below o ∧ ∃ v L, o = .returned v ∧ Q v s₂.heap L ∧ CHr Z EL s.vm h0 s₂.vm s₂.heap ∧ ReturnedEndW s o s₂ L kc ks
theorem OWH.st (h : ∀ t, Steps p.tables e below B t → Steps p.tables e below A t) (k : OWH Z EL h0 p e below s Q kc ks B) : OWH Z EL h0 p e below s Q kc ks A := by
  obtain ⟨a, o, h1, h2⟩ := k; exact ⟨a, o, h _ h1, h2⟩
theorem OWH.tr (h : Steps p.tables e below A B) (k : OWH Z EL h0 p e below s Q kc ks B) : OWH Z EL h0 p e below s Q kc ks A := by
  obtain ⟨a, o, h1, h2⟩ := k; exact ⟨a, o, h.trans h1, h2⟩
theorem OWH.ret {vm0 : Vm} {k0 : Nat} (X : Stand p l e R (s.setVm vm0) m args below meth c T locs cells slots) {h : Heap} (hS : s.Since vm0 k0) (hk : k0 ≤ h.size) (hx : p.tables.exec = Jvm.exec) (hlk : meth.locks = false) (CR : CHr Z EL s.vm h0 vm0 h) (hZ : Z.Warmed39 vm0) (hEL : EW Z a0 EL) {pc : Nat} {Ls : Array Slot} {w : Value} {t : FieldType} {i : Instr} {rest : List Value} (hret : meth.sig.returnType = some t) (hn : narrow t w = w)
    (hi : (i = .ireturn ∧ (t = .int ∨ t = .boolean ∨ t = .byte ∨ t = .char ∨ t = .short) ∧ ∃ z, w = .int z) ∨ (i = .lreturn ∧ t = .long ∧ ∃ z, w = .long z) ∨ (i = .dreturn ∧ t = .double ∧ ∃ z, w = .double z) ∨ (i = .freturn ∧ t = .float ∧ ∃ z, w = .float z) ∨ (i = .areturn ∧ t.isReference = true ∧ w.isRef = true))
    (hd : decode c.code pc = .ok (i, 1)) (eT : T.heap = h) (hc : cells ≤ kc) (hs : slots ≤ ks) (q : Q (some w) h locs) : OWH Z EL h0 p e below s Q kc ks (T.setTop (mkF m pc Ls (w :: rest))) := by
  obtain ⟨fs, hr, hrun, hended, hW, hsame⟩ := X.leave (v := some w) (fun h => by rw [hret] at h; cases h) hlk
  subst eT
  have CA := CHv.at X hZ hEL CR.1
  obtain ⟨g1, g2, g3⟩ := hS.ended (U := T.setFrames fs) hW hk hsame
  exact ⟨_, _, retOut X hx hret hn hi hd hr, hrun, hended, _, _, rfl, q, CR.trans CA, ⟨_, rfl⟩, g1, g2, g3.mono hc hs⟩
theorem OWH.retV {vm0 : Vm} {k0 : Nat} (X : Stand p l e R (s.setVm vm0) m args below meth c T locs cells slots) {h : Heap} (hS : s.Since vm0 k0) (hk : k0 ≤ h.size) (hx : p.tables.exec = Jvm.exec) (hlk : meth.locks = false) (CR : CHr Z EL s.vm h0 vm0 h) (hZ : Z.Warmed39 vm0) (hEL : EW Z a0 EL) {pc : Nat} {Ls : Array Slot} (hret : meth.sig.returnType = none)
    (hd : decode c.code pc = .ok (.return_, 1)) (eT : T.heap = h) (hc : cells ≤ kc) (hs : slots ≤ ks) (q : Q none h locs) : OWH Z EL h0 p e below s Q kc ks (T.setTop (mkF m pc Ls [])) := by
  obtain ⟨fs, hr, hrun, hended, hW, hsame⟩ := X.leave (v := none) (fun _ => rfl) hlk
  subst eT
  have CA := CHv.at X hZ hEL CR.1
  obtain ⟨g1, g2, g3⟩ := hS.ended (U := T.setFrames fs) hW hk hsame
  exact ⟨_, _, X.returnOut hx hret hd hr, hrun, hended, _, _, rfl, q, CR.trans CA, ⟨_, rfl⟩, g1, g2, g3.mono hc hs⟩
/-- a String whose value isn't set yet is none of the booked ones -/
theorem own_safeS {vm : Vm} {h : Heap} {x : Addr} (hal : Z.vm.Alike vm) (E : Exa Z h x "java/lang/String") (F : Fld Z h x "java/lang/String" "value" "[B" .null) : Safe Z EL vm h x := fun Bx => by
  obtain ⟨q0, -, u, a, -, q, -, S, rfl | rfl⟩ := Bx
  · obtain ⟨cS, ⟨⟨s1, s2, s3, ⟨cv, kv, iv, s4, s4'⟩, -, s6, -, s8, -⟩, -⟩, -⟩ := S
    obtain ⟨cell, cf, k, i, f, e1, e2, e3, e4, e5, e6, e7⟩ := F
    cases (show h[q.sa]? = some q.sC from s1).symm.trans e1
    obtain ⟨kv', z4⟩ := ff_back (U := Wst Z vm h) hal s4
    have z5 := z4.symm.trans e2
    simp only [Option.some.injEq, Prod.mk.injEq] at z5
    rw [← z5.2.2.2, s8] at e7
    cases e7
  · obtain ⟨cell, k, e1, e2, e3, -, -⟩ := E
    cases (show h[q.sd]? = some q.SA from S.hd).symm.trans e1
    obtain ⟨cS, -, -, f, -⟩ := S
    have f' : vm.findClass "[B" = some q.SA.cls := f
    rw [hal.findClass] at f'
    obtain ⟨k1, q1, q2⟩ := Vm.findClass_spec f'
    obtain ⟨k2, q3, q4⟩ := Vm.findClass_spec e2
    cases q1.symm.trans q3
    exact absurd (q2.symm.trans q4) (by decide)
theorem own_neTy {h : Heap} {a b : Addr} {k1 k2 : ClassId} {t1 t2 : FieldType} {z1 z2 : Int32} {v1 v2 : List Value} {d1 d2 : Value} (A : Arv Z h a k1 t1 z1 v1 d1) (B : Arv Z h b k2 t2 z2 v2 d2) (ht : t1 ≠ t2) : a ≠ b := fun q => by
  subst q
  obtain ⟨c1, ⟨e1, ⟨-, ka, ha, ca, na⟩, -⟩, -⟩ := A
  obtain ⟨c2, ⟨e2, ⟨-, kb, hb, cb, nb⟩, -⟩, -⟩ := B
  cases e1.symm.trans e2
  cases ha.symm.trans hb
  have := na.symm.trans nb
  injection this with _ e
  exact ht e
end OwnHeld
theorem w_0 {a0 : Array Value} {Z : State} (hw : ∀ d ∈ tables_1, d.before a0 Z = true) : (Jvm.Cond.methodLink "tenorbook/cli/OptionFlagPinLaw" (16 : Nat) ({ cls := "tenorbook/cli/OptionFlagPinLaw", name := "draw", desc := "(IIII)Ljava/lang/String;" } : Jvm.MethodName)).before a0 Z = true := hw _ (List.mem_of_getElem? (i := 0) rfl)
theorem w_1 {a0 : Array Value} {Z : State} (hw : ∀ d ∈ tables_1, d.before a0 Z = true) : (Jvm.Cond.static ({ cls := "tenorbook/cli/OptionFlagPinLaw", name := "draw", desc := "(IIII)Ljava/lang/String;" } : Jvm.MethodName)).before a0 Z = true := hw _ (List.mem_of_getElem? (i := 1) rfl)
theorem w_2 {a0 : Array Value} {Z : State} (hw : ∀ d ∈ tables_1, d.before a0 Z = true) : (Jvm.Cond.initialized "tenorbook/cli/OptionFlagPinLaw").before a0 Z = true := hw _ (List.mem_of_getElem? (i := 2) rfl)
theorem w_3 {a0 : Array Value} {Z : State} (hw : ∀ d ∈ tables_1, d.before a0 Z = true) : (Jvm.Cond.code ({ cls := "tenorbook/cli/OptionFlagPinLaw", name := "draw", desc := "(IIII)Ljava/lang/String;" } : Jvm.MethodName) method_2_code (8 : Nat) (Option.some (Jvm.ClassFile.FieldType.object "java/lang/String"))).before a0 Z = true := hw _ (List.mem_of_getElem? (i := 3) rfl)
theorem w_4 {a0 : Array Value} {Z : State} (hw : ∀ d ∈ tables_1, d.before a0 Z = true) : (Jvm.Cond.classLink "tenorbook/cli/OptionFlagPinLaw" (7 : Nat) "java/lang/String").before a0 Z = true := hw _ (List.mem_of_getElem? (i := 4) rfl)
theorem w_5 {a0 : Array Value} {Z : State} (hw : ∀ d ∈ tables_1, d.before a0 Z = true) : (Jvm.Cond.instantiable "java/lang/String" (4 : Nat)).before a0 Z = true := hw _ (List.mem_of_getElem? (i := 5) rfl)
theorem w_6 {a0 : Array Value} {Z : State} (hw : ∀ d ∈ tables_1, d.before a0 Z = true) : (Jvm.Cond.initialized "java/lang/String").before a0 Z = true := hw _ (List.mem_of_getElem? (i := 6) rfl)
theorem w_7 {a0 : Array Value} {Z : State} (hw : ∀ d ∈ tables_1, d.before a0 Z = true) : (Jvm.Cond.arrayClass Jvm.ClassFile.FieldType.char).before a0 Z = true := hw _ (List.mem_of_getElem? (i := 7) rfl)
theorem w_8 {a0 : Array Value} {Z : State} (hw : ∀ d ∈ tables_1, d.before a0 Z = true) : (Jvm.Cond.methodLink "tenorbook/cli/OptionFlagPinLaw" (9 : Nat) ({ cls := "java/lang/String", name := "<init>", desc := "([C)V" } : Jvm.MethodName)).before a0 Z = true := hw _ (List.mem_of_getElem? (i := 8) rfl)
theorem w_9 {a0 : Array Value} {Z : State} (hw : ∀ d ∈ tables_1, d.before a0 Z = true) : (Jvm.Cond.instanceMethod ({ cls := "java/lang/String", name := "<init>", desc := "([C)V" } : Jvm.MethodName)).before a0 Z = true := hw _ (List.mem_of_getElem? (i := 9) rfl)
theorem w_10 {a0 : Array Value} {Z : State} (hw : ∀ d ∈ tables_1, d.before a0 Z = true) : (Jvm.Cond.code ({ cls := "java/lang/String", name := "<init>", desc := "([C)V" } : Jvm.MethodName) jdk_42_method_3_code (2 : Nat) (Option.none : Option Jvm.ClassFile.FieldType)).before a0 Z = true := hw _ (List.mem_of_getElem? (i := 10) rfl)
theorem w_11 {a0 : Array Value} {Z : State} (hw : ∀ d ∈ tables_1, d.before a0 Z = true) : (Jvm.Cond.methodLink "java/lang/String" (27 : Nat) ({ cls := "java/lang/String", name := "<init>", desc := "([CIILjava/lang/Void;)V" } : Jvm.MethodName)).before a0 Z = true := hw _ (List.mem_of_getElem? (i := 11) rfl)
theorem w_12 {a0 : Array Value} {Z : State} (hw : ∀ d ∈ tables_1, d.before a0 Z = true) : (Jvm.Cond.instanceMethod ({ cls := "java/lang/String", name := "<init>", desc := "([CIILjava/lang/Void;)V" } : Jvm.MethodName)).before a0 Z = true := hw _ (List.mem_of_getElem? (i := 12) rfl)
theorem w_14 {a0 : Array Value} {Z : State} (hw : ∀ d ∈ tables_1, d.before a0 Z = true) : (Jvm.Cond.code ({ cls := "java/lang/String", name := "<init>", desc := "([CIILjava/lang/Void;)V" } : Jvm.MethodName) jdk_42_method_149_code (6 : Nat) (Option.none : Option Jvm.ClassFile.FieldType)).before a0 Z = true := hw _ (List.mem_of_getElem? (i := 14) rfl)
theorem w_15 {a0 : Array Value} {Z : State} (hw : ∀ d ∈ tables_1, d.before a0 Z = true) : (Jvm.Cond.methodLink "java/lang/String" (1 : Nat) ({ cls := "java/lang/Object", name := "<init>", desc := "()V" } : Jvm.MethodName)).before a0 Z = true := hw _ (List.mem_of_getElem? (i := 15) rfl)
theorem w_16 {a0 : Array Value} {Z : State} (hw : ∀ d ∈ tables_1, d.before a0 Z = true) : (Jvm.Cond.instanceMethod ({ cls := "java/lang/Object", name := "<init>", desc := "()V" } : Jvm.MethodName)).before a0 Z = true := hw _ (List.mem_of_getElem? (i := 16) rfl)
theorem w_17 {a0 : Array Value} {Z : State} (hw : ∀ d ∈ tables_1, d.before a0 Z = true) : (Jvm.Cond.code ({ cls := "java/lang/Object", name := "<init>", desc := "()V" } : Jvm.MethodName) object_method_1_code (1 : Nat) (Option.none : Option Jvm.ClassFile.FieldType)).before a0 Z = true := hw _ (List.mem_of_getElem? (i := 17) rfl)
theorem w_18 {a0 : Array Value} {Z : State} (hw : ∀ d ∈ tables_1, d.before a0 Z = true) : (Jvm.Cond.stringLink "java/lang/String" (7 : Nat) "").before a0 Z = true := hw _ (List.mem_of_getElem? (i := 18) rfl)
theorem w_19 {a0 : Array Value} {Z : State} (hw : ∀ d ∈ tables_1, d.before a0 Z = true) : (Jvm.Cond.arrayClass Jvm.ClassFile.FieldType.byte).before a0 Z = true := hw _ (List.mem_of_getElem? (i := 19) rfl)
theorem w_20 {a0 : Array Value} {Z : State} (hw : ∀ d ∈ tables_1, d.before a0 Z = true) : (Jvm.Cond.laysFinal "java/lang/String" "java/lang/String" "value" "[B").before a0 Z = true := hw _ (List.mem_of_getElem? (i := 20) rfl)
theorem w_21 {a0 : Array Value} {Z : State} (hw : ∀ d ∈ tables_1, d.before a0 Z = true) : (Jvm.Cond.laysFinal "java/lang/String" "java/lang/String" "coder" "B").before a0 Z = true := hw _ (List.mem_of_getElem? (i := 21) rfl)
theorem w_22 {a0 : Array Value} {Z : State} (hw : ∀ d ∈ tables_1, d.before a0 Z = true) : (Jvm.Cond.soleField "java/lang/String" "value").before a0 Z = true := hw _ (List.mem_of_getElem? (i := 22) rfl)
theorem w_23 {a0 : Array Value} {Z : State} (hw : ∀ d ∈ tables_1, d.before a0 Z = true) : (Jvm.Cond.soleField "java/lang/String" "coder").before a0 Z = true := hw _ (List.mem_of_getElem? (i := 23) rfl)
theorem w_24 {a0 : Array Value} {Z : State} (hw : ∀ d ∈ tables_1, d.before a0 Z = true) : (Jvm.Cond.fieldLink "java/lang/String" (9 : Nat) "java/lang/String" "value" "[B").before a0 Z = true := hw _ (List.mem_of_getElem? (i := 24) rfl)
theorem w_25 {a0 : Array Value} {Z : State} (hw : ∀ d ∈ tables_1, d.before a0 Z = true) : (Jvm.Cond.fieldLink "java/lang/String" (15 : Nat) "java/lang/String" "coder" "B").before a0 Z = true := hw _ (List.mem_of_getElem? (i := 25) rfl)
theorem w_26 {a0 : Array Value} {Z : State} (hw : ∀ d ∈ tables_1, d.before a0 Z = true) : (Jvm.Cond.methodLink "tenorbook/cli/OptionFlagPinLaw" (22 : Nat) ({ cls := "tenorbook/cli/Arguments$Option", name := "flag", desc := "(Ljava/lang/String;)Ltenorbook/cli/Arguments$Option;" } : Jvm.MethodName)).before a0 Z = true := hw _ (List.mem_of_getElem? (i := 26) rfl)
theorem w_27 {a0 : Array Value} {Z : State} (hw : ∀ d ∈ tables_1, d.before a0 Z = true) : (Jvm.Cond.static ({ cls := "tenorbook/cli/Arguments$Option", name := "flag", desc := "(Ljava/lang/String;)Ltenorbook/cli/Arguments$Option;" } : Jvm.MethodName)).before a0 Z = true := hw _ (List.mem_of_getElem? (i := 27) rfl)
theorem w_28 {a0 : Array Value} {Z : State} (hw : ∀ d ∈ tables_1, d.before a0 Z = true) : (Jvm.Cond.initialized "tenorbook/cli/Arguments$Option").before a0 Z = true := hw _ (List.mem_of_getElem? (i := 28) rfl)
theorem w_29 {a0 : Array Value} {Z : State} (hw : ∀ d ∈ tables_1, d.before a0 Z = true) : (Jvm.Cond.code ({ cls := "tenorbook/cli/Arguments$Option", name := "flag", desc := "(Ljava/lang/String;)Ltenorbook/cli/Arguments$Option;" } : Jvm.MethodName) prog_45_method_4_code (1 : Nat) (Option.some (Jvm.ClassFile.FieldType.object "tenorbook/cli/Arguments$Option"))).before a0 Z = true := hw _ (List.mem_of_getElem? (i := 29) rfl)
theorem w_30 {a0 : Array Value} {Z : State} (hw : ∀ d ∈ tables_1, d.before a0 Z = true) : (Jvm.Cond.classLink "tenorbook/cli/Arguments$Option" (8 : Nat) "tenorbook/cli/Arguments$Option").before a0 Z = true := hw _ (List.mem_of_getElem? (i := 30) rfl)
theorem w_31 {a0 : Array Value} {Z : State} (hw : ∀ d ∈ tables_1, d.before a0 Z = true) : (Jvm.Cond.instantiable "tenorbook/cli/Arguments$Option" (3 : Nat)).before a0 Z = true := hw _ (List.mem_of_getElem? (i := 31) rfl)
theorem w_32 {a0 : Array Value} {Z : State} (hw : ∀ d ∈ tables_1, d.before a0 Z = true) : (Jvm.Cond.stringLink "tenorbook/cli/Arguments$Option" (23 : Nat) "").before a0 Z = true := hw _ (List.mem_of_getElem? (i := 32) rfl)
theorem w_33 {a0 : Array Value} {Z : State} (hw : ∀ d ∈ tables_1, d.before a0 Z = true) : (Jvm.Cond.methodLink "tenorbook/cli/Arguments$Option" (20 : Nat) ({ cls := "tenorbook/cli/Arguments$Option", name := "<init>", desc := "(Ljava/lang/String;Ljava/lang/String;Z)V" } : Jvm.MethodName)).before a0 Z = true := hw _ (List.mem_of_getElem? (i := 33) rfl)
theorem w_34 {a0 : Array Value} {Z : State} (hw : ∀ d ∈ tables_1, d.before a0 Z = true) : (Jvm.Cond.instanceMethod ({ cls := "tenorbook/cli/Arguments$Option", name := "<init>", desc := "(Ljava/lang/String;Ljava/lang/String;Z)V" } : Jvm.MethodName)).before a0 Z = true := hw _ (List.mem_of_getElem? (i := 34) rfl)
theorem w_35 {a0 : Array Value} {Z : State} (hw : ∀ d ∈ tables_1, d.before a0 Z = true) : (Jvm.Cond.code ({ cls := "tenorbook/cli/Arguments$Option", name := "<init>", desc := "(Ljava/lang/String;Ljava/lang/String;Z)V" } : Jvm.MethodName) prog_45_method_2_code (4 : Nat) (Option.none : Option Jvm.ClassFile.FieldType)).before a0 Z = true := hw _ (List.mem_of_getElem? (i := 35) rfl)
theorem w_36 {a0 : Array Value} {Z : State} (hw : ∀ d ∈ tables_1, d.before a0 Z = true) : (Jvm.Cond.methodLink "tenorbook/cli/Arguments$Option" (1 : Nat) ({ cls := "java/lang/Record", name := "<init>", desc := "()V" } : Jvm.MethodName)).before a0 Z = true := hw _ (List.mem_of_getElem? (i := 36) rfl)
theorem w_37 {a0 : Array Value} {Z : State} (hw : ∀ d ∈ tables_1, d.before a0 Z = true) : (Jvm.Cond.instanceMethod ({ cls := "java/lang/Record", name := "<init>", desc := "()V" } : Jvm.MethodName)).before a0 Z = true := hw _ (List.mem_of_getElem? (i := 37) rfl)
theorem w_39 {a0 : Array Value} {Z : State} (hw : ∀ d ∈ tables_1, d.before a0 Z = true) : (Jvm.Cond.initialized "java/lang/Record").before a0 Z = true := hw _ (List.mem_of_getElem? (i := 39) rfl)
theorem w_40 {a0 : Array Value} {Z : State} (hw : ∀ d ∈ tables_1, d.before a0 Z = true) : (Jvm.Cond.code ({ cls := "java/lang/Record", name := "<init>", desc := "()V" } : Jvm.MethodName) jdk_30_method_1_code (1 : Nat) (Option.none : Option Jvm.ClassFile.FieldType)).before a0 Z = true := hw _ (List.mem_of_getElem? (i := 40) rfl)
theorem w_41 {a0 : Array Value} {Z : State} (hw : ∀ d ∈ tables_1, d.before a0 Z = true) : (Jvm.Cond.methodLink "java/lang/Record" (1 : Nat) ({ cls := "java/lang/Object", name := "<init>", desc := "()V" } : Jvm.MethodName)).before a0 Z = true := hw _ (List.mem_of_getElem? (i := 41) rfl)
theorem w_42 {a0 : Array Value} {Z : State} (hw : ∀ d ∈ tables_1, d.before a0 Z = true) : (Jvm.Cond.fieldLink "tenorbook/cli/Arguments$Option" (7 : Nat) "tenorbook/cli/Arguments$Option" "name" "Ljava/lang/String;").before a0 Z = true := hw _ (List.mem_of_getElem? (i := 42) rfl)
theorem w_43 {a0 : Array Value} {Z : State} (hw : ∀ d ∈ tables_1, d.before a0 Z = true) : (Jvm.Cond.laysFinal "tenorbook/cli/Arguments$Option" "tenorbook/cli/Arguments$Option" "name" "Ljava/lang/String;").before a0 Z = true := hw _ (List.mem_of_getElem? (i := 43) rfl)
theorem w_44 {a0 : Array Value} {Z : State} (hw : ∀ d ∈ tables_1, d.before a0 Z = true) : (Jvm.Cond.fieldLink "tenorbook/cli/Arguments$Option" (13 : Nat) "tenorbook/cli/Arguments$Option" "value" "Ljava/lang/String;").before a0 Z = true := hw _ (List.mem_of_getElem? (i := 44) rfl)
theorem w_45 {a0 : Array Value} {Z : State} (hw : ∀ d ∈ tables_1, d.before a0 Z = true) : (Jvm.Cond.laysFinal "tenorbook/cli/Arguments$Option" "tenorbook/cli/Arguments$Option" "value" "Ljava/lang/String;").before a0 Z = true := hw _ (List.mem_of_getElem? (i := 45) rfl)
theorem w_46 {a0 : Array Value} {Z : State} (hw : ∀ d ∈ tables_1, d.before a0 Z = true) : (Jvm.Cond.fieldLink "tenorbook/cli/Arguments$Option" (16 : Nat) "tenorbook/cli/Arguments$Option" "required" "Z").before a0 Z = true := hw _ (List.mem_of_getElem? (i := 46) rfl)
theorem w_47 {a0 : Array Value} {Z : State} (hw : ∀ d ∈ tables_1, d.before a0 Z = true) : (Jvm.Cond.laysFinal "tenorbook/cli/Arguments$Option" "tenorbook/cli/Arguments$Option" "required" "Z").before a0 Z = true := hw _ (List.mem_of_getElem? (i := 47) rfl)
theorem w_48 {a0 : Array Value} {Z : State} (hw : ∀ d ∈ tables_1, d.before a0 Z = true) : (Jvm.Cond.methodLink "tenorbook/cli/OptionFlagPinLaw" (28 : Nat) ({ cls := "tenorbook/cli/Arguments$Option", name := "name", desc := "()Ljava/lang/String;" } : Jvm.MethodName)).before a0 Z = true := hw _ (List.mem_of_getElem? (i := 48) rfl)
theorem w_49 {a0 : Array Value} {Z : State} (hw : ∀ d ∈ tables_1, d.before a0 Z = true) : (Jvm.Cond.declares ({ cls := "tenorbook/cli/Arguments$Option", name := "name", desc := "()Ljava/lang/String;" } : Jvm.MethodName)).before a0 Z = true := hw _ (List.mem_of_getElem? (i := 49) rfl)
theorem w_50 {a0 : Array Value} {Z : State} (hw : ∀ d ∈ tables_1, d.before a0 Z = true) : (Jvm.Cond.instanceMethod ({ cls := "tenorbook/cli/Arguments$Option", name := "name", desc := "()Ljava/lang/String;" } : Jvm.MethodName)).before a0 Z = true := hw _ (List.mem_of_getElem? (i := 50) rfl)
theorem w_51 {a0 : Array Value} {Z : State} (hw : ∀ d ∈ tables_1, d.before a0 Z = true) : (Jvm.Cond.selects "tenorbook/cli/Arguments$Option" ({ cls := "tenorbook/cli/Arguments$Option", name := "name", desc := "()Ljava/lang/String;" } : Jvm.MethodName) ({ cls := "tenorbook/cli/Arguments$Option", name := "name", desc := "()Ljava/lang/String;" } : Jvm.MethodName)).before a0 Z = true := hw _ (List.mem_of_getElem? (i := 51) rfl)
theorem w_52 {a0 : Array Value} {Z : State} (hw : ∀ d ∈ tables_1, d.before a0 Z = true) : (Jvm.Cond.code ({ cls := "tenorbook/cli/Arguments$Option", name := "name", desc := "()Ljava/lang/String;" } : Jvm.MethodName) prog_45_method_9_code (1 : Nat) (Option.some (Jvm.ClassFile.FieldType.object "java/lang/String"))).before a0 Z = true := hw _ (List.mem_of_getElem? (i := 52) rfl)
theorem w_53 {a0 : Array Value} {Z : State} (hw : ∀ d ∈ tables_1, d.before a0 Z = true) : (Jvm.Cond.methodLink "tenorbook/cli/OptionFlagPinLaw" (32 : Nat) ({ cls := "tenorbook/cli/Arguments$Option", name := "value", desc := "()Ljava/lang/String;" } : Jvm.MethodName)).before a0 Z = true := hw _ (List.mem_of_getElem? (i := 53) rfl)
theorem w_54 {a0 : Array Value} {Z : State} (hw : ∀ d ∈ tables_1, d.before a0 Z = true) : (Jvm.Cond.declares ({ cls := "tenorbook/cli/Arguments$Option", name := "value", desc := "()Ljava/lang/String;" } : Jvm.MethodName)).before a0 Z = true := hw _ (List.mem_of_getElem? (i := 54) rfl)
theorem w_55 {a0 : Array Value} {Z : State} (hw : ∀ d ∈ tables_1, d.before a0 Z = true) : (Jvm.Cond.instanceMethod ({ cls := "tenorbook/cli/Arguments$Option", name := "value", desc := "()Ljava/lang/String;" } : Jvm.MethodName)).before a0 Z = true := hw _ (List.mem_of_getElem? (i := 55) rfl)
theorem w_56 {a0 : Array Value} {Z : State} (hw : ∀ d ∈ tables_1, d.before a0 Z = true) : (Jvm.Cond.selects "tenorbook/cli/Arguments$Option" ({ cls := "tenorbook/cli/Arguments$Option", name := "value", desc := "()Ljava/lang/String;" } : Jvm.MethodName) ({ cls := "tenorbook/cli/Arguments$Option", name := "value", desc := "()Ljava/lang/String;" } : Jvm.MethodName)).before a0 Z = true := hw _ (List.mem_of_getElem? (i := 56) rfl)
theorem w_57 {a0 : Array Value} {Z : State} (hw : ∀ d ∈ tables_1, d.before a0 Z = true) : (Jvm.Cond.code ({ cls := "tenorbook/cli/Arguments$Option", name := "value", desc := "()Ljava/lang/String;" } : Jvm.MethodName) prog_45_method_10_code (1 : Nat) (Option.some (Jvm.ClassFile.FieldType.object "java/lang/String"))).before a0 Z = true := hw _ (List.mem_of_getElem? (i := 57) rfl)
theorem w_58 {a0 : Array Value} {Z : State} (hw : ∀ d ∈ tables_1, d.before a0 Z = true) : (Jvm.Cond.methodLink "tenorbook/cli/OptionFlagPinLaw" (35 : Nat) ({ cls := "tenorbook/cli/Arguments$Option", name := "required", desc := "()Z" } : Jvm.MethodName)).before a0 Z = true := hw _ (List.mem_of_getElem? (i := 58) rfl)
theorem w_59 {a0 : Array Value} {Z : State} (hw : ∀ d ∈ tables_1, d.before a0 Z = true) : (Jvm.Cond.declares ({ cls := "tenorbook/cli/Arguments$Option", name := "required", desc := "()Z" } : Jvm.MethodName)).before a0 Z = true := hw _ (List.mem_of_getElem? (i := 59) rfl)
theorem w_60 {a0 : Array Value} {Z : State} (hw : ∀ d ∈ tables_1, d.before a0 Z = true) : (Jvm.Cond.instanceMethod ({ cls := "tenorbook/cli/Arguments$Option", name := "required", desc := "()Z" } : Jvm.MethodName)).before a0 Z = true := hw _ (List.mem_of_getElem? (i := 60) rfl)
theorem w_61 {a0 : Array Value} {Z : State} (hw : ∀ d ∈ tables_1, d.before a0 Z = true) : (Jvm.Cond.selects "tenorbook/cli/Arguments$Option" ({ cls := "tenorbook/cli/Arguments$Option", name := "required", desc := "()Z" } : Jvm.MethodName) ({ cls := "tenorbook/cli/Arguments$Option", name := "required", desc := "()Z" } : Jvm.MethodName)).before a0 Z = true := hw _ (List.mem_of_getElem? (i := 61) rfl)
theorem w_62 {a0 : Array Value} {Z : State} (hw : ∀ d ∈ tables_1, d.before a0 Z = true) : (Jvm.Cond.code ({ cls := "tenorbook/cli/Arguments$Option", name := "required", desc := "()Z" } : Jvm.MethodName) prog_45_method_11_code (1 : Nat) (Option.some Jvm.ClassFile.FieldType.boolean)).before a0 Z = true := hw _ (List.mem_of_getElem? (i := 62) rfl)
theorem w_63 {a0 : Array Value} {Z : State} (hw : ∀ d ∈ tables_1, d.before a0 Z = true) : (Jvm.Cond.methodLink "tenorbook/cli/OptionFlagPinLaw" (39 : Nat) ({ cls := "tenorbook/cli/Arguments$Option", name := "isFlag", desc := "()Z" } : Jvm.MethodName)).before a0 Z = true := hw _ (List.mem_of_getElem? (i := 63) rfl)
theorem w_64 {a0 : Array Value} {Z : State} (hw : ∀ d ∈ tables_1, d.before a0 Z = true) : (Jvm.Cond.declares ({ cls := "tenorbook/cli/Arguments$Option", name := "isFlag", desc := "()Z" } : Jvm.MethodName)).before a0 Z = true := hw _ (List.mem_of_getElem? (i := 64) rfl)
theorem w_65 {a0 : Array Value} {Z : State} (hw : ∀ d ∈ tables_1, d.before a0 Z = true) : (Jvm.Cond.instanceMethod ({ cls := "tenorbook/cli/Arguments$Option", name := "isFlag", desc := "()Z" } : Jvm.MethodName)).before a0 Z = true := hw _ (List.mem_of_getElem? (i := 65) rfl)
theorem w_66 {a0 : Array Value} {Z : State} (hw : ∀ d ∈ tables_1, d.before a0 Z = true) : (Jvm.Cond.selects "tenorbook/cli/Arguments$Option" ({ cls := "tenorbook/cli/Arguments$Option", name := "isFlag", desc := "()Z" } : Jvm.MethodName) ({ cls := "tenorbook/cli/Arguments$Option", name := "isFlag", desc := "()Z" } : Jvm.MethodName)).before a0 Z = true := hw _ (List.mem_of_getElem? (i := 66) rfl)
theorem w_67 {a0 : Array Value} {Z : State} (hw : ∀ d ∈ tables_1, d.before a0 Z = true) : (Jvm.Cond.code ({ cls := "tenorbook/cli/Arguments$Option", name := "isFlag", desc := "()Z" } : Jvm.MethodName) prog_45_method_5_code (1 : Nat) (Option.some Jvm.ClassFile.FieldType.boolean)).before a0 Z = true := hw _ (List.mem_of_getElem? (i := 67) rfl)
theorem w_68 {a0 : Array Value} {Z : State} (hw : ∀ d ∈ tables_1, d.before a0 Z = true) : (Jvm.Cond.methodLink "tenorbook/cli/Arguments$Option" (25 : Nat) ({ cls := "java/lang/String", name := "isEmpty", desc := "()Z" } : Jvm.MethodName)).before a0 Z = true := hw _ (List.mem_of_getElem? (i := 68) rfl)
theorem w_69 {a0 : Array Value} {Z : State} (hw : ∀ d ∈ tables_1, d.before a0 Z = true) : (Jvm.Cond.declares ({ cls := "java/lang/String", name := "isEmpty", desc := "()Z" } : Jvm.MethodName)).before a0 Z = true := hw _ (List.mem_of_getElem? (i := 69) rfl)
theorem w_70 {a0 : Array Value} {Z : State} (hw : ∀ d ∈ tables_1, d.before a0 Z = true) : (Jvm.Cond.instanceMethod ({ cls := "java/lang/String", name := "isEmpty", desc := "()Z" } : Jvm.MethodName)).before a0 Z = true := hw _ (List.mem_of_getElem? (i := 70) rfl)
theorem w_71 {a0 : Array Value} {Z : State} (hw : ∀ d ∈ tables_1, d.before a0 Z = true) : (Jvm.Cond.selects "java/lang/String" ({ cls := "java/lang/String", name := "isEmpty", desc := "()Z" } : Jvm.MethodName) ({ cls := "java/lang/String", name := "isEmpty", desc := "()Z" } : Jvm.MethodName)).before a0 Z = true := hw _ (List.mem_of_getElem? (i := 71) rfl)
theorem w_72 {a0 : Array Value} {Z : State} (hw : ∀ d ∈ tables_1, d.before a0 Z = true) : (Jvm.Cond.code ({ cls := "java/lang/String", name := "isEmpty", desc := "()Z" } : Jvm.MethodName) jdk_42_method_55_code (1 : Nat) (Option.some Jvm.ClassFile.FieldType.boolean)).before a0 Z = true := hw _ (List.mem_of_getElem? (i := 72) rfl)
theorem w_73 {a0 : Array Value} {Z : State} (hw : ∀ d ∈ tables_1, d.before a0 Z = true) : (Jvm.Cond.methodLink "tenorbook/cli/OptionFlagPinLaw" (42 : Nat) ({ cls := "java/lang/String", name := "equals", desc := "(Ljava/lang/Object;)Z" } : Jvm.MethodName)).before a0 Z = true := hw _ (List.mem_of_getElem? (i := 73) rfl)
theorem w_74 {a0 : Array Value} {Z : State} (hw : ∀ d ∈ tables_1, d.before a0 Z = true) : (Jvm.Cond.declares ({ cls := "java/lang/String", name := "equals", desc := "(Ljava/lang/Object;)Z" } : Jvm.MethodName)).before a0 Z = true := hw _ (List.mem_of_getElem? (i := 74) rfl)
theorem w_75 {a0 : Array Value} {Z : State} (hw : ∀ d ∈ tables_1, d.before a0 Z = true) : (Jvm.Cond.instanceMethod ({ cls := "java/lang/String", name := "equals", desc := "(Ljava/lang/Object;)Z" } : Jvm.MethodName)).before a0 Z = true := hw _ (List.mem_of_getElem? (i := 75) rfl)
theorem w_76 {a0 : Array Value} {Z : State} (hw : ∀ d ∈ tables_1, d.before a0 Z = true) : (Jvm.Cond.selects "java/lang/String" ({ cls := "java/lang/String", name := "equals", desc := "(Ljava/lang/Object;)Z" } : Jvm.MethodName) ({ cls := "java/lang/String", name := "equals", desc := "(Ljava/lang/Object;)Z" } : Jvm.MethodName)).before a0 Z = true := hw _ (List.mem_of_getElem? (i := 76) rfl)
theorem w_77 {a0 : Array Value} {Z : State} (hw : ∀ d ∈ tables_1, d.before a0 Z = true) : (Jvm.Cond.code ({ cls := "java/lang/String", name := "equals", desc := "(Ljava/lang/Object;)Z" } : Jvm.MethodName) jdk_42_method_66_code (3 : Nat) (Option.some Jvm.ClassFile.FieldType.boolean)).before a0 Z = true := hw _ (List.mem_of_getElem? (i := 77) rfl)
theorem w_78 {a0 : Array Value} {Z : State} (hw : ∀ d ∈ tables_1, d.before a0 Z = true) : (Jvm.Cond.methodLink "tenorbook/cli/OptionFlagPinLaw" (46 : Nat) ({ cls := "java/lang/String", name := "isEmpty", desc := "()Z" } : Jvm.MethodName)).before a0 Z = true := hw _ (List.mem_of_getElem? (i := 78) rfl)
theorem w_79 {a0 : Array Value} {Z : State} (hw : ∀ d ∈ tables_1, d.before a0 Z = true) : (Jvm.Cond.fieldLink "java/lang/String" (38 : Nat) "java/lang/String" "COMPACT_STRINGS" "Z").before a0 Z = true := hw _ (List.mem_of_getElem? (i := 79) rfl)
theorem w_80 {a0 : Array Value} {Z : State} (hw : ∀ d ∈ tables_1, d.before a0 Z = true) : (Jvm.Cond.methodLink "java/lang/String" (177 : Nat) ({ cls := "java/lang/StringUTF16", name := "compress", desc := "([CII)[B" } : Jvm.MethodName)).before a0 Z = true := hw _ (List.mem_of_getElem? (i := 80) rfl)
theorem w_81 {a0 : Array Value} {Z : State} (hw : ∀ d ∈ tables_1, d.before a0 Z = true) : (Jvm.Cond.static ({ cls := "java/lang/StringUTF16", name := "compress", desc := "([CII)[B" } : Jvm.MethodName)).before a0 Z = true := hw _ (List.mem_of_getElem? (i := 81) rfl)
theorem w_82 {a0 : Array Value} {Z : State} (hw : ∀ d ∈ tables_1, d.before a0 Z = true) : (Jvm.Cond.initialized "java/lang/StringUTF16").before a0 Z = true := hw _ (List.mem_of_getElem? (i := 82) rfl)
theorem w_83 {a0 : Array Value} {Z : State} (hw : ∀ d ∈ tables_1, d.before a0 Z = true) : (Jvm.Cond.code ({ cls := "java/lang/StringUTF16", name := "compress", desc := "([CII)[B" } : Jvm.MethodName) jdk_52_method_16_code (6 : Nat) (Option.some (Jvm.ClassFile.FieldType.array Jvm.ClassFile.FieldType.byte))).before a0 Z = true := hw _ (List.mem_of_getElem? (i := 83) rfl)
theorem w_84 {a0 : Array Value} {Z : State} (hw : ∀ d ∈ tables_1, d.before a0 Z = true) : (Jvm.Cond.methodLink "java/lang/StringUTF16" (115 : Nat) ({ cls := "java/lang/StringUTF16", name := "compress", desc := "([CI[BII)I" } : Jvm.MethodName)).before a0 Z = true := hw _ (List.mem_of_getElem? (i := 84) rfl)
theorem w_85 {a0 : Array Value} {Z : State} (hw : ∀ d ∈ tables_1, d.before a0 Z = true) : (Jvm.Cond.static ({ cls := "java/lang/StringUTF16", name := "compress", desc := "([CI[BII)I" } : Jvm.MethodName)).before a0 Z = true := hw _ (List.mem_of_getElem? (i := 85) rfl)
theorem w_86 {a0 : Array Value} {Z : State} (hw : ∀ d ∈ tables_1, d.before a0 Z = true) : (Jvm.Cond.code ({ cls := "java/lang/StringUTF16", name := "compress", desc := "([CI[BII)I" } : Jvm.MethodName) jdk_52_method_21_code (7 : Nat) (Option.some Jvm.ClassFile.FieldType.int)).before a0 Z = true := hw _ (List.mem_of_getElem? (i := 86) rfl)
theorem w_87 {a0 : Array Value} {Z : State} (hw : ∀ d ∈ tables_1, d.before a0 Z = true) : (Jvm.Cond.methodLink "java/lang/String" (47 : Nat) ({ cls := "java/lang/StringUTF16", name := "coderFromArrayLen", desc := "([BI)B" } : Jvm.MethodName)).before a0 Z = true := hw _ (List.mem_of_getElem? (i := 87) rfl)
theorem w_88 {a0 : Array Value} {Z : State} (hw : ∀ d ∈ tables_1, d.before a0 Z = true) : (Jvm.Cond.static ({ cls := "java/lang/StringUTF16", name := "coderFromArrayLen", desc := "([BI)B" } : Jvm.MethodName)).before a0 Z = true := hw _ (List.mem_of_getElem? (i := 88) rfl)
theorem w_89 {a0 : Array Value} {Z : State} (hw : ∀ d ∈ tables_1, d.before a0 Z = true) : (Jvm.Cond.code ({ cls := "java/lang/StringUTF16", name := "coderFromArrayLen", desc := "([BI)B" } : Jvm.MethodName) jdk_52_method_15_code (2 : Nat) (Option.some Jvm.ClassFile.FieldType.byte)).before a0 Z = true := hw _ (List.mem_of_getElem? (i := 89) rfl)
theorem w_90 {a0 : Array Value} {Z : State} (hw : ∀ d ∈ tables_1, d.before a0 Z = true) : (Jvm.Cond.methodLink "tenorbook/cli/OptionFlagPinLaw" (12 : Nat) ({ cls := "java/lang/String", name := "valueOf", desc := "(C)Ljava/lang/String;" } : Jvm.MethodName)).before a0 Z = true := hw _ (List.mem_of_getElem? (i := 90) rfl)
theorem w_91 {a0 : Array Value} {Z : State} (hw : ∀ d ∈ tables_1, d.before a0 Z = true) : (Jvm.Cond.static ({ cls := "java/lang/String", name := "valueOf", desc := "(C)Ljava/lang/String;" } : Jvm.MethodName)).before a0 Z = true := hw _ (List.mem_of_getElem? (i := 91) rfl)
theorem w_92 {a0 : Array Value} {Z : State} (hw : ∀ d ∈ tables_1, d.before a0 Z = true) : (Jvm.Cond.code ({ cls := "java/lang/String", name := "valueOf", desc := "(C)Ljava/lang/String;" } : Jvm.MethodName) jdk_42_method_139_code (1 : Nat) (Option.some (Jvm.ClassFile.FieldType.object "java/lang/String"))).before a0 Z = true := hw _ (List.mem_of_getElem? (i := 92) rfl)
theorem w_93 {a0 : Array Value} {Z : State} (hw : ∀ d ∈ tables_1, d.before a0 Z = true) : (Jvm.Cond.methodLink "java/lang/String" (1015 : Nat) ({ cls := "java/lang/StringLatin1", name := "canEncode", desc := "(C)Z" } : Jvm.MethodName)).before a0 Z = true := hw _ (List.mem_of_getElem? (i := 93) rfl)
theorem w_94 {a0 : Array Value} {Z : State} (hw : ∀ d ∈ tables_1, d.before a0 Z = true) : (Jvm.Cond.static ({ cls := "java/lang/StringLatin1", name := "canEncode", desc := "(C)Z" } : Jvm.MethodName)).before a0 Z = true := hw _ (List.mem_of_getElem? (i := 94) rfl)
theorem w_95 {a0 : Array Value} {Z : State} (hw : ∀ d ∈ tables_1, d.before a0 Z = true) : (Jvm.Cond.initialized "java/lang/StringLatin1").before a0 Z = true := hw _ (List.mem_of_getElem? (i := 95) rfl)
theorem w_96 {a0 : Array Value} {Z : State} (hw : ∀ d ∈ tables_1, d.before a0 Z = true) : (Jvm.Cond.code ({ cls := "java/lang/StringLatin1", name := "canEncode", desc := "(C)Z" } : Jvm.MethodName) jdk_43_method_3_code (1 : Nat) (Option.some Jvm.ClassFile.FieldType.boolean)).before a0 Z = true := hw _ (List.mem_of_getElem? (i := 96) rfl)
theorem w_97 {a0 : Array Value} {Z : State} (hw : ∀ d ∈ tables_1, d.before a0 Z = true) : (Jvm.Cond.classLink "java/lang/String" (10 : Nat) "java/lang/String").before a0 Z = true := hw _ (List.mem_of_getElem? (i := 97) rfl)
theorem w_98 {a0 : Array Value} {Z : State} (hw : ∀ d ∈ tables_1, d.before a0 Z = true) : (Jvm.Cond.methodLink "java/lang/String" (1018 : Nat) ({ cls := "java/lang/StringLatin1", name := "toBytes", desc := "(C)[B" } : Jvm.MethodName)).before a0 Z = true := hw _ (List.mem_of_getElem? (i := 98) rfl)
theorem w_99 {a0 : Array Value} {Z : State} (hw : ∀ d ∈ tables_1, d.before a0 Z = true) : (Jvm.Cond.static ({ cls := "java/lang/StringLatin1", name := "toBytes", desc := "(C)[B" } : Jvm.MethodName)).before a0 Z = true := hw _ (List.mem_of_getElem? (i := 99) rfl)
theorem w_100 {a0 : Array Value} {Z : State} (hw : ∀ d ∈ tables_1, d.before a0 Z = true) : (Jvm.Cond.code ({ cls := "java/lang/StringLatin1", name := "toBytes", desc := "(C)[B" } : Jvm.MethodName) jdk_43_method_46_code (1 : Nat) (Option.some (Jvm.ClassFile.FieldType.array Jvm.ClassFile.FieldType.byte))).before a0 Z = true := hw _ (List.mem_of_getElem? (i := 100) rfl)
theorem w_101 {a0 : Array Value} {Z : State} (hw : ∀ d ∈ tables_1, d.before a0 Z = true) : (Jvm.Cond.methodLink "java/lang/String" (209 : Nat) ({ cls := "java/lang/String", name := "<init>", desc := "([BB)V" } : Jvm.MethodName)).before a0 Z = true := hw _ (List.mem_of_getElem? (i := 101) rfl)
theorem w_102 {a0 : Array Value} {Z : State} (hw : ∀ d ∈ tables_1, d.before a0 Z = true) : (Jvm.Cond.instanceMethod ({ cls := "java/lang/String", name := "<init>", desc := "([BB)V" } : Jvm.MethodName)).before a0 Z = true := hw _ (List.mem_of_getElem? (i := 102) rfl)
theorem w_103 {a0 : Array Value} {Z : State} (hw : ∀ d ∈ tables_1, d.before a0 Z = true) : (Jvm.Cond.code ({ cls := "java/lang/String", name := "<init>", desc := "([BB)V" } : Jvm.MethodName) jdk_42_method_151_code (3 : Nat) (Option.none : Option Jvm.ClassFile.FieldType)).before a0 Z = true := hw _ (List.mem_of_getElem? (i := 103) rfl)
theorem d1_0 : decode method_2_code 0 = .ok (.iload_n 0, 1) := by decide +kernel
theorem d1_1 : decode method_2_code 1 = .ok (.iconst 3, 1) := by decide +kernel
theorem d1_2 : decode method_2_code 2 = .ok (.iand, 1) := by decide +kernel
theorem d1_3 : decode method_2_code 3 = .ok (.istore 4, 2) := by decide +kernel
theorem d1_5 : decode method_2_code 5 = .ok (.iload_n 1, 1) := by decide +kernel
theorem d1_6 : decode method_2_code 6 = .ok (.sipush 255, 3) := by decide +kernel
theorem d1_9 : decode method_2_code 9 = .ok (.iand, 1) := by decide +kernel
theorem d1_10 : decode method_2_code 10 = .ok (.i2c, 1) := by decide +kernel
theorem d1_11 : decode method_2_code 11 = .ok (.istore 5, 2) := by decide +kernel
theorem d1_13 : decode method_2_code 13 = .ok (.iload_n 2, 1) := by decide +kernel
theorem d1_14 : decode method_2_code 14 = .ok (.sipush 255, 3) := by decide +kernel
theorem d1_17 : decode method_2_code 17 = .ok (.iand, 1) := by decide +kernel
theorem d1_18 : decode method_2_code 18 = .ok (.i2c, 1) := by decide +kernel
theorem d1_19 : decode method_2_code 19 = .ok (.istore 6, 2) := by decide +kernel
theorem d1_21 : decode method_2_code 21 = .ok (.iload_n 3, 1) := by decide +kernel
theorem d1_22 : decode method_2_code 22 = .ok (.sipush 255, 3) := by decide +kernel
theorem d1_25 : decode method_2_code 25 = .ok (.iand, 1) := by decide +kernel
theorem d1_26 : decode method_2_code 26 = .ok (.i2c, 1) := by decide +kernel
theorem d1_27 : decode method_2_code 27 = .ok (.istore 7, 2) := by decide +kernel
theorem d1_29 : decode method_2_code 29 = .ok (.iload 4, 2) := by decide +kernel
theorem d1_31 : decode method_2_code 31 = .ok (.ifCond .ne 14, 3) := by decide +kernel
theorem d1_34 : decode method_2_code 34 = .ok (.new 7, 3) := by decide +kernel
theorem d1_37 : decode method_2_code 37 = .ok (.dup, 1) := by decide +kernel
theorem d1_38 : decode method_2_code 38 = .ok (.iconst 0, 1) := by decide +kernel
theorem d1_39 : decode method_2_code 39 = .ok (.newarray .char, 2) := by decide +kernel
theorem d1_41 : decode method_2_code 41 = .ok (.invokespecial 9, 3) := by decide +kernel
theorem d1_44 : decode method_2_code 44 = .ok (.areturn, 1) := by decide +kernel
theorem d1_45 : decode method_2_code 45 = .ok (.iload 4, 2) := by decide +kernel
theorem d1_47 : decode method_2_code 47 = .ok (.iconst 1, 1) := by decide +kernel
theorem d1_48 : decode method_2_code 48 = .ok (.if_icmp .ne 9, 3) := by decide +kernel
theorem d1_51 : decode method_2_code 51 = .ok (.iload 5, 2) := by decide +kernel
theorem d1_53 : decode method_2_code 53 = .ok (.invokestatic 12, 3) := by decide +kernel
theorem d1_56 : decode method_2_code 56 = .ok (.areturn, 1) := by decide +kernel
theorem d1_57 : decode method_2_code 57 = .ok (.iload 4, 2) := by decide +kernel
theorem d1_59 : decode method_2_code 59 = .ok (.iconst 2, 1) := by decide +kernel
theorem d1_60 : decode method_2_code 60 = .ok (.if_icmp .ne 24, 3) := by decide +kernel
theorem d1_63 : decode method_2_code 63 = .ok (.new 7, 3) := by decide +kernel
theorem d1_66 : decode method_2_code 66 = .ok (.dup, 1) := by decide +kernel
theorem d1_67 : decode method_2_code 67 = .ok (.iconst 2, 1) := by decide +kernel
theorem d1_68 : decode method_2_code 68 = .ok (.newarray .char, 2) := by decide +kernel
theorem d1_70 : decode method_2_code 70 = .ok (.dup, 1) := by decide +kernel
theorem d1_71 : decode method_2_code 71 = .ok (.iconst 0, 1) := by decide +kernel
theorem d1_72 : decode method_2_code 72 = .ok (.iload 5, 2) := by decide +kernel
theorem d1_74 : decode method_2_code 74 = .ok (.castore, 1) := by decide +kernel
theorem d1_75 : decode method_2_code 75 = .ok (.dup, 1) := by decide +kernel
theorem d1_76 : decode method_2_code 76 = .ok (.iconst 1, 1) := by decide +kernel
theorem d1_77 : decode method_2_code 77 = .ok (.iload 6, 2) := by decide +kernel
theorem d1_79 : decode method_2_code 79 = .ok (.castore, 1) := by decide +kernel
theorem d1_80 : decode method_2_code 80 = .ok (.invokespecial 9, 3) := by decide +kernel
theorem d1_83 : decode method_2_code 83 = .ok (.areturn, 1) := by decide +kernel
theorem d1_84 : decode method_2_code 84 = .ok (.new 7, 3) := by decide +kernel
theorem d1_87 : decode method_2_code 87 = .ok (.dup, 1) := by decide +kernel
theorem d1_88 : decode method_2_code 88 = .ok (.iconst 3, 1) := by decide +kernel
theorem d1_89 : decode method_2_code 89 = .ok (.newarray .char, 2) := by decide +kernel
theorem d1_91 : decode method_2_code 91 = .ok (.dup, 1) := by decide +kernel
theorem d1_92 : decode method_2_code 92 = .ok (.iconst 0, 1) := by decide +kernel
theorem d1_93 : decode method_2_code 93 = .ok (.iload 5, 2) := by decide +kernel
theorem d1_95 : decode method_2_code 95 = .ok (.castore, 1) := by decide +kernel
theorem d1_96 : decode method_2_code 96 = .ok (.dup, 1) := by decide +kernel
theorem d1_97 : decode method_2_code 97 = .ok (.iconst 1, 1) := by decide +kernel
theorem d1_98 : decode method_2_code 98 = .ok (.iload 6, 2) := by decide +kernel
theorem d1_100 : decode method_2_code 100 = .ok (.castore, 1) := by decide +kernel
theorem d1_101 : decode method_2_code 101 = .ok (.dup, 1) := by decide +kernel
theorem d1_102 : decode method_2_code 102 = .ok (.iconst 2, 1) := by decide +kernel
theorem d1_103 : decode method_2_code 103 = .ok (.iload 7, 2) := by decide +kernel
theorem d1_105 : decode method_2_code 105 = .ok (.castore, 1) := by decide +kernel
theorem d1_106 : decode method_2_code 106 = .ok (.invokespecial 9, 3) := by decide +kernel
theorem d1_109 : decode method_2_code 109 = .ok (.areturn, 1) := by decide +kernel
theorem d2_0 : decode jdk_42_method_3_code 0 = .ok (.aload_n 0, 1) := by decide +kernel
theorem d2_1 : decode jdk_42_method_3_code 1 = .ok (.aload_n 1, 1) := by decide +kernel
theorem d2_2 : decode jdk_42_method_3_code 2 = .ok (.iconst 0, 1) := by decide +kernel
theorem d2_3 : decode jdk_42_method_3_code 3 = .ok (.aload_n 1, 1) := by decide +kernel
theorem d2_4 : decode jdk_42_method_3_code 4 = .ok (.arraylength, 1) := by decide +kernel
theorem d2_5 : decode jdk_42_method_3_code 5 = .ok (.aconst_null, 1) := by decide +kernel
theorem d2_6 : decode jdk_42_method_3_code 6 = .ok (.invokespecial 27, 3) := by decide +kernel
theorem d2_9 : decode jdk_42_method_3_code 9 = .ok (.return_, 1) := by decide +kernel
theorem d3_0 : decode jdk_42_method_149_code 0 = .ok (.aload_n 0, 1) := by decide +kernel
theorem d3_1 : decode jdk_42_method_149_code 1 = .ok (.invokespecial 1, 3) := by decide +kernel
theorem d3_4 : decode jdk_42_method_149_code 4 = .ok (.iload_n 3, 1) := by decide +kernel
theorem d3_5 : decode jdk_42_method_149_code 5 = .ok (.ifCond .ne 22, 3) := by decide +kernel
theorem d3_8 : decode jdk_42_method_149_code 8 = .ok (.aload_n 0, 1) := by decide +kernel
theorem d3_9 : decode jdk_42_method_149_code 9 = .ok (.ldc 7, 2) := by decide +kernel
theorem d3_11 : decode jdk_42_method_149_code 11 = .ok (.getfield 9, 3) := by decide +kernel
theorem d3_14 : decode jdk_42_method_149_code 14 = .ok (.putfield 9, 3) := by decide +kernel
theorem d3_17 : decode jdk_42_method_149_code 17 = .ok (.aload_n 0, 1) := by decide +kernel
theorem d3_18 : decode jdk_42_method_149_code 18 = .ok (.ldc 7, 2) := by decide +kernel
theorem d3_20 : decode jdk_42_method_149_code 20 = .ok (.getfield 15, 3) := by decide +kernel
theorem d3_23 : decode jdk_42_method_149_code 23 = .ok (.putfield 15, 3) := by decide +kernel
theorem d3_26 : decode jdk_42_method_149_code 26 = .ok (.return_, 1) := by decide +kernel
theorem d3_27 : decode jdk_42_method_149_code 27 = .ok (.getstatic 38, 3) := by decide +kernel
theorem d3_30 : decode jdk_42_method_149_code 30 = .ok (.ifCond .eq 28, 3) := by decide +kernel
theorem d3_33 : decode jdk_42_method_149_code 33 = .ok (.aload_n 1, 1) := by decide +kernel
theorem d3_34 : decode jdk_42_method_149_code 34 = .ok (.iload_n 2, 1) := by decide +kernel
theorem d3_35 : decode jdk_42_method_149_code 35 = .ok (.iload_n 3, 1) := by decide +kernel
theorem d3_36 : decode jdk_42_method_149_code 36 = .ok (.invokestatic 177, 3) := by decide +kernel
theorem d3_39 : decode jdk_42_method_149_code 39 = .ok (.astore 5, 2) := by decide +kernel
theorem d3_41 : decode jdk_42_method_149_code 41 = .ok (.aload_n 0, 1) := by decide +kernel
theorem d3_42 : decode jdk_42_method_149_code 42 = .ok (.aload 5, 2) := by decide +kernel
theorem d3_44 : decode jdk_42_method_149_code 44 = .ok (.iload_n 3, 1) := by decide +kernel
theorem d3_45 : decode jdk_42_method_149_code 45 = .ok (.invokestatic 47, 3) := by decide +kernel
theorem d3_48 : decode jdk_42_method_149_code 48 = .ok (.putfield 15, 3) := by decide +kernel
theorem d3_51 : decode jdk_42_method_149_code 51 = .ok (.aload_n 0, 1) := by decide +kernel
theorem d3_52 : decode jdk_42_method_149_code 52 = .ok (.aload 5, 2) := by decide +kernel
theorem d3_54 : decode jdk_42_method_149_code 54 = .ok (.putfield 9, 3) := by decide +kernel
theorem d3_57 : decode jdk_42_method_149_code 57 = .ok (.return_, 1) := by decide +kernel
theorem d5_0 : decode prog_45_method_4_code 0 = .ok (.new 8, 3) := by decide +kernel
theorem d5_3 : decode prog_45_method_4_code 3 = .ok (.dup, 1) := by decide +kernel
theorem d5_4 : decode prog_45_method_4_code 4 = .ok (.aload_n 0, 1) := by decide +kernel
theorem d5_5 : decode prog_45_method_4_code 5 = .ok (.ldc 23, 2) := by decide +kernel
theorem d5_7 : decode prog_45_method_4_code 7 = .ok (.iconst 0, 1) := by decide +kernel
theorem d5_8 : decode prog_45_method_4_code 8 = .ok (.invokespecial 20, 3) := by decide +kernel
theorem d5_11 : decode prog_45_method_4_code 11 = .ok (.areturn, 1) := by decide +kernel
theorem d6_0 : decode prog_45_method_2_code 0 = .ok (.aload_n 0, 1) := by decide +kernel
theorem d6_1 : decode prog_45_method_2_code 1 = .ok (.invokespecial 1, 3) := by decide +kernel
theorem d6_4 : decode prog_45_method_2_code 4 = .ok (.aload_n 0, 1) := by decide +kernel
theorem d6_5 : decode prog_45_method_2_code 5 = .ok (.aload_n 1, 1) := by decide +kernel
theorem d6_6 : decode prog_45_method_2_code 6 = .ok (.putfield 7, 3) := by decide +kernel
theorem d6_9 : decode prog_45_method_2_code 9 = .ok (.aload_n 0, 1) := by decide +kernel
theorem d6_10 : decode prog_45_method_2_code 10 = .ok (.aload_n 2, 1) := by decide +kernel
theorem d6_11 : decode prog_45_method_2_code 11 = .ok (.putfield 13, 3) := by decide +kernel
theorem d6_14 : decode prog_45_method_2_code 14 = .ok (.aload_n 0, 1) := by decide +kernel
theorem d6_15 : decode prog_45_method_2_code 15 = .ok (.iload_n 3, 1) := by decide +kernel
theorem d6_16 : decode prog_45_method_2_code 16 = .ok (.putfield 16, 3) := by decide +kernel
theorem d6_19 : decode prog_45_method_2_code 19 = .ok (.return_, 1) := by decide +kernel
theorem d7_0 : decode jdk_30_method_1_code 0 = .ok (.aload_n 0, 1) := by decide +kernel
theorem d7_1 : decode jdk_30_method_1_code 1 = .ok (.invokespecial 1, 3) := by decide +kernel
theorem d7_4 : decode jdk_30_method_1_code 4 = .ok (.return_, 1) := by decide +kernel
theorem d8_0 : decode prog_45_method_9_code 0 = .ok (.aload_n 0, 1) := by decide +kernel
theorem d8_1 : decode prog_45_method_9_code 1 = .ok (.getfield 7, 3) := by decide +kernel
theorem d8_4 : decode prog_45_method_9_code 4 = .ok (.areturn, 1) := by decide +kernel
theorem d9_0 : decode prog_45_method_10_code 0 = .ok (.aload_n 0, 1) := by decide +kernel
theorem d9_1 : decode prog_45_method_10_code 1 = .ok (.getfield 13, 3) := by decide +kernel
theorem d9_4 : decode prog_45_method_10_code 4 = .ok (.areturn, 1) := by decide +kernel
theorem d10_0 : decode prog_45_method_11_code 0 = .ok (.aload_n 0, 1) := by decide +kernel
theorem d10_1 : decode prog_45_method_11_code 1 = .ok (.getfield 16, 3) := by decide +kernel
theorem d10_4 : decode prog_45_method_11_code 4 = .ok (.ireturn, 1) := by decide +kernel
theorem d11_0 : decode prog_45_method_5_code 0 = .ok (.aload_n 0, 1) := by decide +kernel
theorem d11_1 : decode prog_45_method_5_code 1 = .ok (.getfield 13, 3) := by decide +kernel
theorem d11_4 : decode prog_45_method_5_code 4 = .ok (.invokevirtual 25, 3) := by decide +kernel
theorem d11_7 : decode prog_45_method_5_code 7 = .ok (.ireturn, 1) := by decide +kernel
theorem d12_0 : decode jdk_42_method_55_code 0 = .ok (.aload_n 0, 1) := by decide +kernel
theorem d12_1 : decode jdk_42_method_55_code 1 = .ok (.getfield 9, 3) := by decide +kernel
theorem d12_4 : decode jdk_42_method_55_code 4 = .ok (.arraylength, 1) := by decide +kernel
theorem d12_5 : decode jdk_42_method_55_code 5 = .ok (.ifCond .ne 7, 3) := by decide +kernel
theorem d12_8 : decode jdk_42_method_55_code 8 = .ok (.iconst 1, 1) := by decide +kernel
theorem d12_9 : decode jdk_42_method_55_code 9 = .ok (.goto 4, 3) := by decide +kernel
theorem d12_13 : decode jdk_42_method_55_code 13 = .ok (.ireturn, 1) := by decide +kernel
theorem d13_0 : decode jdk_42_method_66_code 0 = .ok (.aload_n 0, 1) := by decide +kernel
theorem d13_1 : decode jdk_42_method_66_code 1 = .ok (.aload_n 1, 1) := by decide +kernel
theorem d13_2 : decode jdk_42_method_66_code 2 = .ok (.if_acmp .ne 5, 3) := by decide +kernel
theorem d13_5 : decode jdk_42_method_66_code 5 = .ok (.iconst 1, 1) := by decide +kernel
theorem d13_6 : decode jdk_42_method_66_code 6 = .ok (.ireturn, 1) := by decide +kernel
theorem d14_0 : decode jdk_52_method_16_code 0 = .ok (.iload_n 2, 1) := by decide +kernel
theorem d14_1 : decode jdk_52_method_16_code 1 = .ok (.newarray .byte, 2) := by decide +kernel
theorem d14_3 : decode jdk_52_method_16_code 3 = .ok (.astore_n 3, 1) := by decide +kernel
theorem d14_4 : decode jdk_52_method_16_code 4 = .ok (.aload_n 0, 1) := by decide +kernel
theorem d14_5 : decode jdk_52_method_16_code 5 = .ok (.iload_n 1, 1) := by decide +kernel
theorem d14_6 : decode jdk_52_method_16_code 6 = .ok (.aload_n 3, 1) := by decide +kernel
theorem d14_7 : decode jdk_52_method_16_code 7 = .ok (.iconst 0, 1) := by decide +kernel
theorem d14_8 : decode jdk_52_method_16_code 8 = .ok (.iload_n 2, 1) := by decide +kernel
theorem d14_9 : decode jdk_52_method_16_code 9 = .ok (.invokestatic 115, 3) := by decide +kernel
theorem d14_12 : decode jdk_52_method_16_code 12 = .ok (.istore 4, 2) := by decide +kernel
theorem d14_14 : decode jdk_52_method_16_code 14 = .ok (.iload 4, 2) := by decide +kernel
theorem d14_16 : decode jdk_52_method_16_code 16 = .ok (.iload_n 2, 1) := by decide +kernel
theorem d14_17 : decode jdk_52_method_16_code 17 = .ok (.if_icmp .eq 40, 3) := by decide +kernel
theorem d14_57 : decode jdk_52_method_16_code 57 = .ok (.aload_n 3, 1) := by decide +kernel
theorem d14_58 : decode jdk_52_method_16_code 58 = .ok (.areturn, 1) := by decide +kernel
theorem d15_0 : decode jdk_52_method_21_code 0 = .ok (.iconst 0, 1) := by decide +kernel
theorem d15_1 : decode jdk_52_method_21_code 1 = .ok (.istore 5, 2) := by decide +kernel
theorem d15_3 : decode jdk_52_method_21_code 3 = .ok (.iload 5, 2) := by decide +kernel
theorem d15_5 : decode jdk_52_method_21_code 5 = .ok (.iload 4, 2) := by decide +kernel
theorem d15_7 : decode jdk_52_method_21_code 7 = .ok (.if_icmp .ge 37, 3) := by decide +kernel
theorem d15_10 : decode jdk_52_method_21_code 10 = .ok (.aload_n 0, 1) := by decide +kernel
theorem d15_11 : decode jdk_52_method_21_code 11 = .ok (.iload_n 1, 1) := by decide +kernel
theorem d15_12 : decode jdk_52_method_21_code 12 = .ok (.caload, 1) := by decide +kernel
theorem d15_13 : decode jdk_52_method_21_code 13 = .ok (.istore 6, 2) := by decide +kernel
theorem d15_15 : decode jdk_52_method_21_code 15 = .ok (.iload 6, 2) := by decide +kernel
theorem d15_17 : decode jdk_52_method_21_code 17 = .ok (.sipush 255, 3) := by decide +kernel
theorem d15_20 : decode jdk_52_method_21_code 20 = .ok (.if_icmp .le 6, 3) := by decide +kernel
theorem d15_26 : decode jdk_52_method_21_code 26 = .ok (.aload_n 2, 1) := by decide +kernel
theorem d15_27 : decode jdk_52_method_21_code 27 = .ok (.iload_n 3, 1) := by decide +kernel
theorem d15_28 : decode jdk_52_method_21_code 28 = .ok (.iload 6, 2) := by decide +kernel
theorem d15_30 : decode jdk_52_method_21_code 30 = .ok (.i2b, 1) := by decide +kernel
theorem d15_31 : decode jdk_52_method_21_code 31 = .ok (.bastore, 1) := by decide +kernel
theorem d15_32 : decode jdk_52_method_21_code 32 = .ok (.iinc 1 1, 3) := by decide +kernel
theorem d15_35 : decode jdk_52_method_21_code 35 = .ok (.iinc 3 1, 3) := by decide +kernel
theorem d15_38 : decode jdk_52_method_21_code 38 = .ok (.iinc 5 1, 3) := by decide +kernel
theorem d15_41 : decode jdk_52_method_21_code 41 = .ok (.goto (-38), 3) := by decide +kernel
theorem d15_44 : decode jdk_52_method_21_code 44 = .ok (.iload 4, 2) := by decide +kernel
theorem d15_46 : decode jdk_52_method_21_code 46 = .ok (.ireturn, 1) := by decide +kernel
theorem d16_0 : decode jdk_52_method_15_code 0 = .ok (.iload_n 1, 1) := by decide +kernel
theorem d16_1 : decode jdk_52_method_15_code 1 = .ok (.aload_n 0, 1) := by decide +kernel
theorem d16_2 : decode jdk_52_method_15_code 2 = .ok (.arraylength, 1) := by decide +kernel
theorem d16_3 : decode jdk_52_method_15_code 3 = .ok (.isub, 1) := by decide +kernel
theorem d16_4 : decode jdk_52_method_15_code 4 = .ok (.bipush 31, 2) := by decide +kernel
theorem d16_6 : decode jdk_52_method_15_code 6 = .ok (.iushr, 1) := by decide +kernel
theorem d16_7 : decode jdk_52_method_15_code 7 = .ok (.i2b, 1) := by decide +kernel
theorem d16_8 : decode jdk_52_method_15_code 8 = .ok (.ireturn, 1) := by decide +kernel
theorem d17_0 : decode jdk_42_method_139_code 0 = .ok (.getstatic 38, 3) := by decide +kernel
theorem d17_3 : decode jdk_42_method_139_code 3 = .ok (.ifCond .eq 23, 3) := by decide +kernel
theorem d17_6 : decode jdk_42_method_139_code 6 = .ok (.iload_n 0, 1) := by decide +kernel
theorem d17_7 : decode jdk_42_method_139_code 7 = .ok (.invokestatic 1015, 3) := by decide +kernel
theorem d17_10 : decode jdk_42_method_139_code 10 = .ok (.ifCond .eq 16, 3) := by decide +kernel
theorem d17_13 : decode jdk_42_method_139_code 13 = .ok (.new 10, 3) := by decide +kernel
theorem d17_16 : decode jdk_42_method_139_code 16 = .ok (.dup, 1) := by decide +kernel
theorem d17_17 : decode jdk_42_method_139_code 17 = .ok (.iload_n 0, 1) := by decide +kernel
theorem d17_18 : decode jdk_42_method_139_code 18 = .ok (.invokestatic 1018, 3) := by decide +kernel
theorem d17_21 : decode jdk_42_method_139_code 21 = .ok (.iconst 0, 1) := by decide +kernel
theorem d17_22 : decode jdk_42_method_139_code 22 = .ok (.invokespecial 209, 3) := by decide +kernel
theorem d17_25 : decode jdk_42_method_139_code 25 = .ok (.areturn, 1) := by decide +kernel
theorem d18_0 : decode jdk_43_method_3_code 0 = .ok (.iload_n 0, 1) := by decide +kernel
theorem d18_1 : decode jdk_43_method_3_code 1 = .ok (.sipush 255, 3) := by decide +kernel
theorem d18_4 : decode jdk_43_method_3_code 4 = .ok (.if_icmp .gt 7, 3) := by decide +kernel
theorem d18_7 : decode jdk_43_method_3_code 7 = .ok (.iconst 1, 1) := by decide +kernel
theorem d18_8 : decode jdk_43_method_3_code 8 = .ok (.goto 4, 3) := by decide +kernel
theorem d18_12 : decode jdk_43_method_3_code 12 = .ok (.ireturn, 1) := by decide +kernel
theorem d19_0 : decode jdk_43_method_46_code 0 = .ok (.iconst 1, 1) := by decide +kernel
theorem d19_1 : decode jdk_43_method_46_code 1 = .ok (.newarray .byte, 2) := by decide +kernel
theorem d19_3 : decode jdk_43_method_46_code 3 = .ok (.dup, 1) := by decide +kernel
theorem d19_4 : decode jdk_43_method_46_code 4 = .ok (.iconst 0, 1) := by decide +kernel
theorem d19_5 : decode jdk_43_method_46_code 5 = .ok (.iload_n 0, 1) := by decide +kernel
theorem d19_6 : decode jdk_43_method_46_code 6 = .ok (.i2b, 1) := by decide +kernel
theorem d19_7 : decode jdk_43_method_46_code 7 = .ok (.bastore, 1) := by decide +kernel
theorem d19_8 : decode jdk_43_method_46_code 8 = .ok (.areturn, 1) := by decide +kernel
theorem d20_0 : decode jdk_42_method_151_code 0 = .ok (.aload_n 0, 1) := by decide +kernel
theorem d20_1 : decode jdk_42_method_151_code 1 = .ok (.invokespecial 1, 3) := by decide +kernel
theorem d20_4 : decode jdk_42_method_151_code 4 = .ok (.aload_n 0, 1) := by decide +kernel
theorem d20_5 : decode jdk_42_method_151_code 5 = .ok (.aload_n 1, 1) := by decide +kernel
theorem d20_6 : decode jdk_42_method_151_code 6 = .ok (.putfield 9, 3) := by decide +kernel
theorem d20_9 : decode jdk_42_method_151_code 9 = .ok (.aload_n 0, 1) := by decide +kernel
theorem d20_10 : decode jdk_42_method_151_code 10 = .ok (.iload_n 2, 1) := by decide +kernel
theorem d20_11 : decode jdk_42_method_151_code 11 = .ok (.putfield 15, 3) := by decide +kernel
theorem d20_14 : decode jdk_42_method_151_code 14 = .ok (.return_, 1) := by decide +kernel
theorem pn_0 : plainName "java/lang/StringUTF16" = true := by first | (simp [plainName, overriddenIn]; done) | decide +kernel
theorem pn_1 : plainName "java/lang/String" = true := by first | (simp [plainName, overriddenIn]; done) | decide +kernel
theorem pn_2 : plainName "java/lang/StringLatin1" = true := by first | (simp [plainName, overriddenIn]; done) | decide +kernel
theorem pn_3 : plainName "tenorbook/cli/OptionFlagPinLaw" = true := by first | (simp [plainName, overriddenIn]; done) | decide +kernel
theorem pn_4 : plainName "java/lang/Record" = true := by first | (simp [plainName, overriddenIn]; done) | decide +kernel
theorem pn_5 : plainName "tenorbook/cli/Arguments$Option" = true := by first | (simp [plainName, overriddenIn]; done) | decide +kernel
theorem pd_0 : parseMethodDescriptor "([CI[BII)I" = some ⟨[(.array .char), .int, (.array .byte), .int, .int], some .int⟩ := by decide +kernel
theorem pd_1 : parseMethodDescriptor "([CII)[B" = some ⟨[(.array .char), .int, .int], some (.array .byte)⟩ := by decide +kernel
theorem pd_2 : parseMethodDescriptor "([BI)B" = some ⟨[(.array .byte), .int], some .byte⟩ := by decide +kernel
theorem pd_3 : parseMethodDescriptor "([CIILjava/lang/Void;)V" = some ⟨[(.array .char), .int, .int, (.object "java/lang/Void")], none⟩ := by decide +kernel
theorem pd_4 : parseMethodDescriptor "(C)Z" = some ⟨[.char], some .boolean⟩ := by decide +kernel
theorem pd_5 : parseMethodDescriptor "(C)[B" = some ⟨[.char], some (.array .byte)⟩ := by decide +kernel
theorem pd_6 : parseMethodDescriptor "([BB)V" = some ⟨[(.array .byte), .byte], none⟩ := by decide +kernel
theorem pd_7 : parseMethodDescriptor "([C)V" = some ⟨[(.array .char)], none⟩ := by decide +kernel
theorem pd_8 : parseMethodDescriptor "(C)Ljava/lang/String;" = some ⟨[.char], some (.object "java/lang/String")⟩ := by decide +kernel
theorem pd_9 : parseMethodDescriptor "()V" = some ⟨[], none⟩ := by decide +kernel
theorem pd_10 : parseMethodDescriptor "(Ljava/lang/String;Ljava/lang/String;Z)V" = some ⟨[(.object "java/lang/String"), (.object "java/lang/String"), .boolean], none⟩ := by decide +kernel
theorem pd_11 : parseMethodDescriptor "()Z" = some ⟨[], some .boolean⟩ := by decide +kernel
theorem pd_12 : parseMethodDescriptor "(IIII)Ljava/lang/String;" = some ⟨[.int, .int, .int, .int], some (.object "java/lang/String")⟩ := by decide +kernel
theorem pd_13 : parseMethodDescriptor "(Ljava/lang/String;)Ltenorbook/cli/Arguments$Option;" = some ⟨[(.object "java/lang/String")], some (.object "tenorbook/cli/Arguments$Option")⟩ := by decide +kernel
theorem pd_14 : parseMethodDescriptor "()Ljava/lang/String;" = some ⟨[], some (.object "java/lang/String")⟩ := by decide +kernel
theorem pd_15 : parseMethodDescriptor "(Ljava/lang/Object;)Z" = some ⟨[(.object "java/lang/Object")], some .boolean⟩ := by decide +kernel
theorem own_wS {a0 : Array Value} {Z : State} (hw : ∀ d ∈ tables_1, d.before a0 Z = true) : ∀ a ∈ Bundle.stringAtoms, a.before a0 Z = true := fun d hd => by
  simp only [Bundle.stringAtoms, List.mem_cons, List.not_mem_nil, or_false] at hd
  rcases hd with rfl | rfl | rfl | rfl | rfl | rfl | rfl
  · exact (w_6 hw)
  · exact (w_5 hw)
  · exact (w_19 hw)
  · exact (w_20 hw)
  · exact (w_21 hw)
  · exact (w_22 hw)
  · exact (w_23 hw)
theorem own_EW {a0 : Array Value} {Z : State} (hw : ∀ d ∈ tables_1, d.before a0 Z = true) : EW Z a0 consts_1 := EW.cons (w_18 hw) (by decide) (EW.cons (w_32 hw) (by decide) (EW.nil))
def OwnS (Z : State) (i_COMPACT_STRINGS : Int32) (v_SIOOBE_FORMATTER : Value) : Prop := (Sta Z Z.heap "java/lang/String" "COMPACT_STRINGS" "Z" (.int i_COMPACT_STRINGS)) ∧ (Sta Z Z.heap "jdk/internal/util/Preconditions" "SIOOBE_FORMATTER" "Ljava/util/function/BiFunction;" v_SIOOBE_FORMATTER) ∧ (v_SIOOBE_FORMATTER.isRef = true) ∧ (¬ (i_COMPACT_STRINGS = (0 : Int32)))
def own_by (c : Int32) : Int32 := nar .byte c.toInt8.toInt32
theorem own_ch255 (y : Int32) : ¬ ((255 : Int32) < ((y &&& (255 : Int32)).toUInt32.toUInt16.toUInt32.toInt32)) ∧ nar .char ((y &&& (255 : Int32)).toUInt32.toUInt16.toUInt32.toInt32) = ((y &&& (255 : Int32)).toUInt32.toUInt16.toUInt32.toInt32) := by
  rw [i2c_mask]
  refine ⟨?_, i2c_mask y⟩
  have h := (c_and y 255 (by decide)).2
  rw [Int32.lt_iff_toInt_lt]
  omega
theorem ef_C5_2 (m : MethodId) (x0 : Addr) (x1 : Int32) (x2 : Addr) (x3 : Int32) (x4 : Int32) : entryFrame m #[(.ref x0), (.int x1), (.ref x2), (.int x3), (.int x4)] 7 = mkF m 0 #[.val (.ref x0), .val (.int x1), .val (.ref x2), .val (.int x3), .val (.int x4), .unset, .unset] [] := by first | (simp [entryFrame, mkF, argsToLocals, Value.category]; done) | rfl
def QC5_2 (Z : State) (ca : Addr) (kc : ClassId) (ba : Addr) (kb : ClassId) (c0 : Int32) (c1 : Int32) (h0 : Heap) (n0 : Nat) (v : Option Value) (h : Heap) (L : List Loc) : Prop := v = some (.int (2 : Int32)) ∧ Fr n0 L ∧ Keep h0 h [ba] ∧ Arv Z h ba kb .byte (2 : Int32) [(.int (own_by c0)), (.int (own_by c1))] (.int (0 : Int32))
set_option maxRecDepth 65536 in
set_option maxHeartbeats 40000000 in
theorem rmC5_2 (l : Launch) (Z : State) (a0 : Array Value) (hw : ∀ d ∈ tables_1, d.before a0 Z = true) (ws : List Jvm.Cond) (ca : Addr) (kc : ClassId) (ba : Addr) (kb : ClassId) (c0 : Int32) (c1 : Int32) (h0 : Heap) (n0 : Nat) (O0 : Old Z n0 h0) (V : Arv Z h0 ca kc .char (2 : Int32) [(.int c0), (.int c1)] (.int (0 : Int32))) (B : Arv Z h0 ba kb .byte (2 : Int32) [(.int (0 : Int32)), (.int (0 : Int32))] (.int (0 : Int32))) (gb : n0 ≤ ba) (hne : ca ≠ ba) (hc0 : ¬ ((255 : Int32) < c0)) (hc1 : ¬ ((255 : Int32) < c1)) :
    MetFree l (⟨"java/lang/StringUTF16", "compress", "([CI[BII)I"⟩ : MethodName) (head1 (Jvm.Cond.code (⟨"java/lang/StringUTF16", "compress", "([CI[BII)I"⟩ : MethodName) jdk_52_method_21_code 7 (some .int) :: ws) ({ frames := 0, cells := 0, slots := 0, locals := 0 } : Room)) (fun aa_ UU_ => aa_ = #[(.ref ca), (.int (0 : Int32)), (.ref ba), (.int (0 : Int32)), (.int (2 : Int32))] ∧ Z.Warmed39 UU_.vm ∧ UU_.heap = h0) (fun _ _ _ _ _ => True) (fun _ UU_ oo_ UV_ => ∃ vv_ LL_, oo_ = .returned vv_ ∧ QC5_2 Z ca kc ba kb c0 c1 h0 n0 vv_ UV_.heap LL_ ∧ FrameEnd UU_ oo_ UV_ LL_ ({ frames := 0, cells := 0, slots := 0, locals := 0 } : Room).cells ({ frames := 0, cells := 0, slots := 0, locals := 0 } : Room).slots) := by
  refine MetFree.of_bodySF (plainFor_of_name pn_0) hisR ?_
  intro p e s m args below meth c s₁ Bd hml0 hP hK
  obtain ⟨rfl, hZ, hh⟩ := hP
  have hx := Bd.exec
  have hby := Bd.bytes
  have hlk := BodyLoose.notSynchronized Bd
  have hml : c.maxLocals = 7 := hml0
  have hown : s.vm.findClass "java/lang/StringUTF16" = some m.cls := findClass_of_methodNamed Bd.named
  have hnm := (name_of_methodNamed Bd.named Bd.method).1
  have X0 : Stand p l e ({ frames := 0, cells := 0, slots := 0, locals := 0 } : Room) s m #[(.ref ca), (.int (0 : Int32)), (.ref ba), (.int (0 : Int32)), (.int (2 : Int32))] below meth c s₁ [] 0 0 := Stand.of_body Bd
  have e0 : s₁.heap = h0 := by rw [← hh, Bd.state]; rfl
  have N0 := Fr.nil n0
  have KC0 : Keep h0 h0 [ba] := Keep.refl _ _
  suffices hOW : OW p e below s (QC5_2 Z ca kc ba kb c0 c1 h0 n0) 0 0 (s₁.setTop (mkF m 0 #[.val (.ref ca), .val (.int (0 : Int32)), .val (.ref ba), .val (.int (0 : Int32)), .val (.int (2 : Int32)), .unset, .unset] [])) by
    obtain ⟨oq1_, oq2_, oq3_, oq4_⟩ := hOW
    exact ⟨oq1_, oq2_, castTop (ef_C5_2 m ca (0 : Int32) ba (0 : Int32) (2 : Int32)) oq3_, oq4_⟩
  refine OW.st (B := s₁.setTop (mkF m 1 #[.val (.ref ca), .val (.int (0 : Int32)), .val (.ref ba), .val (.int (0 : Int32)), .val (.int (2 : Int32)), .unset, .unset] [(.int (0 : Int32))])) (fun _ kk_ => XS.iconst X0.here hx rfl (hb hby d15_0) kk_) ?_
  refine OW.st (B := s₁.setTop (mkF m 3 #[.val (.ref ca), .val (.int (0 : Int32)), .val (.ref ba), .val (.int (0 : Int32)), .val (.int (2 : Int32)), .val (.int (0 : Int32)), .unset] [])) (fun _ kk_ => XS.istore X0.here hx rfl (hb hby d15_1) rfl (l' := #[.val (.ref ca), .val (.int (0 : Int32)), .val (.ref ba), .val (.int (0 : Int32)), .val (.int (2 : Int32)), .val (.int (0 : Int32)), .unset]) rfl kk_) ?_
  refine OW.st (B := s₁.setTop (mkF m 5 #[.val (.ref ca), .val (.int (0 : Int32)), .val (.ref ba), .val (.int (0 : Int32)), .val (.int (2 : Int32)), .val (.int (0 : Int32)), .unset] [(.int (0 : Int32))])) (fun _ kk_ => XS.iload X0.here hx rfl (hb hby d15_3) rfl kk_) ?_
  refine OW.st (B := s₁.setTop (mkF m 7 #[.val (.ref ca), .val (.int (0 : Int32)), .val (.ref ba), .val (.int (0 : Int32)), .val (.int (2 : Int32)), .val (.int (0 : Int32)), .unset] [(.int (2 : Int32)), (.int (0 : Int32))])) (fun _ kk_ => XS.iload X0.here hx rfl (hb hby d15_5) rfl kk_) ?_
  refine OW.st (B := s₁.setTop (mkF m 10 #[.val (.ref ca), .val (.int (0 : Int32)), .val (.ref ba), .val (.int (0 : Int32)), .val (.int (2 : Int32)), .val (.int (0 : Int32)), .unset] [])) (fun _ kk_ => XS.icmpNo X0.here hx rfl (hb hby d15_7) rfl (tlt (by decide)).2.1 kk_) ?_
  refine OW.st (B := s₁.setTop (mkF m 11 #[.val (.ref ca), .val (.int (0 : Int32)), .val (.ref ba), .val (.int (0 : Int32)), .val (.int (2 : Int32)), .val (.int (0 : Int32)), .unset] [(.ref ca)])) (fun _ kk_ => XS.aloadN X0.here hx rfl (hb hby d15_10) rfl rfl kk_) ?_
  refine OW.st (B := s₁.setTop (mkF m 12 #[.val (.ref ca), .val (.int (0 : Int32)), .val (.ref ba), .val (.int (0 : Int32)), .val (.int (2 : Int32)), .val (.int (0 : Int32)), .unset] [(.int (0 : Int32)), (.ref ca)])) (fun _ kk_ => XS.iloadN X0.here hx rfl (hb hby d15_11) rfl kk_) ?_
  obtain ⟨cl1, Ar1, q1, S1, Ng1, Hs1, G1⟩ := id V
  have hin1 : ¬ ((0 : Int32) < 0 ∨ cl1.slots.size ≤ ((0 : Int32)).toNatClampNeg) := inb_of S1 ⟨by decide, by decide⟩
  refine OW.st (B := s₁.setTop (mkF m 13 #[.val (.ref ca), .val (.int (0 : Int32)), .val (.ref ba), .val (.int (0 : Int32)), .val (.int (2 : Int32)), .val (.int (0 : Int32)), .unset] [(.int c0)])) (X0.caload hx (j := (0 : Int32)) (v := (.int c0)) (by rw [e0]; exact Ar1.1) (State.isArrayOf_alike hZ.alike Ar1.2.1) Ar1.2.2 hin1 (Has.at Hs1 hin1 rfl) (g := (mkF m 12 #[.val (.ref ca), .val (.int (0 : Int32)), .val (.ref ba), .val (.int (0 : Int32)), .val (.int (2 : Int32)), .val (.int (0 : Int32)), .unset] [(.int (0 : Int32)), (.ref ca)])) rfl rfl (hb hby d15_12)) ?_
  refine OW.st (B := s₁.setTop (mkF m 15 #[.val (.ref ca), .val (.int (0 : Int32)), .val (.ref ba), .val (.int (0 : Int32)), .val (.int (2 : Int32)), .val (.int (0 : Int32)), .val (.int c0)] [])) (fun _ kk_ => XS.istore X0.here hx rfl (hb hby d15_13) rfl (l' := #[.val (.ref ca), .val (.int (0 : Int32)), .val (.ref ba), .val (.int (0 : Int32)), .val (.int (2 : Int32)), .val (.int (0 : Int32)), .val (.int c0)]) rfl kk_) ?_
  refine OW.st (B := s₁.setTop (mkF m 17 #[.val (.ref ca), .val (.int (0 : Int32)), .val (.ref ba), .val (.int (0 : Int32)), .val (.int (2 : Int32)), .val (.int (0 : Int32)), .val (.int c0)] [(.int c0)])) (fun _ kk_ => XS.iload X0.here hx rfl (hb hby d15_15) rfl kk_) ?_
  refine OW.st (B := s₁.setTop (mkF m 20 #[.val (.ref ca), .val (.int (0 : Int32)), .val (.ref ba), .val (.int (0 : Int32)), .val (.int (2 : Int32)), .val (.int (0 : Int32)), .val (.int c0)] [(.int (255 : Int32)), (.int c0)])) (fun _ kk_ => XS.sipush X0.here hx rfl (hb hby d15_17) kk_) ?_
  refine OW.st (B := s₁.setTop (mkF m 26 #[.val (.ref ca), .val (.int (0 : Int32)), .val (.ref ba), .val (.int (0 : Int32)), .val (.int (2 : Int32)), .val (.int (0 : Int32)), .val (.int c0)] [])) (fun _ kk_ => XS.icmpYes X0.here hx rfl (pc0 := 20) (pc' := 26) rfl (hb hby d15_20) rfl (flt hc0).2.2.2 (by decide) (by decide) kk_) ?_
  refine OW.st (B := s₁.setTop (mkF m 27 #[.val (.ref ca), .val (.int (0 : Int32)), .val (.ref ba), .val (.int (0 : Int32)), .val (.int (2 : Int32)), .val (.int (0 : Int32)), .val (.int c0)] [(.ref ba)])) (fun _ kk_ => XS.aloadN X0.here hx rfl (hb hby d15_26) rfl rfl kk_) ?_
  refine OW.st (B := s₁.setTop (mkF m 28 #[.val (.ref ca), .val (.int (0 : Int32)), .val (.ref ba), .val (.int (0 : Int32)), .val (.int (2 : Int32)), .val (.int (0 : Int32)), .val (.int c0)] [(.int (0 : Int32)), (.ref ba)])) (fun _ kk_ => XS.iloadN X0.here hx rfl (hb hby d15_27) rfl kk_) ?_
  refine OW.st (B := s₁.setTop (mkF m 30 #[.val (.ref ca), .val (.int (0 : Int32)), .val (.ref ba), .val (.int (0 : Int32)), .val (.int (2 : Int32)), .val (.int (0 : Int32)), .val (.int c0)] [(.int c0), (.int (0 : Int32)), (.ref ba)])) (fun _ kk_ => XS.iload X0.here hx rfl (hb hby d15_28) rfl kk_) ?_
  refine OW.st (B := s₁.setTop (mkF m 31 #[.val (.ref ca), .val (.int (0 : Int32)), .val (.ref ba), .val (.int (0 : Int32)), .val (.int (2 : Int32)), .val (.int (0 : Int32)), .val (.int c0)] [(.int (c0.toInt8.toInt32)), (.int (0 : Int32)), (.ref ba)])) (fun _ kk_ => XS.i2b X0.here hx rfl (hb hby d15_30) rfl kk_) ?_
  obtain ⟨cl2, Ar2, q2, S2, Ng2, Hs2, G2⟩ := id B
  have hin2 : ¬ ((0 : Int32) < 0 ∨ cl2.slots.size ≤ ((0 : Int32)).toNatClampNeg) := inb_of S2 ⟨by decide, by decide⟩
  obtain ⟨T3, h3, X3, e3, W3, st3⟩ := stB X0 hx hZ e0 Ar2 (j := (0 : Int32)) hin2 (g := (mkF m 31 #[.val (.ref ca), .val (.int (0 : Int32)), .val (.ref ba), .val (.int (0 : Int32)), .val (.int (2 : Int32)), .val (.int (0 : Int32)), .val (.int c0)] [(.int (c0.toInt8.toInt32)), (.int (0 : Int32)), (.ref ba)])) rfl rfl (hb hby d15_31)
  have N3 := Fr.snoc X3 N0 gb
  have O3 : Old Z n0 h3 := O0.wr W3 gb
  have KC3 : Keep h0 h3 [ba] := KC0.wr W3 (Or.inl (List.mem_of_getElem? (i := 0) rfl))
  have V3 : Arv Z h3 ba kb .byte (2 : Int32) [(.int (nar .byte (c0.toInt8.toInt32))), (.int (0 : Int32))] (.int (0 : Int32)) := Arv.set Ar2 q2 S2 Ng2 Hs2 G2 (fits_nar_byte _) W3 0 rfl (Nat.le_of_ble_eq_true rfl)
  refine OW.st (B := T3.setTop (mkF m 32 #[.val (.ref ca), .val (.int (0 : Int32)), .val (.ref ba), .val (.int (0 : Int32)), .val (.int (2 : Int32)), .val (.int (0 : Int32)), .val (.int c0)] [])) (st3) ?_
  refine OW.st (B := T3.setTop (mkF m 35 #[.val (.ref ca), .val (.int ((0 : Int32) + (1 : Int32))), .val (.ref ba), .val (.int (0 : Int32)), .val (.int (2 : Int32)), .val (.int (0 : Int32)), .val (.int c0)] [])) (fun _ kk_ => XS.iinc X3.here hx rfl (hb hby d15_32) rfl (l' := #[.val (.ref ca), .val (.int ((0 : Int32) + (1 : Int32))), .val (.ref ba), .val (.int (0 : Int32)), .val (.int (2 : Int32)), .val (.int (0 : Int32)), .val (.int c0)]) rfl kk_) ?_
  refine OW.st (B := T3.setTop (mkF m 38 #[.val (.ref ca), .val (.int ((0 : Int32) + (1 : Int32))), .val (.ref ba), .val (.int ((0 : Int32) + (1 : Int32))), .val (.int (2 : Int32)), .val (.int (0 : Int32)), .val (.int c0)] [])) (fun _ kk_ => XS.iinc X3.here hx rfl (hb hby d15_35) rfl (l' := #[.val (.ref ca), .val (.int ((0 : Int32) + (1 : Int32))), .val (.ref ba), .val (.int ((0 : Int32) + (1 : Int32))), .val (.int (2 : Int32)), .val (.int (0 : Int32)), .val (.int c0)]) rfl kk_) ?_
  refine OW.st (B := T3.setTop (mkF m 41 #[.val (.ref ca), .val (.int ((0 : Int32) + (1 : Int32))), .val (.ref ba), .val (.int ((0 : Int32) + (1 : Int32))), .val (.int (2 : Int32)), .val (.int ((0 : Int32) + (1 : Int32))), .val (.int c0)] [])) (fun _ kk_ => XS.iinc X3.here hx rfl (hb hby d15_38) rfl (l' := #[.val (.ref ca), .val (.int ((0 : Int32) + (1 : Int32))), .val (.ref ba), .val (.int ((0 : Int32) + (1 : Int32))), .val (.int (2 : Int32)), .val (.int ((0 : Int32) + (1 : Int32))), .val (.int c0)]) rfl kk_) ?_
  refine OW.st (B := T3.setTop (mkF m 3 #[.val (.ref ca), .val (.int ((0 : Int32) + (1 : Int32))), .val (.ref ba), .val (.int ((0 : Int32) + (1 : Int32))), .val (.int (2 : Int32)), .val (.int ((0 : Int32) + (1 : Int32))), .val (.int c0)] [])) (fun _ kk_ => XS.goto X3.here hx rfl (pc0 := 41) (pc' := 3) rfl (hb hby d15_41) (by decide) (by decide) kk_) ?_
  refine OW.st (B := T3.setTop (mkF m 5 #[.val (.ref ca), .val (.int ((0 : Int32) + (1 : Int32))), .val (.ref ba), .val (.int ((0 : Int32) + (1 : Int32))), .val (.int (2 : Int32)), .val (.int ((0 : Int32) + (1 : Int32))), .val (.int c0)] [(.int ((0 : Int32) + (1 : Int32)))])) (fun _ kk_ => XS.iload X3.here hx rfl (hb hby d15_3) rfl kk_) ?_
  refine OW.st (B := T3.setTop (mkF m 7 #[.val (.ref ca), .val (.int ((0 : Int32) + (1 : Int32))), .val (.ref ba), .val (.int ((0 : Int32) + (1 : Int32))), .val (.int (2 : Int32)), .val (.int ((0 : Int32) + (1 : Int32))), .val (.int c0)] [(.int (2 : Int32)), (.int ((0 : Int32) + (1 : Int32)))])) (fun _ kk_ => XS.iload X3.here hx rfl (hb hby d15_5) rfl kk_) ?_
  refine OW.st (B := T3.setTop (mkF m 10 #[.val (.ref ca), .val (.int ((0 : Int32) + (1 : Int32))), .val (.ref ba), .val (.int ((0 : Int32) + (1 : Int32))), .val (.int (2 : Int32)), .val (.int ((0 : Int32) + (1 : Int32))), .val (.int c0)] [])) (fun _ kk_ => XS.icmpNo X3.here hx rfl (hb hby d15_7) rfl (tlt (by decide)).2.1 kk_) ?_
  refine OW.st (B := T3.setTop (mkF m 11 #[.val (.ref ca), .val (.int ((0 : Int32) + (1 : Int32))), .val (.ref ba), .val (.int ((0 : Int32) + (1 : Int32))), .val (.int (2 : Int32)), .val (.int ((0 : Int32) + (1 : Int32))), .val (.int c0)] [(.ref ca)])) (fun _ kk_ => XS.aloadN X3.here hx rfl (hb hby d15_10) rfl rfl kk_) ?_
  refine OW.st (B := T3.setTop (mkF m 12 #[.val (.ref ca), .val (.int ((0 : Int32) + (1 : Int32))), .val (.ref ba), .val (.int ((0 : Int32) + (1 : Int32))), .val (.int (2 : Int32)), .val (.int ((0 : Int32) + (1 : Int32))), .val (.int c0)] [(.int ((0 : Int32) + (1 : Int32))), (.ref ca)])) (fun _ kk_ => XS.iloadN X3.here hx rfl (hb hby d15_11) rfl kk_) ?_
  obtain ⟨cl4, Ar4, q4, S4, Ng4, Hs4, G4⟩ := id (V.other W3 hne)
  have hin4 : ¬ (((0 : Int32) + (1 : Int32)) < 0 ∨ cl4.slots.size ≤ (((0 : Int32) + (1 : Int32))).toNatClampNeg) := inb_of S4 ⟨by decide, by decide⟩
  refine OW.st (B := T3.setTop (mkF m 13 #[.val (.ref ca), .val (.int ((0 : Int32) + (1 : Int32))), .val (.ref ba), .val (.int ((0 : Int32) + (1 : Int32))), .val (.int (2 : Int32)), .val (.int ((0 : Int32) + (1 : Int32))), .val (.int c0)] [(.int c1)])) (X3.caload hx (j := ((0 : Int32) + (1 : Int32))) (v := (.int c1)) (by rw [e3]; exact Ar4.1) (State.isArrayOf_alike hZ.alike Ar4.2.1) Ar4.2.2 hin4 (Has.at Hs4 hin4 rfl) (g := (mkF m 12 #[.val (.ref ca), .val (.int ((0 : Int32) + (1 : Int32))), .val (.ref ba), .val (.int ((0 : Int32) + (1 : Int32))), .val (.int (2 : Int32)), .val (.int ((0 : Int32) + (1 : Int32))), .val (.int c0)] [(.int ((0 : Int32) + (1 : Int32))), (.ref ca)])) rfl rfl (hb hby d15_12)) ?_
  refine OW.st (B := T3.setTop (mkF m 15 #[.val (.ref ca), .val (.int ((0 : Int32) + (1 : Int32))), .val (.ref ba), .val (.int ((0 : Int32) + (1 : Int32))), .val (.int (2 : Int32)), .val (.int ((0 : Int32) + (1 : Int32))), .val (.int c1)] [])) (fun _ kk_ => XS.istore X3.here hx rfl (hb hby d15_13) rfl (l' := #[.val (.ref ca), .val (.int ((0 : Int32) + (1 : Int32))), .val (.ref ba), .val (.int ((0 : Int32) + (1 : Int32))), .val (.int (2 : Int32)), .val (.int ((0 : Int32) + (1 : Int32))), .val (.int c1)]) rfl kk_) ?_
  refine OW.st (B := T3.setTop (mkF m 17 #[.val (.ref ca), .val (.int ((0 : Int32) + (1 : Int32))), .val (.ref ba), .val (.int ((0 : Int32) + (1 : Int32))), .val (.int (2 : Int32)), .val (.int ((0 : Int32) + (1 : Int32))), .val (.int c1)] [(.int c1)])) (fun _ kk_ => XS.iload X3.here hx rfl (hb hby d15_15) rfl kk_) ?_
  refine OW.st (B := T3.setTop (mkF m 20 #[.val (.ref ca), .val (.int ((0 : Int32) + (1 : Int32))), .val (.ref ba), .val (.int ((0 : Int32) + (1 : Int32))), .val (.int (2 : Int32)), .val (.int ((0 : Int32) + (1 : Int32))), .val (.int c1)] [(.int (255 : Int32)), (.int c1)])) (fun _ kk_ => XS.sipush X3.here hx rfl (hb hby d15_17) kk_) ?_
  refine OW.st (B := T3.setTop (mkF m 26 #[.val (.ref ca), .val (.int ((0 : Int32) + (1 : Int32))), .val (.ref ba), .val (.int ((0 : Int32) + (1 : Int32))), .val (.int (2 : Int32)), .val (.int ((0 : Int32) + (1 : Int32))), .val (.int c1)] [])) (fun _ kk_ => XS.icmpYes X3.here hx rfl (pc0 := 20) (pc' := 26) rfl (hb hby d15_20) rfl (flt hc1).2.2.2 (by decide) (by decide) kk_) ?_
  refine OW.st (B := T3.setTop (mkF m 27 #[.val (.ref ca), .val (.int ((0 : Int32) + (1 : Int32))), .val (.ref ba), .val (.int ((0 : Int32) + (1 : Int32))), .val (.int (2 : Int32)), .val (.int ((0 : Int32) + (1 : Int32))), .val (.int c1)] [(.ref ba)])) (fun _ kk_ => XS.aloadN X3.here hx rfl (hb hby d15_26) rfl rfl kk_) ?_
  refine OW.st (B := T3.setTop (mkF m 28 #[.val (.ref ca), .val (.int ((0 : Int32) + (1 : Int32))), .val (.ref ba), .val (.int ((0 : Int32) + (1 : Int32))), .val (.int (2 : Int32)), .val (.int ((0 : Int32) + (1 : Int32))), .val (.int c1)] [(.int ((0 : Int32) + (1 : Int32))), (.ref ba)])) (fun _ kk_ => XS.iloadN X3.here hx rfl (hb hby d15_27) rfl kk_) ?_
  refine OW.st (B := T3.setTop (mkF m 30 #[.val (.ref ca), .val (.int ((0 : Int32) + (1 : Int32))), .val (.ref ba), .val (.int ((0 : Int32) + (1 : Int32))), .val (.int (2 : Int32)), .val (.int ((0 : Int32) + (1 : Int32))), .val (.int c1)] [(.int c1), (.int ((0 : Int32) + (1 : Int32))), (.ref ba)])) (fun _ kk_ => XS.iload X3.here hx rfl (hb hby d15_28) rfl kk_) ?_
  refine OW.st (B := T3.setTop (mkF m 31 #[.val (.ref ca), .val (.int ((0 : Int32) + (1 : Int32))), .val (.ref ba), .val (.int ((0 : Int32) + (1 : Int32))), .val (.int (2 : Int32)), .val (.int ((0 : Int32) + (1 : Int32))), .val (.int c1)] [(.int (c1.toInt8.toInt32)), (.int ((0 : Int32) + (1 : Int32))), (.ref ba)])) (fun _ kk_ => XS.i2b X3.here hx rfl (hb hby d15_30) rfl kk_) ?_
  obtain ⟨cl5, Ar5, q5, S5, Ng5, Hs5, G5⟩ := id V3
  have hin5 : ¬ (((0 : Int32) + (1 : Int32)) < 0 ∨ cl5.slots.size ≤ (((0 : Int32) + (1 : Int32))).toNatClampNeg) := inb_of S5 ⟨by decide, by decide⟩
  obtain ⟨T6, h6, X6, e6, W6, st6⟩ := stB X3 hx hZ e3 Ar5 (j := ((0 : Int32) + (1 : Int32))) hin5 (g := (mkF m 31 #[.val (.ref ca), .val (.int ((0 : Int32) + (1 : Int32))), .val (.ref ba), .val (.int ((0 : Int32) + (1 : Int32))), .val (.int (2 : Int32)), .val (.int ((0 : Int32) + (1 : Int32))), .val (.int c1)] [(.int (c1.toInt8.toInt32)), (.int ((0 : Int32) + (1 : Int32))), (.ref ba)])) rfl rfl (hb hby d15_31)
  have N6 := Fr.snoc X6 N3 gb
  have O6 : Old Z n0 h6 := O3.wr W6 gb
  have KC6 : Keep h0 h6 [ba] := KC3.wr W6 (Or.inl (List.mem_of_getElem? (i := 0) rfl))
  have V6 : Arv Z h6 ba kb .byte (2 : Int32) [(.int (nar .byte (c0.toInt8.toInt32))), (.int (nar .byte (c1.toInt8.toInt32)))] (.int (0 : Int32)) := Arv.set Ar5 q5 S5 Ng5 Hs5 G5 (fits_nar_byte _) W6 1 rfl (Nat.le_of_ble_eq_true rfl)
  refine OW.st (B := T6.setTop (mkF m 32 #[.val (.ref ca), .val (.int ((0 : Int32) + (1 : Int32))), .val (.ref ba), .val (.int ((0 : Int32) + (1 : Int32))), .val (.int (2 : Int32)), .val (.int ((0 : Int32) + (1 : Int32))), .val (.int c1)] [])) (st6) ?_
  refine OW.st (B := T6.setTop (mkF m 35 #[.val (.ref ca), .val (.int (((0 : Int32) + (1 : Int32)) + (1 : Int32))), .val (.ref ba), .val (.int ((0 : Int32) + (1 : Int32))), .val (.int (2 : Int32)), .val (.int ((0 : Int32) + (1 : Int32))), .val (.int c1)] [])) (fun _ kk_ => XS.iinc X6.here hx rfl (hb hby d15_32) rfl (l' := #[.val (.ref ca), .val (.int (((0 : Int32) + (1 : Int32)) + (1 : Int32))), .val (.ref ba), .val (.int ((0 : Int32) + (1 : Int32))), .val (.int (2 : Int32)), .val (.int ((0 : Int32) + (1 : Int32))), .val (.int c1)]) rfl kk_) ?_
  refine OW.st (B := T6.setTop (mkF m 38 #[.val (.ref ca), .val (.int (((0 : Int32) + (1 : Int32)) + (1 : Int32))), .val (.ref ba), .val (.int (((0 : Int32) + (1 : Int32)) + (1 : Int32))), .val (.int (2 : Int32)), .val (.int ((0 : Int32) + (1 : Int32))), .val (.int c1)] [])) (fun _ kk_ => XS.iinc X6.here hx rfl (hb hby d15_35) rfl (l' := #[.val (.ref ca), .val (.int (((0 : Int32) + (1 : Int32)) + (1 : Int32))), .val (.ref ba), .val (.int (((0 : Int32) + (1 : Int32)) + (1 : Int32))), .val (.int (2 : Int32)), .val (.int ((0 : Int32) + (1 : Int32))), .val (.int c1)]) rfl kk_) ?_
  refine OW.st (B := T6.setTop (mkF m 41 #[.val (.ref ca), .val (.int (((0 : Int32) + (1 : Int32)) + (1 : Int32))), .val (.ref ba), .val (.int (((0 : Int32) + (1 : Int32)) + (1 : Int32))), .val (.int (2 : Int32)), .val (.int (((0 : Int32) + (1 : Int32)) + (1 : Int32))), .val (.int c1)] [])) (fun _ kk_ => XS.iinc X6.here hx rfl (hb hby d15_38) rfl (l' := #[.val (.ref ca), .val (.int (((0 : Int32) + (1 : Int32)) + (1 : Int32))), .val (.ref ba), .val (.int (((0 : Int32) + (1 : Int32)) + (1 : Int32))), .val (.int (2 : Int32)), .val (.int (((0 : Int32) + (1 : Int32)) + (1 : Int32))), .val (.int c1)]) rfl kk_) ?_
  refine OW.st (B := T6.setTop (mkF m 3 #[.val (.ref ca), .val (.int (((0 : Int32) + (1 : Int32)) + (1 : Int32))), .val (.ref ba), .val (.int (((0 : Int32) + (1 : Int32)) + (1 : Int32))), .val (.int (2 : Int32)), .val (.int (((0 : Int32) + (1 : Int32)) + (1 : Int32))), .val (.int c1)] [])) (fun _ kk_ => XS.goto X6.here hx rfl (pc0 := 41) (pc' := 3) rfl (hb hby d15_41) (by decide) (by decide) kk_) ?_
  refine OW.st (B := T6.setTop (mkF m 5 #[.val (.ref ca), .val (.int (((0 : Int32) + (1 : Int32)) + (1 : Int32))), .val (.ref ba), .val (.int (((0 : Int32) + (1 : Int32)) + (1 : Int32))), .val (.int (2 : Int32)), .val (.int (((0 : Int32) + (1 : Int32)) + (1 : Int32))), .val (.int c1)] [(.int (((0 : Int32) + (1 : Int32)) + (1 : Int32)))])) (fun _ kk_ => XS.iload X6.here hx rfl (hb hby d15_3) rfl kk_) ?_
  refine OW.st (B := T6.setTop (mkF m 7 #[.val (.ref ca), .val (.int (((0 : Int32) + (1 : Int32)) + (1 : Int32))), .val (.ref ba), .val (.int (((0 : Int32) + (1 : Int32)) + (1 : Int32))), .val (.int (2 : Int32)), .val (.int (((0 : Int32) + (1 : Int32)) + (1 : Int32))), .val (.int c1)] [(.int (2 : Int32)), (.int (((0 : Int32) + (1 : Int32)) + (1 : Int32)))])) (fun _ kk_ => XS.iload X6.here hx rfl (hb hby d15_5) rfl kk_) ?_
  refine OW.st (B := T6.setTop (mkF m 44 #[.val (.ref ca), .val (.int (((0 : Int32) + (1 : Int32)) + (1 : Int32))), .val (.ref ba), .val (.int (((0 : Int32) + (1 : Int32)) + (1 : Int32))), .val (.int (2 : Int32)), .val (.int (((0 : Int32) + (1 : Int32)) + (1 : Int32))), .val (.int c1)] [])) (fun _ kk_ => XS.icmpYes X6.here hx rfl (pc0 := 7) (pc' := 44) rfl (hb hby d15_7) rfl (flt (by decide)).2.1 (by decide) (by decide) kk_) ?_
  refine OW.st (B := T6.setTop (mkF m 46 #[.val (.ref ca), .val (.int (((0 : Int32) + (1 : Int32)) + (1 : Int32))), .val (.ref ba), .val (.int (((0 : Int32) + (1 : Int32)) + (1 : Int32))), .val (.int (2 : Int32)), .val (.int (((0 : Int32) + (1 : Int32)) + (1 : Int32))), .val (.int c1)] [(.int (2 : Int32))])) (fun _ kk_ => XS.iload X6.here hx rfl (hb hby d15_44) rfl kk_) ?_
  exact OW.ret X6 hx hlk (i := .ireturn) Bd.returns rfl (Or.inl ⟨rfl, Or.inl rfl, _, rfl⟩) (hb hby d15_46) e6 (by decide) (by decide) ⟨rfl, N6, KC6, V6⟩
theorem ef_C3_2 (m : MethodId) (x0 : Addr) (x1 : Int32) (x2 : Int32) : entryFrame m #[(.ref x0), (.int x1), (.int x2)] 6 = mkF m 0 #[.val (.ref x0), .val (.int x1), .val (.int x2), .unset, .unset, .unset] [] := by first | (simp [entryFrame, mkF, argsToLocals, Value.category]; done) | rfl
def QC3_2 (Z : State) (ca : Addr) (kc : ClassId) (c0 : Int32) (c1 : Int32) (h0 : Heap) (n0 : Nat) (v : Option Value) (h : Heap) (L : List Loc) : Prop := ∃ (ba : Addr) (kb : ClassId), v = some (.ref ba) ∧ Fr n0 L ∧ Keep h0 h [] ∧ n0 ≤ ba ∧ h0.size ≤ ba ∧ Arv Z h ba kb .byte (2 : Int32) [(.int (own_by c0)), (.int (own_by c1))] (.int (0 : Int32))
set_option maxRecDepth 65536 in
set_option maxHeartbeats 40000000 in
theorem rmC3_2 (l : Launch) (Z : State) (a0 : Array Value) (hw : ∀ d ∈ tables_1, d.before a0 Z = true) (ws : List Jvm.Cond) (ca : Addr) (kc : ClassId) (c0 : Int32) (c1 : Int32) (h0 : Heap) (n0 : Nat) (O0 : Old Z n0 h0) (V : Arv Z h0 ca kc .char (2 : Int32) [(.int c0), (.int c1)] (.int (0 : Int32))) (hc0 : ¬ ((255 : Int32) < c0)) (hc1 : ¬ ((255 : Int32) < c1)) :
    MetFree l (⟨"java/lang/StringUTF16", "compress", "([CII)[B"⟩ : MethodName) (head1 (Jvm.Cond.code (⟨"java/lang/StringUTF16", "compress", "([CII)[B"⟩ : MethodName) jdk_52_method_16_code 6 (some (.array .byte)) :: ws) ({ frames := 1, cells := 1, slots := 2, locals := 18 } : Room)) (fun aa_ UU_ => aa_ = #[(.ref ca), (.int (0 : Int32)), (.int (2 : Int32))] ∧ Z.Warmed39 UU_.vm ∧ UU_.heap = h0) (fun _ _ _ _ _ => True) (fun _ UU_ oo_ UV_ => ∃ vv_ LL_, oo_ = .returned vv_ ∧ QC3_2 Z ca kc c0 c1 h0 n0 vv_ UV_.heap LL_ ∧ FrameEnd UU_ oo_ UV_ LL_ ({ frames := 1, cells := 1, slots := 2, locals := 18 } : Room).cells ({ frames := 1, cells := 1, slots := 2, locals := 18 } : Room).slots) := by
  refine MetFree.of_bodySF (plainFor_of_name pn_0) hisR ?_
  intro p e s m args below meth c s₁ Bd hml0 hP hK
  obtain ⟨rfl, hZ, hh⟩ := hP
  have hx := Bd.exec
  have hby := Bd.bytes
  have hlk := BodyLoose.notSynchronized Bd
  have hml : c.maxLocals = 6 := hml0
  have hown : s.vm.findClass "java/lang/StringUTF16" = some m.cls := findClass_of_methodNamed Bd.named
  have hnm := (name_of_methodNamed Bd.named Bd.method).1
  have X0 : Stand p l e ({ frames := 1, cells := 1, slots := 2, locals := 18 } : Room) s m #[(.ref ca), (.int (0 : Int32)), (.int (2 : Int32))] below meth c s₁ [] 0 0 := Stand.of_body Bd
  have e0 : s₁.heap = h0 := by rw [← hh, Bd.state]; rfl
  have N0 := Fr.nil n0
  have KC0 : Keep h0 h0 [] := Keep.refl _ _
  suffices hOW : OW p e below s (QC3_2 Z ca kc c0 c1 h0 n0) 1 2 (s₁.setTop (mkF m 0 #[.val (.ref ca), .val (.int (0 : Int32)), .val (.int (2 : Int32)), .unset, .unset, .unset] [])) by
    obtain ⟨oq1_, oq2_, oq3_, oq4_⟩ := hOW
    exact ⟨oq1_, oq2_, castTop (ef_C3_2 m ca (0 : Int32) (2 : Int32)) oq3_, oq4_⟩
  refine OW.st (B := s₁.setTop (mkF m 1 #[.val (.ref ca), .val (.int (0 : Int32)), .val (.int (2 : Int32)), .unset, .unset, .unset] [(.int (2 : Int32))])) (fun _ kk_ => XS.iloadN X0.here hx rfl (hb hby d14_0) rfl kk_) ?_
  obtain ⟨T7, h7, k7, X7, e7, E7, A7, st7⟩ := newP (aty := .byte) X0 hx hZ (w_19 hw) e0 (g := (mkF m 1 #[.val (.ref ca), .val (.int (0 : Int32)), .val (.int (2 : Int32)), .unset, .unset, .unset] [(.int (2 : Int32))])) rfl (hb hby d14_1) rfl (by decide) (cap := 2) (by decide +kernel) (by decide +kernel) (by decide +kernel) (by decide +kernel)
  obtain ⟨b7, g7⟩ : ∃ z, z = h0.size := ⟨_, rfl⟩
  rw [← g7] at A7 st7
  have n_b7 : n0 ≤ b7 := Nat.le_trans (own_oldle O0) (Nat.le_of_eq g7.symm)
  have O7 : Old Z n0 h7 := O0.ext E7
  have sz_b7 : h0.size ≤ b7 := Nat.le_trans KC0.1 (Nat.le_of_eq g7.symm)
  have KC7 : Keep h0 h7 [] := KC0.ext E7
  have V7 : Arv Z h7 b7 k7 .byte (2 : Int32) [(.int (0 : Int32)), (.int (0 : Int32))] (.int (0 : Int32)) := (Arv.new A7 (by decide)).pad (pad_rep [] (.int (0 : Int32)) 2)
  refine OW.st (B := T7.setTop (mkF m 3 #[.val (.ref ca), .val (.int (0 : Int32)), .val (.int (2 : Int32)), .unset, .unset, .unset] [(.ref b7)])) (st7) ?_
  refine OW.st (B := T7.setTop (mkF m 4 #[.val (.ref ca), .val (.int (0 : Int32)), .val (.int (2 : Int32)), .val (.ref b7), .unset, .unset] [])) (fun _ kk_ => XS.astoreN X7.here hx rfl (hb hby d14_3) rfl rfl (l' := #[.val (.ref ca), .val (.int (0 : Int32)), .val (.int (2 : Int32)), .val (.ref b7), .unset, .unset]) rfl kk_) ?_
  refine OW.st (B := T7.setTop (mkF m 5 #[.val (.ref ca), .val (.int (0 : Int32)), .val (.int (2 : Int32)), .val (.ref b7), .unset, .unset] [(.ref ca)])) (fun _ kk_ => XS.aloadN X7.here hx rfl (hb hby d14_4) rfl rfl kk_) ?_
  refine OW.st (B := T7.setTop (mkF m 6 #[.val (.ref ca), .val (.int (0 : Int32)), .val (.int (2 : Int32)), .val (.ref b7), .unset, .unset] [(.int (0 : Int32)), (.ref ca)])) (fun _ kk_ => XS.iloadN X7.here hx rfl (hb hby d14_5) rfl kk_) ?_
  refine OW.st (B := T7.setTop (mkF m 7 #[.val (.ref ca), .val (.int (0 : Int32)), .val (.int (2 : Int32)), .val (.ref b7), .unset, .unset] [(.ref b7), (.int (0 : Int32)), (.ref ca)])) (fun _ kk_ => XS.aloadN X7.here hx rfl (hb hby d14_6) rfl rfl kk_) ?_
  refine OW.st (B := T7.setTop (mkF m 8 #[.val (.ref ca), .val (.int (0 : Int32)), .val (.int (2 : Int32)), .val (.ref b7), .unset, .unset] [(.int (0 : Int32)), (.ref b7), (.int (0 : Int32)), (.ref ca)])) (fun _ kk_ => XS.iconst X7.here hx rfl (hb hby d14_7) kk_) ?_
  refine OW.st (B := T7.setTop (mkF m 9 #[.val (.ref ca), .val (.int (0 : Int32)), .val (.int (2 : Int32)), .val (.ref b7), .unset, .unset] [(.int (2 : Int32)), (.int (0 : Int32)), (.ref b7), (.int (0 : Int32)), (.ref ca)])) (fun _ kk_ => XS.iloadN X7.here hx rfl (hb hby d14_8) rfl kk_) ?_
  obtain ⟨_, _, ⟨T8, L8, k8, n8⟩, -, X8, ⟨Lc8, hQ8, l8, y8, z8⟩, st8⟩ := Jvm.LawKit.callS X7 hx (y := (⟨"java/lang/StringUTF16", "compress", "([CI[BII)I"⟩ : MethodName)) hown (mvT hZ (w_84 hw)) (mvT hZ (w_85 hw)) (mvT hZ (w_82 hw)) (mvT hZ (w_86 hw)) (by decide) (backOf (W := 0) (rmC5_2 l Z a0 hw [] ca kc b7 k7 c0 c1 h7 n0 O7 (V.ext E7) V7 n_b7 (Nat.ne_of_lt (Nat.lt_of_lt_of_le V.lt (Nat.le_of_eq g7.symm))) hc0 hc1) hZ (w_86 hw) (w_82 hw) (by decide) (by decide)) (g := (mkF m 9 #[.val (.ref ca), .val (.int (0 : Int32)), .val (.int (2 : Int32)), .val (.ref b7), .unset, .unset] [(.int (2 : Int32)), (.int (0 : Int32)), (.ref b7), (.int (0 : Int32)), (.ref ca)])) rfl (by rw [hml]; rfl) (argsL := [(.ref ca), (.int (0 : Int32)), (.ref b7), (.int (0 : Int32)), (.int (2 : Int32))]) (rest := []) (lenOf pd_0 rfl) rfl (by show 2 * 0 + _ ≤ _; exact Nat.le_of_eq rfl) (hb hby d14_9) (fun _ _ => ⟨rfl, e7, (by decide : 1 + 0 ≤ _), (by decide : 2 + 0 ≤ _)⟩)
  dsimp only [Pt.U, Pt.locs, Pt.cells, Pt.slots] at X8 l8 y8 z8 st8 hQ8
  subst l8 y8 z8
  obtain ⟨rfl, Nq8, K8, Vb8⟩ := hQ8
  have N8 := Fr.app N0 Nq8
  have O8 : Old Z n0 T8.heap := O7.keep K8 (allS n_b7 all0)
  have KC8 : Keep h0 T8.heap [] := KC7.trans K8 (allS (Or.inr sz_b7) all0)
  refine OW.st (B := T8.setTop (mkF m 12 #[.val (.ref ca), .val (.int (0 : Int32)), .val (.int (2 : Int32)), .val (.ref b7), .unset, .unset] [(.int (2 : Int32))])) (st8) ?_
  refine OW.st (B := T8.setTop (mkF m 14 #[.val (.ref ca), .val (.int (0 : Int32)), .val (.int (2 : Int32)), .val (.ref b7), .val (.int (2 : Int32)), .unset] [])) (fun _ kk_ => XS.istore X8.here hx rfl (hb hby d14_12) rfl (l' := #[.val (.ref ca), .val (.int (0 : Int32)), .val (.int (2 : Int32)), .val (.ref b7), .val (.int (2 : Int32)), .unset]) rfl kk_) ?_
  refine OW.st (B := T8.setTop (mkF m 16 #[.val (.ref ca), .val (.int (0 : Int32)), .val (.int (2 : Int32)), .val (.ref b7), .val (.int (2 : Int32)), .unset] [(.int (2 : Int32))])) (fun _ kk_ => XS.iload X8.here hx rfl (hb hby d14_14) rfl kk_) ?_
  refine OW.st (B := T8.setTop (mkF m 17 #[.val (.ref ca), .val (.int (0 : Int32)), .val (.int (2 : Int32)), .val (.ref b7), .val (.int (2 : Int32)), .unset] [(.int (2 : Int32)), (.int (2 : Int32))])) (fun _ kk_ => XS.iloadN X8.here hx rfl (hb hby d14_16) rfl kk_) ?_
  refine OW.st (B := T8.setTop (mkF m 57 #[.val (.ref ca), .val (.int (0 : Int32)), .val (.int (2 : Int32)), .val (.ref b7), .val (.int (2 : Int32)), .unset] [])) (fun _ kk_ => XS.icmpYes X8.here hx rfl (pc0 := 17) (pc' := 57) rfl (hb hby d14_17) rfl (teq (by decide)).1 (by decide) (by decide) kk_) ?_
  refine OW.st (B := T8.setTop (mkF m 58 #[.val (.ref ca), .val (.int (0 : Int32)), .val (.int (2 : Int32)), .val (.ref b7), .val (.int (2 : Int32)), .unset] [(.ref b7)])) (fun _ kk_ => XS.aloadN X8.here hx rfl (hb hby d14_57) rfl rfl kk_) ?_
  exact OW.ret X8 hx hlk (i := .areturn) Bd.returns rfl (Or.inr (Or.inr (Or.inr (Or.inr ⟨rfl, rfl, rfl⟩)))) (hb hby d14_58) rfl (by decide) (by decide) ⟨b7, k7, rfl, N8, KC8, n_b7, sz_b7, Vb8⟩
theorem ef_CL_2 (m : MethodId) (x0 : Addr) (x1 : Int32) : entryFrame m #[(.ref x0), (.int x1)] 2 = mkF m 0 #[.val (.ref x0), .val (.int x1)] [] := by first | (simp [entryFrame, mkF, argsToLocals, Value.category]; done) | rfl
def QCL_2 (Z : State) (ba : Addr) (kb : ClassId) (c0 : Int32) (c1 : Int32) (h0 : Heap) (n0 : Nat) (v : Option Value) (h : Heap) (L : List Loc) : Prop := v = some (.int (0 : Int32)) ∧ Fr n0 L ∧ h = h0
set_option maxRecDepth 65536 in
set_option maxHeartbeats 40000000 in
theorem rmCL_2 (l : Launch) (Z : State) (a0 : Array Value) (hw : ∀ d ∈ tables_1, d.before a0 Z = true) (ws : List Jvm.Cond) (ba : Addr) (kb : ClassId) (c0 : Int32) (c1 : Int32) (h0 : Heap) (n0 : Nat) (O0 : Old Z n0 h0) (B : Arv Z h0 ba kb .byte (2 : Int32) [(.int c0), (.int c1)] (.int (0 : Int32))) :
    MetFree l (⟨"java/lang/StringUTF16", "coderFromArrayLen", "([BI)B"⟩ : MethodName) (head1 (Jvm.Cond.code (⟨"java/lang/StringUTF16", "coderFromArrayLen", "([BI)B"⟩ : MethodName) jdk_52_method_15_code 2 (some .byte) :: ws) ({ frames := 0, cells := 0, slots := 0, locals := 0 } : Room)) (fun aa_ UU_ => aa_ = #[(.ref ba), (.int (2 : Int32))] ∧ Z.Warmed39 UU_.vm ∧ UU_.heap = h0) (fun _ _ _ _ _ => True) (fun _ UU_ oo_ UV_ => ∃ vv_ LL_, oo_ = .returned vv_ ∧ QCL_2 Z ba kb c0 c1 h0 n0 vv_ UV_.heap LL_ ∧ FrameEnd UU_ oo_ UV_ LL_ ({ frames := 0, cells := 0, slots := 0, locals := 0 } : Room).cells ({ frames := 0, cells := 0, slots := 0, locals := 0 } : Room).slots) := by
  refine MetFree.of_bodySF (plainFor_of_name pn_0) hisR ?_
  intro p e s m args below meth c s₁ Bd hml0 hP hK
  obtain ⟨rfl, hZ, hh⟩ := hP
  have hx := Bd.exec
  have hby := Bd.bytes
  have hlk := BodyLoose.notSynchronized Bd
  have hml : c.maxLocals = 2 := hml0
  have hown : s.vm.findClass "java/lang/StringUTF16" = some m.cls := findClass_of_methodNamed Bd.named
  have hnm := (name_of_methodNamed Bd.named Bd.method).1
  have X0 : Stand p l e ({ frames := 0, cells := 0, slots := 0, locals := 0 } : Room) s m #[(.ref ba), (.int (2 : Int32))] below meth c s₁ [] 0 0 := Stand.of_body Bd
  have e0 : s₁.heap = h0 := by rw [← hh, Bd.state]; rfl
  have N0 := Fr.nil n0
  suffices hOW : OW p e below s (QCL_2 Z ba kb c0 c1 h0 n0) 0 0 (s₁.setTop (mkF m 0 #[.val (.ref ba), .val (.int (2 : Int32))] [])) by
    obtain ⟨oq1_, oq2_, oq3_, oq4_⟩ := hOW
    exact ⟨oq1_, oq2_, castTop (ef_CL_2 m ba (2 : Int32)) oq3_, oq4_⟩
  refine OW.st (B := s₁.setTop (mkF m 1 #[.val (.ref ba), .val (.int (2 : Int32))] [(.int (2 : Int32))])) (fun _ kk_ => XS.iloadN X0.here hx rfl (hb hby d16_0) rfl kk_) ?_
  refine OW.st (B := s₁.setTop (mkF m 2 #[.val (.ref ba), .val (.int (2 : Int32))] [(.ref ba), (.int (2 : Int32))])) (fun _ kk_ => XS.aloadN X0.here hx rfl (hb hby d16_1) rfl rfl kk_) ?_
  obtain ⟨cl9, Ar9, q9, S9, Ng9, Hs9, G9⟩ := id B
  refine OW.st (X0.arraylength hx (by rw [e0]; exact Ar9.1) (State.isArrayOf_alike hZ.alike Ar9.2.1) (g := (mkF m 2 #[.val (.ref ba), .val (.int (2 : Int32))] [(.ref ba), (.int (2 : Int32))])) rfl rfl (hb hby d16_2)) ?_
  rw [len_of S9 Ng9]
  show OW p e below s (QCL_2 Z ba kb c0 c1 h0 n0) 0 0 (s₁.setTop (mkF m 3 #[.val (.ref ba), .val (.int (2 : Int32))] [(.int (2 : Int32)), (.int (2 : Int32))]))
  refine OW.st (B := s₁.setTop (mkF m 4 #[.val (.ref ba), .val (.int (2 : Int32))] [(.int ((2 : Int32) - (2 : Int32)))])) (fun _ kk_ => XS.isub X0.here hx rfl (hb hby d16_3) rfl kk_) ?_
  refine OW.st (B := s₁.setTop (mkF m 6 #[.val (.ref ba), .val (.int (2 : Int32))] [(.int (31 : Int32)), (.int ((2 : Int32) - (2 : Int32)))])) (fun _ kk_ => XS.bipush X0.here hx rfl (hb hby d16_4) kk_) ?_
  refine OW.st (B := s₁.setTop (mkF m 7 #[.val (.ref ba), .val (.int (2 : Int32))] [(.int ((((2 : Int32) - (2 : Int32)).toUInt32 >>> ((31 : Int32) &&& 31).toUInt32).toInt32))])) (fun _ kk_ => XS.iushr X0.here hx rfl (hb hby d16_6) rfl kk_) ?_
  refine OW.st (B := s₁.setTop (mkF m 8 #[.val (.ref ba), .val (.int (2 : Int32))] [(.int (((((2 : Int32) - (2 : Int32)).toUInt32 >>> ((31 : Int32) &&& 31).toUInt32).toInt32).toInt8.toInt32))])) (fun _ kk_ => XS.i2b X0.here hx rfl (hb hby d16_7) rfl kk_) ?_
  exact OW.ret X0 hx hlk (i := .ireturn) Bd.returns rfl (Or.inl ⟨rfl, Or.inr (Or.inr (Or.inl rfl)), _, rfl⟩) (hb hby d16_8) e0 (by decide) (by decide) ⟨rfl, N0, rfl⟩
theorem ef_S1_2 (m : MethodId) (x0 : Addr) (x1 : Addr) (x2 : Int32) (x3 : Int32) : entryFrame m #[(.ref x0), (.ref x1), (.int x2), (.int x3), .null] 6 = mkF m 0 #[.val (.ref x0), .val (.ref x1), .val (.int x2), .val (.int x3), .val .null, .unset] [] := by first | (simp [entryFrame, mkF, argsToLocals, Value.category]; done) | rfl
def QS1_2 (Z : State) (b : Addr) (ca : Addr) (kc : ClassId) (c0 : Int32) (c1 : Int32) (i_COMPACT_STRINGS : Int32) (v_SIOOBE_FORMATTER : Value) (h0 : Heap) (n0 : Nat) (v : Option Value) (h : Heap) (L : List Loc) : Prop := v = none ∧ Fr n0 L ∧ Keep h0 h [b] ∧ Exa Z h b "java/lang/String" ∧ ∃ (ba : Addr) (kb : ClassId), n0 ≤ ba ∧ b ≠ ba ∧ Fld Z h b "java/lang/String" "coder" "B" (.int (0 : Int32)) ∧ Fld Z h b "java/lang/String" "value" "[B" (.ref ba) ∧ Arv Z h ba kb .byte (2 : Int32) [(.int (own_by c0)), (.int (own_by c1))] (.int (0 : Int32))
set_option maxRecDepth 65536 in
set_option maxHeartbeats 40000000 in
theorem rmS1_2 (l : Launch) (Z : State) (a0 : Array Value) (hw : ∀ d ∈ tables_1, d.before a0 Z = true) (ws : List Jvm.Cond) (b : Addr) (ca : Addr) (kc : ClassId) (c0 : Int32) (c1 : Int32) (i_COMPACT_STRINGS : Int32) (v_SIOOBE_FORMATTER : Value) (h0 : Heap) (n0 : Nat) (O0 : Old Z n0 h0) (E : Exa Z h0 b "java/lang/String") (F1 : Fld Z h0 b "java/lang/String" "value" "[B" .null) (F2 : Fld Z h0 b "java/lang/String" "coder" "B" (.int (0 : Int32))) (g : n0 ≤ b) (V : Arv Z h0 ca kc .char (2 : Int32) [(.int c0), (.int c1)] (.int (0 : Int32))) (hS : OwnS Z i_COMPACT_STRINGS v_SIOOBE_FORMATTER) (hc0 : ¬ ((255 : Int32) < c0)) (hc1 : ¬ ((255 : Int32) < c1)) :
    MetFree l (⟨"java/lang/String", "<init>", "([CIILjava/lang/Void;)V"⟩ : MethodName) (head1 (Jvm.Cond.code (⟨"java/lang/String", "<init>", "([CIILjava/lang/Void;)V"⟩ : MethodName) jdk_42_method_149_code 6 none :: ws) ({ frames := 2, cells := 1, slots := 2, locals := 35 } : Room)) (fun aa_ UU_ => aa_ = #[(.ref b), (.ref ca), (.int (0 : Int32)), (.int (2 : Int32)), .null] ∧ Z.Warmed39 UU_.vm ∧ UU_.heap = h0) (fun _ _ _ _ _ => True) (fun _ UU_ oo_ UV_ => ∃ vv_ LL_, oo_ = .returned vv_ ∧ QS1_2 Z b ca kc c0 c1 i_COMPACT_STRINGS v_SIOOBE_FORMATTER h0 n0 vv_ UV_.heap LL_ ∧ FrameEnd UU_ oo_ UV_ LL_ ({ frames := 2, cells := 1, slots := 2, locals := 35 } : Room).cells ({ frames := 2, cells := 1, slots := 2, locals := 35 } : Room).slots) := by
  refine MetFree.of_bodySF (plainFor_of_name pn_1) hisR ?_
  intro p e s m args below meth c s₁ Bd hml0 hP hK
  obtain ⟨rfl, hZ, hh⟩ := hP
  have hx := Bd.exec
  have hby := Bd.bytes
  have hlk := BodyLoose.notSynchronized Bd
  have hml : c.maxLocals = 6 := hml0
  have hown : s.vm.findClass "java/lang/String" = some m.cls := findClass_of_methodNamed Bd.named
  have hnm := (name_of_methodNamed Bd.named Bd.method).1
  have X0 : Stand p l e ({ frames := 2, cells := 1, slots := 2, locals := 35 } : Room) s m #[(.ref b), (.ref ca), (.int (0 : Int32)), (.int (2 : Int32)), .null] below meth c s₁ [] 0 0 := Stand.of_body Bd
  have e0 : s₁.heap = h0 := by rw [← hh, Bd.state]; rfl
  have N0 := Fr.nil n0
  have KC0 : Keep h0 h0 [b] := Keep.refl _ _
  suffices hOW : OW p e below s (QS1_2 Z b ca kc c0 c1 i_COMPACT_STRINGS v_SIOOBE_FORMATTER h0 n0) 1 2 (s₁.setTop (mkF m 0 #[.val (.ref b), .val (.ref ca), .val (.int (0 : Int32)), .val (.int (2 : Int32)), .val .null, .unset] [])) by
    obtain ⟨oq1_, oq2_, oq3_, oq4_⟩ := hOW
    exact ⟨oq1_, oq2_, castTop (ef_S1_2 m b ca (0 : Int32) (2 : Int32)) oq3_, oq4_⟩
  have hS' := hS
  obtain ⟨Si_COMPACT_STRINGS, Sv_SIOOBE_FORMATTER, Rv_SIOOBE_FORMATTER, Pi_COMPACT_STRINGS⟩ := hS'
  refine OW.st (B := s₁.setTop (mkF m 1 #[.val (.ref b), .val (.ref ca), .val (.int (0 : Int32)), .val (.int (2 : Int32)), .val .null, .unset] [(.ref b)])) (fun _ kk_ => XS.aloadN X0.here hx rfl (hb hby d3_0) rfl rfl kk_) ?_
  obtain ⟨T10, X10, e10, st10⟩ := initO X0 hx hZ hown (w_15 hw) (w_16 hw) (w_17 hw) e0 (g := (mkF m 1 #[.val (.ref b), .val (.ref ca), .val (.int (0 : Int32)), .val (.int (2 : Int32)), .val .null, .unset] [(.ref b)])) rfl (by rw [hml]; rfl) rfl (hb hby d3_1) (by decide) (W := 0) (by show 2 * 0 + _ ≤ _; exact Nat.le_of_eq rfl) (by decide)
  refine OW.st (B := T10.setTop (mkF m 4 #[.val (.ref b), .val (.ref ca), .val (.int (0 : Int32)), .val (.int (2 : Int32)), .val .null, .unset] [])) (st10) ?_
  refine OW.st (B := T10.setTop (mkF m 5 #[.val (.ref b), .val (.ref ca), .val (.int (0 : Int32)), .val (.int (2 : Int32)), .val .null, .unset] [(.int (2 : Int32))])) (fun _ kk_ => XS.iloadN X10.here hx rfl (hb hby d3_4) rfl kk_) ?_
  refine OW.st (B := T10.setTop (mkF m 27 #[.val (.ref b), .val (.ref ca), .val (.int (0 : Int32)), .val (.int (2 : Int32)), .val .null, .unset] [])) (fun _ kk_ => XS.ifYes X10.here hx rfl (pc0 := 5) (pc' := 27) rfl (hb hby d3_5) rfl ((if0 _ _).trans (feq (by decide)).2) (by decide) (by decide) kk_) ?_
  obtain ⟨T11, X11, e11, st11⟩ := getS2 X10 hx hZ hown (host := "") (Or.inl (w_79 hw)) Via.refl e10 (Si_COMPACT_STRINGS.ext O0.2) (g := (mkF m 27 #[.val (.ref b), .val (.ref ca), .val (.int (0 : Int32)), .val (.int (2 : Int32)), .val .null, .unset] [])) rfl (hb hby d3_27)
  refine OW.st (B := T11.setTop (mkF m 30 #[.val (.ref b), .val (.ref ca), .val (.int (0 : Int32)), .val (.int (2 : Int32)), .val .null, .unset] [(.int i_COMPACT_STRINGS)])) (st11) ?_
  refine OW.st (B := T11.setTop (mkF m 33 #[.val (.ref b), .val (.ref ca), .val (.int (0 : Int32)), .val (.int (2 : Int32)), .val .null, .unset] [])) (fun _ kk_ => XS.ifNo X11.here hx rfl (hb hby d3_30) rfl ((if0 _ _).trans (feq Pi_COMPACT_STRINGS).1) kk_) ?_
  refine OW.st (B := T11.setTop (mkF m 34 #[.val (.ref b), .val (.ref ca), .val (.int (0 : Int32)), .val (.int (2 : Int32)), .val .null, .unset] [(.ref ca)])) (fun _ kk_ => XS.aloadN X11.here hx rfl (hb hby d3_33) rfl rfl kk_) ?_
  refine OW.st (B := T11.setTop (mkF m 35 #[.val (.ref b), .val (.ref ca), .val (.int (0 : Int32)), .val (.int (2 : Int32)), .val .null, .unset] [(.int (0 : Int32)), (.ref ca)])) (fun _ kk_ => XS.iloadN X11.here hx rfl (hb hby d3_34) rfl kk_) ?_
  refine OW.st (B := T11.setTop (mkF m 36 #[.val (.ref b), .val (.ref ca), .val (.int (0 : Int32)), .val (.int (2 : Int32)), .val .null, .unset] [(.int (2 : Int32)), (.int (0 : Int32)), (.ref ca)])) (fun _ kk_ => XS.iloadN X11.here hx rfl (hb hby d3_35) rfl kk_) ?_
  obtain ⟨_, _, ⟨T12, L12, k12, n12⟩, -, X12, ⟨Lc12, hQ12, l12, y12, z12⟩, st12⟩ := Jvm.LawKit.callS X11 hx (y := (⟨"java/lang/StringUTF16", "compress", "([CII)[B"⟩ : MethodName)) hown (mvT hZ (w_80 hw)) (mvT hZ (w_81 hw)) (mvT hZ (w_82 hw)) (mvT hZ (w_83 hw)) (by decide) (backOf (W := 0) (rmC3_2 l Z a0 hw [] ca kc c0 c1 h0 n0 O0 V hc0 hc1) hZ (w_83 hw) (w_82 hw) (by decide) (by decide)) (g := (mkF m 36 #[.val (.ref b), .val (.ref ca), .val (.int (0 : Int32)), .val (.int (2 : Int32)), .val .null, .unset] [(.int (2 : Int32)), (.int (0 : Int32)), (.ref ca)])) rfl (by rw [hml]; rfl) (argsL := [(.ref ca), (.int (0 : Int32)), (.int (2 : Int32))]) (rest := []) (lenOf pd_1 rfl) rfl (by show 2 * 0 + _ ≤ _; exact Nat.le_of_eq rfl) (hb hby d3_36) (fun _ _ => ⟨rfl, e11, (by decide : 0 + 1 ≤ _), (by decide : 0 + 2 ≤ _)⟩)
  dsimp only [Pt.U, Pt.locs, Pt.cells, Pt.slots] at X12 l12 y12 z12 st12 hQ12
  subst l12 y12 z12
  obtain ⟨b12, kb12, rfl, Nq12, K12, gb12, zb12, Vb12⟩ := hQ12
  have N12 := Fr.app N0 Nq12
  have O12 : Old Z n0 T12.heap := O0.keep K12 all0
  have KC12 : Keep h0 T12.heap [b] := KC0.trans K12 all0
  refine OW.st (B := T12.setTop (mkF m 39 #[.val (.ref b), .val (.ref ca), .val (.int (0 : Int32)), .val (.int (2 : Int32)), .val .null, .unset] [(.ref b12)])) (st12) ?_
  refine OW.st (B := T12.setTop (mkF m 41 #[.val (.ref b), .val (.ref ca), .val (.int (0 : Int32)), .val (.int (2 : Int32)), .val .null, .val (.ref b12)] [])) (fun _ kk_ => XS.astore X12.here hx rfl (hb hby d3_39) rfl rfl (l' := #[.val (.ref b), .val (.ref ca), .val (.int (0 : Int32)), .val (.int (2 : Int32)), .val .null, .val (.ref b12)]) rfl kk_) ?_
  refine OW.st (B := T12.setTop (mkF m 42 #[.val (.ref b), .val (.ref ca), .val (.int (0 : Int32)), .val (.int (2 : Int32)), .val .null, .val (.ref b12)] [(.ref b)])) (fun _ kk_ => XS.aloadN X12.here hx rfl (hb hby d3_41) rfl rfl kk_) ?_
  refine OW.st (B := T12.setTop (mkF m 44 #[.val (.ref b), .val (.ref ca), .val (.int (0 : Int32)), .val (.int (2 : Int32)), .val .null, .val (.ref b12)] [(.ref b12), (.ref b)])) (fun _ kk_ => XS.aload X12.here hx rfl (hb hby d3_42) rfl rfl kk_) ?_
  refine OW.st (B := T12.setTop (mkF m 45 #[.val (.ref b), .val (.ref ca), .val (.int (0 : Int32)), .val (.int (2 : Int32)), .val .null, .val (.ref b12)] [(.int (2 : Int32)), (.ref b12), (.ref b)])) (fun _ kk_ => XS.iloadN X12.here hx rfl (hb hby d3_44) rfl kk_) ?_
  obtain ⟨_, _, ⟨T13, L13, k13, n13⟩, -, X13, ⟨Lc13, hQ13, l13, y13, z13⟩, st13⟩ := Jvm.LawKit.callS X12 hx (y := (⟨"java/lang/StringUTF16", "coderFromArrayLen", "([BI)B"⟩ : MethodName)) hown (mvT hZ (w_87 hw)) (mvT hZ (w_88 hw)) (mvT hZ (w_82 hw)) (mvT hZ (w_89 hw)) (by decide) (backOf (W := 1) (rmCL_2 l Z a0 hw [] b12 kb12 (own_by c0) (own_by c1) T12.heap n0 O12 Vb12) hZ (w_89 hw) (w_82 hw) (by decide) (by decide)) (g := (mkF m 45 #[.val (.ref b), .val (.ref ca), .val (.int (0 : Int32)), .val (.int (2 : Int32)), .val .null, .val (.ref b12)] [(.int (2 : Int32)), (.ref b12), (.ref b)])) rfl (by rw [hml]; rfl) (argsL := [(.ref b12), (.int (2 : Int32))]) (rest := [(.ref b)]) (lenOf pd_2 rfl) rfl (by show 2 * 0 + _ ≤ _; exact Nat.le_of_eq rfl) (hb hby d3_45) (fun _ _ => ⟨rfl, rfl, (by decide : 1 + 0 ≤ _), (by decide : 2 + 0 ≤ _)⟩)
  dsimp only [Pt.U, Pt.locs, Pt.cells, Pt.slots] at X13 l13 y13 z13 st13 hQ13
  subst l13 y13 z13
  obtain ⟨rfl, Nq13, e13⟩ := hQ13
  have N13 := Fr.app N12 Nq13
  refine OW.st (B := T13.setTop (mkF m 48 #[.val (.ref b), .val (.ref ca), .val (.int (0 : Int32)), .val (.int (2 : Int32)), .val .null, .val (.ref b12)] [(.int (0 : Int32)), (.ref b)])) (st13) ?_
  obtain ⟨T14, h14, X14, e14, W14, st14⟩ := putFN X13 hx hZ hown (w_25 hw) Via.refl e13 (F2.keep K12 nin0) (E.keep K12) (Or.inr ⟨(w_21 hw), rfl, hnm⟩) (w_5 hw) (ty := .byte) (v' := (.int (0 : Int32))) (by decide) rfl rfl (g := (mkF m 48 #[.val (.ref b), .val (.ref ca), .val (.int (0 : Int32)), .val (.int (2 : Int32)), .val .null, .val (.ref b12)] [(.int (0 : Int32)), (.ref b)])) rfl rfl (hb hby d3_48)
  have N14 := Fr.snoc X14 N13 g
  have O14 : Old Z n0 h14 := O12.wr W14 g
  have KC14 : Keep h0 h14 [b] := KC12.wr W14 (Or.inl (List.mem_of_getElem? (i := 0) rfl))
  have F14 : Fld Z h14 b "java/lang/String" "coder" "B" (.int (0 : Int32)) := Fld.same W14 (F2.keep K12 nin0)
  refine OW.st (B := T14.setTop (mkF m 51 #[.val (.ref b), .val (.ref ca), .val (.int (0 : Int32)), .val (.int (2 : Int32)), .val .null, .val (.ref b12)] [])) (st14) ?_
  refine OW.st (B := T14.setTop (mkF m 52 #[.val (.ref b), .val (.ref ca), .val (.int (0 : Int32)), .val (.int (2 : Int32)), .val .null, .val (.ref b12)] [(.ref b)])) (fun _ kk_ => XS.aloadN X14.here hx rfl (hb hby d3_51) rfl rfl kk_) ?_
  refine OW.st (B := T14.setTop (mkF m 54 #[.val (.ref b), .val (.ref ca), .val (.int (0 : Int32)), .val (.int (2 : Int32)), .val .null, .val (.ref b12)] [(.ref b12), (.ref b)])) (fun _ kk_ => XS.aload X14.here hx rfl (hb hby d3_52) rfl rfl kk_) ?_
  obtain ⟨T15, h15, X15, e15, W15, st15⟩ := putF X14 hx hZ hown (host := "") (Or.inl (w_24 hw)) Via.refl e14 ((F1.keep K12 nin0).other W14 (Or.inr (slot_ne (Or.inr (w_20 hw)) (Or.inr (w_21 hw)) (by decide) (t := (.array .byte)) (t' := .byte) (by decide) (by decide)))) ((E.keep K12).wr W14) (Or.inr ⟨(w_20 hw), rfl, hnm⟩) (w_5 hw) (ty := (.array .byte)) (by decide) rfl rfl (g := (mkF m 54 #[.val (.ref b), .val (.ref ca), .val (.int (0 : Int32)), .val (.int (2 : Int32)), .val .null, .val (.ref b12)] [(.ref b12), (.ref b)])) rfl rfl (hb hby d3_54)
  have N15 := Fr.snoc X15 N14 g
  have O15 : Old Z n0 h15 := O14.wr W15 g
  have KC15 : Keep h0 h15 [b] := KC14.wr W15 (Or.inl (List.mem_of_getElem? (i := 0) rfl))
  have F15 : Fld Z h15 b "java/lang/String" "value" "[B" (.ref b12) := Fld.same W15 ((F1.keep K12 nin0).other W14 (Or.inr (slot_ne (Or.inr (w_20 hw)) (Or.inr (w_21 hw)) (by decide) (t := (.array .byte)) (t' := .byte) (by decide) (by decide))))
  refine OW.st (B := T15.setTop (mkF m 57 #[.val (.ref b), .val (.ref ca), .val (.int (0 : Int32)), .val (.int (2 : Int32)), .val .null, .val (.ref b12)] [])) (st15) ?_
  exact OW.retV X15 hx hlk Bd.returns (hb hby d3_57) e15 (by decide) (by decide) ⟨rfl, N15, KC15, (((E.keep K12).wr W14).wr W15), b12, kb12, gb12, (Nat.ne_of_lt (Nat.lt_of_lt_of_le E.lt zb12)), (F14.other W15 (Or.inr (slot_ne (Or.inr (w_21 hw)) (Or.inr (w_20 hw)) (by decide) (t := .byte) (t' := (.array .byte)) (by decide) (by decide)))), F15, ((Vb12.other W14 (Ne.symm (Nat.ne_of_lt (Nat.lt_of_lt_of_le E.lt zb12)))).other W15 (Ne.symm (Nat.ne_of_lt (Nat.lt_of_lt_of_le E.lt zb12))))⟩
theorem ef_S0_2 (m : MethodId) (x0 : Addr) (x1 : Addr) : entryFrame m #[(.ref x0), (.ref x1)] 2 = mkF m 0 #[.val (.ref x0), .val (.ref x1)] [] := by first | (simp [entryFrame, mkF, argsToLocals, Value.category]; done) | rfl
def QS0_2 (Z : State) (b : Addr) (ca : Addr) (kc : ClassId) (c0 : Int32) (c1 : Int32) (i_COMPACT_STRINGS : Int32) (v_SIOOBE_FORMATTER : Value) (h0 : Heap) (n0 : Nat) (v : Option Value) (h : Heap) (L : List Loc) : Prop := v = none ∧ Fr n0 L ∧ Keep h0 h [b] ∧ Exa Z h b "java/lang/String" ∧ ∃ (ba : Addr) (kb : ClassId), n0 ≤ ba ∧ b ≠ ba ∧ Fld Z h b "java/lang/String" "coder" "B" (.int (0 : Int32)) ∧ Fld Z h b "java/lang/String" "value" "[B" (.ref ba) ∧ Arv Z h ba kb .byte (2 : Int32) [(.int (own_by c0)), (.int (own_by c1))] (.int (0 : Int32))
set_option maxRecDepth 65536 in
set_option maxHeartbeats 40000000 in
theorem rmS0_2 (l : Launch) (Z : State) (a0 : Array Value) (hw : ∀ d ∈ tables_1, d.before a0 Z = true) (ws : List Jvm.Cond) (b : Addr) (ca : Addr) (kc : ClassId) (c0 : Int32) (c1 : Int32) (i_COMPACT_STRINGS : Int32) (v_SIOOBE_FORMATTER : Value) (h0 : Heap) (n0 : Nat) (O0 : Old Z n0 h0) (E : Exa Z h0 b "java/lang/String") (F1 : Fld Z h0 b "java/lang/String" "value" "[B" .null) (F2 : Fld Z h0 b "java/lang/String" "coder" "B" (.int (0 : Int32))) (g : n0 ≤ b) (V : Arv Z h0 ca kc .char (2 : Int32) [(.int c0), (.int c1)] (.int (0 : Int32))) (hS : OwnS Z i_COMPACT_STRINGS v_SIOOBE_FORMATTER) (hc0 : ¬ ((255 : Int32) < c0)) (hc1 : ¬ ((255 : Int32) < c1)) :
    MetFree l (⟨"java/lang/String", "<init>", "([C)V"⟩ : MethodName) (head1 (Jvm.Cond.code (⟨"java/lang/String", "<init>", "([C)V"⟩ : MethodName) jdk_42_method_3_code 2 none :: ws) ({ frames := 3, cells := 1, slots := 2, locals := 52 } : Room)) (fun aa_ UU_ => aa_ = #[(.ref b), (.ref ca)] ∧ Z.Warmed39 UU_.vm ∧ UU_.heap = h0) (fun _ _ _ _ _ => True) (fun _ UU_ oo_ UV_ => ∃ vv_ LL_, oo_ = .returned vv_ ∧ QS0_2 Z b ca kc c0 c1 i_COMPACT_STRINGS v_SIOOBE_FORMATTER h0 n0 vv_ UV_.heap LL_ ∧ FrameEnd UU_ oo_ UV_ LL_ ({ frames := 3, cells := 1, slots := 2, locals := 52 } : Room).cells ({ frames := 3, cells := 1, slots := 2, locals := 52 } : Room).slots) := by
  refine MetFree.of_bodySF (plainFor_of_name pn_1) hisR ?_
  intro p e s m args below meth c s₁ Bd hml0 hP hK
  obtain ⟨rfl, hZ, hh⟩ := hP
  have hx := Bd.exec
  have hby := Bd.bytes
  have hlk := BodyLoose.notSynchronized Bd
  have hml : c.maxLocals = 2 := hml0
  have hown : s.vm.findClass "java/lang/String" = some m.cls := findClass_of_methodNamed Bd.named
  have hnm := (name_of_methodNamed Bd.named Bd.method).1
  have X0 : Stand p l e ({ frames := 3, cells := 1, slots := 2, locals := 52 } : Room) s m #[(.ref b), (.ref ca)] below meth c s₁ [] 0 0 := Stand.of_body Bd
  have e0 : s₁.heap = h0 := by rw [← hh, Bd.state]; rfl
  have N0 := Fr.nil n0
  have KC0 : Keep h0 h0 [b] := Keep.refl _ _
  suffices hOW : OW p e below s (QS0_2 Z b ca kc c0 c1 i_COMPACT_STRINGS v_SIOOBE_FORMATTER h0 n0) 1 2 (s₁.setTop (mkF m 0 #[.val (.ref b), .val (.ref ca)] [])) by
    obtain ⟨oq1_, oq2_, oq3_, oq4_⟩ := hOW
    exact ⟨oq1_, oq2_, castTop (ef_S0_2 m b ca) oq3_, oq4_⟩
  have hS' := hS
  obtain ⟨Si_COMPACT_STRINGS, Sv_SIOOBE_FORMATTER, Rv_SIOOBE_FORMATTER, Pi_COMPACT_STRINGS⟩ := hS'
  refine OW.st (B := s₁.setTop (mkF m 1 #[.val (.ref b), .val (.ref ca)] [(.ref b)])) (fun _ kk_ => XS.aloadN X0.here hx rfl (hb hby d2_0) rfl rfl kk_) ?_
  refine OW.st (B := s₁.setTop (mkF m 2 #[.val (.ref b), .val (.ref ca)] [(.ref ca), (.ref b)])) (fun _ kk_ => XS.aloadN X0.here hx rfl (hb hby d2_1) rfl rfl kk_) ?_
  refine OW.st (B := s₁.setTop (mkF m 3 #[.val (.ref b), .val (.ref ca)] [(.int (0 : Int32)), (.ref ca), (.ref b)])) (fun _ kk_ => XS.iconst X0.here hx rfl (hb hby d2_2) kk_) ?_
  refine OW.st (B := s₁.setTop (mkF m 4 #[.val (.ref b), .val (.ref ca)] [(.ref ca), (.int (0 : Int32)), (.ref ca), (.ref b)])) (fun _ kk_ => XS.aloadN X0.here hx rfl (hb hby d2_3) rfl rfl kk_) ?_
  obtain ⟨cl16, Ar16, q16, S16, Ng16, Hs16, G16⟩ := id V
  refine OW.st (X0.arraylength hx (by rw [e0]; exact Ar16.1) (State.isArrayOf_alike hZ.alike Ar16.2.1) (g := (mkF m 4 #[.val (.ref b), .val (.ref ca)] [(.ref ca), (.int (0 : Int32)), (.ref ca), (.ref b)])) rfl rfl (hb hby d2_4)) ?_
  rw [len_of S16 Ng16]
  show OW p e below s (QS0_2 Z b ca kc c0 c1 i_COMPACT_STRINGS v_SIOOBE_FORMATTER h0 n0) 1 2 (s₁.setTop (mkF m 5 #[.val (.ref b), .val (.ref ca)] [(.int (2 : Int32)), (.int (0 : Int32)), (.ref ca), (.ref b)]))
  refine OW.st (B := s₁.setTop (mkF m 6 #[.val (.ref b), .val (.ref ca)] [.null, (.int (2 : Int32)), (.int (0 : Int32)), (.ref ca), (.ref b)])) (fun _ kk_ => XS.aconstNull X0.here hx rfl (hb hby d2_5) kk_) ?_
  obtain ⟨_, _, ⟨T17, L17, k17, n17⟩, -, X17, ⟨Lc17, hQ17, l17, y17, z17⟩, st17⟩ := X0.specialBack hx (y := (⟨"java/lang/String", "<init>", "([CIILjava/lang/Void;)V"⟩ : MethodName)) rfl hown (mvT hZ (w_11 hw)) (mvT hZ (w_12 hw)) (mvT hZ (w_14 hw)) (by decide) (backOf (W := 0) (rmS1_2 l Z a0 hw [] b ca kc c0 c1 i_COMPACT_STRINGS v_SIOOBE_FORMATTER h0 n0 O0 E F1 F2 g V hS hc0 hc1) hZ (w_14 hw) (w_6 hw) (by decide) (by decide)) (g := (mkF m 6 #[.val (.ref b), .val (.ref ca)] [.null, (.int (2 : Int32)), (.int (0 : Int32)), (.ref ca), (.ref b)])) rfl (by rw [hml]; rfl) (Steps.refl _) (a := b) (argsL := [(.ref ca), (.int (0 : Int32)), (.int (2 : Int32)), .null]) (rest := []) (lenOf pd_3 rfl) rfl (by show 2 * 0 + _ ≤ _; exact Nat.le_of_eq rfl) (hb hby d2_6) (fun _ _ => ⟨rfl, e0, (by decide : 0 + 1 ≤ _), (by decide : 0 + 2 ≤ _)⟩)
  dsimp only [Pt.U, Pt.locs, Pt.cells, Pt.slots] at X17 l17 y17 z17 st17 hQ17
  subst l17 y17 z17
  obtain ⟨rfl, Nq17, K17, Es17, ba17, kb17, gba17, nba17, Fc17, Fv17, Vs17⟩ := hQ17
  have N17 := Fr.app N0 Nq17
  have O17 : Old Z n0 T17.heap := O0.keep K17 (allS g all0)
  have KC17 : Keep h0 T17.heap [b] := KC0.trans K17 (allS (Or.inl (List.mem_of_getElem? (i := 0) rfl)) all0)
  refine OW.tr (B := T17.setTop (mkF m 9 #[.val (.ref b), .val (.ref ca)] [])) (st17) ?_
  exact OW.retV X17 hx hlk Bd.returns (hb hby d2_9) rfl (by decide) (by decide) ⟨rfl, N17, KC17, (E.keep K17), ba17, kb17, gba17, nba17, Fc17, Fv17, Vs17⟩
theorem ef_C5_3 (m : MethodId) (x0 : Addr) (x1 : Int32) (x2 : Addr) (x3 : Int32) (x4 : Int32) : entryFrame m #[(.ref x0), (.int x1), (.ref x2), (.int x3), (.int x4)] 7 = mkF m 0 #[.val (.ref x0), .val (.int x1), .val (.ref x2), .val (.int x3), .val (.int x4), .unset, .unset] [] := by first | (simp [entryFrame, mkF, argsToLocals, Value.category]; done) | rfl
def QC5_3 (Z : State) (ca : Addr) (kc : ClassId) (ba : Addr) (kb : ClassId) (c0 : Int32) (c1 : Int32) (c2 : Int32) (h0 : Heap) (n0 : Nat) (v : Option Value) (h : Heap) (L : List Loc) : Prop := v = some (.int (3 : Int32)) ∧ Fr n0 L ∧ Keep h0 h [ba] ∧ Arv Z h ba kb .byte (3 : Int32) [(.int (own_by c0)), (.int (own_by c1)), (.int (own_by c2))] (.int (0 : Int32))
set_option maxRecDepth 65536 in
set_option maxHeartbeats 40000000 in
theorem rmC5_3 (l : Launch) (Z : State) (a0 : Array Value) (hw : ∀ d ∈ tables_1, d.before a0 Z = true) (ws : List Jvm.Cond) (ca : Addr) (kc : ClassId) (ba : Addr) (kb : ClassId) (c0 : Int32) (c1 : Int32) (c2 : Int32) (h0 : Heap) (n0 : Nat) (O0 : Old Z n0 h0) (V : Arv Z h0 ca kc .char (3 : Int32) [(.int c0), (.int c1), (.int c2)] (.int (0 : Int32))) (B : Arv Z h0 ba kb .byte (3 : Int32) [(.int (0 : Int32)), (.int (0 : Int32)), (.int (0 : Int32))] (.int (0 : Int32))) (gb : n0 ≤ ba) (hne : ca ≠ ba) (hc0 : ¬ ((255 : Int32) < c0)) (hc1 : ¬ ((255 : Int32) < c1)) (hc2 : ¬ ((255 : Int32) < c2)) :
    MetFree l (⟨"java/lang/StringUTF16", "compress", "([CI[BII)I"⟩ : MethodName) (head1 (Jvm.Cond.code (⟨"java/lang/StringUTF16", "compress", "([CI[BII)I"⟩ : MethodName) jdk_52_method_21_code 7 (some .int) :: ws) ({ frames := 0, cells := 0, slots := 0, locals := 0 } : Room)) (fun aa_ UU_ => aa_ = #[(.ref ca), (.int (0 : Int32)), (.ref ba), (.int (0 : Int32)), (.int (3 : Int32))] ∧ Z.Warmed39 UU_.vm ∧ UU_.heap = h0) (fun _ _ _ _ _ => True) (fun _ UU_ oo_ UV_ => ∃ vv_ LL_, oo_ = .returned vv_ ∧ QC5_3 Z ca kc ba kb c0 c1 c2 h0 n0 vv_ UV_.heap LL_ ∧ FrameEnd UU_ oo_ UV_ LL_ ({ frames := 0, cells := 0, slots := 0, locals := 0 } : Room).cells ({ frames := 0, cells := 0, slots := 0, locals := 0 } : Room).slots) := by
  refine MetFree.of_bodySF (plainFor_of_name pn_0) hisR ?_
  intro p e s m args below meth c s₁ Bd hml0 hP hK
  obtain ⟨rfl, hZ, hh⟩ := hP
  have hx := Bd.exec
  have hby := Bd.bytes
  have hlk := BodyLoose.notSynchronized Bd
  have hml : c.maxLocals = 7 := hml0
  have hown : s.vm.findClass "java/lang/StringUTF16" = some m.cls := findClass_of_methodNamed Bd.named
  have hnm := (name_of_methodNamed Bd.named Bd.method).1
  have X0 : Stand p l e ({ frames := 0, cells := 0, slots := 0, locals := 0 } : Room) s m #[(.ref ca), (.int (0 : Int32)), (.ref ba), (.int (0 : Int32)), (.int (3 : Int32))] below meth c s₁ [] 0 0 := Stand.of_body Bd
  have e0 : s₁.heap = h0 := by rw [← hh, Bd.state]; rfl
  have N0 := Fr.nil n0
  have KC0 : Keep h0 h0 [ba] := Keep.refl _ _
  suffices hOW : OW p e below s (QC5_3 Z ca kc ba kb c0 c1 c2 h0 n0) 0 0 (s₁.setTop (mkF m 0 #[.val (.ref ca), .val (.int (0 : Int32)), .val (.ref ba), .val (.int (0 : Int32)), .val (.int (3 : Int32)), .unset, .unset] [])) by
    obtain ⟨oq1_, oq2_, oq3_, oq4_⟩ := hOW
    exact ⟨oq1_, oq2_, castTop (ef_C5_3 m ca (0 : Int32) ba (0 : Int32) (3 : Int32)) oq3_, oq4_⟩
  refine OW.st (B := s₁.setTop (mkF m 1 #[.val (.ref ca), .val (.int (0 : Int32)), .val (.ref ba), .val (.int (0 : Int32)), .val (.int (3 : Int32)), .unset, .unset] [(.int (0 : Int32))])) (fun _ kk_ => XS.iconst X0.here hx rfl (hb hby d15_0) kk_) ?_
  refine OW.st (B := s₁.setTop (mkF m 3 #[.val (.ref ca), .val (.int (0 : Int32)), .val (.ref ba), .val (.int (0 : Int32)), .val (.int (3 : Int32)), .val (.int (0 : Int32)), .unset] [])) (fun _ kk_ => XS.istore X0.here hx rfl (hb hby d15_1) rfl (l' := #[.val (.ref ca), .val (.int (0 : Int32)), .val (.ref ba), .val (.int (0 : Int32)), .val (.int (3 : Int32)), .val (.int (0 : Int32)), .unset]) rfl kk_) ?_
  refine OW.st (B := s₁.setTop (mkF m 5 #[.val (.ref ca), .val (.int (0 : Int32)), .val (.ref ba), .val (.int (0 : Int32)), .val (.int (3 : Int32)), .val (.int (0 : Int32)), .unset] [(.int (0 : Int32))])) (fun _ kk_ => XS.iload X0.here hx rfl (hb hby d15_3) rfl kk_) ?_
  refine OW.st (B := s₁.setTop (mkF m 7 #[.val (.ref ca), .val (.int (0 : Int32)), .val (.ref ba), .val (.int (0 : Int32)), .val (.int (3 : Int32)), .val (.int (0 : Int32)), .unset] [(.int (3 : Int32)), (.int (0 : Int32))])) (fun _ kk_ => XS.iload X0.here hx rfl (hb hby d15_5) rfl kk_) ?_
  refine OW.st (B := s₁.setTop (mkF m 10 #[.val (.ref ca), .val (.int (0 : Int32)), .val (.ref ba), .val (.int (0 : Int32)), .val (.int (3 : Int32)), .val (.int (0 : Int32)), .unset] [])) (fun _ kk_ => XS.icmpNo X0.here hx rfl (hb hby d15_7) rfl (tlt (by decide)).2.1 kk_) ?_
  refine OW.st (B := s₁.setTop (mkF m 11 #[.val (.ref ca), .val (.int (0 : Int32)), .val (.ref ba), .val (.int (0 : Int32)), .val (.int (3 : Int32)), .val (.int (0 : Int32)), .unset] [(.ref ca)])) (fun _ kk_ => XS.aloadN X0.here hx rfl (hb hby d15_10) rfl rfl kk_) ?_
  refine OW.st (B := s₁.setTop (mkF m 12 #[.val (.ref ca), .val (.int (0 : Int32)), .val (.ref ba), .val (.int (0 : Int32)), .val (.int (3 : Int32)), .val (.int (0 : Int32)), .unset] [(.int (0 : Int32)), (.ref ca)])) (fun _ kk_ => XS.iloadN X0.here hx rfl (hb hby d15_11) rfl kk_) ?_
  obtain ⟨cl18, Ar18, q18, S18, Ng18, Hs18, G18⟩ := id V
  have hin18 : ¬ ((0 : Int32) < 0 ∨ cl18.slots.size ≤ ((0 : Int32)).toNatClampNeg) := inb_of S18 ⟨by decide, by decide⟩
  refine OW.st (B := s₁.setTop (mkF m 13 #[.val (.ref ca), .val (.int (0 : Int32)), .val (.ref ba), .val (.int (0 : Int32)), .val (.int (3 : Int32)), .val (.int (0 : Int32)), .unset] [(.int c0)])) (X0.caload hx (j := (0 : Int32)) (v := (.int c0)) (by rw [e0]; exact Ar18.1) (State.isArrayOf_alike hZ.alike Ar18.2.1) Ar18.2.2 hin18 (Has.at Hs18 hin18 rfl) (g := (mkF m 12 #[.val (.ref ca), .val (.int (0 : Int32)), .val (.ref ba), .val (.int (0 : Int32)), .val (.int (3 : Int32)), .val (.int (0 : Int32)), .unset] [(.int (0 : Int32)), (.ref ca)])) rfl rfl (hb hby d15_12)) ?_
  refine OW.st (B := s₁.setTop (mkF m 15 #[.val (.ref ca), .val (.int (0 : Int32)), .val (.ref ba), .val (.int (0 : Int32)), .val (.int (3 : Int32)), .val (.int (0 : Int32)), .val (.int c0)] [])) (fun _ kk_ => XS.istore X0.here hx rfl (hb hby d15_13) rfl (l' := #[.val (.ref ca), .val (.int (0 : Int32)), .val (.ref ba), .val (.int (0 : Int32)), .val (.int (3 : Int32)), .val (.int (0 : Int32)), .val (.int c0)]) rfl kk_) ?_
  refine OW.st (B := s₁.setTop (mkF m 17 #[.val (.ref ca), .val (.int (0 : Int32)), .val (.ref ba), .val (.int (0 : Int32)), .val (.int (3 : Int32)), .val (.int (0 : Int32)), .val (.int c0)] [(.int c0)])) (fun _ kk_ => XS.iload X0.here hx rfl (hb hby d15_15) rfl kk_) ?_
  refine OW.st (B := s₁.setTop (mkF m 20 #[.val (.ref ca), .val (.int (0 : Int32)), .val (.ref ba), .val (.int (0 : Int32)), .val (.int (3 : Int32)), .val (.int (0 : Int32)), .val (.int c0)] [(.int (255 : Int32)), (.int c0)])) (fun _ kk_ => XS.sipush X0.here hx rfl (hb hby d15_17) kk_) ?_
  refine OW.st (B := s₁.setTop (mkF m 26 #[.val (.ref ca), .val (.int (0 : Int32)), .val (.ref ba), .val (.int (0 : Int32)), .val (.int (3 : Int32)), .val (.int (0 : Int32)), .val (.int c0)] [])) (fun _ kk_ => XS.icmpYes X0.here hx rfl (pc0 := 20) (pc' := 26) rfl (hb hby d15_20) rfl (flt hc0).2.2.2 (by decide) (by decide) kk_) ?_
  refine OW.st (B := s₁.setTop (mkF m 27 #[.val (.ref ca), .val (.int (0 : Int32)), .val (.ref ba), .val (.int (0 : Int32)), .val (.int (3 : Int32)), .val (.int (0 : Int32)), .val (.int c0)] [(.ref ba)])) (fun _ kk_ => XS.aloadN X0.here hx rfl (hb hby d15_26) rfl rfl kk_) ?_
  refine OW.st (B := s₁.setTop (mkF m 28 #[.val (.ref ca), .val (.int (0 : Int32)), .val (.ref ba), .val (.int (0 : Int32)), .val (.int (3 : Int32)), .val (.int (0 : Int32)), .val (.int c0)] [(.int (0 : Int32)), (.ref ba)])) (fun _ kk_ => XS.iloadN X0.here hx rfl (hb hby d15_27) rfl kk_) ?_
  refine OW.st (B := s₁.setTop (mkF m 30 #[.val (.ref ca), .val (.int (0 : Int32)), .val (.ref ba), .val (.int (0 : Int32)), .val (.int (3 : Int32)), .val (.int (0 : Int32)), .val (.int c0)] [(.int c0), (.int (0 : Int32)), (.ref ba)])) (fun _ kk_ => XS.iload X0.here hx rfl (hb hby d15_28) rfl kk_) ?_
  refine OW.st (B := s₁.setTop (mkF m 31 #[.val (.ref ca), .val (.int (0 : Int32)), .val (.ref ba), .val (.int (0 : Int32)), .val (.int (3 : Int32)), .val (.int (0 : Int32)), .val (.int c0)] [(.int (c0.toInt8.toInt32)), (.int (0 : Int32)), (.ref ba)])) (fun _ kk_ => XS.i2b X0.here hx rfl (hb hby d15_30) rfl kk_) ?_
  obtain ⟨cl19, Ar19, q19, S19, Ng19, Hs19, G19⟩ := id B
  have hin19 : ¬ ((0 : Int32) < 0 ∨ cl19.slots.size ≤ ((0 : Int32)).toNatClampNeg) := inb_of S19 ⟨by decide, by decide⟩
  obtain ⟨T20, h20, X20, e20, W20, st20⟩ := stB X0 hx hZ e0 Ar19 (j := (0 : Int32)) hin19 (g := (mkF m 31 #[.val (.ref ca), .val (.int (0 : Int32)), .val (.ref ba), .val (.int (0 : Int32)), .val (.int (3 : Int32)), .val (.int (0 : Int32)), .val (.int c0)] [(.int (c0.toInt8.toInt32)), (.int (0 : Int32)), (.ref ba)])) rfl rfl (hb hby d15_31)
  have N20 := Fr.snoc X20 N0 gb
  have O20 : Old Z n0 h20 := O0.wr W20 gb
  have KC20 : Keep h0 h20 [ba] := KC0.wr W20 (Or.inl (List.mem_of_getElem? (i := 0) rfl))
  have V20 : Arv Z h20 ba kb .byte (3 : Int32) [(.int (nar .byte (c0.toInt8.toInt32))), (.int (0 : Int32)), (.int (0 : Int32))] (.int (0 : Int32)) := Arv.set Ar19 q19 S19 Ng19 Hs19 G19 (fits_nar_byte _) W20 0 rfl (Nat.le_of_ble_eq_true rfl)
  refine OW.st (B := T20.setTop (mkF m 32 #[.val (.ref ca), .val (.int (0 : Int32)), .val (.ref ba), .val (.int (0 : Int32)), .val (.int (3 : Int32)), .val (.int (0 : Int32)), .val (.int c0)] [])) (st20) ?_
  refine OW.st (B := T20.setTop (mkF m 35 #[.val (.ref ca), .val (.int ((0 : Int32) + (1 : Int32))), .val (.ref ba), .val (.int (0 : Int32)), .val (.int (3 : Int32)), .val (.int (0 : Int32)), .val (.int c0)] [])) (fun _ kk_ => XS.iinc X20.here hx rfl (hb hby d15_32) rfl (l' := #[.val (.ref ca), .val (.int ((0 : Int32) + (1 : Int32))), .val (.ref ba), .val (.int (0 : Int32)), .val (.int (3 : Int32)), .val (.int (0 : Int32)), .val (.int c0)]) rfl kk_) ?_
  refine OW.st (B := T20.setTop (mkF m 38 #[.val (.ref ca), .val (.int ((0 : Int32) + (1 : Int32))), .val (.ref ba), .val (.int ((0 : Int32) + (1 : Int32))), .val (.int (3 : Int32)), .val (.int (0 : Int32)), .val (.int c0)] [])) (fun _ kk_ => XS.iinc X20.here hx rfl (hb hby d15_35) rfl (l' := #[.val (.ref ca), .val (.int ((0 : Int32) + (1 : Int32))), .val (.ref ba), .val (.int ((0 : Int32) + (1 : Int32))), .val (.int (3 : Int32)), .val (.int (0 : Int32)), .val (.int c0)]) rfl kk_) ?_
  refine OW.st (B := T20.setTop (mkF m 41 #[.val (.ref ca), .val (.int ((0 : Int32) + (1 : Int32))), .val (.ref ba), .val (.int ((0 : Int32) + (1 : Int32))), .val (.int (3 : Int32)), .val (.int ((0 : Int32) + (1 : Int32))), .val (.int c0)] [])) (fun _ kk_ => XS.iinc X20.here hx rfl (hb hby d15_38) rfl (l' := #[.val (.ref ca), .val (.int ((0 : Int32) + (1 : Int32))), .val (.ref ba), .val (.int ((0 : Int32) + (1 : Int32))), .val (.int (3 : Int32)), .val (.int ((0 : Int32) + (1 : Int32))), .val (.int c0)]) rfl kk_) ?_
  refine OW.st (B := T20.setTop (mkF m 3 #[.val (.ref ca), .val (.int ((0 : Int32) + (1 : Int32))), .val (.ref ba), .val (.int ((0 : Int32) + (1 : Int32))), .val (.int (3 : Int32)), .val (.int ((0 : Int32) + (1 : Int32))), .val (.int c0)] [])) (fun _ kk_ => XS.goto X20.here hx rfl (pc0 := 41) (pc' := 3) rfl (hb hby d15_41) (by decide) (by decide) kk_) ?_
  refine OW.st (B := T20.setTop (mkF m 5 #[.val (.ref ca), .val (.int ((0 : Int32) + (1 : Int32))), .val (.ref ba), .val (.int ((0 : Int32) + (1 : Int32))), .val (.int (3 : Int32)), .val (.int ((0 : Int32) + (1 : Int32))), .val (.int c0)] [(.int ((0 : Int32) + (1 : Int32)))])) (fun _ kk_ => XS.iload X20.here hx rfl (hb hby d15_3) rfl kk_) ?_
  refine OW.st (B := T20.setTop (mkF m 7 #[.val (.ref ca), .val (.int ((0 : Int32) + (1 : Int32))), .val (.ref ba), .val (.int ((0 : Int32) + (1 : Int32))), .val (.int (3 : Int32)), .val (.int ((0 : Int32) + (1 : Int32))), .val (.int c0)] [(.int (3 : Int32)), (.int ((0 : Int32) + (1 : Int32)))])) (fun _ kk_ => XS.iload X20.here hx rfl (hb hby d15_5) rfl kk_) ?_
  refine OW.st (B := T20.setTop (mkF m 10 #[.val (.ref ca), .val (.int ((0 : Int32) + (1 : Int32))), .val (.ref ba), .val (.int ((0 : Int32) + (1 : Int32))), .val (.int (3 : Int32)), .val (.int ((0 : Int32) + (1 : Int32))), .val (.int c0)] [])) (fun _ kk_ => XS.icmpNo X20.here hx rfl (hb hby d15_7) rfl (tlt (by decide)).2.1 kk_) ?_
  refine OW.st (B := T20.setTop (mkF m 11 #[.val (.ref ca), .val (.int ((0 : Int32) + (1 : Int32))), .val (.ref ba), .val (.int ((0 : Int32) + (1 : Int32))), .val (.int (3 : Int32)), .val (.int ((0 : Int32) + (1 : Int32))), .val (.int c0)] [(.ref ca)])) (fun _ kk_ => XS.aloadN X20.here hx rfl (hb hby d15_10) rfl rfl kk_) ?_
  refine OW.st (B := T20.setTop (mkF m 12 #[.val (.ref ca), .val (.int ((0 : Int32) + (1 : Int32))), .val (.ref ba), .val (.int ((0 : Int32) + (1 : Int32))), .val (.int (3 : Int32)), .val (.int ((0 : Int32) + (1 : Int32))), .val (.int c0)] [(.int ((0 : Int32) + (1 : Int32))), (.ref ca)])) (fun _ kk_ => XS.iloadN X20.here hx rfl (hb hby d15_11) rfl kk_) ?_
  obtain ⟨cl21, Ar21, q21, S21, Ng21, Hs21, G21⟩ := id (V.other W20 hne)
  have hin21 : ¬ (((0 : Int32) + (1 : Int32)) < 0 ∨ cl21.slots.size ≤ (((0 : Int32) + (1 : Int32))).toNatClampNeg) := inb_of S21 ⟨by decide, by decide⟩
  refine OW.st (B := T20.setTop (mkF m 13 #[.val (.ref ca), .val (.int ((0 : Int32) + (1 : Int32))), .val (.ref ba), .val (.int ((0 : Int32) + (1 : Int32))), .val (.int (3 : Int32)), .val (.int ((0 : Int32) + (1 : Int32))), .val (.int c0)] [(.int c1)])) (X20.caload hx (j := ((0 : Int32) + (1 : Int32))) (v := (.int c1)) (by rw [e20]; exact Ar21.1) (State.isArrayOf_alike hZ.alike Ar21.2.1) Ar21.2.2 hin21 (Has.at Hs21 hin21 rfl) (g := (mkF m 12 #[.val (.ref ca), .val (.int ((0 : Int32) + (1 : Int32))), .val (.ref ba), .val (.int ((0 : Int32) + (1 : Int32))), .val (.int (3 : Int32)), .val (.int ((0 : Int32) + (1 : Int32))), .val (.int c0)] [(.int ((0 : Int32) + (1 : Int32))), (.ref ca)])) rfl rfl (hb hby d15_12)) ?_
  refine OW.st (B := T20.setTop (mkF m 15 #[.val (.ref ca), .val (.int ((0 : Int32) + (1 : Int32))), .val (.ref ba), .val (.int ((0 : Int32) + (1 : Int32))), .val (.int (3 : Int32)), .val (.int ((0 : Int32) + (1 : Int32))), .val (.int c1)] [])) (fun _ kk_ => XS.istore X20.here hx rfl (hb hby d15_13) rfl (l' := #[.val (.ref ca), .val (.int ((0 : Int32) + (1 : Int32))), .val (.ref ba), .val (.int ((0 : Int32) + (1 : Int32))), .val (.int (3 : Int32)), .val (.int ((0 : Int32) + (1 : Int32))), .val (.int c1)]) rfl kk_) ?_
  refine OW.st (B := T20.setTop (mkF m 17 #[.val (.ref ca), .val (.int ((0 : Int32) + (1 : Int32))), .val (.ref ba), .val (.int ((0 : Int32) + (1 : Int32))), .val (.int (3 : Int32)), .val (.int ((0 : Int32) + (1 : Int32))), .val (.int c1)] [(.int c1)])) (fun _ kk_ => XS.iload X20.here hx rfl (hb hby d15_15) rfl kk_) ?_
  refine OW.st (B := T20.setTop (mkF m 20 #[.val (.ref ca), .val (.int ((0 : Int32) + (1 : Int32))), .val (.ref ba), .val (.int ((0 : Int32) + (1 : Int32))), .val (.int (3 : Int32)), .val (.int ((0 : Int32) + (1 : Int32))), .val (.int c1)] [(.int (255 : Int32)), (.int c1)])) (fun _ kk_ => XS.sipush X20.here hx rfl (hb hby d15_17) kk_) ?_
  refine OW.st (B := T20.setTop (mkF m 26 #[.val (.ref ca), .val (.int ((0 : Int32) + (1 : Int32))), .val (.ref ba), .val (.int ((0 : Int32) + (1 : Int32))), .val (.int (3 : Int32)), .val (.int ((0 : Int32) + (1 : Int32))), .val (.int c1)] [])) (fun _ kk_ => XS.icmpYes X20.here hx rfl (pc0 := 20) (pc' := 26) rfl (hb hby d15_20) rfl (flt hc1).2.2.2 (by decide) (by decide) kk_) ?_
  refine OW.st (B := T20.setTop (mkF m 27 #[.val (.ref ca), .val (.int ((0 : Int32) + (1 : Int32))), .val (.ref ba), .val (.int ((0 : Int32) + (1 : Int32))), .val (.int (3 : Int32)), .val (.int ((0 : Int32) + (1 : Int32))), .val (.int c1)] [(.ref ba)])) (fun _ kk_ => XS.aloadN X20.here hx rfl (hb hby d15_26) rfl rfl kk_) ?_
  refine OW.st (B := T20.setTop (mkF m 28 #[.val (.ref ca), .val (.int ((0 : Int32) + (1 : Int32))), .val (.ref ba), .val (.int ((0 : Int32) + (1 : Int32))), .val (.int (3 : Int32)), .val (.int ((0 : Int32) + (1 : Int32))), .val (.int c1)] [(.int ((0 : Int32) + (1 : Int32))), (.ref ba)])) (fun _ kk_ => XS.iloadN X20.here hx rfl (hb hby d15_27) rfl kk_) ?_
  refine OW.st (B := T20.setTop (mkF m 30 #[.val (.ref ca), .val (.int ((0 : Int32) + (1 : Int32))), .val (.ref ba), .val (.int ((0 : Int32) + (1 : Int32))), .val (.int (3 : Int32)), .val (.int ((0 : Int32) + (1 : Int32))), .val (.int c1)] [(.int c1), (.int ((0 : Int32) + (1 : Int32))), (.ref ba)])) (fun _ kk_ => XS.iload X20.here hx rfl (hb hby d15_28) rfl kk_) ?_
  refine OW.st (B := T20.setTop (mkF m 31 #[.val (.ref ca), .val (.int ((0 : Int32) + (1 : Int32))), .val (.ref ba), .val (.int ((0 : Int32) + (1 : Int32))), .val (.int (3 : Int32)), .val (.int ((0 : Int32) + (1 : Int32))), .val (.int c1)] [(.int (c1.toInt8.toInt32)), (.int ((0 : Int32) + (1 : Int32))), (.ref ba)])) (fun _ kk_ => XS.i2b X20.here hx rfl (hb hby d15_30) rfl kk_) ?_
  obtain ⟨cl22, Ar22, q22, S22, Ng22, Hs22, G22⟩ := id V20
  have hin22 : ¬ (((0 : Int32) + (1 : Int32)) < 0 ∨ cl22.slots.size ≤ (((0 : Int32) + (1 : Int32))).toNatClampNeg) := inb_of S22 ⟨by decide, by decide⟩
  obtain ⟨T23, h23, X23, e23, W23, st23⟩ := stB X20 hx hZ e20 Ar22 (j := ((0 : Int32) + (1 : Int32))) hin22 (g := (mkF m 31 #[.val (.ref ca), .val (.int ((0 : Int32) + (1 : Int32))), .val (.ref ba), .val (.int ((0 : Int32) + (1 : Int32))), .val (.int (3 : Int32)), .val (.int ((0 : Int32) + (1 : Int32))), .val (.int c1)] [(.int (c1.toInt8.toInt32)), (.int ((0 : Int32) + (1 : Int32))), (.ref ba)])) rfl rfl (hb hby d15_31)
  have N23 := Fr.snoc X23 N20 gb
  have O23 : Old Z n0 h23 := O20.wr W23 gb
  have KC23 : Keep h0 h23 [ba] := KC20.wr W23 (Or.inl (List.mem_of_getElem? (i := 0) rfl))
  have V23 : Arv Z h23 ba kb .byte (3 : Int32) [(.int (nar .byte (c0.toInt8.toInt32))), (.int (nar .byte (c1.toInt8.toInt32))), (.int (0 : Int32))] (.int (0 : Int32)) := Arv.set Ar22 q22 S22 Ng22 Hs22 G22 (fits_nar_byte _) W23 1 rfl (Nat.le_of_ble_eq_true rfl)
  refine OW.st (B := T23.setTop (mkF m 32 #[.val (.ref ca), .val (.int ((0 : Int32) + (1 : Int32))), .val (.ref ba), .val (.int ((0 : Int32) + (1 : Int32))), .val (.int (3 : Int32)), .val (.int ((0 : Int32) + (1 : Int32))), .val (.int c1)] [])) (st23) ?_
  refine OW.st (B := T23.setTop (mkF m 35 #[.val (.ref ca), .val (.int (((0 : Int32) + (1 : Int32)) + (1 : Int32))), .val (.ref ba), .val (.int ((0 : Int32) + (1 : Int32))), .val (.int (3 : Int32)), .val (.int ((0 : Int32) + (1 : Int32))), .val (.int c1)] [])) (fun _ kk_ => XS.iinc X23.here hx rfl (hb hby d15_32) rfl (l' := #[.val (.ref ca), .val (.int (((0 : Int32) + (1 : Int32)) + (1 : Int32))), .val (.ref ba), .val (.int ((0 : Int32) + (1 : Int32))), .val (.int (3 : Int32)), .val (.int ((0 : Int32) + (1 : Int32))), .val (.int c1)]) rfl kk_) ?_
  refine OW.st (B := T23.setTop (mkF m 38 #[.val (.ref ca), .val (.int (((0 : Int32) + (1 : Int32)) + (1 : Int32))), .val (.ref ba), .val (.int (((0 : Int32) + (1 : Int32)) + (1 : Int32))), .val (.int (3 : Int32)), .val (.int ((0 : Int32) + (1 : Int32))), .val (.int c1)] [])) (fun _ kk_ => XS.iinc X23.here hx rfl (hb hby d15_35) rfl (l' := #[.val (.ref ca), .val (.int (((0 : Int32) + (1 : Int32)) + (1 : Int32))), .val (.ref ba), .val (.int (((0 : Int32) + (1 : Int32)) + (1 : Int32))), .val (.int (3 : Int32)), .val (.int ((0 : Int32) + (1 : Int32))), .val (.int c1)]) rfl kk_) ?_
  refine OW.st (B := T23.setTop (mkF m 41 #[.val (.ref ca), .val (.int (((0 : Int32) + (1 : Int32)) + (1 : Int32))), .val (.ref ba), .val (.int (((0 : Int32) + (1 : Int32)) + (1 : Int32))), .val (.int (3 : Int32)), .val (.int (((0 : Int32) + (1 : Int32)) + (1 : Int32))), .val (.int c1)] [])) (fun _ kk_ => XS.iinc X23.here hx rfl (hb hby d15_38) rfl (l' := #[.val (.ref ca), .val (.int (((0 : Int32) + (1 : Int32)) + (1 : Int32))), .val (.ref ba), .val (.int (((0 : Int32) + (1 : Int32)) + (1 : Int32))), .val (.int (3 : Int32)), .val (.int (((0 : Int32) + (1 : Int32)) + (1 : Int32))), .val (.int c1)]) rfl kk_) ?_
  refine OW.st (B := T23.setTop (mkF m 3 #[.val (.ref ca), .val (.int (((0 : Int32) + (1 : Int32)) + (1 : Int32))), .val (.ref ba), .val (.int (((0 : Int32) + (1 : Int32)) + (1 : Int32))), .val (.int (3 : Int32)), .val (.int (((0 : Int32) + (1 : Int32)) + (1 : Int32))), .val (.int c1)] [])) (fun _ kk_ => XS.goto X23.here hx rfl (pc0 := 41) (pc' := 3) rfl (hb hby d15_41) (by decide) (by decide) kk_) ?_
  refine OW.st (B := T23.setTop (mkF m 5 #[.val (.ref ca), .val (.int (((0 : Int32) + (1 : Int32)) + (1 : Int32))), .val (.ref ba), .val (.int (((0 : Int32) + (1 : Int32)) + (1 : Int32))), .val (.int (3 : Int32)), .val (.int (((0 : Int32) + (1 : Int32)) + (1 : Int32))), .val (.int c1)] [(.int (((0 : Int32) + (1 : Int32)) + (1 : Int32)))])) (fun _ kk_ => XS.iload X23.here hx rfl (hb hby d15_3) rfl kk_) ?_
  refine OW.st (B := T23.setTop (mkF m 7 #[.val (.ref ca), .val (.int (((0 : Int32) + (1 : Int32)) + (1 : Int32))), .val (.ref ba), .val (.int (((0 : Int32) + (1 : Int32)) + (1 : Int32))), .val (.int (3 : Int32)), .val (.int (((0 : Int32) + (1 : Int32)) + (1 : Int32))), .val (.int c1)] [(.int (3 : Int32)), (.int (((0 : Int32) + (1 : Int32)) + (1 : Int32)))])) (fun _ kk_ => XS.iload X23.here hx rfl (hb hby d15_5) rfl kk_) ?_
  refine OW.st (B := T23.setTop (mkF m 10 #[.val (.ref ca), .val (.int (((0 : Int32) + (1 : Int32)) + (1 : Int32))), .val (.ref ba), .val (.int (((0 : Int32) + (1 : Int32)) + (1 : Int32))), .val (.int (3 : Int32)), .val (.int (((0 : Int32) + (1 : Int32)) + (1 : Int32))), .val (.int c1)] [])) (fun _ kk_ => XS.icmpNo X23.here hx rfl (hb hby d15_7) rfl (tlt (by decide)).2.1 kk_) ?_
  refine OW.st (B := T23.setTop (mkF m 11 #[.val (.ref ca), .val (.int (((0 : Int32) + (1 : Int32)) + (1 : Int32))), .val (.ref ba), .val (.int (((0 : Int32) + (1 : Int32)) + (1 : Int32))), .val (.int (3 : Int32)), .val (.int (((0 : Int32) + (1 : Int32)) + (1 : Int32))), .val (.int c1)] [(.ref ca)])) (fun _ kk_ => XS.aloadN X23.here hx rfl (hb hby d15_10) rfl rfl kk_) ?_
  refine OW.st (B := T23.setTop (mkF m 12 #[.val (.ref ca), .val (.int (((0 : Int32) + (1 : Int32)) + (1 : Int32))), .val (.ref ba), .val (.int (((0 : Int32) + (1 : Int32)) + (1 : Int32))), .val (.int (3 : Int32)), .val (.int (((0 : Int32) + (1 : Int32)) + (1 : Int32))), .val (.int c1)] [(.int (((0 : Int32) + (1 : Int32)) + (1 : Int32))), (.ref ca)])) (fun _ kk_ => XS.iloadN X23.here hx rfl (hb hby d15_11) rfl kk_) ?_
  obtain ⟨cl24, Ar24, q24, S24, Ng24, Hs24, G24⟩ := id ((V.other W20 hne).other W23 hne)
  have hin24 : ¬ ((((0 : Int32) + (1 : Int32)) + (1 : Int32)) < 0 ∨ cl24.slots.size ≤ ((((0 : Int32) + (1 : Int32)) + (1 : Int32))).toNatClampNeg) := inb_of S24 ⟨by decide, by decide⟩
  refine OW.st (B := T23.setTop (mkF m 13 #[.val (.ref ca), .val (.int (((0 : Int32) + (1 : Int32)) + (1 : Int32))), .val (.ref ba), .val (.int (((0 : Int32) + (1 : Int32)) + (1 : Int32))), .val (.int (3 : Int32)), .val (.int (((0 : Int32) + (1 : Int32)) + (1 : Int32))), .val (.int c1)] [(.int c2)])) (X23.caload hx (j := (((0 : Int32) + (1 : Int32)) + (1 : Int32))) (v := (.int c2)) (by rw [e23]; exact Ar24.1) (State.isArrayOf_alike hZ.alike Ar24.2.1) Ar24.2.2 hin24 (Has.at Hs24 hin24 rfl) (g := (mkF m 12 #[.val (.ref ca), .val (.int (((0 : Int32) + (1 : Int32)) + (1 : Int32))), .val (.ref ba), .val (.int (((0 : Int32) + (1 : Int32)) + (1 : Int32))), .val (.int (3 : Int32)), .val (.int (((0 : Int32) + (1 : Int32)) + (1 : Int32))), .val (.int c1)] [(.int (((0 : Int32) + (1 : Int32)) + (1 : Int32))), (.ref ca)])) rfl rfl (hb hby d15_12)) ?_
  refine OW.st (B := T23.setTop (mkF m 15 #[.val (.ref ca), .val (.int (((0 : Int32) + (1 : Int32)) + (1 : Int32))), .val (.ref ba), .val (.int (((0 : Int32) + (1 : Int32)) + (1 : Int32))), .val (.int (3 : Int32)), .val (.int (((0 : Int32) + (1 : Int32)) + (1 : Int32))), .val (.int c2)] [])) (fun _ kk_ => XS.istore X23.here hx rfl (hb hby d15_13) rfl (l' := #[.val (.ref ca), .val (.int (((0 : Int32) + (1 : Int32)) + (1 : Int32))), .val (.ref ba), .val (.int (((0 : Int32) + (1 : Int32)) + (1 : Int32))), .val (.int (3 : Int32)), .val (.int (((0 : Int32) + (1 : Int32)) + (1 : Int32))), .val (.int c2)]) rfl kk_) ?_
  refine OW.st (B := T23.setTop (mkF m 17 #[.val (.ref ca), .val (.int (((0 : Int32) + (1 : Int32)) + (1 : Int32))), .val (.ref ba), .val (.int (((0 : Int32) + (1 : Int32)) + (1 : Int32))), .val (.int (3 : Int32)), .val (.int (((0 : Int32) + (1 : Int32)) + (1 : Int32))), .val (.int c2)] [(.int c2)])) (fun _ kk_ => XS.iload X23.here hx rfl (hb hby d15_15) rfl kk_) ?_
  refine OW.st (B := T23.setTop (mkF m 20 #[.val (.ref ca), .val (.int (((0 : Int32) + (1 : Int32)) + (1 : Int32))), .val (.ref ba), .val (.int (((0 : Int32) + (1 : Int32)) + (1 : Int32))), .val (.int (3 : Int32)), .val (.int (((0 : Int32) + (1 : Int32)) + (1 : Int32))), .val (.int c2)] [(.int (255 : Int32)), (.int c2)])) (fun _ kk_ => XS.sipush X23.here hx rfl (hb hby d15_17) kk_) ?_
  refine OW.st (B := T23.setTop (mkF m 26 #[.val (.ref ca), .val (.int (((0 : Int32) + (1 : Int32)) + (1 : Int32))), .val (.ref ba), .val (.int (((0 : Int32) + (1 : Int32)) + (1 : Int32))), .val (.int (3 : Int32)), .val (.int (((0 : Int32) + (1 : Int32)) + (1 : Int32))), .val (.int c2)] [])) (fun _ kk_ => XS.icmpYes X23.here hx rfl (pc0 := 20) (pc' := 26) rfl (hb hby d15_20) rfl (flt hc2).2.2.2 (by decide) (by decide) kk_) ?_
  refine OW.st (B := T23.setTop (mkF m 27 #[.val (.ref ca), .val (.int (((0 : Int32) + (1 : Int32)) + (1 : Int32))), .val (.ref ba), .val (.int (((0 : Int32) + (1 : Int32)) + (1 : Int32))), .val (.int (3 : Int32)), .val (.int (((0 : Int32) + (1 : Int32)) + (1 : Int32))), .val (.int c2)] [(.ref ba)])) (fun _ kk_ => XS.aloadN X23.here hx rfl (hb hby d15_26) rfl rfl kk_) ?_
  refine OW.st (B := T23.setTop (mkF m 28 #[.val (.ref ca), .val (.int (((0 : Int32) + (1 : Int32)) + (1 : Int32))), .val (.ref ba), .val (.int (((0 : Int32) + (1 : Int32)) + (1 : Int32))), .val (.int (3 : Int32)), .val (.int (((0 : Int32) + (1 : Int32)) + (1 : Int32))), .val (.int c2)] [(.int (((0 : Int32) + (1 : Int32)) + (1 : Int32))), (.ref ba)])) (fun _ kk_ => XS.iloadN X23.here hx rfl (hb hby d15_27) rfl kk_) ?_
  refine OW.st (B := T23.setTop (mkF m 30 #[.val (.ref ca), .val (.int (((0 : Int32) + (1 : Int32)) + (1 : Int32))), .val (.ref ba), .val (.int (((0 : Int32) + (1 : Int32)) + (1 : Int32))), .val (.int (3 : Int32)), .val (.int (((0 : Int32) + (1 : Int32)) + (1 : Int32))), .val (.int c2)] [(.int c2), (.int (((0 : Int32) + (1 : Int32)) + (1 : Int32))), (.ref ba)])) (fun _ kk_ => XS.iload X23.here hx rfl (hb hby d15_28) rfl kk_) ?_
  refine OW.st (B := T23.setTop (mkF m 31 #[.val (.ref ca), .val (.int (((0 : Int32) + (1 : Int32)) + (1 : Int32))), .val (.ref ba), .val (.int (((0 : Int32) + (1 : Int32)) + (1 : Int32))), .val (.int (3 : Int32)), .val (.int (((0 : Int32) + (1 : Int32)) + (1 : Int32))), .val (.int c2)] [(.int (c2.toInt8.toInt32)), (.int (((0 : Int32) + (1 : Int32)) + (1 : Int32))), (.ref ba)])) (fun _ kk_ => XS.i2b X23.here hx rfl (hb hby d15_30) rfl kk_) ?_
  obtain ⟨cl25, Ar25, q25, S25, Ng25, Hs25, G25⟩ := id V23
  have hin25 : ¬ ((((0 : Int32) + (1 : Int32)) + (1 : Int32)) < 0 ∨ cl25.slots.size ≤ ((((0 : Int32) + (1 : Int32)) + (1 : Int32))).toNatClampNeg) := inb_of S25 ⟨by decide, by decide⟩
  obtain ⟨T26, h26, X26, e26, W26, st26⟩ := stB X23 hx hZ e23 Ar25 (j := (((0 : Int32) + (1 : Int32)) + (1 : Int32))) hin25 (g := (mkF m 31 #[.val (.ref ca), .val (.int (((0 : Int32) + (1 : Int32)) + (1 : Int32))), .val (.ref ba), .val (.int (((0 : Int32) + (1 : Int32)) + (1 : Int32))), .val (.int (3 : Int32)), .val (.int (((0 : Int32) + (1 : Int32)) + (1 : Int32))), .val (.int c2)] [(.int (c2.toInt8.toInt32)), (.int (((0 : Int32) + (1 : Int32)) + (1 : Int32))), (.ref ba)])) rfl rfl (hb hby d15_31)
  have N26 := Fr.snoc X26 N23 gb
  have O26 : Old Z n0 h26 := O23.wr W26 gb
  have KC26 : Keep h0 h26 [ba] := KC23.wr W26 (Or.inl (List.mem_of_getElem? (i := 0) rfl))
  have V26 : Arv Z h26 ba kb .byte (3 : Int32) [(.int (nar .byte (c0.toInt8.toInt32))), (.int (nar .byte (c1.toInt8.toInt32))), (.int (nar .byte (c2.toInt8.toInt32)))] (.int (0 : Int32)) := Arv.set Ar25 q25 S25 Ng25 Hs25 G25 (fits_nar_byte _) W26 2 rfl (Nat.le_of_ble_eq_true rfl)
  refine OW.st (B := T26.setTop (mkF m 32 #[.val (.ref ca), .val (.int (((0 : Int32) + (1 : Int32)) + (1 : Int32))), .val (.ref ba), .val (.int (((0 : Int32) + (1 : Int32)) + (1 : Int32))), .val (.int (3 : Int32)), .val (.int (((0 : Int32) + (1 : Int32)) + (1 : Int32))), .val (.int c2)] [])) (st26) ?_
  refine OW.st (B := T26.setTop (mkF m 35 #[.val (.ref ca), .val (.int ((((0 : Int32) + (1 : Int32)) + (1 : Int32)) + (1 : Int32))), .val (.ref ba), .val (.int (((0 : Int32) + (1 : Int32)) + (1 : Int32))), .val (.int (3 : Int32)), .val (.int (((0 : Int32) + (1 : Int32)) + (1 : Int32))), .val (.int c2)] [])) (fun _ kk_ => XS.iinc X26.here hx rfl (hb hby d15_32) rfl (l' := #[.val (.ref ca), .val (.int ((((0 : Int32) + (1 : Int32)) + (1 : Int32)) + (1 : Int32))), .val (.ref ba), .val (.int (((0 : Int32) + (1 : Int32)) + (1 : Int32))), .val (.int (3 : Int32)), .val (.int (((0 : Int32) + (1 : Int32)) + (1 : Int32))), .val (.int c2)]) rfl kk_) ?_
  refine OW.st (B := T26.setTop (mkF m 38 #[.val (.ref ca), .val (.int ((((0 : Int32) + (1 : Int32)) + (1 : Int32)) + (1 : Int32))), .val (.ref ba), .val (.int ((((0 : Int32) + (1 : Int32)) + (1 : Int32)) + (1 : Int32))), .val (.int (3 : Int32)), .val (.int (((0 : Int32) + (1 : Int32)) + (1 : Int32))), .val (.int c2)] [])) (fun _ kk_ => XS.iinc X26.here hx rfl (hb hby d15_35) rfl (l' := #[.val (.ref ca), .val (.int ((((0 : Int32) + (1 : Int32)) + (1 : Int32)) + (1 : Int32))), .val (.ref ba), .val (.int ((((0 : Int32) + (1 : Int32)) + (1 : Int32)) + (1 : Int32))), .val (.int (3 : Int32)), .val (.int (((0 : Int32) + (1 : Int32)) + (1 : Int32))), .val (.int c2)]) rfl kk_) ?_
  refine OW.st (B := T26.setTop (mkF m 41 #[.val (.ref ca), .val (.int ((((0 : Int32) + (1 : Int32)) + (1 : Int32)) + (1 : Int32))), .val (.ref ba), .val (.int ((((0 : Int32) + (1 : Int32)) + (1 : Int32)) + (1 : Int32))), .val (.int (3 : Int32)), .val (.int ((((0 : Int32) + (1 : Int32)) + (1 : Int32)) + (1 : Int32))), .val (.int c2)] [])) (fun _ kk_ => XS.iinc X26.here hx rfl (hb hby d15_38) rfl (l' := #[.val (.ref ca), .val (.int ((((0 : Int32) + (1 : Int32)) + (1 : Int32)) + (1 : Int32))), .val (.ref ba), .val (.int ((((0 : Int32) + (1 : Int32)) + (1 : Int32)) + (1 : Int32))), .val (.int (3 : Int32)), .val (.int ((((0 : Int32) + (1 : Int32)) + (1 : Int32)) + (1 : Int32))), .val (.int c2)]) rfl kk_) ?_
  refine OW.st (B := T26.setTop (mkF m 3 #[.val (.ref ca), .val (.int ((((0 : Int32) + (1 : Int32)) + (1 : Int32)) + (1 : Int32))), .val (.ref ba), .val (.int ((((0 : Int32) + (1 : Int32)) + (1 : Int32)) + (1 : Int32))), .val (.int (3 : Int32)), .val (.int ((((0 : Int32) + (1 : Int32)) + (1 : Int32)) + (1 : Int32))), .val (.int c2)] [])) (fun _ kk_ => XS.goto X26.here hx rfl (pc0 := 41) (pc' := 3) rfl (hb hby d15_41) (by decide) (by decide) kk_) ?_
  refine OW.st (B := T26.setTop (mkF m 5 #[.val (.ref ca), .val (.int ((((0 : Int32) + (1 : Int32)) + (1 : Int32)) + (1 : Int32))), .val (.ref ba), .val (.int ((((0 : Int32) + (1 : Int32)) + (1 : Int32)) + (1 : Int32))), .val (.int (3 : Int32)), .val (.int ((((0 : Int32) + (1 : Int32)) + (1 : Int32)) + (1 : Int32))), .val (.int c2)] [(.int ((((0 : Int32) + (1 : Int32)) + (1 : Int32)) + (1 : Int32)))])) (fun _ kk_ => XS.iload X26.here hx rfl (hb hby d15_3) rfl kk_) ?_
  refine OW.st (B := T26.setTop (mkF m 7 #[.val (.ref ca), .val (.int ((((0 : Int32) + (1 : Int32)) + (1 : Int32)) + (1 : Int32))), .val (.ref ba), .val (.int ((((0 : Int32) + (1 : Int32)) + (1 : Int32)) + (1 : Int32))), .val (.int (3 : Int32)), .val (.int ((((0 : Int32) + (1 : Int32)) + (1 : Int32)) + (1 : Int32))), .val (.int c2)] [(.int (3 : Int32)), (.int ((((0 : Int32) + (1 : Int32)) + (1 : Int32)) + (1 : Int32)))])) (fun _ kk_ => XS.iload X26.here hx rfl (hb hby d15_5) rfl kk_) ?_
  refine OW.st (B := T26.setTop (mkF m 44 #[.val (.ref ca), .val (.int ((((0 : Int32) + (1 : Int32)) + (1 : Int32)) + (1 : Int32))), .val (.ref ba), .val (.int ((((0 : Int32) + (1 : Int32)) + (1 : Int32)) + (1 : Int32))), .val (.int (3 : Int32)), .val (.int ((((0 : Int32) + (1 : Int32)) + (1 : Int32)) + (1 : Int32))), .val (.int c2)] [])) (fun _ kk_ => XS.icmpYes X26.here hx rfl (pc0 := 7) (pc' := 44) rfl (hb hby d15_7) rfl (flt (by decide)).2.1 (by decide) (by decide) kk_) ?_
  refine OW.st (B := T26.setTop (mkF m 46 #[.val (.ref ca), .val (.int ((((0 : Int32) + (1 : Int32)) + (1 : Int32)) + (1 : Int32))), .val (.ref ba), .val (.int ((((0 : Int32) + (1 : Int32)) + (1 : Int32)) + (1 : Int32))), .val (.int (3 : Int32)), .val (.int ((((0 : Int32) + (1 : Int32)) + (1 : Int32)) + (1 : Int32))), .val (.int c2)] [(.int (3 : Int32))])) (fun _ kk_ => XS.iload X26.here hx rfl (hb hby d15_44) rfl kk_) ?_
  exact OW.ret X26 hx hlk (i := .ireturn) Bd.returns rfl (Or.inl ⟨rfl, Or.inl rfl, _, rfl⟩) (hb hby d15_46) e26 (by decide) (by decide) ⟨rfl, N26, KC26, V26⟩
theorem ef_C3_3 (m : MethodId) (x0 : Addr) (x1 : Int32) (x2 : Int32) : entryFrame m #[(.ref x0), (.int x1), (.int x2)] 6 = mkF m 0 #[.val (.ref x0), .val (.int x1), .val (.int x2), .unset, .unset, .unset] [] := by first | (simp [entryFrame, mkF, argsToLocals, Value.category]; done) | rfl
def QC3_3 (Z : State) (ca : Addr) (kc : ClassId) (c0 : Int32) (c1 : Int32) (c2 : Int32) (h0 : Heap) (n0 : Nat) (v : Option Value) (h : Heap) (L : List Loc) : Prop := ∃ (ba : Addr) (kb : ClassId), v = some (.ref ba) ∧ Fr n0 L ∧ Keep h0 h [] ∧ n0 ≤ ba ∧ h0.size ≤ ba ∧ Arv Z h ba kb .byte (3 : Int32) [(.int (own_by c0)), (.int (own_by c1)), (.int (own_by c2))] (.int (0 : Int32))
set_option maxRecDepth 65536 in
set_option maxHeartbeats 40000000 in
theorem rmC3_3 (l : Launch) (Z : State) (a0 : Array Value) (hw : ∀ d ∈ tables_1, d.before a0 Z = true) (ws : List Jvm.Cond) (ca : Addr) (kc : ClassId) (c0 : Int32) (c1 : Int32) (c2 : Int32) (h0 : Heap) (n0 : Nat) (O0 : Old Z n0 h0) (V : Arv Z h0 ca kc .char (3 : Int32) [(.int c0), (.int c1), (.int c2)] (.int (0 : Int32))) (hc0 : ¬ ((255 : Int32) < c0)) (hc1 : ¬ ((255 : Int32) < c1)) (hc2 : ¬ ((255 : Int32) < c2)) :
    MetFree l (⟨"java/lang/StringUTF16", "compress", "([CII)[B"⟩ : MethodName) (head1 (Jvm.Cond.code (⟨"java/lang/StringUTF16", "compress", "([CII)[B"⟩ : MethodName) jdk_52_method_16_code 6 (some (.array .byte)) :: ws) ({ frames := 1, cells := 1, slots := 3, locals := 18 } : Room)) (fun aa_ UU_ => aa_ = #[(.ref ca), (.int (0 : Int32)), (.int (3 : Int32))] ∧ Z.Warmed39 UU_.vm ∧ UU_.heap = h0) (fun _ _ _ _ _ => True) (fun _ UU_ oo_ UV_ => ∃ vv_ LL_, oo_ = .returned vv_ ∧ QC3_3 Z ca kc c0 c1 c2 h0 n0 vv_ UV_.heap LL_ ∧ FrameEnd UU_ oo_ UV_ LL_ ({ frames := 1, cells := 1, slots := 3, locals := 18 } : Room).cells ({ frames := 1, cells := 1, slots := 3, locals := 18 } : Room).slots) := by
  refine MetFree.of_bodySF (plainFor_of_name pn_0) hisR ?_
  intro p e s m args below meth c s₁ Bd hml0 hP hK
  obtain ⟨rfl, hZ, hh⟩ := hP
  have hx := Bd.exec
  have hby := Bd.bytes
  have hlk := BodyLoose.notSynchronized Bd
  have hml : c.maxLocals = 6 := hml0
  have hown : s.vm.findClass "java/lang/StringUTF16" = some m.cls := findClass_of_methodNamed Bd.named
  have hnm := (name_of_methodNamed Bd.named Bd.method).1
  have X0 : Stand p l e ({ frames := 1, cells := 1, slots := 3, locals := 18 } : Room) s m #[(.ref ca), (.int (0 : Int32)), (.int (3 : Int32))] below meth c s₁ [] 0 0 := Stand.of_body Bd
  have e0 : s₁.heap = h0 := by rw [← hh, Bd.state]; rfl
  have N0 := Fr.nil n0
  have KC0 : Keep h0 h0 [] := Keep.refl _ _
  suffices hOW : OW p e below s (QC3_3 Z ca kc c0 c1 c2 h0 n0) 1 3 (s₁.setTop (mkF m 0 #[.val (.ref ca), .val (.int (0 : Int32)), .val (.int (3 : Int32)), .unset, .unset, .unset] [])) by
    obtain ⟨oq1_, oq2_, oq3_, oq4_⟩ := hOW
    exact ⟨oq1_, oq2_, castTop (ef_C3_3 m ca (0 : Int32) (3 : Int32)) oq3_, oq4_⟩
  refine OW.st (B := s₁.setTop (mkF m 1 #[.val (.ref ca), .val (.int (0 : Int32)), .val (.int (3 : Int32)), .unset, .unset, .unset] [(.int (3 : Int32))])) (fun _ kk_ => XS.iloadN X0.here hx rfl (hb hby d14_0) rfl kk_) ?_
  obtain ⟨T27, h27, k27, X27, e27, E27, A27, st27⟩ := newP (aty := .byte) X0 hx hZ (w_19 hw) e0 (g := (mkF m 1 #[.val (.ref ca), .val (.int (0 : Int32)), .val (.int (3 : Int32)), .unset, .unset, .unset] [(.int (3 : Int32))])) rfl (hb hby d14_1) rfl (by decide) (cap := 3) (by decide +kernel) (by decide +kernel) (by decide +kernel) (by decide +kernel)
  obtain ⟨b27, g27⟩ : ∃ z, z = h0.size := ⟨_, rfl⟩
  rw [← g27] at A27 st27
  have n_b27 : n0 ≤ b27 := Nat.le_trans (own_oldle O0) (Nat.le_of_eq g27.symm)
  have O27 : Old Z n0 h27 := O0.ext E27
  have sz_b27 : h0.size ≤ b27 := Nat.le_trans KC0.1 (Nat.le_of_eq g27.symm)
  have KC27 : Keep h0 h27 [] := KC0.ext E27
  have V27 : Arv Z h27 b27 k27 .byte (3 : Int32) [(.int (0 : Int32)), (.int (0 : Int32)), (.int (0 : Int32))] (.int (0 : Int32)) := (Arv.new A27 (by decide)).pad (pad_rep [] (.int (0 : Int32)) 3)
  refine OW.st (B := T27.setTop (mkF m 3 #[.val (.ref ca), .val (.int (0 : Int32)), .val (.int (3 : Int32)), .unset, .unset, .unset] [(.ref b27)])) (st27) ?_
  refine OW.st (B := T27.setTop (mkF m 4 #[.val (.ref ca), .val (.int (0 : Int32)), .val (.int (3 : Int32)), .val (.ref b27), .unset, .unset] [])) (fun _ kk_ => XS.astoreN X27.here hx rfl (hb hby d14_3) rfl rfl (l' := #[.val (.ref ca), .val (.int (0 : Int32)), .val (.int (3 : Int32)), .val (.ref b27), .unset, .unset]) rfl kk_) ?_
  refine OW.st (B := T27.setTop (mkF m 5 #[.val (.ref ca), .val (.int (0 : Int32)), .val (.int (3 : Int32)), .val (.ref b27), .unset, .unset] [(.ref ca)])) (fun _ kk_ => XS.aloadN X27.here hx rfl (hb hby d14_4) rfl rfl kk_) ?_
  refine OW.st (B := T27.setTop (mkF m 6 #[.val (.ref ca), .val (.int (0 : Int32)), .val (.int (3 : Int32)), .val (.ref b27), .unset, .unset] [(.int (0 : Int32)), (.ref ca)])) (fun _ kk_ => XS.iloadN X27.here hx rfl (hb hby d14_5) rfl kk_) ?_
  refine OW.st (B := T27.setTop (mkF m 7 #[.val (.ref ca), .val (.int (0 : Int32)), .val (.int (3 : Int32)), .val (.ref b27), .unset, .unset] [(.ref b27), (.int (0 : Int32)), (.ref ca)])) (fun _ kk_ => XS.aloadN X27.here hx rfl (hb hby d14_6) rfl rfl kk_) ?_
  refine OW.st (B := T27.setTop (mkF m 8 #[.val (.ref ca), .val (.int (0 : Int32)), .val (.int (3 : Int32)), .val (.ref b27), .unset, .unset] [(.int (0 : Int32)), (.ref b27), (.int (0 : Int32)), (.ref ca)])) (fun _ kk_ => XS.iconst X27.here hx rfl (hb hby d14_7) kk_) ?_
  refine OW.st (B := T27.setTop (mkF m 9 #[.val (.ref ca), .val (.int (0 : Int32)), .val (.int (3 : Int32)), .val (.ref b27), .unset, .unset] [(.int (3 : Int32)), (.int (0 : Int32)), (.ref b27), (.int (0 : Int32)), (.ref ca)])) (fun _ kk_ => XS.iloadN X27.here hx rfl (hb hby d14_8) rfl kk_) ?_
  obtain ⟨_, _, ⟨T28, L28, k28, n28⟩, -, X28, ⟨Lc28, hQ28, l28, y28, z28⟩, st28⟩ := Jvm.LawKit.callS X27 hx (y := (⟨"java/lang/StringUTF16", "compress", "([CI[BII)I"⟩ : MethodName)) hown (mvT hZ (w_84 hw)) (mvT hZ (w_85 hw)) (mvT hZ (w_82 hw)) (mvT hZ (w_86 hw)) (by decide) (backOf (W := 0) (rmC5_3 l Z a0 hw [] ca kc b27 k27 c0 c1 c2 h27 n0 O27 (V.ext E27) V27 n_b27 (Nat.ne_of_lt (Nat.lt_of_lt_of_le V.lt (Nat.le_of_eq g27.symm))) hc0 hc1 hc2) hZ (w_86 hw) (w_82 hw) (by decide) (by decide)) (g := (mkF m 9 #[.val (.ref ca), .val (.int (0 : Int32)), .val (.int (3 : Int32)), .val (.ref b27), .unset, .unset] [(.int (3 : Int32)), (.int (0 : Int32)), (.ref b27), (.int (0 : Int32)), (.ref ca)])) rfl (by rw [hml]; rfl) (argsL := [(.ref ca), (.int (0 : Int32)), (.ref b27), (.int (0 : Int32)), (.int (3 : Int32))]) (rest := []) (lenOf pd_0 rfl) rfl (by show 2 * 0 + _ ≤ _; exact Nat.le_of_eq rfl) (hb hby d14_9) (fun _ _ => ⟨rfl, e27, (by decide : 1 + 0 ≤ _), (by decide : 3 + 0 ≤ _)⟩)
  dsimp only [Pt.U, Pt.locs, Pt.cells, Pt.slots] at X28 l28 y28 z28 st28 hQ28
  subst l28 y28 z28
  obtain ⟨rfl, Nq28, K28, Vb28⟩ := hQ28
  have N28 := Fr.app N0 Nq28
  have O28 : Old Z n0 T28.heap := O27.keep K28 (allS n_b27 all0)
  have KC28 : Keep h0 T28.heap [] := KC27.trans K28 (allS (Or.inr sz_b27) all0)
  refine OW.st (B := T28.setTop (mkF m 12 #[.val (.ref ca), .val (.int (0 : Int32)), .val (.int (3 : Int32)), .val (.ref b27), .unset, .unset] [(.int (3 : Int32))])) (st28) ?_
  refine OW.st (B := T28.setTop (mkF m 14 #[.val (.ref ca), .val (.int (0 : Int32)), .val (.int (3 : Int32)), .val (.ref b27), .val (.int (3 : Int32)), .unset] [])) (fun _ kk_ => XS.istore X28.here hx rfl (hb hby d14_12) rfl (l' := #[.val (.ref ca), .val (.int (0 : Int32)), .val (.int (3 : Int32)), .val (.ref b27), .val (.int (3 : Int32)), .unset]) rfl kk_) ?_
  refine OW.st (B := T28.setTop (mkF m 16 #[.val (.ref ca), .val (.int (0 : Int32)), .val (.int (3 : Int32)), .val (.ref b27), .val (.int (3 : Int32)), .unset] [(.int (3 : Int32))])) (fun _ kk_ => XS.iload X28.here hx rfl (hb hby d14_14) rfl kk_) ?_
  refine OW.st (B := T28.setTop (mkF m 17 #[.val (.ref ca), .val (.int (0 : Int32)), .val (.int (3 : Int32)), .val (.ref b27), .val (.int (3 : Int32)), .unset] [(.int (3 : Int32)), (.int (3 : Int32))])) (fun _ kk_ => XS.iloadN X28.here hx rfl (hb hby d14_16) rfl kk_) ?_
  refine OW.st (B := T28.setTop (mkF m 57 #[.val (.ref ca), .val (.int (0 : Int32)), .val (.int (3 : Int32)), .val (.ref b27), .val (.int (3 : Int32)), .unset] [])) (fun _ kk_ => XS.icmpYes X28.here hx rfl (pc0 := 17) (pc' := 57) rfl (hb hby d14_17) rfl (teq (by decide)).1 (by decide) (by decide) kk_) ?_
  refine OW.st (B := T28.setTop (mkF m 58 #[.val (.ref ca), .val (.int (0 : Int32)), .val (.int (3 : Int32)), .val (.ref b27), .val (.int (3 : Int32)), .unset] [(.ref b27)])) (fun _ kk_ => XS.aloadN X28.here hx rfl (hb hby d14_57) rfl rfl kk_) ?_
  exact OW.ret X28 hx hlk (i := .areturn) Bd.returns rfl (Or.inr (Or.inr (Or.inr (Or.inr ⟨rfl, rfl, rfl⟩)))) (hb hby d14_58) rfl (by decide) (by decide) ⟨b27, k27, rfl, N28, KC28, n_b27, sz_b27, Vb28⟩
theorem ef_CL_3 (m : MethodId) (x0 : Addr) (x1 : Int32) : entryFrame m #[(.ref x0), (.int x1)] 2 = mkF m 0 #[.val (.ref x0), .val (.int x1)] [] := by first | (simp [entryFrame, mkF, argsToLocals, Value.category]; done) | rfl
def QCL_3 (Z : State) (ba : Addr) (kb : ClassId) (c0 : Int32) (c1 : Int32) (c2 : Int32) (h0 : Heap) (n0 : Nat) (v : Option Value) (h : Heap) (L : List Loc) : Prop := v = some (.int (0 : Int32)) ∧ Fr n0 L ∧ h = h0
set_option maxRecDepth 65536 in
set_option maxHeartbeats 40000000 in
theorem rmCL_3 (l : Launch) (Z : State) (a0 : Array Value) (hw : ∀ d ∈ tables_1, d.before a0 Z = true) (ws : List Jvm.Cond) (ba : Addr) (kb : ClassId) (c0 : Int32) (c1 : Int32) (c2 : Int32) (h0 : Heap) (n0 : Nat) (O0 : Old Z n0 h0) (B : Arv Z h0 ba kb .byte (3 : Int32) [(.int c0), (.int c1), (.int c2)] (.int (0 : Int32))) :
    MetFree l (⟨"java/lang/StringUTF16", "coderFromArrayLen", "([BI)B"⟩ : MethodName) (head1 (Jvm.Cond.code (⟨"java/lang/StringUTF16", "coderFromArrayLen", "([BI)B"⟩ : MethodName) jdk_52_method_15_code 2 (some .byte) :: ws) ({ frames := 0, cells := 0, slots := 0, locals := 0 } : Room)) (fun aa_ UU_ => aa_ = #[(.ref ba), (.int (3 : Int32))] ∧ Z.Warmed39 UU_.vm ∧ UU_.heap = h0) (fun _ _ _ _ _ => True) (fun _ UU_ oo_ UV_ => ∃ vv_ LL_, oo_ = .returned vv_ ∧ QCL_3 Z ba kb c0 c1 c2 h0 n0 vv_ UV_.heap LL_ ∧ FrameEnd UU_ oo_ UV_ LL_ ({ frames := 0, cells := 0, slots := 0, locals := 0 } : Room).cells ({ frames := 0, cells := 0, slots := 0, locals := 0 } : Room).slots) := by
  refine MetFree.of_bodySF (plainFor_of_name pn_0) hisR ?_
  intro p e s m args below meth c s₁ Bd hml0 hP hK
  obtain ⟨rfl, hZ, hh⟩ := hP
  have hx := Bd.exec
  have hby := Bd.bytes
  have hlk := BodyLoose.notSynchronized Bd
  have hml : c.maxLocals = 2 := hml0
  have hown : s.vm.findClass "java/lang/StringUTF16" = some m.cls := findClass_of_methodNamed Bd.named
  have hnm := (name_of_methodNamed Bd.named Bd.method).1
  have X0 : Stand p l e ({ frames := 0, cells := 0, slots := 0, locals := 0 } : Room) s m #[(.ref ba), (.int (3 : Int32))] below meth c s₁ [] 0 0 := Stand.of_body Bd
  have e0 : s₁.heap = h0 := by rw [← hh, Bd.state]; rfl
  have N0 := Fr.nil n0
  suffices hOW : OW p e below s (QCL_3 Z ba kb c0 c1 c2 h0 n0) 0 0 (s₁.setTop (mkF m 0 #[.val (.ref ba), .val (.int (3 : Int32))] [])) by
    obtain ⟨oq1_, oq2_, oq3_, oq4_⟩ := hOW
    exact ⟨oq1_, oq2_, castTop (ef_CL_3 m ba (3 : Int32)) oq3_, oq4_⟩
  refine OW.st (B := s₁.setTop (mkF m 1 #[.val (.ref ba), .val (.int (3 : Int32))] [(.int (3 : Int32))])) (fun _ kk_ => XS.iloadN X0.here hx rfl (hb hby d16_0) rfl kk_) ?_
  refine OW.st (B := s₁.setTop (mkF m 2 #[.val (.ref ba), .val (.int (3 : Int32))] [(.ref ba), (.int (3 : Int32))])) (fun _ kk_ => XS.aloadN X0.here hx rfl (hb hby d16_1) rfl rfl kk_) ?_
  obtain ⟨cl29, Ar29, q29, S29, Ng29, Hs29, G29⟩ := id B
  refine OW.st (X0.arraylength hx (by rw [e0]; exact Ar29.1) (State.isArrayOf_alike hZ.alike Ar29.2.1) (g := (mkF m 2 #[.val (.ref ba), .val (.int (3 : Int32))] [(.ref ba), (.int (3 : Int32))])) rfl rfl (hb hby d16_2)) ?_
  rw [len_of S29 Ng29]
  show OW p e below s (QCL_3 Z ba kb c0 c1 c2 h0 n0) 0 0 (s₁.setTop (mkF m 3 #[.val (.ref ba), .val (.int (3 : Int32))] [(.int (3 : Int32)), (.int (3 : Int32))]))
  refine OW.st (B := s₁.setTop (mkF m 4 #[.val (.ref ba), .val (.int (3 : Int32))] [(.int ((3 : Int32) - (3 : Int32)))])) (fun _ kk_ => XS.isub X0.here hx rfl (hb hby d16_3) rfl kk_) ?_
  refine OW.st (B := s₁.setTop (mkF m 6 #[.val (.ref ba), .val (.int (3 : Int32))] [(.int (31 : Int32)), (.int ((3 : Int32) - (3 : Int32)))])) (fun _ kk_ => XS.bipush X0.here hx rfl (hb hby d16_4) kk_) ?_
  refine OW.st (B := s₁.setTop (mkF m 7 #[.val (.ref ba), .val (.int (3 : Int32))] [(.int ((((3 : Int32) - (3 : Int32)).toUInt32 >>> ((31 : Int32) &&& 31).toUInt32).toInt32))])) (fun _ kk_ => XS.iushr X0.here hx rfl (hb hby d16_6) rfl kk_) ?_
  refine OW.st (B := s₁.setTop (mkF m 8 #[.val (.ref ba), .val (.int (3 : Int32))] [(.int (((((3 : Int32) - (3 : Int32)).toUInt32 >>> ((31 : Int32) &&& 31).toUInt32).toInt32).toInt8.toInt32))])) (fun _ kk_ => XS.i2b X0.here hx rfl (hb hby d16_7) rfl kk_) ?_
  exact OW.ret X0 hx hlk (i := .ireturn) Bd.returns rfl (Or.inl ⟨rfl, Or.inr (Or.inr (Or.inl rfl)), _, rfl⟩) (hb hby d16_8) e0 (by decide) (by decide) ⟨rfl, N0, rfl⟩
theorem ef_S1_3 (m : MethodId) (x0 : Addr) (x1 : Addr) (x2 : Int32) (x3 : Int32) : entryFrame m #[(.ref x0), (.ref x1), (.int x2), (.int x3), .null] 6 = mkF m 0 #[.val (.ref x0), .val (.ref x1), .val (.int x2), .val (.int x3), .val .null, .unset] [] := by first | (simp [entryFrame, mkF, argsToLocals, Value.category]; done) | rfl
def QS1_3 (Z : State) (b : Addr) (ca : Addr) (kc : ClassId) (c0 : Int32) (c1 : Int32) (c2 : Int32) (i_COMPACT_STRINGS : Int32) (v_SIOOBE_FORMATTER : Value) (h0 : Heap) (n0 : Nat) (v : Option Value) (h : Heap) (L : List Loc) : Prop := v = none ∧ Fr n0 L ∧ Keep h0 h [b] ∧ Exa Z h b "java/lang/String" ∧ ∃ (ba : Addr) (kb : ClassId), n0 ≤ ba ∧ b ≠ ba ∧ Fld Z h b "java/lang/String" "coder" "B" (.int (0 : Int32)) ∧ Fld Z h b "java/lang/String" "value" "[B" (.ref ba) ∧ Arv Z h ba kb .byte (3 : Int32) [(.int (own_by c0)), (.int (own_by c1)), (.int (own_by c2))] (.int (0 : Int32))
set_option maxRecDepth 65536 in
set_option maxHeartbeats 40000000 in
theorem rmS1_3 (l : Launch) (Z : State) (a0 : Array Value) (hw : ∀ d ∈ tables_1, d.before a0 Z = true) (ws : List Jvm.Cond) (b : Addr) (ca : Addr) (kc : ClassId) (c0 : Int32) (c1 : Int32) (c2 : Int32) (i_COMPACT_STRINGS : Int32) (v_SIOOBE_FORMATTER : Value) (h0 : Heap) (n0 : Nat) (O0 : Old Z n0 h0) (E : Exa Z h0 b "java/lang/String") (F1 : Fld Z h0 b "java/lang/String" "value" "[B" .null) (F2 : Fld Z h0 b "java/lang/String" "coder" "B" (.int (0 : Int32))) (g : n0 ≤ b) (V : Arv Z h0 ca kc .char (3 : Int32) [(.int c0), (.int c1), (.int c2)] (.int (0 : Int32))) (hS : OwnS Z i_COMPACT_STRINGS v_SIOOBE_FORMATTER) (hc0 : ¬ ((255 : Int32) < c0)) (hc1 : ¬ ((255 : Int32) < c1)) (hc2 : ¬ ((255 : Int32) < c2)) :
    MetFree l (⟨"java/lang/String", "<init>", "([CIILjava/lang/Void;)V"⟩ : MethodName) (head1 (Jvm.Cond.code (⟨"java/lang/String", "<init>", "([CIILjava/lang/Void;)V"⟩ : MethodName) jdk_42_method_149_code 6 none :: ws) ({ frames := 2, cells := 1, slots := 3, locals := 35 } : Room)) (fun aa_ UU_ => aa_ = #[(.ref b), (.ref ca), (.int (0 : Int32)), (.int (3 : Int32)), .null] ∧ Z.Warmed39 UU_.vm ∧ UU_.heap = h0) (fun _ _ _ _ _ => True) (fun _ UU_ oo_ UV_ => ∃ vv_ LL_, oo_ = .returned vv_ ∧ QS1_3 Z b ca kc c0 c1 c2 i_COMPACT_STRINGS v_SIOOBE_FORMATTER h0 n0 vv_ UV_.heap LL_ ∧ FrameEnd UU_ oo_ UV_ LL_ ({ frames := 2, cells := 1, slots := 3, locals := 35 } : Room).cells ({ frames := 2, cells := 1, slots := 3, locals := 35 } : Room).slots) := by
  refine MetFree.of_bodySF (plainFor_of_name pn_1) hisR ?_
  intro p e s m args below meth c s₁ Bd hml0 hP hK
  obtain ⟨rfl, hZ, hh⟩ := hP
  have hx := Bd.exec
  have hby := Bd.bytes
  have hlk := BodyLoose.notSynchronized Bd
  have hml : c.maxLocals = 6 := hml0
  have hown : s.vm.findClass "java/lang/String" = some m.cls := findClass_of_methodNamed Bd.named
  have hnm := (name_of_methodNamed Bd.named Bd.method).1
  have X0 : Stand p l e ({ frames := 2, cells := 1, slots := 3, locals := 35 } : Room) s m #[(.ref b), (.ref ca), (.int (0 : Int32)), (.int (3 : Int32)), .null] below meth c s₁ [] 0 0 := Stand.of_body Bd
  have e0 : s₁.heap = h0 := by rw [← hh, Bd.state]; rfl
  have N0 := Fr.nil n0
  have KC0 : Keep h0 h0 [b] := Keep.refl _ _
  suffices hOW : OW p e below s (QS1_3 Z b ca kc c0 c1 c2 i_COMPACT_STRINGS v_SIOOBE_FORMATTER h0 n0) 1 3 (s₁.setTop (mkF m 0 #[.val (.ref b), .val (.ref ca), .val (.int (0 : Int32)), .val (.int (3 : Int32)), .val .null, .unset] [])) by
    obtain ⟨oq1_, oq2_, oq3_, oq4_⟩ := hOW
    exact ⟨oq1_, oq2_, castTop (ef_S1_3 m b ca (0 : Int32) (3 : Int32)) oq3_, oq4_⟩
  have hS' := hS
  obtain ⟨Si_COMPACT_STRINGS, Sv_SIOOBE_FORMATTER, Rv_SIOOBE_FORMATTER, Pi_COMPACT_STRINGS⟩ := hS'
  refine OW.st (B := s₁.setTop (mkF m 1 #[.val (.ref b), .val (.ref ca), .val (.int (0 : Int32)), .val (.int (3 : Int32)), .val .null, .unset] [(.ref b)])) (fun _ kk_ => XS.aloadN X0.here hx rfl (hb hby d3_0) rfl rfl kk_) ?_
  obtain ⟨T30, X30, e30, st30⟩ := initO X0 hx hZ hown (w_15 hw) (w_16 hw) (w_17 hw) e0 (g := (mkF m 1 #[.val (.ref b), .val (.ref ca), .val (.int (0 : Int32)), .val (.int (3 : Int32)), .val .null, .unset] [(.ref b)])) rfl (by rw [hml]; rfl) rfl (hb hby d3_1) (by decide) (W := 0) (by show 2 * 0 + _ ≤ _; exact Nat.le_of_eq rfl) (by decide)
  refine OW.st (B := T30.setTop (mkF m 4 #[.val (.ref b), .val (.ref ca), .val (.int (0 : Int32)), .val (.int (3 : Int32)), .val .null, .unset] [])) (st30) ?_
  refine OW.st (B := T30.setTop (mkF m 5 #[.val (.ref b), .val (.ref ca), .val (.int (0 : Int32)), .val (.int (3 : Int32)), .val .null, .unset] [(.int (3 : Int32))])) (fun _ kk_ => XS.iloadN X30.here hx rfl (hb hby d3_4) rfl kk_) ?_
  refine OW.st (B := T30.setTop (mkF m 27 #[.val (.ref b), .val (.ref ca), .val (.int (0 : Int32)), .val (.int (3 : Int32)), .val .null, .unset] [])) (fun _ kk_ => XS.ifYes X30.here hx rfl (pc0 := 5) (pc' := 27) rfl (hb hby d3_5) rfl ((if0 _ _).trans (feq (by decide)).2) (by decide) (by decide) kk_) ?_
  obtain ⟨T31, X31, e31, st31⟩ := getS2 X30 hx hZ hown (host := "") (Or.inl (w_79 hw)) Via.refl e30 (Si_COMPACT_STRINGS.ext O0.2) (g := (mkF m 27 #[.val (.ref b), .val (.ref ca), .val (.int (0 : Int32)), .val (.int (3 : Int32)), .val .null, .unset] [])) rfl (hb hby d3_27)
  refine OW.st (B := T31.setTop (mkF m 30 #[.val (.ref b), .val (.ref ca), .val (.int (0 : Int32)), .val (.int (3 : Int32)), .val .null, .unset] [(.int i_COMPACT_STRINGS)])) (st31) ?_
  refine OW.st (B := T31.setTop (mkF m 33 #[.val (.ref b), .val (.ref ca), .val (.int (0 : Int32)), .val (.int (3 : Int32)), .val .null, .unset] [])) (fun _ kk_ => XS.ifNo X31.here hx rfl (hb hby d3_30) rfl ((if0 _ _).trans (feq Pi_COMPACT_STRINGS).1) kk_) ?_
  refine OW.st (B := T31.setTop (mkF m 34 #[.val (.ref b), .val (.ref ca), .val (.int (0 : Int32)), .val (.int (3 : Int32)), .val .null, .unset] [(.ref ca)])) (fun _ kk_ => XS.aloadN X31.here hx rfl (hb hby d3_33) rfl rfl kk_) ?_
  refine OW.st (B := T31.setTop (mkF m 35 #[.val (.ref b), .val (.ref ca), .val (.int (0 : Int32)), .val (.int (3 : Int32)), .val .null, .unset] [(.int (0 : Int32)), (.ref ca)])) (fun _ kk_ => XS.iloadN X31.here hx rfl (hb hby d3_34) rfl kk_) ?_
  refine OW.st (B := T31.setTop (mkF m 36 #[.val (.ref b), .val (.ref ca), .val (.int (0 : Int32)), .val (.int (3 : Int32)), .val .null, .unset] [(.int (3 : Int32)), (.int (0 : Int32)), (.ref ca)])) (fun _ kk_ => XS.iloadN X31.here hx rfl (hb hby d3_35) rfl kk_) ?_
  obtain ⟨_, _, ⟨T32, L32, k32, n32⟩, -, X32, ⟨Lc32, hQ32, l32, y32, z32⟩, st32⟩ := Jvm.LawKit.callS X31 hx (y := (⟨"java/lang/StringUTF16", "compress", "([CII)[B"⟩ : MethodName)) hown (mvT hZ (w_80 hw)) (mvT hZ (w_81 hw)) (mvT hZ (w_82 hw)) (mvT hZ (w_83 hw)) (by decide) (backOf (W := 0) (rmC3_3 l Z a0 hw [] ca kc c0 c1 c2 h0 n0 O0 V hc0 hc1 hc2) hZ (w_83 hw) (w_82 hw) (by decide) (by decide)) (g := (mkF m 36 #[.val (.ref b), .val (.ref ca), .val (.int (0 : Int32)), .val (.int (3 : Int32)), .val .null, .unset] [(.int (3 : Int32)), (.int (0 : Int32)), (.ref ca)])) rfl (by rw [hml]; rfl) (argsL := [(.ref ca), (.int (0 : Int32)), (.int (3 : Int32))]) (rest := []) (lenOf pd_1 rfl) rfl (by show 2 * 0 + _ ≤ _; exact Nat.le_of_eq rfl) (hb hby d3_36) (fun _ _ => ⟨rfl, e31, (by decide : 0 + 1 ≤ _), (by decide : 0 + 3 ≤ _)⟩)
  dsimp only [Pt.U, Pt.locs, Pt.cells, Pt.slots] at X32 l32 y32 z32 st32 hQ32
  subst l32 y32 z32
  obtain ⟨b32, kb32, rfl, Nq32, K32, gb32, zb32, Vb32⟩ := hQ32
  have N32 := Fr.app N0 Nq32
  have O32 : Old Z n0 T32.heap := O0.keep K32 all0
  have KC32 : Keep h0 T32.heap [b] := KC0.trans K32 all0
  refine OW.st (B := T32.setTop (mkF m 39 #[.val (.ref b), .val (.ref ca), .val (.int (0 : Int32)), .val (.int (3 : Int32)), .val .null, .unset] [(.ref b32)])) (st32) ?_
  refine OW.st (B := T32.setTop (mkF m 41 #[.val (.ref b), .val (.ref ca), .val (.int (0 : Int32)), .val (.int (3 : Int32)), .val .null, .val (.ref b32)] [])) (fun _ kk_ => XS.astore X32.here hx rfl (hb hby d3_39) rfl rfl (l' := #[.val (.ref b), .val (.ref ca), .val (.int (0 : Int32)), .val (.int (3 : Int32)), .val .null, .val (.ref b32)]) rfl kk_) ?_
  refine OW.st (B := T32.setTop (mkF m 42 #[.val (.ref b), .val (.ref ca), .val (.int (0 : Int32)), .val (.int (3 : Int32)), .val .null, .val (.ref b32)] [(.ref b)])) (fun _ kk_ => XS.aloadN X32.here hx rfl (hb hby d3_41) rfl rfl kk_) ?_
  refine OW.st (B := T32.setTop (mkF m 44 #[.val (.ref b), .val (.ref ca), .val (.int (0 : Int32)), .val (.int (3 : Int32)), .val .null, .val (.ref b32)] [(.ref b32), (.ref b)])) (fun _ kk_ => XS.aload X32.here hx rfl (hb hby d3_42) rfl rfl kk_) ?_
  refine OW.st (B := T32.setTop (mkF m 45 #[.val (.ref b), .val (.ref ca), .val (.int (0 : Int32)), .val (.int (3 : Int32)), .val .null, .val (.ref b32)] [(.int (3 : Int32)), (.ref b32), (.ref b)])) (fun _ kk_ => XS.iloadN X32.here hx rfl (hb hby d3_44) rfl kk_) ?_
  obtain ⟨_, _, ⟨T33, L33, k33, n33⟩, -, X33, ⟨Lc33, hQ33, l33, y33, z33⟩, st33⟩ := Jvm.LawKit.callS X32 hx (y := (⟨"java/lang/StringUTF16", "coderFromArrayLen", "([BI)B"⟩ : MethodName)) hown (mvT hZ (w_87 hw)) (mvT hZ (w_88 hw)) (mvT hZ (w_82 hw)) (mvT hZ (w_89 hw)) (by decide) (backOf (W := 1) (rmCL_3 l Z a0 hw [] b32 kb32 (own_by c0) (own_by c1) (own_by c2) T32.heap n0 O32 Vb32) hZ (w_89 hw) (w_82 hw) (by decide) (by decide)) (g := (mkF m 45 #[.val (.ref b), .val (.ref ca), .val (.int (0 : Int32)), .val (.int (3 : Int32)), .val .null, .val (.ref b32)] [(.int (3 : Int32)), (.ref b32), (.ref b)])) rfl (by rw [hml]; rfl) (argsL := [(.ref b32), (.int (3 : Int32))]) (rest := [(.ref b)]) (lenOf pd_2 rfl) rfl (by show 2 * 0 + _ ≤ _; exact Nat.le_of_eq rfl) (hb hby d3_45) (fun _ _ => ⟨rfl, rfl, (by decide : 1 + 0 ≤ _), (by decide : 3 + 0 ≤ _)⟩)
  dsimp only [Pt.U, Pt.locs, Pt.cells, Pt.slots] at X33 l33 y33 z33 st33 hQ33
  subst l33 y33 z33
  obtain ⟨rfl, Nq33, e33⟩ := hQ33
  have N33 := Fr.app N32 Nq33
  refine OW.st (B := T33.setTop (mkF m 48 #[.val (.ref b), .val (.ref ca), .val (.int (0 : Int32)), .val (.int (3 : Int32)), .val .null, .val (.ref b32)] [(.int (0 : Int32)), (.ref b)])) (st33) ?_
  obtain ⟨T34, h34, X34, e34, W34, st34⟩ := putFN X33 hx hZ hown (w_25 hw) Via.refl e33 (F2.keep K32 nin0) (E.keep K32) (Or.inr ⟨(w_21 hw), rfl, hnm⟩) (w_5 hw) (ty := .byte) (v' := (.int (0 : Int32))) (by decide) rfl rfl (g := (mkF m 48 #[.val (.ref b), .val (.ref ca), .val (.int (0 : Int32)), .val (.int (3 : Int32)), .val .null, .val (.ref b32)] [(.int (0 : Int32)), (.ref b)])) rfl rfl (hb hby d3_48)
  have N34 := Fr.snoc X34 N33 g
  have O34 : Old Z n0 h34 := O32.wr W34 g
  have KC34 : Keep h0 h34 [b] := KC32.wr W34 (Or.inl (List.mem_of_getElem? (i := 0) rfl))
  have F34 : Fld Z h34 b "java/lang/String" "coder" "B" (.int (0 : Int32)) := Fld.same W34 (F2.keep K32 nin0)
  refine OW.st (B := T34.setTop (mkF m 51 #[.val (.ref b), .val (.ref ca), .val (.int (0 : Int32)), .val (.int (3 : Int32)), .val .null, .val (.ref b32)] [])) (st34) ?_
  refine OW.st (B := T34.setTop (mkF m 52 #[.val (.ref b), .val (.ref ca), .val (.int (0 : Int32)), .val (.int (3 : Int32)), .val .null, .val (.ref b32)] [(.ref b)])) (fun _ kk_ => XS.aloadN X34.here hx rfl (hb hby d3_51) rfl rfl kk_) ?_
  refine OW.st (B := T34.setTop (mkF m 54 #[.val (.ref b), .val (.ref ca), .val (.int (0 : Int32)), .val (.int (3 : Int32)), .val .null, .val (.ref b32)] [(.ref b32), (.ref b)])) (fun _ kk_ => XS.aload X34.here hx rfl (hb hby d3_52) rfl rfl kk_) ?_
  obtain ⟨T35, h35, X35, e35, W35, st35⟩ := putF X34 hx hZ hown (host := "") (Or.inl (w_24 hw)) Via.refl e34 ((F1.keep K32 nin0).other W34 (Or.inr (slot_ne (Or.inr (w_20 hw)) (Or.inr (w_21 hw)) (by decide) (t := (.array .byte)) (t' := .byte) (by decide) (by decide)))) ((E.keep K32).wr W34) (Or.inr ⟨(w_20 hw), rfl, hnm⟩) (w_5 hw) (ty := (.array .byte)) (by decide) rfl rfl (g := (mkF m 54 #[.val (.ref b), .val (.ref ca), .val (.int (0 : Int32)), .val (.int (3 : Int32)), .val .null, .val (.ref b32)] [(.ref b32), (.ref b)])) rfl rfl (hb hby d3_54)
  have N35 := Fr.snoc X35 N34 g
  have O35 : Old Z n0 h35 := O34.wr W35 g
  have KC35 : Keep h0 h35 [b] := KC34.wr W35 (Or.inl (List.mem_of_getElem? (i := 0) rfl))
  have F35 : Fld Z h35 b "java/lang/String" "value" "[B" (.ref b32) := Fld.same W35 ((F1.keep K32 nin0).other W34 (Or.inr (slot_ne (Or.inr (w_20 hw)) (Or.inr (w_21 hw)) (by decide) (t := (.array .byte)) (t' := .byte) (by decide) (by decide))))
  refine OW.st (B := T35.setTop (mkF m 57 #[.val (.ref b), .val (.ref ca), .val (.int (0 : Int32)), .val (.int (3 : Int32)), .val .null, .val (.ref b32)] [])) (st35) ?_
  exact OW.retV X35 hx hlk Bd.returns (hb hby d3_57) e35 (by decide) (by decide) ⟨rfl, N35, KC35, (((E.keep K32).wr W34).wr W35), b32, kb32, gb32, (Nat.ne_of_lt (Nat.lt_of_lt_of_le E.lt zb32)), (F34.other W35 (Or.inr (slot_ne (Or.inr (w_21 hw)) (Or.inr (w_20 hw)) (by decide) (t := .byte) (t' := (.array .byte)) (by decide) (by decide)))), F35, ((Vb32.other W34 (Ne.symm (Nat.ne_of_lt (Nat.lt_of_lt_of_le E.lt zb32)))).other W35 (Ne.symm (Nat.ne_of_lt (Nat.lt_of_lt_of_le E.lt zb32))))⟩
theorem ef_S0_3 (m : MethodId) (x0 : Addr) (x1 : Addr) : entryFrame m #[(.ref x0), (.ref x1)] 2 = mkF m 0 #[.val (.ref x0), .val (.ref x1)] [] := by first | (simp [entryFrame, mkF, argsToLocals, Value.category]; done) | rfl
def QS0_3 (Z : State) (b : Addr) (ca : Addr) (kc : ClassId) (c0 : Int32) (c1 : Int32) (c2 : Int32) (i_COMPACT_STRINGS : Int32) (v_SIOOBE_FORMATTER : Value) (h0 : Heap) (n0 : Nat) (v : Option Value) (h : Heap) (L : List Loc) : Prop := v = none ∧ Fr n0 L ∧ Keep h0 h [b] ∧ Exa Z h b "java/lang/String" ∧ ∃ (ba : Addr) (kb : ClassId), n0 ≤ ba ∧ b ≠ ba ∧ Fld Z h b "java/lang/String" "coder" "B" (.int (0 : Int32)) ∧ Fld Z h b "java/lang/String" "value" "[B" (.ref ba) ∧ Arv Z h ba kb .byte (3 : Int32) [(.int (own_by c0)), (.int (own_by c1)), (.int (own_by c2))] (.int (0 : Int32))
set_option maxRecDepth 65536 in
set_option maxHeartbeats 40000000 in
theorem rmS0_3 (l : Launch) (Z : State) (a0 : Array Value) (hw : ∀ d ∈ tables_1, d.before a0 Z = true) (ws : List Jvm.Cond) (b : Addr) (ca : Addr) (kc : ClassId) (c0 : Int32) (c1 : Int32) (c2 : Int32) (i_COMPACT_STRINGS : Int32) (v_SIOOBE_FORMATTER : Value) (h0 : Heap) (n0 : Nat) (O0 : Old Z n0 h0) (E : Exa Z h0 b "java/lang/String") (F1 : Fld Z h0 b "java/lang/String" "value" "[B" .null) (F2 : Fld Z h0 b "java/lang/String" "coder" "B" (.int (0 : Int32))) (g : n0 ≤ b) (V : Arv Z h0 ca kc .char (3 : Int32) [(.int c0), (.int c1), (.int c2)] (.int (0 : Int32))) (hS : OwnS Z i_COMPACT_STRINGS v_SIOOBE_FORMATTER) (hc0 : ¬ ((255 : Int32) < c0)) (hc1 : ¬ ((255 : Int32) < c1)) (hc2 : ¬ ((255 : Int32) < c2)) :
    MetFree l (⟨"java/lang/String", "<init>", "([C)V"⟩ : MethodName) (head1 (Jvm.Cond.code (⟨"java/lang/String", "<init>", "([C)V"⟩ : MethodName) jdk_42_method_3_code 2 none :: ws) ({ frames := 3, cells := 1, slots := 3, locals := 52 } : Room)) (fun aa_ UU_ => aa_ = #[(.ref b), (.ref ca)] ∧ Z.Warmed39 UU_.vm ∧ UU_.heap = h0) (fun _ _ _ _ _ => True) (fun _ UU_ oo_ UV_ => ∃ vv_ LL_, oo_ = .returned vv_ ∧ QS0_3 Z b ca kc c0 c1 c2 i_COMPACT_STRINGS v_SIOOBE_FORMATTER h0 n0 vv_ UV_.heap LL_ ∧ FrameEnd UU_ oo_ UV_ LL_ ({ frames := 3, cells := 1, slots := 3, locals := 52 } : Room).cells ({ frames := 3, cells := 1, slots := 3, locals := 52 } : Room).slots) := by
  refine MetFree.of_bodySF (plainFor_of_name pn_1) hisR ?_
  intro p e s m args below meth c s₁ Bd hml0 hP hK
  obtain ⟨rfl, hZ, hh⟩ := hP
  have hx := Bd.exec
  have hby := Bd.bytes
  have hlk := BodyLoose.notSynchronized Bd
  have hml : c.maxLocals = 2 := hml0
  have hown : s.vm.findClass "java/lang/String" = some m.cls := findClass_of_methodNamed Bd.named
  have hnm := (name_of_methodNamed Bd.named Bd.method).1
  have X0 : Stand p l e ({ frames := 3, cells := 1, slots := 3, locals := 52 } : Room) s m #[(.ref b), (.ref ca)] below meth c s₁ [] 0 0 := Stand.of_body Bd
  have e0 : s₁.heap = h0 := by rw [← hh, Bd.state]; rfl
  have N0 := Fr.nil n0
  have KC0 : Keep h0 h0 [b] := Keep.refl _ _
  suffices hOW : OW p e below s (QS0_3 Z b ca kc c0 c1 c2 i_COMPACT_STRINGS v_SIOOBE_FORMATTER h0 n0) 1 3 (s₁.setTop (mkF m 0 #[.val (.ref b), .val (.ref ca)] [])) by
    obtain ⟨oq1_, oq2_, oq3_, oq4_⟩ := hOW
    exact ⟨oq1_, oq2_, castTop (ef_S0_3 m b ca) oq3_, oq4_⟩
  have hS' := hS
  obtain ⟨Si_COMPACT_STRINGS, Sv_SIOOBE_FORMATTER, Rv_SIOOBE_FORMATTER, Pi_COMPACT_STRINGS⟩ := hS'
  refine OW.st (B := s₁.setTop (mkF m 1 #[.val (.ref b), .val (.ref ca)] [(.ref b)])) (fun _ kk_ => XS.aloadN X0.here hx rfl (hb hby d2_0) rfl rfl kk_) ?_
  refine OW.st (B := s₁.setTop (mkF m 2 #[.val (.ref b), .val (.ref ca)] [(.ref ca), (.ref b)])) (fun _ kk_ => XS.aloadN X0.here hx rfl (hb hby d2_1) rfl rfl kk_) ?_
  refine OW.st (B := s₁.setTop (mkF m 3 #[.val (.ref b), .val (.ref ca)] [(.int (0 : Int32)), (.ref ca), (.ref b)])) (fun _ kk_ => XS.iconst X0.here hx rfl (hb hby d2_2) kk_) ?_
  refine OW.st (B := s₁.setTop (mkF m 4 #[.val (.ref b), .val (.ref ca)] [(.ref ca), (.int (0 : Int32)), (.ref ca), (.ref b)])) (fun _ kk_ => XS.aloadN X0.here hx rfl (hb hby d2_3) rfl rfl kk_) ?_
  obtain ⟨cl36, Ar36, q36, S36, Ng36, Hs36, G36⟩ := id V
  refine OW.st (X0.arraylength hx (by rw [e0]; exact Ar36.1) (State.isArrayOf_alike hZ.alike Ar36.2.1) (g := (mkF m 4 #[.val (.ref b), .val (.ref ca)] [(.ref ca), (.int (0 : Int32)), (.ref ca), (.ref b)])) rfl rfl (hb hby d2_4)) ?_
  rw [len_of S36 Ng36]
  show OW p e below s (QS0_3 Z b ca kc c0 c1 c2 i_COMPACT_STRINGS v_SIOOBE_FORMATTER h0 n0) 1 3 (s₁.setTop (mkF m 5 #[.val (.ref b), .val (.ref ca)] [(.int (3 : Int32)), (.int (0 : Int32)), (.ref ca), (.ref b)]))
  refine OW.st (B := s₁.setTop (mkF m 6 #[.val (.ref b), .val (.ref ca)] [.null, (.int (3 : Int32)), (.int (0 : Int32)), (.ref ca), (.ref b)])) (fun _ kk_ => XS.aconstNull X0.here hx rfl (hb hby d2_5) kk_) ?_
  obtain ⟨_, _, ⟨T37, L37, k37, n37⟩, -, X37, ⟨Lc37, hQ37, l37, y37, z37⟩, st37⟩ := X0.specialBack hx (y := (⟨"java/lang/String", "<init>", "([CIILjava/lang/Void;)V"⟩ : MethodName)) rfl hown (mvT hZ (w_11 hw)) (mvT hZ (w_12 hw)) (mvT hZ (w_14 hw)) (by decide) (backOf (W := 0) (rmS1_3 l Z a0 hw [] b ca kc c0 c1 c2 i_COMPACT_STRINGS v_SIOOBE_FORMATTER h0 n0 O0 E F1 F2 g V hS hc0 hc1 hc2) hZ (w_14 hw) (w_6 hw) (by decide) (by decide)) (g := (mkF m 6 #[.val (.ref b), .val (.ref ca)] [.null, (.int (3 : Int32)), (.int (0 : Int32)), (.ref ca), (.ref b)])) rfl (by rw [hml]; rfl) (Steps.refl _) (a := b) (argsL := [(.ref ca), (.int (0 : Int32)), (.int (3 : Int32)), .null]) (rest := []) (lenOf pd_3 rfl) rfl (by show 2 * 0 + _ ≤ _; exact Nat.le_of_eq rfl) (hb hby d2_6) (fun _ _ => ⟨rfl, e0, (by decide : 0 + 1 ≤ _), (by decide : 0 + 3 ≤ _)⟩)
  dsimp only [Pt.U, Pt.locs, Pt.cells, Pt.slots] at X37 l37 y37 z37 st37 hQ37
  subst l37 y37 z37
  obtain ⟨rfl, Nq37, K37, Es37, ba37, kb37, gba37, nba37, Fc37, Fv37, Vs37⟩ := hQ37
  have N37 := Fr.app N0 Nq37
  have O37 : Old Z n0 T37.heap := O0.keep K37 (allS g all0)
  have KC37 : Keep h0 T37.heap [b] := KC0.trans K37 (allS (Or.inl (List.mem_of_getElem? (i := 0) rfl)) all0)
  refine OW.tr (B := T37.setTop (mkF m 9 #[.val (.ref b), .val (.ref ca)] [])) (st37) ?_
  exact OW.retV X37 hx hlk Bd.returns (hb hby d2_9) rfl (by decide) (by decide) ⟨rfl, N37, KC37, (E.keep K37), ba37, kb37, gba37, nba37, Fc37, Fv37, Vs37⟩
theorem ef_S1_0 (m : MethodId) (x0 : Addr) (x1 : Addr) (x2 : Int32) (x3 : Int32) : entryFrame m #[(.ref x0), (.ref x1), (.int x2), (.int x3), .null] 6 = mkF m 0 #[.val (.ref x0), .val (.ref x1), .val (.int x2), .val (.int x3), .val .null, .unset] [] := by first | (simp [entryFrame, mkF, argsToLocals, Value.category]; done) | rfl
def QS1_0 (Z : State) (b : Addr) (ca : Addr) (kc : ClassId) (h0 : Heap) (n0 : Nat) (v : Option Value) (h : Heap) (L : List Loc) : Prop := v = none ∧ Fr n0 L ∧ Keep h0 h [b] ∧ Exa Z h b "java/lang/String" ∧ ∃ (ba : Addr) (kb : ClassId), Fld Z h b "java/lang/String" "coder" "B" (.int (0 : Int32)) ∧ Fld Z h b "java/lang/String" "value" "[B" (.ref ba) ∧ Arv Z h ba kb .byte (0 : Int32) [] (.int (0 : Int32))
set_option maxRecDepth 65536 in
set_option maxHeartbeats 40000000 in
theorem rmS1_0 (l : Launch) (Z : State) (a0 : Array Value) (hw : ∀ d ∈ tables_1, d.before a0 Z = true) (ws : List Jvm.Cond) (b : Addr) (ca : Addr) (kc : ClassId) (h0 : Heap) (n0 : Nat) (O0 : Old Z n0 h0) (E : Exa Z h0 b "java/lang/String") (F1 : Fld Z h0 b "java/lang/String" "value" "[B" .null) (F2 : Fld Z h0 b "java/lang/String" "coder" "B" (.int (0 : Int32))) (g : n0 ≤ b) (V : Arv Z h0 ca kc .char (0 : Int32) [] (.int (0 : Int32))) :
    MetFree l (⟨"java/lang/String", "<init>", "([CIILjava/lang/Void;)V"⟩ : MethodName) (head1 (Jvm.Cond.code (⟨"java/lang/String", "<init>", "([CIILjava/lang/Void;)V"⟩ : MethodName) jdk_42_method_149_code 6 none :: ws) ({ frames := 1, cells := 4, slots := 8, locals := 12 } : Room)) (fun aa_ UU_ => aa_ = #[(.ref b), (.ref ca), (.int (0 : Int32)), (.int (0 : Int32)), .null] ∧ Z.Warmed39 UU_.vm ∧ UU_.heap = h0 ∧ CHv Z consts_1 UU_.vm h0) (fun _ _ _ _ _ => True) (fun _ UU_ oo_ UV_ => ∃ vv_ LL_, oo_ = .returned vv_ ∧ QS1_0 Z b ca kc h0 n0 vv_ UV_.heap LL_ ∧ CHr Z consts_1 UU_.vm UU_.heap UV_.vm UV_.heap ∧ ReturnedEndW UU_ oo_ UV_ LL_ ({ frames := 1, cells := 4, slots := 8, locals := 12 } : Room).cells ({ frames := 1, cells := 4, slots := 8, locals := 12 } : Room).slots) := by
  refine MetFree.of_bodySF (plainFor_of_name pn_1) hisR ?_
  intro p e s m args below meth c s₁ Bd hml0 hP hK
  obtain ⟨rfl, hZ, hh, hCH⟩ := hP
  have hx := Bd.exec
  have hby := Bd.bytes
  have hlk := BodyLoose.notSynchronized Bd
  have hml : c.maxLocals = 6 := hml0
  have hown : s.vm.findClass "java/lang/String" = some m.cls := findClass_of_methodNamed Bd.named
  have hnm := (name_of_methodNamed Bd.named Bd.method).1
  have X0 : Stand p l e ({ frames := 1, cells := 4, slots := 8, locals := 12 } : Room) s m #[(.ref b), (.ref ca), (.int (0 : Int32)), (.int (0 : Int32)), .null] below meth c s₁ [] 0 0 := Stand.of_body Bd
  have e0 : s₁.heap = h0 := by rw [← hh, Bd.state]; rfl
  have N0 := Fr.nil n0
  have hS0 : s.Since s.vm 0 := (State.WarmedH.refl s).since 0
  have hk0 : 0 ≤ h0.size := Nat.zero_le _
  have CR0 : CHr Z consts_1 s.vm h0 s.vm h0 := CHr.refl hCH
  have KC0 : Keep h0 h0 [b] := Keep.refl _ _
  suffices hOW : OWH Z consts_1 h0 p e below s (QS1_0 Z b ca kc h0 n0) 4 8 (s₁.setTop (mkF m 0 #[.val (.ref b), .val (.ref ca), .val (.int (0 : Int32)), .val (.int (0 : Int32)), .val .null, .unset] [])) by
    obtain ⟨oq1_, oq2_, oq3_, oq4_⟩ := hOW
    obtain ⟨oq5_, oq6_, oq7_, oq8_, oq9_, or1_, or2_, or3_⟩ := oq4_
    exact ⟨oq1_, oq2_, castTop (ef_S1_0 m b ca (0 : Int32) (0 : Int32)) oq3_, oq5_, oq6_, oq7_, oq8_, oq9_, or1_, by rw [hh]; exact or2_, or3_⟩
  refine OWH.st (B := s₁.setTop (mkF m 1 #[.val (.ref b), .val (.ref ca), .val (.int (0 : Int32)), .val (.int (0 : Int32)), .val .null, .unset] [(.ref b)])) (fun _ kk_ => XS.aloadN X0.here hx rfl (hb hby d3_0) rfl rfl kk_) ?_
  obtain ⟨T38, X38, e38, st38⟩ := initO X0 hx hZ hown (w_15 hw) (w_16 hw) (w_17 hw) e0 (g := (mkF m 1 #[.val (.ref b), .val (.ref ca), .val (.int (0 : Int32)), .val (.int (0 : Int32)), .val .null, .unset] [(.ref b)])) rfl (by rw [hml]; rfl) rfl (hb hby d3_1) (by decide) (W := 0) (by show 2 * 0 + _ ≤ _; exact Nat.le_of_eq rfl) (by decide)
  refine OWH.st (B := T38.setTop (mkF m 4 #[.val (.ref b), .val (.ref ca), .val (.int (0 : Int32)), .val (.int (0 : Int32)), .val .null, .unset] [])) (st38) ?_
  refine OWH.st (B := T38.setTop (mkF m 5 #[.val (.ref b), .val (.ref ca), .val (.int (0 : Int32)), .val (.int (0 : Int32)), .val .null, .unset] [(.int (0 : Int32))])) (fun _ kk_ => XS.iloadN X38.here hx rfl (hb hby d3_4) rfl kk_) ?_
  refine OWH.st (B := T38.setTop (mkF m 8 #[.val (.ref b), .val (.ref ca), .val (.int (0 : Int32)), .val (.int (0 : Int32)), .val .null, .unset] [])) (fun _ kk_ => XS.ifNo X38.here hx rfl (hb hby d3_5) rfl ((if0 _ _).trans (teq (by decide)).2) kk_) ?_
  refine OWH.st (B := T38.setTop (mkF m 9 #[.val (.ref b), .val (.ref ca), .val (.int (0 : Int32)), .val (.int (0 : Int32)), .val .null, .unset] [(.ref b)])) (fun _ kk_ => XS.aloadN X38.here hx rfl (hb hby d3_8) rfl rfl kk_) ?_
  obtain ⟨a39, T39, h39, k39, lb39, lk39, X39, e39, E39, hS39, hk39, hZ39, hown39, Ea39, Fc39, Fv39, V39, -, -, Cs39, -, hne39, st39⟩ := ldcCH (s := s) (vm0 := s.vm) X38 hx hZ hown (w_18 hw) (own_wS hw) e38 hS0 hk0 (own_EW hw) (List.mem_of_getElem? (i := 0) rfl) CR0.1 (vs := []) (z := (0 : Int32)) ⟨by decide, by decide⟩ (by decide) (by decide) (g := (mkF m 9 #[.val (.ref b), .val (.ref ca), .val (.int (0 : Int32)), .val (.int (0 : Int32)), .val .null, .unset] [(.ref b)])) rfl (hb hby d3_9) (n := 0) (by decide) (by decide) (by decide) (by decide)
  have O39 : Old Z n0 h39 := O0.ext E39
  have CS39 : CHr Z consts_1 s.vm h0 T39.vm h39 := Cs39
  have Sf39_b := CHr.safe CS39 E.lt (own_safeS hZ.alike E F1)
  have CR39 := CHr.trans CR0 CS39
  have KC39 : Keep h0 h39 [b] := KC0.ext E39
  refine OWH.st (B := T39.setTop (mkF m 11 #[.val (.ref b), .val (.ref ca), .val (.int (0 : Int32)), .val (.int (0 : Int32)), .val .null, .unset] [(.ref a39), (.ref b)])) (st39) ?_
  obtain ⟨T40, X40, e40, st40⟩ := getF X39 hx hZ39 hown39 (host := "") (Or.inl (w_24 hw)) Via.refl e39 Fv39 (g := (mkF m 11 #[.val (.ref b), .val (.ref ca), .val (.int (0 : Int32)), .val (.int (0 : Int32)), .val .null, .unset] [(.ref a39), (.ref b)])) rfl rfl (hb hby d3_11)
  refine OWH.st (B := T40.setTop (mkF m 14 #[.val (.ref b), .val (.ref ca), .val (.int (0 : Int32)), .val (.int (0 : Int32)), .val .null, .unset] [(.ref lb39), (.ref b)])) (st40) ?_
  obtain ⟨T41, h41, X41, e41, W41, st41⟩ := putF X40 hx hZ39 hown39 (host := "") (Or.inl (w_24 hw)) Via.refl e40 (F1.ext E39) (E.ext E39) (Or.inr ⟨(w_20 hw), rfl, hnm⟩) (w_5 hw) (ty := (.array .byte)) (by decide) rfl rfl (g := (mkF m 14 #[.val (.ref b), .val (.ref ca), .val (.int (0 : Int32)), .val (.int (0 : Int32)), .val .null, .unset] [(.ref lb39), (.ref b)])) rfl rfl (hb hby d3_14)
  have N41 := Fr.snoc X41 N0 g
  have O41 : Old Z n0 h41 := O39.wr W41 g
  have CS41 : CHr Z consts_1 T39.vm h39 T39.vm h41 := CHr.wr W41 Sf39_b CR39.1
  have Sf41_b := CHr.safe CS41 (E.ext E39).lt Sf39_b
  have CR41 := CHr.trans CR39 CS41
  have KC41 : Keep h0 h41 [b] := KC39.wr W41 (Or.inl (List.mem_of_getElem? (i := 0) rfl))
  have F41 : Fld Z h41 b "java/lang/String" "value" "[B" (.ref lb39) := Fld.same W41 (F1.ext E39)
  refine OWH.st (B := T41.setTop (mkF m 17 #[.val (.ref b), .val (.ref ca), .val (.int (0 : Int32)), .val (.int (0 : Int32)), .val .null, .unset] [])) (st41) ?_
  refine OWH.st (B := T41.setTop (mkF m 18 #[.val (.ref b), .val (.ref ca), .val (.int (0 : Int32)), .val (.int (0 : Int32)), .val .null, .unset] [(.ref b)])) (fun _ kk_ => XS.aloadN X41.here hx rfl (hb hby d3_17) rfl rfl kk_) ?_
  obtain ⟨a42, T42, h42, k42, lb42, lk42, X42, e42, E42, hS42, hk42, hZ42, hown42, Ea42, Fc42, Fv42, V42, -, -, Cs42, -, hne42, st42⟩ := ldcCH (s := s) (vm0 := T39.vm) X41 hx hZ39 hown39 (w_18 hw) (own_wS hw) e41 hS39 (Nat.le_trans hk39 (Keep.of_wr W41).1) (own_EW hw) (List.mem_of_getElem? (i := 0) rfl) CR41.1 (vs := []) (z := (0 : Int32)) ⟨by decide, by decide⟩ (by decide) (by decide) (g := (mkF m 18 #[.val (.ref b), .val (.ref ca), .val (.int (0 : Int32)), .val (.int (0 : Int32)), .val .null, .unset] [(.ref b)])) rfl (hb hby d3_18) (n := 0) (by decide) (by decide) (by decide) (by decide)
  have O42 : Old Z n0 h42 := O41.ext E42
  have CS42 : CHr Z consts_1 T39.vm h41 T42.vm h42 := Cs42
  have Sf42_b := CHr.safe CS42 ((E.ext E39).wr W41).lt Sf41_b
  have CR42 := CHr.trans CR41 CS42
  have KC42 : Keep h0 h42 [b] := KC41.ext E42
  refine OWH.st (B := T42.setTop (mkF m 20 #[.val (.ref b), .val (.ref ca), .val (.int (0 : Int32)), .val (.int (0 : Int32)), .val .null, .unset] [(.ref a42), (.ref b)])) (st42) ?_
  obtain ⟨T43, X43, e43, st43⟩ := getF X42 hx hZ42 hown42 (host := "") (Or.inl (w_25 hw)) Via.refl e42 Fc42 (g := (mkF m 20 #[.val (.ref b), .val (.ref ca), .val (.int (0 : Int32)), .val (.int (0 : Int32)), .val .null, .unset] [(.ref a42), (.ref b)])) rfl rfl (hb hby d3_20)
  refine OWH.st (B := T43.setTop (mkF m 23 #[.val (.ref b), .val (.ref ca), .val (.int (0 : Int32)), .val (.int (0 : Int32)), .val .null, .unset] [(.int (0 : Int32)), (.ref b)])) (st43) ?_
  obtain ⟨T44, h44, X44, e44, W44, st44⟩ := putFN X43 hx hZ42 hown42 (w_25 hw) Via.refl e43 (((F2.ext E39).other W41 (Or.inr (slot_ne (Or.inr (w_21 hw)) (Or.inr (w_20 hw)) (by decide) (t := .byte) (t' := (.array .byte)) (by decide) (by decide)))).ext E42) (((E.ext E39).wr W41).ext E42) (Or.inr ⟨(w_21 hw), rfl, hnm⟩) (w_5 hw) (ty := .byte) (v' := (.int (0 : Int32))) (by decide) rfl rfl (g := (mkF m 23 #[.val (.ref b), .val (.ref ca), .val (.int (0 : Int32)), .val (.int (0 : Int32)), .val .null, .unset] [(.int (0 : Int32)), (.ref b)])) rfl rfl (hb hby d3_23)
  have N44 := Fr.snoc X44 N41 g
  have O44 : Old Z n0 h44 := O42.wr W44 g
  have CS44 : CHr Z consts_1 T42.vm h42 T42.vm h44 := CHr.wr W44 Sf42_b CR42.1
  have Sf44_b := CHr.safe CS44 (((E.ext E39).wr W41).ext E42).lt Sf42_b
  have CR44 := CHr.trans CR42 CS44
  have KC44 : Keep h0 h44 [b] := KC42.wr W44 (Or.inl (List.mem_of_getElem? (i := 0) rfl))
  have F44 : Fld Z h44 b "java/lang/String" "coder" "B" (.int (0 : Int32)) := Fld.same W44 (((F2.ext E39).other W41 (Or.inr (slot_ne (Or.inr (w_21 hw)) (Or.inr (w_20 hw)) (by decide) (t := .byte) (t' := (.array .byte)) (by decide) (by decide)))).ext E42)
  refine OWH.st (B := T44.setTop (mkF m 26 #[.val (.ref b), .val (.ref ca), .val (.int (0 : Int32)), .val (.int (0 : Int32)), .val .null, .unset] [])) (st44) ?_
  exact OWH.retV X44 (s := s) (vm0 := T42.vm) hS42 (Nat.le_trans hk42 (Keep.of_wr W44).1) hx hlk CR44 hZ42 (own_EW hw) Bd.returns (hb hby d3_26) e44 (by decide) (by decide) ⟨rfl, N44, KC44, ((((E.ext E39).wr W41).ext E42).wr W44), lb39, lk39, F44, ((F41.ext E42).other W44 (Or.inr (slot_ne (Or.inr (w_20 hw)) (Or.inr (w_21 hw)) (by decide) (t := (.array .byte)) (t' := .byte) (by decide) (by decide)))), (((V39.other W41 (Ne.symm (Exa.neArv (E.ext E39) V39 (w_5 hw)))).ext E42).other W44 (Ne.symm (Exa.neArv (E.ext E39) V39 (w_5 hw))))⟩
theorem ef_S0_0 (m : MethodId) (x0 : Addr) (x1 : Addr) : entryFrame m #[(.ref x0), (.ref x1)] 2 = mkF m 0 #[.val (.ref x0), .val (.ref x1)] [] := by first | (simp [entryFrame, mkF, argsToLocals, Value.category]; done) | rfl
def QS0_0 (Z : State) (b : Addr) (ca : Addr) (kc : ClassId) (h0 : Heap) (n0 : Nat) (v : Option Value) (h : Heap) (L : List Loc) : Prop := v = none ∧ Fr n0 L ∧ Keep h0 h [b] ∧ Exa Z h b "java/lang/String" ∧ ∃ (ba : Addr) (kb : ClassId), Fld Z h b "java/lang/String" "coder" "B" (.int (0 : Int32)) ∧ Fld Z h b "java/lang/String" "value" "[B" (.ref ba) ∧ Arv Z h ba kb .byte (0 : Int32) [] (.int (0 : Int32))
set_option maxRecDepth 65536 in
set_option maxHeartbeats 40000000 in
theorem rmS0_0 (l : Launch) (Z : State) (a0 : Array Value) (hw : ∀ d ∈ tables_1, d.before a0 Z = true) (ws : List Jvm.Cond) (b : Addr) (ca : Addr) (kc : ClassId) (h0 : Heap) (n0 : Nat) (O0 : Old Z n0 h0) (E : Exa Z h0 b "java/lang/String") (F1 : Fld Z h0 b "java/lang/String" "value" "[B" .null) (F2 : Fld Z h0 b "java/lang/String" "coder" "B" (.int (0 : Int32))) (g : n0 ≤ b) (V : Arv Z h0 ca kc .char (0 : Int32) [] (.int (0 : Int32))) :
    MetFree l (⟨"java/lang/String", "<init>", "([C)V"⟩ : MethodName) (head1 (Jvm.Cond.code (⟨"java/lang/String", "<init>", "([C)V"⟩ : MethodName) jdk_42_method_3_code 2 none :: ws) ({ frames := 2, cells := 4, slots := 8, locals := 29 } : Room)) (fun aa_ UU_ => aa_ = #[(.ref b), (.ref ca)] ∧ Z.Warmed39 UU_.vm ∧ UU_.heap = h0 ∧ CHv Z consts_1 UU_.vm h0) (fun _ _ _ _ _ => True) (fun _ UU_ oo_ UV_ => ∃ vv_ LL_, oo_ = .returned vv_ ∧ QS0_0 Z b ca kc h0 n0 vv_ UV_.heap LL_ ∧ CHr Z consts_1 UU_.vm UU_.heap UV_.vm UV_.heap ∧ ReturnedEndW UU_ oo_ UV_ LL_ ({ frames := 2, cells := 4, slots := 8, locals := 29 } : Room).cells ({ frames := 2, cells := 4, slots := 8, locals := 29 } : Room).slots) := by
  refine MetFree.of_bodySF (plainFor_of_name pn_1) hisR ?_
  intro p e s m args below meth c s₁ Bd hml0 hP hK
  obtain ⟨rfl, hZ, hh, hCH⟩ := hP
  have hx := Bd.exec
  have hby := Bd.bytes
  have hlk := BodyLoose.notSynchronized Bd
  have hml : c.maxLocals = 2 := hml0
  have hown : s.vm.findClass "java/lang/String" = some m.cls := findClass_of_methodNamed Bd.named
  have hnm := (name_of_methodNamed Bd.named Bd.method).1
  have X0 : Stand p l e ({ frames := 2, cells := 4, slots := 8, locals := 29 } : Room) s m #[(.ref b), (.ref ca)] below meth c s₁ [] 0 0 := Stand.of_body Bd
  have e0 : s₁.heap = h0 := by rw [← hh, Bd.state]; rfl
  have N0 := Fr.nil n0
  have hS0 : s.Since s.vm 0 := (State.WarmedH.refl s).since 0
  have hk0 : 0 ≤ h0.size := Nat.zero_le _
  have CR0 : CHr Z consts_1 s.vm h0 s.vm h0 := CHr.refl hCH
  have KC0 : Keep h0 h0 [b] := Keep.refl _ _
  suffices hOW : OWH Z consts_1 h0 p e below s (QS0_0 Z b ca kc h0 n0) 4 8 (s₁.setTop (mkF m 0 #[.val (.ref b), .val (.ref ca)] [])) by
    obtain ⟨oq1_, oq2_, oq3_, oq4_⟩ := hOW
    obtain ⟨oq5_, oq6_, oq7_, oq8_, oq9_, or1_, or2_, or3_⟩ := oq4_
    exact ⟨oq1_, oq2_, castTop (ef_S0_0 m b ca) oq3_, oq5_, oq6_, oq7_, oq8_, oq9_, or1_, by rw [hh]; exact or2_, or3_⟩
  refine OWH.st (B := s₁.setTop (mkF m 1 #[.val (.ref b), .val (.ref ca)] [(.ref b)])) (fun _ kk_ => XS.aloadN X0.here hx rfl (hb hby d2_0) rfl rfl kk_) ?_
  refine OWH.st (B := s₁.setTop (mkF m 2 #[.val (.ref b), .val (.ref ca)] [(.ref ca), (.ref b)])) (fun _ kk_ => XS.aloadN X0.here hx rfl (hb hby d2_1) rfl rfl kk_) ?_
  refine OWH.st (B := s₁.setTop (mkF m 3 #[.val (.ref b), .val (.ref ca)] [(.int (0 : Int32)), (.ref ca), (.ref b)])) (fun _ kk_ => XS.iconst X0.here hx rfl (hb hby d2_2) kk_) ?_
  refine OWH.st (B := s₁.setTop (mkF m 4 #[.val (.ref b), .val (.ref ca)] [(.ref ca), (.int (0 : Int32)), (.ref ca), (.ref b)])) (fun _ kk_ => XS.aloadN X0.here hx rfl (hb hby d2_3) rfl rfl kk_) ?_
  obtain ⟨cl45, Ar45, q45, S45, Ng45, Hs45, G45⟩ := id V
  refine OWH.st (X0.arraylength hx (by rw [e0]; exact Ar45.1) (State.isArrayOf_alike hZ.alike Ar45.2.1) (g := (mkF m 4 #[.val (.ref b), .val (.ref ca)] [(.ref ca), (.int (0 : Int32)), (.ref ca), (.ref b)])) rfl rfl (hb hby d2_4)) ?_
  rw [len_of S45 Ng45]
  show OWH Z consts_1 h0 p e below s (QS0_0 Z b ca kc h0 n0) 4 8 (s₁.setTop (mkF m 5 #[.val (.ref b), .val (.ref ca)] [(.int (0 : Int32)), (.int (0 : Int32)), (.ref ca), (.ref b)]))
  refine OWH.st (B := s₁.setTop (mkF m 6 #[.val (.ref b), .val (.ref ca)] [.null, (.int (0 : Int32)), (.int (0 : Int32)), (.ref ca), (.ref b)])) (fun _ kk_ => XS.aconstNull X0.here hx rfl (hb hby d2_5) kk_) ?_
  obtain ⟨_, _, ⟨T46, L46, k46, n46⟩, -, X46, hs46, hsz46, ⟨Lc46, hQ46, l46, y46, z46, CQ46⟩, st46⟩ := X0.specialBackS hx (y := (⟨"java/lang/String", "<init>", "([CIILjava/lang/Void;)V"⟩ : MethodName)) rfl hown (mvT hZ (w_11 hw)) (mvT hZ (w_12 hw)) (mvT hZ (w_14 hw)) (by decide) (backOfSH (W := 0) (rmS1_0 l Z a0 hw [] b ca kc h0 n0 O0 E F1 F2 g V) hZ (w_14 hw) (w_6 hw) (by decide) (by decide) (own_EW hw) CR0.1) (g := (mkF m 6 #[.val (.ref b), .val (.ref ca)] [.null, (.int (0 : Int32)), (.int (0 : Int32)), (.ref ca), (.ref b)])) rfl (by rw [hml]; rfl) (Steps.refl _) (a := b) (argsL := [(.ref ca), (.int (0 : Int32)), (.int (0 : Int32)), .null]) (rest := []) (lenOf pd_3 rfl) rfl (by show 2 * 0 + _ ≤ _; exact Nat.le_of_eq rfl) (hb hby d2_6) (fun _ _ => ⟨rfl, e0, (by decide : 0 + 4 ≤ _), (by decide : 0 + 8 ≤ _)⟩)
  dsimp only [Pt.U, Pt.locs, Pt.cells, Pt.slots] at hs46 hsz46
  have hS46 := foldS hS0 (show _ ≤ s₁.heap.size by rw [e0]; exact hk0) hs46 hsz46
  have hZ46 : Z.Warmed39 (s.setVm T46.vm).vm := State.Warmed39.trans (t := s) hZ hs46.1
  have hown46 : (s.setVm T46.vm).vm.findClass "java/lang/String" = some m.cls := by rw [show (s.setVm T46.vm).vm = T46.vm from rfl, hs46.1.alike.findClass]; exact hown
  dsimp only [Pt.U, Pt.locs, Pt.cells, Pt.slots] at X46 l46 y46 z46 st46 hQ46 CQ46
  subst l46 y46 z46
  obtain ⟨rfl, Nq46, K46, Es46, ba46, kb46, Fc46, Fv46, Vs46⟩ := hQ46
  have N46 := Fr.app N0 Nq46
  have O46 : Old Z n0 T46.heap := O0.keep K46 (allS g all0)
  have CS46 : CHr Z consts_1 s.vm h0 T46.vm T46.heap := CQ46
  have Sf46_b := CHr.safe CS46 E.lt (own_safeS hZ.alike E F1)
  have CR46 := CHr.trans CR0 CS46
  have KC46 : Keep h0 T46.heap [b] := KC0.trans K46 (allS (Or.inl (List.mem_of_getElem? (i := 0) rfl)) all0)
  have hk46 : T46.heap.size ≤ T46.heap.size := Nat.le_of_eq (by rfl)
  refine OWH.tr (B := T46.setTop (mkF m 9 #[.val (.ref b), .val (.ref ca)] [])) (st46) ?_
  exact OWH.retV X46 (s := s) (vm0 := T46.vm) hS46 hk46 hx hlk CR46 hZ46 (own_EW hw) Bd.returns (hb hby d2_9) rfl (by decide) (by decide) ⟨rfl, N46, KC46, (E.keep K46), ba46, kb46, Fc46, Fv46, Vs46⟩
theorem ef_CE (m : MethodId) (x0 : Int32) : entryFrame m #[(.int x0)] 1 = mkF m 0 #[.val (.int x0)] [] := by first | (simp [entryFrame, mkF, argsToLocals, Value.category]; done) | rfl
def QCE (Z : State) (x1 : Int32) (h0 : Heap) (n0 : Nat) (v : Option Value) (h : Heap) (L : List Loc) : Prop := v = some (.int 1) ∧ Fr n0 L ∧ h = h0
set_option maxRecDepth 65536 in
set_option maxHeartbeats 40000000 in
theorem rmCE (l : Launch) (Z : State) (a0 : Array Value) (hw : ∀ d ∈ tables_1, d.before a0 Z = true) (ws : List Jvm.Cond) (x1 : Int32) (h0 : Heap) (n0 : Nat) (O0 : Old Z n0 h0) (hx1 : ¬ ((255 : Int32) < x1)) :
    MetFree l (⟨"java/lang/StringLatin1", "canEncode", "(C)Z"⟩ : MethodName) (head1 (Jvm.Cond.code (⟨"java/lang/StringLatin1", "canEncode", "(C)Z"⟩ : MethodName) jdk_43_method_3_code 1 (some .boolean) :: ws) ({ frames := 0, cells := 0, slots := 0, locals := 0 } : Room)) (fun aa_ UU_ => aa_ = #[(.int x1)] ∧ Z.Warmed39 UU_.vm ∧ UU_.heap = h0) (fun _ _ _ _ _ => True) (fun _ UU_ oo_ UV_ => ∃ vv_ LL_, oo_ = .returned vv_ ∧ QCE Z x1 h0 n0 vv_ UV_.heap LL_ ∧ FrameEnd UU_ oo_ UV_ LL_ ({ frames := 0, cells := 0, slots := 0, locals := 0 } : Room).cells ({ frames := 0, cells := 0, slots := 0, locals := 0 } : Room).slots) := by
  refine MetFree.of_bodySF (plainFor_of_name pn_2) hisR ?_
  intro p e s m args below meth c s₁ Bd hml0 hP hK
  obtain ⟨rfl, hZ, hh⟩ := hP
  have hx := Bd.exec
  have hby := Bd.bytes
  have hlk := BodyLoose.notSynchronized Bd
  have hml : c.maxLocals = 1 := hml0
  have hown : s.vm.findClass "java/lang/StringLatin1" = some m.cls := findClass_of_methodNamed Bd.named
  have hnm := (name_of_methodNamed Bd.named Bd.method).1
  have X0 : Stand p l e ({ frames := 0, cells := 0, slots := 0, locals := 0 } : Room) s m #[(.int x1)] below meth c s₁ [] 0 0 := Stand.of_body Bd
  have e0 : s₁.heap = h0 := by rw [← hh, Bd.state]; rfl
  have N0 := Fr.nil n0
  suffices hOW : OW p e below s (QCE Z x1 h0 n0) 0 0 (s₁.setTop (mkF m 0 #[.val (.int x1)] [])) by
    obtain ⟨oq1_, oq2_, oq3_, oq4_⟩ := hOW
    exact ⟨oq1_, oq2_, castTop (ef_CE m x1) oq3_, oq4_⟩
  refine OW.st (B := s₁.setTop (mkF m 1 #[.val (.int x1)] [(.int x1)])) (fun _ kk_ => XS.iloadN X0.here hx rfl (hb hby d18_0) rfl kk_) ?_
  refine OW.st (B := s₁.setTop (mkF m 4 #[.val (.int x1)] [(.int (255 : Int32)), (.int x1)])) (fun _ kk_ => XS.sipush X0.here hx rfl (hb hby d18_1) kk_) ?_
  refine OW.st (B := s₁.setTop (mkF m 7 #[.val (.int x1)] [])) (fun _ kk_ => XS.icmpNo X0.here hx rfl (hb hby d18_4) rfl (flt hx1).2.2.1 kk_) ?_
  refine OW.st (B := s₁.setTop (mkF m 8 #[.val (.int x1)] [(.int (1 : Int32))])) (fun _ kk_ => XS.iconst X0.here hx rfl (hb hby d18_7) kk_) ?_
  refine OW.st (B := s₁.setTop (mkF m 12 #[.val (.int x1)] [(.int (1 : Int32))])) (fun _ kk_ => XS.goto X0.here hx rfl (pc0 := 8) (pc' := 12) rfl (hb hby d18_8) (by decide) (by decide) kk_) ?_
  exact OW.ret X0 hx hlk (i := .ireturn) Bd.returns rfl (Or.inl ⟨rfl, Or.inr (Or.inl rfl), _, rfl⟩) (hb hby d18_12) e0 (by decide) (by decide) ⟨rfl, N0, rfl⟩
theorem ef_TB (m : MethodId) (x0 : Int32) : entryFrame m #[(.int x0)] 1 = mkF m 0 #[.val (.int x0)] [] := by first | (simp [entryFrame, mkF, argsToLocals, Value.category]; done) | rfl
def QTB (Z : State) (x1 : Int32) (h0 : Heap) (n0 : Nat) (v : Option Value) (h : Heap) (L : List Loc) : Prop := ∃ (ba : Addr) (kb : ClassId), v = some (.ref ba) ∧ Fr n0 L ∧ Keep h0 h [] ∧ n0 ≤ ba ∧ h0.size ≤ ba ∧ Arv Z h ba kb .byte (1 : Int32) [(.int (own_by x1))] (.int (0 : Int32))
set_option maxRecDepth 65536 in
set_option maxHeartbeats 40000000 in
theorem rmTB (l : Launch) (Z : State) (a0 : Array Value) (hw : ∀ d ∈ tables_1, d.before a0 Z = true) (ws : List Jvm.Cond) (x1 : Int32) (h0 : Heap) (n0 : Nat) (O0 : Old Z n0 h0) :
    MetFree l (⟨"java/lang/StringLatin1", "toBytes", "(C)[B"⟩ : MethodName) (head1 (Jvm.Cond.code (⟨"java/lang/StringLatin1", "toBytes", "(C)[B"⟩ : MethodName) jdk_43_method_46_code 1 (some (.array .byte)) :: ws) ({ frames := 0, cells := 1, slots := 1, locals := 0 } : Room)) (fun aa_ UU_ => aa_ = #[(.int x1)] ∧ Z.Warmed39 UU_.vm ∧ UU_.heap = h0) (fun _ _ _ _ _ => True) (fun _ UU_ oo_ UV_ => ∃ vv_ LL_, oo_ = .returned vv_ ∧ QTB Z x1 h0 n0 vv_ UV_.heap LL_ ∧ FrameEnd UU_ oo_ UV_ LL_ ({ frames := 0, cells := 1, slots := 1, locals := 0 } : Room).cells ({ frames := 0, cells := 1, slots := 1, locals := 0 } : Room).slots) := by
  refine MetFree.of_bodySF (plainFor_of_name pn_2) hisR ?_
  intro p e s m args below meth c s₁ Bd hml0 hP hK
  obtain ⟨rfl, hZ, hh⟩ := hP
  have hx := Bd.exec
  have hby := Bd.bytes
  have hlk := BodyLoose.notSynchronized Bd
  have hml : c.maxLocals = 1 := hml0
  have hown : s.vm.findClass "java/lang/StringLatin1" = some m.cls := findClass_of_methodNamed Bd.named
  have hnm := (name_of_methodNamed Bd.named Bd.method).1
  have X0 : Stand p l e ({ frames := 0, cells := 1, slots := 1, locals := 0 } : Room) s m #[(.int x1)] below meth c s₁ [] 0 0 := Stand.of_body Bd
  have e0 : s₁.heap = h0 := by rw [← hh, Bd.state]; rfl
  have N0 := Fr.nil n0
  have KC0 : Keep h0 h0 [] := Keep.refl _ _
  suffices hOW : OW p e below s (QTB Z x1 h0 n0) 1 1 (s₁.setTop (mkF m 0 #[.val (.int x1)] [])) by
    obtain ⟨oq1_, oq2_, oq3_, oq4_⟩ := hOW
    exact ⟨oq1_, oq2_, castTop (ef_TB m x1) oq3_, oq4_⟩
  refine OW.st (B := s₁.setTop (mkF m 1 #[.val (.int x1)] [(.int (1 : Int32))])) (fun _ kk_ => XS.iconst X0.here hx rfl (hb hby d19_0) kk_) ?_
  obtain ⟨T47, h47, k47, X47, e47, E47, A47, st47⟩ := newP (aty := .byte) X0 hx hZ (w_19 hw) e0 (g := (mkF m 1 #[.val (.int x1)] [(.int (1 : Int32))])) rfl (hb hby d19_1) rfl (by decide) (cap := 1) (by decide +kernel) (by decide +kernel) (by decide +kernel) (by decide +kernel)
  obtain ⟨b47, g47⟩ : ∃ z, z = h0.size := ⟨_, rfl⟩
  rw [← g47] at A47 st47
  have n_b47 : n0 ≤ b47 := Nat.le_trans (own_oldle O0) (Nat.le_of_eq g47.symm)
  have O47 : Old Z n0 h47 := O0.ext E47
  have sz_b47 : h0.size ≤ b47 := Nat.le_trans KC0.1 (Nat.le_of_eq g47.symm)
  have KC47 : Keep h0 h47 [] := KC0.ext E47
  have V47 : Arv Z h47 b47 k47 .byte (1 : Int32) [(.int (0 : Int32))] (.int (0 : Int32)) := (Arv.new A47 (by decide)).pad (pad_rep [] (.int (0 : Int32)) 1)
  refine OW.st (B := T47.setTop (mkF m 3 #[.val (.int x1)] [(.ref b47)])) (st47) ?_
  refine OW.st (B := T47.setTop (mkF m 4 #[.val (.int x1)] [(.ref b47), (.ref b47)])) (fun _ kk_ => XS.dup X47.here hx rfl (hb hby d19_3) rfl rfl kk_) ?_
  refine OW.st (B := T47.setTop (mkF m 5 #[.val (.int x1)] [(.int (0 : Int32)), (.ref b47), (.ref b47)])) (fun _ kk_ => XS.iconst X47.here hx rfl (hb hby d19_4) kk_) ?_
  refine OW.st (B := T47.setTop (mkF m 6 #[.val (.int x1)] [(.int x1), (.int (0 : Int32)), (.ref b47), (.ref b47)])) (fun _ kk_ => XS.iloadN X47.here hx rfl (hb hby d19_5) rfl kk_) ?_
  refine OW.st (B := T47.setTop (mkF m 7 #[.val (.int x1)] [(.int (x1.toInt8.toInt32)), (.int (0 : Int32)), (.ref b47), (.ref b47)])) (fun _ kk_ => XS.i2b X47.here hx rfl (hb hby d19_6) rfl kk_) ?_
  obtain ⟨cl48, Ar48, q48, S48, Ng48, Hs48, G48⟩ := id V47
  have hin48 : ¬ ((0 : Int32) < 0 ∨ cl48.slots.size ≤ ((0 : Int32)).toNatClampNeg) := inb_of S48 ⟨by decide, by decide⟩
  obtain ⟨T49, h49, X49, e49, W49, st49⟩ := stB X47 hx hZ e47 Ar48 (j := (0 : Int32)) hin48 (g := (mkF m 7 #[.val (.int x1)] [(.int (x1.toInt8.toInt32)), (.int (0 : Int32)), (.ref b47), (.ref b47)])) rfl rfl (hb hby d19_7)
  have N49 := Fr.snoc X49 N0 n_b47
  have O49 : Old Z n0 h49 := O47.wr W49 n_b47
  have KC49 : Keep h0 h49 [] := KC47.wr W49 (Or.inr sz_b47)
  have V49 : Arv Z h49 b47 k47 .byte (1 : Int32) [(.int (nar .byte (x1.toInt8.toInt32)))] (.int (0 : Int32)) := Arv.set Ar48 q48 S48 Ng48 Hs48 G48 (fits_nar_byte _) W49 0 rfl (Nat.le_of_ble_eq_true rfl)
  refine OW.st (B := T49.setTop (mkF m 8 #[.val (.int x1)] [(.ref b47)])) (st49) ?_
  exact OW.ret X49 hx hlk (i := .areturn) Bd.returns rfl (Or.inr (Or.inr (Or.inr (Or.inr ⟨rfl, rfl, rfl⟩)))) (hb hby d19_8) e49 (by decide) (by decide) ⟨b47, k47, rfl, N49, KC49, n_b47, sz_b47, V49⟩
theorem ef_SI (m : MethodId) (x0 : Addr) (x1 : Addr) (x2 : Int32) : entryFrame m #[(.ref x0), (.ref x1), (.int x2)] 3 = mkF m 0 #[.val (.ref x0), .val (.ref x1), .val (.int x2)] [] := by first | (simp [entryFrame, mkF, argsToLocals, Value.category]; done) | rfl
def QSI (Z : State) (b : Addr) (ba : Addr) (h0 : Heap) (n0 : Nat) (v : Option Value) (h : Heap) (L : List Loc) : Prop := v = none ∧ Fr n0 L ∧ Keep h0 h [b] ∧ Exa Z h b "java/lang/String" ∧ Fld Z h b "java/lang/String" "value" "[B" (.ref ba) ∧ Fld Z h b "java/lang/String" "coder" "B" (.int (0 : Int32))
set_option maxRecDepth 65536 in
set_option maxHeartbeats 40000000 in
theorem rmSI (l : Launch) (Z : State) (a0 : Array Value) (hw : ∀ d ∈ tables_1, d.before a0 Z = true) (ws : List Jvm.Cond) (b : Addr) (ba : Addr) (h0 : Heap) (n0 : Nat) (O0 : Old Z n0 h0) (E : Exa Z h0 b "java/lang/String") (F1 : Fld Z h0 b "java/lang/String" "value" "[B" .null) (F2 : Fld Z h0 b "java/lang/String" "coder" "B" (.int (0 : Int32))) (g : n0 ≤ b) :
    MetFree l (⟨"java/lang/String", "<init>", "([BB)V"⟩ : MethodName) (head1 (Jvm.Cond.code (⟨"java/lang/String", "<init>", "([BB)V"⟩ : MethodName) jdk_42_method_151_code 3 none :: ws) ({ frames := 1, cells := 0, slots := 0, locals := 12 } : Room)) (fun aa_ UU_ => aa_ = #[(.ref b), (.ref ba), (.int (0 : Int32))] ∧ Z.Warmed39 UU_.vm ∧ UU_.heap = h0) (fun _ _ _ _ _ => True) (fun _ UU_ oo_ UV_ => ∃ vv_ LL_, oo_ = .returned vv_ ∧ QSI Z b ba h0 n0 vv_ UV_.heap LL_ ∧ FrameEnd UU_ oo_ UV_ LL_ ({ frames := 1, cells := 0, slots := 0, locals := 12 } : Room).cells ({ frames := 1, cells := 0, slots := 0, locals := 12 } : Room).slots) := by
  refine MetFree.of_bodySF (plainFor_of_name pn_1) hisR ?_
  intro p e s m args below meth c s₁ Bd hml0 hP hK
  obtain ⟨rfl, hZ, hh⟩ := hP
  have hx := Bd.exec
  have hby := Bd.bytes
  have hlk := BodyLoose.notSynchronized Bd
  have hml : c.maxLocals = 3 := hml0
  have hown : s.vm.findClass "java/lang/String" = some m.cls := findClass_of_methodNamed Bd.named
  have hnm := (name_of_methodNamed Bd.named Bd.method).1
  have X0 : Stand p l e ({ frames := 1, cells := 0, slots := 0, locals := 12 } : Room) s m #[(.ref b), (.ref ba), (.int (0 : Int32))] below meth c s₁ [] 0 0 := Stand.of_body Bd
  have e0 : s₁.heap = h0 := by rw [← hh, Bd.state]; rfl
  have N0 := Fr.nil n0
  have KC0 : Keep h0 h0 [b] := Keep.refl _ _
  suffices hOW : OW p e below s (QSI Z b ba h0 n0) 0 0 (s₁.setTop (mkF m 0 #[.val (.ref b), .val (.ref ba), .val (.int (0 : Int32))] [])) by
    obtain ⟨oq1_, oq2_, oq3_, oq4_⟩ := hOW
    exact ⟨oq1_, oq2_, castTop (ef_SI m b ba (0 : Int32)) oq3_, oq4_⟩
  refine OW.st (B := s₁.setTop (mkF m 1 #[.val (.ref b), .val (.ref ba), .val (.int (0 : Int32))] [(.ref b)])) (fun _ kk_ => XS.aloadN X0.here hx rfl (hb hby d20_0) rfl rfl kk_) ?_
  obtain ⟨T50, X50, e50, st50⟩ := initO X0 hx hZ hown (w_15 hw) (w_16 hw) (w_17 hw) e0 (g := (mkF m 1 #[.val (.ref b), .val (.ref ba), .val (.int (0 : Int32))] [(.ref b)])) rfl (by rw [hml]; rfl) rfl (hb hby d20_1) (by decide) (W := 0) (by show 2 * 0 + _ ≤ _; exact Nat.le_of_eq rfl) (by decide)
  refine OW.st (B := T50.setTop (mkF m 4 #[.val (.ref b), .val (.ref ba), .val (.int (0 : Int32))] [])) (st50) ?_
  refine OW.st (B := T50.setTop (mkF m 5 #[.val (.ref b), .val (.ref ba), .val (.int (0 : Int32))] [(.ref b)])) (fun _ kk_ => XS.aloadN X50.here hx rfl (hb hby d20_4) rfl rfl kk_) ?_
  refine OW.st (B := T50.setTop (mkF m 6 #[.val (.ref b), .val (.ref ba), .val (.int (0 : Int32))] [(.ref ba), (.ref b)])) (fun _ kk_ => XS.aloadN X50.here hx rfl (hb hby d20_5) rfl rfl kk_) ?_
  obtain ⟨T51, h51, X51, e51, W51, st51⟩ := putF X50 hx hZ hown (host := "") (Or.inl (w_24 hw)) Via.refl e50 F1 E (Or.inr ⟨(w_20 hw), rfl, hnm⟩) (w_5 hw) (ty := (.array .byte)) (by decide) rfl rfl (g := (mkF m 6 #[.val (.ref b), .val (.ref ba), .val (.int (0 : Int32))] [(.ref ba), (.ref b)])) rfl rfl (hb hby d20_6)
  have N51 := Fr.snoc X51 N0 g
  have O51 : Old Z n0 h51 := O0.wr W51 g
  have KC51 : Keep h0 h51 [b] := KC0.wr W51 (Or.inl (List.mem_of_getElem? (i := 0) rfl))
  have F51 : Fld Z h51 b "java/lang/String" "value" "[B" (.ref ba) := Fld.same W51 F1
  refine OW.st (B := T51.setTop (mkF m 9 #[.val (.ref b), .val (.ref ba), .val (.int (0 : Int32))] [])) (st51) ?_
  refine OW.st (B := T51.setTop (mkF m 10 #[.val (.ref b), .val (.ref ba), .val (.int (0 : Int32))] [(.ref b)])) (fun _ kk_ => XS.aloadN X51.here hx rfl (hb hby d20_9) rfl rfl kk_) ?_
  refine OW.st (B := T51.setTop (mkF m 11 #[.val (.ref b), .val (.ref ba), .val (.int (0 : Int32))] [(.int (0 : Int32)), (.ref b)])) (fun _ kk_ => XS.iloadN X51.here hx rfl (hb hby d20_10) rfl kk_) ?_
  obtain ⟨T52, h52, X52, e52, W52, st52⟩ := putFN X51 hx hZ hown (w_25 hw) Via.refl e51 (F2.other W51 (Or.inr (slot_ne (Or.inr (w_21 hw)) (Or.inr (w_20 hw)) (by decide) (t := .byte) (t' := (.array .byte)) (by decide) (by decide)))) (E.wr W51) (Or.inr ⟨(w_21 hw), rfl, hnm⟩) (w_5 hw) (ty := .byte) (v' := (.int (0 : Int32))) (by decide) rfl rfl (g := (mkF m 11 #[.val (.ref b), .val (.ref ba), .val (.int (0 : Int32))] [(.int (0 : Int32)), (.ref b)])) rfl rfl (hb hby d20_11)
  have N52 := Fr.snoc X52 N51 g
  have O52 : Old Z n0 h52 := O51.wr W52 g
  have KC52 : Keep h0 h52 [b] := KC51.wr W52 (Or.inl (List.mem_of_getElem? (i := 0) rfl))
  have F52 : Fld Z h52 b "java/lang/String" "coder" "B" (.int (0 : Int32)) := Fld.same W52 (F2.other W51 (Or.inr (slot_ne (Or.inr (w_21 hw)) (Or.inr (w_20 hw)) (by decide) (t := .byte) (t' := (.array .byte)) (by decide) (by decide))))
  refine OW.st (B := T52.setTop (mkF m 14 #[.val (.ref b), .val (.ref ba), .val (.int (0 : Int32))] [])) (st52) ?_
  exact OW.retV X52 hx hlk Bd.returns (hb hby d20_14) e52 (by decide) (by decide) ⟨rfl, N52, KC52, ((E.wr W51).wr W52), (F51.other W52 (Or.inr (slot_ne (Or.inr (w_20 hw)) (Or.inr (w_21 hw)) (by decide) (t := (.array .byte)) (t' := .byte) (by decide) (by decide)))), F52⟩
theorem ef_VO (m : MethodId) (x0 : Int32) : entryFrame m #[(.int x0)] 1 = mkF m 0 #[.val (.int x0)] [] := by first | (simp [entryFrame, mkF, argsToLocals, Value.category]; done) | rfl
def QVO (Z : State) (x1 : Int32) (i_COMPACT_STRINGS : Int32) (v_SIOOBE_FORMATTER : Value) (h0 : Heap) (n0 : Nat) (v : Option Value) (h : Heap) (L : List Loc) : Prop := ∃ (b ba : Addr) (kb : ClassId), v = some (.ref b) ∧ Fr n0 L ∧ Keep h0 h [] ∧ n0 ≤ b ∧ h0.size ≤ b ∧ Exa Z h b "java/lang/String" ∧ Fld Z h b "java/lang/String" "value" "[B" (.ref ba) ∧ Fld Z h b "java/lang/String" "coder" "B" (.int (0 : Int32)) ∧ Arv Z h ba kb .byte (1 : Int32) [(.int (own_by x1))] (.int (0 : Int32))
set_option maxRecDepth 65536 in
set_option maxHeartbeats 40000000 in
theorem rmVO (l : Launch) (Z : State) (a0 : Array Value) (hw : ∀ d ∈ tables_1, d.before a0 Z = true) (ws : List Jvm.Cond) (x1 : Int32) (i_COMPACT_STRINGS : Int32) (v_SIOOBE_FORMATTER : Value) (h0 : Heap) (n0 : Nat) (O0 : Old Z n0 h0) (hS : OwnS Z i_COMPACT_STRINGS v_SIOOBE_FORMATTER) (hx1 : ¬ ((255 : Int32) < x1)) :
    MetFree l (⟨"java/lang/String", "valueOf", "(C)Ljava/lang/String;"⟩ : MethodName) (head1 (Jvm.Cond.code (⟨"java/lang/String", "valueOf", "(C)Ljava/lang/String;"⟩ : MethodName) jdk_42_method_139_code 1 (some (.object "java/lang/String")) :: ws) ({ frames := 2, cells := 2, slots := 5, locals := 27 } : Room)) (fun aa_ UU_ => aa_ = #[(.int x1)] ∧ Z.Warmed39 UU_.vm ∧ UU_.heap = h0) (fun _ _ _ _ _ => True) (fun _ UU_ oo_ UV_ => ∃ vv_ LL_, oo_ = .returned vv_ ∧ QVO Z x1 i_COMPACT_STRINGS v_SIOOBE_FORMATTER h0 n0 vv_ UV_.heap LL_ ∧ FrameEnd UU_ oo_ UV_ LL_ ({ frames := 2, cells := 2, slots := 5, locals := 27 } : Room).cells ({ frames := 2, cells := 2, slots := 5, locals := 27 } : Room).slots) := by
  refine MetFree.of_bodySF (plainFor_of_name pn_1) hisR ?_
  intro p e s m args below meth c s₁ Bd hml0 hP hK
  obtain ⟨rfl, hZ, hh⟩ := hP
  have hx := Bd.exec
  have hby := Bd.bytes
  have hlk := BodyLoose.notSynchronized Bd
  have hml : c.maxLocals = 1 := hml0
  have hown : s.vm.findClass "java/lang/String" = some m.cls := findClass_of_methodNamed Bd.named
  have hnm := (name_of_methodNamed Bd.named Bd.method).1
  have X0 : Stand p l e ({ frames := 2, cells := 2, slots := 5, locals := 27 } : Room) s m #[(.int x1)] below meth c s₁ [] 0 0 := Stand.of_body Bd
  have e0 : s₁.heap = h0 := by rw [← hh, Bd.state]; rfl
  have N0 := Fr.nil n0
  have KC0 : Keep h0 h0 [] := Keep.refl _ _
  suffices hOW : OW p e below s (QVO Z x1 i_COMPACT_STRINGS v_SIOOBE_FORMATTER h0 n0) 2 5 (s₁.setTop (mkF m 0 #[.val (.int x1)] [])) by
    obtain ⟨oq1_, oq2_, oq3_, oq4_⟩ := hOW
    exact ⟨oq1_, oq2_, castTop (ef_VO m x1) oq3_, oq4_⟩
  have hS' := hS
  obtain ⟨Si_COMPACT_STRINGS, Sv_SIOOBE_FORMATTER, Rv_SIOOBE_FORMATTER, Pi_COMPACT_STRINGS⟩ := hS'
  obtain ⟨T53, X53, e53, st53⟩ := getS2 X0 hx hZ hown (host := "") (Or.inl (w_79 hw)) Via.refl e0 (Si_COMPACT_STRINGS.ext O0.2) (g := (mkF m 0 #[.val (.int x1)] [])) rfl (hb hby d17_0)
  refine OW.st (B := T53.setTop (mkF m 3 #[.val (.int x1)] [(.int i_COMPACT_STRINGS)])) (st53) ?_
  refine OW.st (B := T53.setTop (mkF m 6 #[.val (.int x1)] [])) (fun _ kk_ => XS.ifNo X53.here hx rfl (hb hby d17_3) rfl ((if0 _ _).trans (feq Pi_COMPACT_STRINGS).1) kk_) ?_
  refine OW.st (B := T53.setTop (mkF m 7 #[.val (.int x1)] [(.int x1)])) (fun _ kk_ => XS.iloadN X53.here hx rfl (hb hby d17_6) rfl kk_) ?_
  obtain ⟨_, _, ⟨T54, L54, k54, n54⟩, -, X54, ⟨Lc54, hQ54, l54, y54, z54⟩, st54⟩ := Jvm.LawKit.callS X53 hx (y := (⟨"java/lang/StringLatin1", "canEncode", "(C)Z"⟩ : MethodName)) hown (mvT hZ (w_93 hw)) (mvT hZ (w_94 hw)) (mvT hZ (w_95 hw)) (mvT hZ (w_96 hw)) (by decide) (backOf (W := 0) (rmCE l Z a0 hw [] x1 h0 n0 O0 hx1) hZ (w_96 hw) (w_95 hw) (by decide) (by decide)) (g := (mkF m 7 #[.val (.int x1)] [(.int x1)])) rfl (by rw [hml]; rfl) (argsL := [(.int x1)]) (rest := []) (lenOf pd_4 rfl) rfl (by show 2 * 0 + _ ≤ _; exact Nat.le_of_eq rfl) (hb hby d17_7) (fun _ _ => ⟨rfl, e53, (by decide : 0 + 0 ≤ _), (by decide : 0 + 0 ≤ _)⟩)
  dsimp only [Pt.U, Pt.locs, Pt.cells, Pt.slots] at X54 l54 y54 z54 st54 hQ54
  subst l54 y54 z54
  obtain ⟨rfl, Nq54, e54⟩ := hQ54
  have N54 := Fr.app N0 Nq54
  refine OW.st (B := T54.setTop (mkF m 10 #[.val (.int x1)] [(.int (1 : Int32))])) (st54) ?_
  refine OW.st (B := T54.setTop (mkF m 13 #[.val (.int x1)] [])) (fun _ kk_ => XS.ifNo X54.here hx rfl (hb hby d17_10) rfl ((if0 _ _).trans (feq (by decide)).1) kk_) ?_
  obtain ⟨T55, h55, X55, e55, E55, A55, D55, -, st55⟩ := newO X54 hx hZ hown (w_97 hw) (w_5 hw) (w_6 hw) e54 (g := (mkF m 13 #[.val (.int x1)] [])) rfl (hb hby d17_13) (by decide) (by decide)
  obtain ⟨b55, g55⟩ : ∃ z, z = h0.size := ⟨_, rfl⟩
  rw [← g55] at A55 D55 st55
  have n_b55 : n0 ≤ b55 := Nat.le_trans (own_oldle O0) (Nat.le_of_eq g55.symm)
  have O55 : Old Z n0 h55 := O0.ext E55
  have sz_b55 : h0.size ≤ b55 := Nat.le_trans KC0.1 (Nat.le_of_eq g55.symm)
  have KC55 : Keep h0 h55 [] := KC0.ext E55
  have F55_20 : Fld Z h55 b55 "java/lang/String" "value" "[B" .null := D55 (Or.inr (w_20 hw)) (ty := (.array .byte)) (by decide)
  have F55_21 : Fld Z h55 b55 "java/lang/String" "coder" "B" (.int (0 : Int32)) := D55 (Or.inr (w_21 hw)) (ty := .byte) (by decide)
  refine OW.st (B := T55.setTop (mkF m 16 #[.val (.int x1)] [(.ref b55)])) (st55) ?_
  refine OW.st (B := T55.setTop (mkF m 17 #[.val (.int x1)] [(.ref b55), (.ref b55)])) (fun _ kk_ => XS.dup X55.here hx rfl (hb hby d17_16) rfl rfl kk_) ?_
  refine OW.st (B := T55.setTop (mkF m 18 #[.val (.int x1)] [(.int x1), (.ref b55), (.ref b55)])) (fun _ kk_ => XS.iloadN X55.here hx rfl (hb hby d17_17) rfl kk_) ?_
  obtain ⟨_, _, ⟨T56, L56, k56, n56⟩, -, X56, ⟨Lc56, hQ56, l56, y56, z56⟩, st56⟩ := Jvm.LawKit.callS X55 hx (y := (⟨"java/lang/StringLatin1", "toBytes", "(C)[B"⟩ : MethodName)) hown (mvT hZ (w_98 hw)) (mvT hZ (w_99 hw)) (mvT hZ (w_95 hw)) (mvT hZ (w_100 hw)) (by decide) (backOf (W := 2) (rmTB l Z a0 hw [] x1 h55 n0 O55 ) hZ (w_100 hw) (w_95 hw) (by decide) (by decide)) (g := (mkF m 18 #[.val (.int x1)] [(.int x1), (.ref b55), (.ref b55)])) rfl (by rw [hml]; rfl) (argsL := [(.int x1)]) (rest := [(.ref b55), (.ref b55)]) (lenOf pd_5 rfl) rfl (by show 2 * 0 + _ ≤ _; exact Nat.le_of_eq rfl) (hb hby d17_18) (fun _ _ => ⟨rfl, e55, (by decide : 1 + 1 ≤ _), (by decide : 4 + 1 ≤ _)⟩)
  dsimp only [Pt.U, Pt.locs, Pt.cells, Pt.slots] at X56 l56 y56 z56 st56 hQ56
  subst l56 y56 z56
  obtain ⟨b56, kb56, rfl, Nq56, K56, gb56, zb56, Vb56⟩ := hQ56
  have N56 := Fr.app N54 Nq56
  have O56 : Old Z n0 T56.heap := O55.keep K56 all0
  have KC56 : Keep h0 T56.heap [] := KC55.trans K56 all0
  refine OW.st (B := T56.setTop (mkF m 21 #[.val (.int x1)] [(.ref b56), (.ref b55), (.ref b55)])) (st56) ?_
  refine OW.st (B := T56.setTop (mkF m 22 #[.val (.int x1)] [(.int (0 : Int32)), (.ref b56), (.ref b55), (.ref b55)])) (fun _ kk_ => XS.iconst X56.here hx rfl (hb hby d17_21) kk_) ?_
  obtain ⟨_, _, ⟨T57, L57, k57, n57⟩, -, X57, ⟨Lc57, hQ57, l57, y57, z57⟩, st57⟩ := X56.specialBack hx (y := (⟨"java/lang/String", "<init>", "([BB)V"⟩ : MethodName)) rfl hown (mvT hZ (w_101 hw)) (mvT hZ (w_102 hw)) (mvT hZ (w_103 hw)) (by decide) (backOf (W := 1) (rmSI l Z a0 hw [] b55 b56 T56.heap n0 O56 (A55.keep K56) (F55_20.keep K56 nin0) (F55_21.keep K56 nin0) n_b55) hZ (w_103 hw) (w_6 hw) (by decide) (by decide)) (g := (mkF m 22 #[.val (.int x1)] [(.int (0 : Int32)), (.ref b56), (.ref b55), (.ref b55)])) rfl (by rw [hml]; rfl) (Steps.refl _) (a := b55) (argsL := [(.ref b56), (.int (0 : Int32))]) (rest := [(.ref b55)]) (lenOf pd_6 rfl) rfl (by show 2 * 0 + _ ≤ _; exact Nat.le_of_eq rfl) (hb hby d17_22) (fun _ _ => ⟨rfl, rfl, (by decide : 2 + 0 ≤ _), (by decide : 5 + 0 ≤ _)⟩)
  dsimp only [Pt.U, Pt.locs, Pt.cells, Pt.slots] at X57 l57 y57 z57 st57 hQ57
  subst l57 y57 z57
  obtain ⟨rfl, Nq57, K57, Es57, Fv57, Fc57⟩ := hQ57
  have N57 := Fr.app N56 Nq57
  have O57 : Old Z n0 T57.heap := O56.keep K57 (allS n_b55 all0)
  have KC57 : Keep h0 T57.heap [] := KC56.trans K57 (allS (Or.inr sz_b55) all0)
  refine OW.tr (B := T57.setTop (mkF m 25 #[.val (.int x1)] [(.ref b55)])) (st57) ?_
  exact OW.ret X57 hx hlk (i := .areturn) Bd.returns rfl (Or.inr (Or.inr (Or.inr (Or.inr ⟨rfl, rfl, rfl⟩)))) (hb hby d17_25) rfl (by decide) (by decide) ⟨b55, b56, kb56, rfl, N57, KC57, n_b55, sz_b55, ((A55.keep K56).keep K57), Fv57, Fc57, (Vb56.keep K57 (ninS (Ne.symm (Nat.ne_of_lt (Nat.lt_of_lt_of_le A55.lt zb56))) nin0))⟩
theorem ef_DR (m : MethodId) (x0 : Int32) (x1 : Int32) (x2 : Int32) (x3 : Int32) : entryFrame m #[(.int x0), (.int x1), (.int x2), (.int x3)] 8 = mkF m 0 #[.val (.int x0), .val (.int x1), .val (.int x2), .val (.int x3), .unset, .unset, .unset, .unset] [] := by first | (simp [entryFrame, mkF, argsToLocals, Value.category]; done) | rfl
def QDR (Z : State) (n1 : Int32) (n2 : Int32) (n3 : Int32) (n4 : Int32) (i_COMPACT_STRINGS : Int32) (v_SIOOBE_FORMATTER : Value) (h0 : Heap) (n0 : Nat) (v : Option Value) (h : Heap) (L : List Loc) : Prop := ∃ b : Addr, v = some (.ref b) ∧ Fr n0 L ∧ Keep h0 h [] ∧ n0 ≤ b ∧ Exa Z h b "java/lang/String"
set_option maxRecDepth 65536 in
set_option maxHeartbeats 40000000 in
theorem rmDR (l : Launch) (Z : State) (a0 : Array Value) (hw : ∀ d ∈ tables_1, d.before a0 Z = true) (ws : List Jvm.Cond) (n1 : Int32) (n2 : Int32) (n3 : Int32) (n4 : Int32) (i_COMPACT_STRINGS : Int32) (v_SIOOBE_FORMATTER : Value) (h0 : Heap) (n0 : Nat) (O0 : Old Z n0 h0) (hS : OwnS Z i_COMPACT_STRINGS v_SIOOBE_FORMATTER) :
    MetFree l (⟨"tenorbook/cli/OptionFlagPinLaw", "draw", "(IIII)Ljava/lang/String;"⟩ : MethodName) (head1 (Jvm.Cond.code (⟨"tenorbook/cli/OptionFlagPinLaw", "draw", "(IIII)Ljava/lang/String;"⟩ : MethodName) method_2_code 8 (some (.object "java/lang/String")) :: ws) ({ frames := 4, cells := 6, slots := 12, locals := 66 } : Room)) (fun aa_ UU_ => aa_ = #[(.int n1), (.int n2), (.int n3), (.int n4)] ∧ Z.Warmed39 UU_.vm ∧ UU_.heap = h0 ∧ CHv Z consts_1 UU_.vm h0) (fun _ _ _ _ _ => True) (fun _ UU_ oo_ UV_ => ∃ vv_ LL_, oo_ = .returned vv_ ∧ QDR Z n1 n2 n3 n4 i_COMPACT_STRINGS v_SIOOBE_FORMATTER h0 n0 vv_ UV_.heap LL_ ∧ CHr Z consts_1 UU_.vm UU_.heap UV_.vm UV_.heap ∧ ReturnedEndW UU_ oo_ UV_ LL_ ({ frames := 4, cells := 6, slots := 12, locals := 66 } : Room).cells ({ frames := 4, cells := 6, slots := 12, locals := 66 } : Room).slots) := by
  refine MetFree.of_bodySF (plainFor_of_name pn_3) hisR ?_
  intro p e s m args below meth c s₁ Bd hml0 hP hK
  obtain ⟨rfl, hZ, hh, hCH⟩ := hP
  have hx := Bd.exec
  have hby := Bd.bytes
  have hlk := BodyLoose.notSynchronized Bd
  have hml : c.maxLocals = 8 := hml0
  have hown : s.vm.findClass "tenorbook/cli/OptionFlagPinLaw" = some m.cls := findClass_of_methodNamed Bd.named
  have hnm := (name_of_methodNamed Bd.named Bd.method).1
  have X0 : Stand p l e ({ frames := 4, cells := 6, slots := 12, locals := 66 } : Room) s m #[(.int n1), (.int n2), (.int n3), (.int n4)] below meth c s₁ [] 0 0 := Stand.of_body Bd
  have e0 : s₁.heap = h0 := by rw [← hh, Bd.state]; rfl
  have N0 := Fr.nil n0
  have hS0 : s.Since s.vm 0 := (State.WarmedH.refl s).since 0
  have hk0 : 0 ≤ h0.size := Nat.zero_le _
  have CR0 : CHr Z consts_1 s.vm h0 s.vm h0 := CHr.refl hCH
  have KC0 : Keep h0 h0 [] := Keep.refl _ _
  suffices hOW : OWH Z consts_1 h0 p e below s (QDR Z n1 n2 n3 n4 i_COMPACT_STRINGS v_SIOOBE_FORMATTER h0 n0) 6 12 (s₁.setTop (mkF m 0 #[.val (.int n1), .val (.int n2), .val (.int n3), .val (.int n4), .unset, .unset, .unset, .unset] [])) by
    obtain ⟨oq1_, oq2_, oq3_, oq4_⟩ := hOW
    obtain ⟨oq5_, oq6_, oq7_, oq8_, oq9_, or1_, or2_, or3_⟩ := oq4_
    exact ⟨oq1_, oq2_, castTop (ef_DR m n1 n2 n3 n4) oq3_, oq5_, oq6_, oq7_, oq8_, oq9_, or1_, by rw [hh]; exact or2_, or3_⟩
  have hS' := hS
  obtain ⟨Si_COMPACT_STRINGS, Sv_SIOOBE_FORMATTER, Rv_SIOOBE_FORMATTER, Pi_COMPACT_STRINGS⟩ := hS'
  refine OWH.st (B := s₁.setTop (mkF m 1 #[.val (.int n1), .val (.int n2), .val (.int n3), .val (.int n4), .unset, .unset, .unset, .unset] [(.int n1)])) (fun _ kk_ => XS.iloadN X0.here hx rfl (hb hby d1_0) rfl kk_) ?_
  refine OWH.st (B := s₁.setTop (mkF m 2 #[.val (.int n1), .val (.int n2), .val (.int n3), .val (.int n4), .unset, .unset, .unset, .unset] [(.int (3 : Int32)), (.int n1)])) (fun _ kk_ => XS.iconst X0.here hx rfl (hb hby d1_1) kk_) ?_
  refine OWH.st (B := s₁.setTop (mkF m 3 #[.val (.int n1), .val (.int n2), .val (.int n3), .val (.int n4), .unset, .unset, .unset, .unset] [(.int (n1 &&& (3 : Int32)))])) (fun _ kk_ => XS.iand X0.here hx rfl (hb hby d1_2) rfl kk_) ?_
  refine OWH.st (B := s₁.setTop (mkF m 5 #[.val (.int n1), .val (.int n2), .val (.int n3), .val (.int n4), .val (.int (n1 &&& (3 : Int32))), .unset, .unset, .unset] [])) (fun _ kk_ => XS.istore X0.here hx rfl (hb hby d1_3) rfl (l' := #[.val (.int n1), .val (.int n2), .val (.int n3), .val (.int n4), .val (.int (n1 &&& (3 : Int32))), .unset, .unset, .unset]) rfl kk_) ?_
  refine OWH.st (B := s₁.setTop (mkF m 6 #[.val (.int n1), .val (.int n2), .val (.int n3), .val (.int n4), .val (.int (n1 &&& (3 : Int32))), .unset, .unset, .unset] [(.int n2)])) (fun _ kk_ => XS.iloadN X0.here hx rfl (hb hby d1_5) rfl kk_) ?_
  refine OWH.st (B := s₁.setTop (mkF m 9 #[.val (.int n1), .val (.int n2), .val (.int n3), .val (.int n4), .val (.int (n1 &&& (3 : Int32))), .unset, .unset, .unset] [(.int (255 : Int32)), (.int n2)])) (fun _ kk_ => XS.sipush X0.here hx rfl (hb hby d1_6) kk_) ?_
  refine OWH.st (B := s₁.setTop (mkF m 10 #[.val (.int n1), .val (.int n2), .val (.int n3), .val (.int n4), .val (.int (n1 &&& (3 : Int32))), .unset, .unset, .unset] [(.int (n2 &&& (255 : Int32)))])) (fun _ kk_ => XS.iand X0.here hx rfl (hb hby d1_9) rfl kk_) ?_
  refine OWH.st (B := s₁.setTop (mkF m 11 #[.val (.int n1), .val (.int n2), .val (.int n3), .val (.int n4), .val (.int (n1 &&& (3 : Int32))), .unset, .unset, .unset] [(.int ((n2 &&& (255 : Int32)).toUInt32.toUInt16.toUInt32.toInt32))])) (fun _ kk_ => XS.i2c X0.here hx rfl (hb hby d1_10) rfl kk_) ?_
  suffices J : ∀ u1 : Int32, (¬ ((255 : Int32) < u1) ∧ nar .char u1 = u1) → OWH Z consts_1 h0 p e below s (QDR Z n1 n2 n3 n4 i_COMPACT_STRINGS v_SIOOBE_FORMATTER h0 n0) 6 12 (s₁.setTop (mkF m 11 #[.val (.int n1), .val (.int n2), .val (.int n3), .val (.int n4), .val (.int (n1 &&& (3 : Int32))), .unset, .unset, .unset] [(.int u1)])) from J _ (own_ch255 n2)
  intro u1 hu1
  obtain ⟨hlu1, hnu1⟩ := hu1
  refine OWH.st (B := s₁.setTop (mkF m 13 #[.val (.int n1), .val (.int n2), .val (.int n3), .val (.int n4), .val (.int (n1 &&& (3 : Int32))), .val (.int u1), .unset, .unset] [])) (fun _ kk_ => XS.istore X0.here hx rfl (hb hby d1_11) rfl (l' := #[.val (.int n1), .val (.int n2), .val (.int n3), .val (.int n4), .val (.int (n1 &&& (3 : Int32))), .val (.int u1), .unset, .unset]) rfl kk_) ?_
  refine OWH.st (B := s₁.setTop (mkF m 14 #[.val (.int n1), .val (.int n2), .val (.int n3), .val (.int n4), .val (.int (n1 &&& (3 : Int32))), .val (.int u1), .unset, .unset] [(.int n3)])) (fun _ kk_ => XS.iloadN X0.here hx rfl (hb hby d1_13) rfl kk_) ?_
  refine OWH.st (B := s₁.setTop (mkF m 17 #[.val (.int n1), .val (.int n2), .val (.int n3), .val (.int n4), .val (.int (n1 &&& (3 : Int32))), .val (.int u1), .unset, .unset] [(.int (255 : Int32)), (.int n3)])) (fun _ kk_ => XS.sipush X0.here hx rfl (hb hby d1_14) kk_) ?_
  refine OWH.st (B := s₁.setTop (mkF m 18 #[.val (.int n1), .val (.int n2), .val (.int n3), .val (.int n4), .val (.int (n1 &&& (3 : Int32))), .val (.int u1), .unset, .unset] [(.int (n3 &&& (255 : Int32)))])) (fun _ kk_ => XS.iand X0.here hx rfl (hb hby d1_17) rfl kk_) ?_
  refine OWH.st (B := s₁.setTop (mkF m 19 #[.val (.int n1), .val (.int n2), .val (.int n3), .val (.int n4), .val (.int (n1 &&& (3 : Int32))), .val (.int u1), .unset, .unset] [(.int ((n3 &&& (255 : Int32)).toUInt32.toUInt16.toUInt32.toInt32))])) (fun _ kk_ => XS.i2c X0.here hx rfl (hb hby d1_18) rfl kk_) ?_
  suffices J : ∀ u2 : Int32, (¬ ((255 : Int32) < u2) ∧ nar .char u2 = u2) → OWH Z consts_1 h0 p e below s (QDR Z n1 n2 n3 n4 i_COMPACT_STRINGS v_SIOOBE_FORMATTER h0 n0) 6 12 (s₁.setTop (mkF m 19 #[.val (.int n1), .val (.int n2), .val (.int n3), .val (.int n4), .val (.int (n1 &&& (3 : Int32))), .val (.int u1), .unset, .unset] [(.int u2)])) from J _ (own_ch255 n3)
  intro u2 hu2
  obtain ⟨hlu2, hnu2⟩ := hu2
  refine OWH.st (B := s₁.setTop (mkF m 21 #[.val (.int n1), .val (.int n2), .val (.int n3), .val (.int n4), .val (.int (n1 &&& (3 : Int32))), .val (.int u1), .val (.int u2), .unset] [])) (fun _ kk_ => XS.istore X0.here hx rfl (hb hby d1_19) rfl (l' := #[.val (.int n1), .val (.int n2), .val (.int n3), .val (.int n4), .val (.int (n1 &&& (3 : Int32))), .val (.int u1), .val (.int u2), .unset]) rfl kk_) ?_
  refine OWH.st (B := s₁.setTop (mkF m 22 #[.val (.int n1), .val (.int n2), .val (.int n3), .val (.int n4), .val (.int (n1 &&& (3 : Int32))), .val (.int u1), .val (.int u2), .unset] [(.int n4)])) (fun _ kk_ => XS.iloadN X0.here hx rfl (hb hby d1_21) rfl kk_) ?_
  refine OWH.st (B := s₁.setTop (mkF m 25 #[.val (.int n1), .val (.int n2), .val (.int n3), .val (.int n4), .val (.int (n1 &&& (3 : Int32))), .val (.int u1), .val (.int u2), .unset] [(.int (255 : Int32)), (.int n4)])) (fun _ kk_ => XS.sipush X0.here hx rfl (hb hby d1_22) kk_) ?_
  refine OWH.st (B := s₁.setTop (mkF m 26 #[.val (.int n1), .val (.int n2), .val (.int n3), .val (.int n4), .val (.int (n1 &&& (3 : Int32))), .val (.int u1), .val (.int u2), .unset] [(.int (n4 &&& (255 : Int32)))])) (fun _ kk_ => XS.iand X0.here hx rfl (hb hby d1_25) rfl kk_) ?_
  refine OWH.st (B := s₁.setTop (mkF m 27 #[.val (.int n1), .val (.int n2), .val (.int n3), .val (.int n4), .val (.int (n1 &&& (3 : Int32))), .val (.int u1), .val (.int u2), .unset] [(.int ((n4 &&& (255 : Int32)).toUInt32.toUInt16.toUInt32.toInt32))])) (fun _ kk_ => XS.i2c X0.here hx rfl (hb hby d1_26) rfl kk_) ?_
  suffices J : ∀ u3 : Int32, (¬ ((255 : Int32) < u3) ∧ nar .char u3 = u3) → OWH Z consts_1 h0 p e below s (QDR Z n1 n2 n3 n4 i_COMPACT_STRINGS v_SIOOBE_FORMATTER h0 n0) 6 12 (s₁.setTop (mkF m 27 #[.val (.int n1), .val (.int n2), .val (.int n3), .val (.int n4), .val (.int (n1 &&& (3 : Int32))), .val (.int u1), .val (.int u2), .unset] [(.int u3)])) from J _ (own_ch255 n4)
  intro u3 hu3
  obtain ⟨hlu3, hnu3⟩ := hu3
  refine OWH.st (B := s₁.setTop (mkF m 29 #[.val (.int n1), .val (.int n2), .val (.int n3), .val (.int n4), .val (.int (n1 &&& (3 : Int32))), .val (.int u1), .val (.int u2), .val (.int u3)] [])) (fun _ kk_ => XS.istore X0.here hx rfl (hb hby d1_27) rfl (l' := #[.val (.int n1), .val (.int n2), .val (.int n3), .val (.int n4), .val (.int (n1 &&& (3 : Int32))), .val (.int u1), .val (.int u2), .val (.int u3)]) rfl kk_) ?_
  refine OWH.st (B := s₁.setTop (mkF m 31 #[.val (.int n1), .val (.int n2), .val (.int n3), .val (.int n4), .val (.int (n1 &&& (3 : Int32))), .val (.int u1), .val (.int u2), .val (.int u3)] [(.int (n1 &&& (3 : Int32)))])) (fun _ kk_ => XS.iload X0.here hx rfl (hb hby d1_29) rfl kk_) ?_
  by_cases hc58 : (n1 &&& (3 : Int32)) = (0 : Int32)
  · refine OWH.st (B := s₁.setTop (mkF m 34 #[.val (.int n1), .val (.int n2), .val (.int n3), .val (.int n4), .val (.int (n1 &&& (3 : Int32))), .val (.int u1), .val (.int u2), .val (.int u3)] [])) (fun _ kk_ => XS.ifNo X0.here hx rfl (hb hby d1_31) rfl ((if0 _ _).trans (teq hc58).2) kk_) ?_
    obtain ⟨T59, h59, X59, e59, E59, A59, D59, -, st59⟩ := newO X0 hx hZ hown (w_4 hw) (w_5 hw) (w_6 hw) e0 (g := (mkF m 34 #[.val (.int n1), .val (.int n2), .val (.int n3), .val (.int n4), .val (.int (n1 &&& (3 : Int32))), .val (.int u1), .val (.int u2), .val (.int u3)] [])) rfl (hb hby d1_34) (by decide) (by decide)
    obtain ⟨b59, g59⟩ : ∃ z, z = h0.size := ⟨_, rfl⟩
    rw [← g59] at A59 D59 st59
    have n_b59 : n0 ≤ b59 := Nat.le_trans (own_oldle O0) (Nat.le_of_eq g59.symm)
    have O59 : Old Z n0 h59 := O0.ext E59
    have sz_b59 : h0.size ≤ b59 := Nat.le_trans KC0.1 (Nat.le_of_eq g59.symm)
    have CS59 : CHr Z consts_1 s.vm h0 s.vm h59 := CHr.ext E59 CR0.1
    have CR59 := CHr.trans CR0 CS59
    have Sf59_b59 : Safe Z consts_1 s.vm h59 b59 := Safe.ext E59 CR0.1 (Safe.new (Nat.le_of_eq g59.symm))
    have KC59 : Keep h0 h59 [] := KC0.ext E59
    have F59_20 : Fld Z h59 b59 "java/lang/String" "value" "[B" .null := D59 (Or.inr (w_20 hw)) (ty := (.array .byte)) (by decide)
    have F59_21 : Fld Z h59 b59 "java/lang/String" "coder" "B" (.int (0 : Int32)) := D59 (Or.inr (w_21 hw)) (ty := .byte) (by decide)
    refine OWH.st (B := T59.setTop (mkF m 37 #[.val (.int n1), .val (.int n2), .val (.int n3), .val (.int n4), .val (.int (n1 &&& (3 : Int32))), .val (.int u1), .val (.int u2), .val (.int u3)] [(.ref b59)])) (st59) ?_
    refine OWH.st (B := T59.setTop (mkF m 38 #[.val (.int n1), .val (.int n2), .val (.int n3), .val (.int n4), .val (.int (n1 &&& (3 : Int32))), .val (.int u1), .val (.int u2), .val (.int u3)] [(.ref b59), (.ref b59)])) (fun _ kk_ => XS.dup X59.here hx rfl (hb hby d1_37) rfl rfl kk_) ?_
    refine OWH.st (B := T59.setTop (mkF m 39 #[.val (.int n1), .val (.int n2), .val (.int n3), .val (.int n4), .val (.int (n1 &&& (3 : Int32))), .val (.int u1), .val (.int u2), .val (.int u3)] [(.int (0 : Int32)), (.ref b59), (.ref b59)])) (fun _ kk_ => XS.iconst X59.here hx rfl (hb hby d1_38) kk_) ?_
    obtain ⟨T60, h60, k60, X60, e60, E60, A60, st60⟩ := newP (aty := .char) X59 hx hZ (w_7 hw) e59 (g := (mkF m 39 #[.val (.int n1), .val (.int n2), .val (.int n3), .val (.int n4), .val (.int (n1 &&& (3 : Int32))), .val (.int u1), .val (.int u2), .val (.int u3)] [(.int (0 : Int32)), (.ref b59), (.ref b59)])) rfl (hb hby d1_39) rfl (by decide) (cap := 0) (by decide +kernel) (by decide +kernel) (by decide +kernel) (by decide +kernel)
    obtain ⟨b60, g60⟩ : ∃ z, z = h59.size := ⟨_, rfl⟩
    rw [← g60] at A60 st60
    have n_b60 : n0 ≤ b60 := Nat.le_trans (own_oldle O59) (Nat.le_of_eq g60.symm)
    have O60 : Old Z n0 h60 := O59.ext E60
    have sz_b60 : h0.size ≤ b60 := Nat.le_trans KC59.1 (Nat.le_of_eq g60.symm)
    have CS60 : CHr Z consts_1 s.vm h59 s.vm h60 := CHr.ext E60 CR59.1
    have Sf60_b59 := CHr.safe CS60 A59.lt Sf59_b59
    have CR60 := CHr.trans CR59 CS60
    have Sf60_b60 : Safe Z consts_1 s.vm h60 b60 := Safe.ext E60 CR59.1 (Safe.new (Nat.le_of_eq g60.symm))
    have KC60 : Keep h0 h60 [] := KC59.ext E60
    have V60 : Arv Z h60 b60 k60 .char (0 : Int32) [] (.int (0 : Int32)) := (Arv.new A60 (by decide)).pad (pad_rep [] (.int (0 : Int32)) 0)
    refine OWH.st (B := T60.setTop (mkF m 41 #[.val (.int n1), .val (.int n2), .val (.int n3), .val (.int n4), .val (.int (n1 &&& (3 : Int32))), .val (.int u1), .val (.int u2), .val (.int u3)] [(.ref b60), (.ref b59), (.ref b59)])) (st60) ?_
    obtain ⟨_, _, ⟨T61, L61, k61, n61⟩, -, X61, hs61, hsz61, ⟨Lc61, hQ61, l61, y61, z61, CQ61⟩, st61⟩ := X60.specialBackS hx (y := (⟨"java/lang/String", "<init>", "([C)V"⟩ : MethodName)) rfl hown (mvT hZ (w_8 hw)) (mvT hZ (w_9 hw)) (mvT hZ (w_10 hw)) (by decide) (backOfSH (W := 1) (rmS0_0 l Z a0 hw [] b59 b60 k60 h60 n0 O60 (A59.ext E60) (F59_20.ext E60) (F59_21.ext E60) n_b59 V60) hZ (w_10 hw) (w_6 hw) (by decide) (by decide) (own_EW hw) CR60.1) (g := (mkF m 41 #[.val (.int n1), .val (.int n2), .val (.int n3), .val (.int n4), .val (.int (n1 &&& (3 : Int32))), .val (.int u1), .val (.int u2), .val (.int u3)] [(.ref b60), (.ref b59), (.ref b59)])) rfl (by rw [hml]; rfl) (Steps.refl _) (a := b59) (argsL := [(.ref b60)]) (rest := [(.ref b59)]) (lenOf pd_7 rfl) rfl (by show 2 * 0 + _ ≤ _; exact Nat.le_of_eq rfl) (hb hby d1_41) (fun _ _ => ⟨rfl, e60, (by decide : 2 + 4 ≤ _), (by decide : 4 + 8 ≤ _)⟩)
    dsimp only [Pt.U, Pt.locs, Pt.cells, Pt.slots] at hs61 hsz61
    have hS61 := foldS hS0 (show _ ≤ T60.heap.size by rw [e60]; exact (Nat.le_trans (Nat.le_trans hk0 E59.1) E60.1)) hs61 hsz61
    have hZ61 : Z.Warmed39 (s.setVm T61.vm).vm := State.Warmed39.trans (t := s) hZ hs61.1
    have hown61 : (s.setVm T61.vm).vm.findClass "tenorbook/cli/OptionFlagPinLaw" = some m.cls := by rw [show (s.setVm T61.vm).vm = T61.vm from rfl, hs61.1.alike.findClass]; exact hown
    dsimp only [Pt.U, Pt.locs, Pt.cells, Pt.slots] at X61 l61 y61 z61 st61 hQ61 CQ61
    subst l61 y61 z61
    obtain ⟨rfl, Nq61, K61, Es61, ba61, kb61, Fc61, Fv61, Vs61⟩ := hQ61
    have N61 := Fr.app N0 Nq61
    have O61 : Old Z n0 T61.heap := O60.keep K61 (allS n_b59 all0)
    have CS61 : CHr Z consts_1 s.vm h60 T61.vm T61.heap := CQ61
    have Sf61_b59 := CHr.safe CS61 (A59.ext E60).lt Sf60_b59
    have Sf61_b60 := CHr.safe CS61 V60.lt Sf60_b60
    have CR61 := CHr.trans CR60 CS61
    have KC61 : Keep h0 T61.heap [] := KC60.trans K61 (allS (Or.inr sz_b59) all0)
    have hk61 : T61.heap.size ≤ T61.heap.size := Nat.le_of_eq (by rfl)
    refine OWH.tr (B := T61.setTop (mkF m 44 #[.val (.int n1), .val (.int n2), .val (.int n3), .val (.int n4), .val (.int (n1 &&& (3 : Int32))), .val (.int u1), .val (.int u2), .val (.int u3)] [(.ref b59)])) (st61) ?_
    exact OWH.ret X61 (s := s) (vm0 := T61.vm) hS61 hk61 hx hlk CR61 hZ61 (own_EW hw) (i := .areturn) Bd.returns rfl (Or.inr (Or.inr (Or.inr (Or.inr ⟨rfl, rfl, rfl⟩)))) (hb hby d1_44) rfl (by decide) (by decide) ⟨b59, rfl, N61, KC61, n_b59, ((A59.ext E60).keep K61)⟩
  · refine OWH.st (B := s₁.setTop (mkF m 45 #[.val (.int n1), .val (.int n2), .val (.int n3), .val (.int n4), .val (.int (n1 &&& (3 : Int32))), .val (.int u1), .val (.int u2), .val (.int u3)] [])) (fun _ kk_ => XS.ifYes X0.here hx rfl (pc0 := 31) (pc' := 45) rfl (hb hby d1_31) rfl ((if0 _ _).trans (feq hc58).2) (by decide) (by decide) kk_) ?_
    refine OWH.st (B := s₁.setTop (mkF m 47 #[.val (.int n1), .val (.int n2), .val (.int n3), .val (.int n4), .val (.int (n1 &&& (3 : Int32))), .val (.int u1), .val (.int u2), .val (.int u3)] [(.int (n1 &&& (3 : Int32)))])) (fun _ kk_ => XS.iload X0.here hx rfl (hb hby d1_45) rfl kk_) ?_
    refine OWH.st (B := s₁.setTop (mkF m 48 #[.val (.int n1), .val (.int n2), .val (.int n3), .val (.int n4), .val (.int (n1 &&& (3 : Int32))), .val (.int u1), .val (.int u2), .val (.int u3)] [(.int (1 : Int32)), (.int (n1 &&& (3 : Int32)))])) (fun _ kk_ => XS.iconst X0.here hx rfl (hb hby d1_47) kk_) ?_
    by_cases hc62 : (n1 &&& (3 : Int32)) = (1 : Int32)
    · refine OWH.st (B := s₁.setTop (mkF m 51 #[.val (.int n1), .val (.int n2), .val (.int n3), .val (.int n4), .val (.int (n1 &&& (3 : Int32))), .val (.int u1), .val (.int u2), .val (.int u3)] [])) (fun _ kk_ => XS.icmpNo X0.here hx rfl (hb hby d1_48) rfl (teq hc62).2 kk_) ?_
      refine OWH.st (B := s₁.setTop (mkF m 53 #[.val (.int n1), .val (.int n2), .val (.int n3), .val (.int n4), .val (.int (n1 &&& (3 : Int32))), .val (.int u1), .val (.int u2), .val (.int u3)] [(.int u1)])) (fun _ kk_ => XS.iload X0.here hx rfl (hb hby d1_51) rfl kk_) ?_
      obtain ⟨_, _, ⟨T63, L63, k63, n63⟩, -, X63, ⟨Lc63, hQ63, l63, y63, z63⟩, st63⟩ := Jvm.LawKit.callS X0 hx (y := (⟨"java/lang/String", "valueOf", "(C)Ljava/lang/String;"⟩ : MethodName)) hown (mvT hZ (w_90 hw)) (mvT hZ (w_91 hw)) (mvT hZ (w_6 hw)) (mvT hZ (w_92 hw)) (by decide) (backOf (W := 0) (rmVO l Z a0 hw [] u1 i_COMPACT_STRINGS v_SIOOBE_FORMATTER h0 n0 O0 hS hlu1) hZ (w_92 hw) (w_6 hw) (by decide) (by decide)) (g := (mkF m 53 #[.val (.int n1), .val (.int n2), .val (.int n3), .val (.int n4), .val (.int (n1 &&& (3 : Int32))), .val (.int u1), .val (.int u2), .val (.int u3)] [(.int u1)])) rfl (by rw [hml]; rfl) (argsL := [(.int u1)]) (rest := []) (lenOf pd_8 rfl) rfl (by show 2 * 0 + _ ≤ _; exact Nat.le_of_eq rfl) (hb hby d1_53) (fun _ _ => ⟨rfl, e0, (by decide : 0 + 2 ≤ _), (by decide : 0 + 5 ≤ _)⟩)
      dsimp only [Pt.U, Pt.locs, Pt.cells, Pt.slots] at X63 l63 y63 z63 st63 hQ63
      subst l63 y63 z63
      obtain ⟨b63, ba63, kb63, rfl, Nq63, K63, gb63, zb63, Es63, Fv63, Fc63, Vs63⟩ := hQ63
      have N63 := Fr.app N0 Nq63
      have O63 : Old Z n0 T63.heap := O0.keep K63 all0
      have CS63 : CHr Z consts_1 s.vm h0 s.vm T63.heap := CHr.keep K63 all0 CR0.1
      have CR63 := CHr.trans CR0 CS63
      have KC63 : Keep h0 T63.heap [] := KC0.trans K63 all0
      have Sf63_b63 : Safe Z consts_1 s.vm T63.heap b63 := Safe.keep K63 all0 CR0.1 (Safe.new zb63)
      refine OWH.st (B := T63.setTop (mkF m 56 #[.val (.int n1), .val (.int n2), .val (.int n3), .val (.int n4), .val (.int (n1 &&& (3 : Int32))), .val (.int u1), .val (.int u2), .val (.int u3)] [(.ref b63)])) (st63) ?_
      exact OWH.ret X63 (s := s) (vm0 := s.vm) hS0 (Nat.le_trans hk0 K63.1) hx hlk CR63 hZ (own_EW hw) (i := .areturn) Bd.returns rfl (Or.inr (Or.inr (Or.inr (Or.inr ⟨rfl, rfl, rfl⟩)))) (hb hby d1_56) rfl (by decide) (by decide) ⟨b63, rfl, N63, KC63, gb63, Es63⟩
    · refine OWH.st (B := s₁.setTop (mkF m 57 #[.val (.int n1), .val (.int n2), .val (.int n3), .val (.int n4), .val (.int (n1 &&& (3 : Int32))), .val (.int u1), .val (.int u2), .val (.int u3)] [])) (fun _ kk_ => XS.icmpYes X0.here hx rfl (pc0 := 48) (pc' := 57) rfl (hb hby d1_48) rfl (feq hc62).2 (by decide) (by decide) kk_) ?_
      refine OWH.st (B := s₁.setTop (mkF m 59 #[.val (.int n1), .val (.int n2), .val (.int n3), .val (.int n4), .val (.int (n1 &&& (3 : Int32))), .val (.int u1), .val (.int u2), .val (.int u3)] [(.int (n1 &&& (3 : Int32)))])) (fun _ kk_ => XS.iload X0.here hx rfl (hb hby d1_57) rfl kk_) ?_
      refine OWH.st (B := s₁.setTop (mkF m 60 #[.val (.int n1), .val (.int n2), .val (.int n3), .val (.int n4), .val (.int (n1 &&& (3 : Int32))), .val (.int u1), .val (.int u2), .val (.int u3)] [(.int (2 : Int32)), (.int (n1 &&& (3 : Int32)))])) (fun _ kk_ => XS.iconst X0.here hx rfl (hb hby d1_59) kk_) ?_
      by_cases hc64 : (n1 &&& (3 : Int32)) = (2 : Int32)
      · refine OWH.st (B := s₁.setTop (mkF m 63 #[.val (.int n1), .val (.int n2), .val (.int n3), .val (.int n4), .val (.int (n1 &&& (3 : Int32))), .val (.int u1), .val (.int u2), .val (.int u3)] [])) (fun _ kk_ => XS.icmpNo X0.here hx rfl (hb hby d1_60) rfl (teq hc64).2 kk_) ?_
        obtain ⟨T65, h65, X65, e65, E65, A65, D65, -, st65⟩ := newO X0 hx hZ hown (w_4 hw) (w_5 hw) (w_6 hw) e0 (g := (mkF m 63 #[.val (.int n1), .val (.int n2), .val (.int n3), .val (.int n4), .val (.int (n1 &&& (3 : Int32))), .val (.int u1), .val (.int u2), .val (.int u3)] [])) rfl (hb hby d1_63) (by decide) (by decide)
        obtain ⟨b65, g65⟩ : ∃ z, z = h0.size := ⟨_, rfl⟩
        rw [← g65] at A65 D65 st65
        have n_b65 : n0 ≤ b65 := Nat.le_trans (own_oldle O0) (Nat.le_of_eq g65.symm)
        have O65 : Old Z n0 h65 := O0.ext E65
        have sz_b65 : h0.size ≤ b65 := Nat.le_trans KC0.1 (Nat.le_of_eq g65.symm)
        have CS65 : CHr Z consts_1 s.vm h0 s.vm h65 := CHr.ext E65 CR0.1
        have CR65 := CHr.trans CR0 CS65
        have Sf65_b65 : Safe Z consts_1 s.vm h65 b65 := Safe.ext E65 CR0.1 (Safe.new (Nat.le_of_eq g65.symm))
        have KC65 : Keep h0 h65 [] := KC0.ext E65
        have F65_20 : Fld Z h65 b65 "java/lang/String" "value" "[B" .null := D65 (Or.inr (w_20 hw)) (ty := (.array .byte)) (by decide)
        have F65_21 : Fld Z h65 b65 "java/lang/String" "coder" "B" (.int (0 : Int32)) := D65 (Or.inr (w_21 hw)) (ty := .byte) (by decide)
        refine OWH.st (B := T65.setTop (mkF m 66 #[.val (.int n1), .val (.int n2), .val (.int n3), .val (.int n4), .val (.int (n1 &&& (3 : Int32))), .val (.int u1), .val (.int u2), .val (.int u3)] [(.ref b65)])) (st65) ?_
        refine OWH.st (B := T65.setTop (mkF m 67 #[.val (.int n1), .val (.int n2), .val (.int n3), .val (.int n4), .val (.int (n1 &&& (3 : Int32))), .val (.int u1), .val (.int u2), .val (.int u3)] [(.ref b65), (.ref b65)])) (fun _ kk_ => XS.dup X65.here hx rfl (hb hby d1_66) rfl rfl kk_) ?_
        refine OWH.st (B := T65.setTop (mkF m 68 #[.val (.int n1), .val (.int n2), .val (.int n3), .val (.int n4), .val (.int (n1 &&& (3 : Int32))), .val (.int u1), .val (.int u2), .val (.int u3)] [(.int (2 : Int32)), (.ref b65), (.ref b65)])) (fun _ kk_ => XS.iconst X65.here hx rfl (hb hby d1_67) kk_) ?_
        obtain ⟨T66, h66, k66, X66, e66, E66, A66, st66⟩ := newP (aty := .char) X65 hx hZ (w_7 hw) e65 (g := (mkF m 68 #[.val (.int n1), .val (.int n2), .val (.int n3), .val (.int n4), .val (.int (n1 &&& (3 : Int32))), .val (.int u1), .val (.int u2), .val (.int u3)] [(.int (2 : Int32)), (.ref b65), (.ref b65)])) rfl (hb hby d1_68) rfl (by decide) (cap := 2) (by decide +kernel) (by decide +kernel) (by decide +kernel) (by decide +kernel)
        obtain ⟨b66, g66⟩ : ∃ z, z = h65.size := ⟨_, rfl⟩
        rw [← g66] at A66 st66
        have n_b66 : n0 ≤ b66 := Nat.le_trans (own_oldle O65) (Nat.le_of_eq g66.symm)
        have O66 : Old Z n0 h66 := O65.ext E66
        have sz_b66 : h0.size ≤ b66 := Nat.le_trans KC65.1 (Nat.le_of_eq g66.symm)
        have CS66 : CHr Z consts_1 s.vm h65 s.vm h66 := CHr.ext E66 CR65.1
        have Sf66_b65 := CHr.safe CS66 A65.lt Sf65_b65
        have CR66 := CHr.trans CR65 CS66
        have Sf66_b66 : Safe Z consts_1 s.vm h66 b66 := Safe.ext E66 CR65.1 (Safe.new (Nat.le_of_eq g66.symm))
        have KC66 : Keep h0 h66 [] := KC65.ext E66
        have V66 : Arv Z h66 b66 k66 .char (2 : Int32) [(.int (0 : Int32)), (.int (0 : Int32))] (.int (0 : Int32)) := (Arv.new A66 (by decide)).pad (pad_rep [] (.int (0 : Int32)) 2)
        refine OWH.st (B := T66.setTop (mkF m 70 #[.val (.int n1), .val (.int n2), .val (.int n3), .val (.int n4), .val (.int (n1 &&& (3 : Int32))), .val (.int u1), .val (.int u2), .val (.int u3)] [(.ref b66), (.ref b65), (.ref b65)])) (st66) ?_
        refine OWH.st (B := T66.setTop (mkF m 71 #[.val (.int n1), .val (.int n2), .val (.int n3), .val (.int n4), .val (.int (n1 &&& (3 : Int32))), .val (.int u1), .val (.int u2), .val (.int u3)] [(.ref b66), (.ref b66), (.ref b65), (.ref b65)])) (fun _ kk_ => XS.dup X66.here hx rfl (hb hby d1_70) rfl rfl kk_) ?_
        refine OWH.st (B := T66.setTop (mkF m 72 #[.val (.int n1), .val (.int n2), .val (.int n3), .val (.int n4), .val (.int (n1 &&& (3 : Int32))), .val (.int u1), .val (.int u2), .val (.int u3)] [(.int (0 : Int32)), (.ref b66), (.ref b66), (.ref b65), (.ref b65)])) (fun _ kk_ => XS.iconst X66.here hx rfl (hb hby d1_71) kk_) ?_
        refine OWH.st (B := T66.setTop (mkF m 74 #[.val (.int n1), .val (.int n2), .val (.int n3), .val (.int n4), .val (.int (n1 &&& (3 : Int32))), .val (.int u1), .val (.int u2), .val (.int u3)] [(.int u1), (.int (0 : Int32)), (.ref b66), (.ref b66), (.ref b65), (.ref b65)])) (fun _ kk_ => XS.iload X66.here hx rfl (hb hby d1_72) rfl kk_) ?_
        obtain ⟨cl67, Ar67, q67, S67, Ng67, Hs67, G67⟩ := id V66
        have hin67 : ¬ ((0 : Int32) < 0 ∨ cl67.slots.size ≤ ((0 : Int32)).toNatClampNeg) := inb_of S67 ⟨by decide, by decide⟩
        obtain ⟨T68, h68, X68, e68, W68, st68⟩ := stC X66 hx hZ e66 Ar67 (j := (0 : Int32)) hin67 (g := (mkF m 74 #[.val (.int n1), .val (.int n2), .val (.int n3), .val (.int n4), .val (.int (n1 &&& (3 : Int32))), .val (.int u1), .val (.int u2), .val (.int u3)] [(.int u1), (.int (0 : Int32)), (.ref b66), (.ref b66), (.ref b65), (.ref b65)])) rfl rfl (hb hby d1_74)
        rw [hnu1] at W68
        have N68 := Fr.snoc X68 N0 n_b66
        have O68 : Old Z n0 h68 := O66.wr W68 n_b66
        have CS68 : CHr Z consts_1 s.vm h66 s.vm h68 := CHr.wr W68 (Safe.arv hZ.alike V66 (by decide)) CR66.1
        have Sf68_b65 := CHr.safe CS68 (A65.ext E66).lt Sf66_b65
        have Sf68_b66 := CHr.safe CS68 V66.lt Sf66_b66
        have CR68 := CHr.trans CR66 CS68
        have KC68 : Keep h0 h68 [] := KC66.wr W68 (Or.inr sz_b66)
        have V68 : Arv Z h68 b66 k66 .char (2 : Int32) [(.int u1), (.int (0 : Int32))] (.int (0 : Int32)) := Arv.set Ar67 q67 S67 Ng67 Hs67 G67 (hnu1 ▸ (fits_nar_char _)) W68 0 rfl (Nat.le_of_ble_eq_true rfl)
        refine OWH.st (B := T68.setTop (mkF m 75 #[.val (.int n1), .val (.int n2), .val (.int n3), .val (.int n4), .val (.int (n1 &&& (3 : Int32))), .val (.int u1), .val (.int u2), .val (.int u3)] [(.ref b66), (.ref b65), (.ref b65)])) (st68) ?_
        refine OWH.st (B := T68.setTop (mkF m 76 #[.val (.int n1), .val (.int n2), .val (.int n3), .val (.int n4), .val (.int (n1 &&& (3 : Int32))), .val (.int u1), .val (.int u2), .val (.int u3)] [(.ref b66), (.ref b66), (.ref b65), (.ref b65)])) (fun _ kk_ => XS.dup X68.here hx rfl (hb hby d1_75) rfl rfl kk_) ?_
        refine OWH.st (B := T68.setTop (mkF m 77 #[.val (.int n1), .val (.int n2), .val (.int n3), .val (.int n4), .val (.int (n1 &&& (3 : Int32))), .val (.int u1), .val (.int u2), .val (.int u3)] [(.int (1 : Int32)), (.ref b66), (.ref b66), (.ref b65), (.ref b65)])) (fun _ kk_ => XS.iconst X68.here hx rfl (hb hby d1_76) kk_) ?_
        refine OWH.st (B := T68.setTop (mkF m 79 #[.val (.int n1), .val (.int n2), .val (.int n3), .val (.int n4), .val (.int (n1 &&& (3 : Int32))), .val (.int u1), .val (.int u2), .val (.int u3)] [(.int u2), (.int (1 : Int32)), (.ref b66), (.ref b66), (.ref b65), (.ref b65)])) (fun _ kk_ => XS.iload X68.here hx rfl (hb hby d1_77) rfl kk_) ?_
        obtain ⟨cl69, Ar69, q69, S69, Ng69, Hs69, G69⟩ := id V68
        have hin69 : ¬ ((1 : Int32) < 0 ∨ cl69.slots.size ≤ ((1 : Int32)).toNatClampNeg) := inb_of S69 ⟨by decide, by decide⟩
        obtain ⟨T70, h70, X70, e70, W70, st70⟩ := stC X68 hx hZ e68 Ar69 (j := (1 : Int32)) hin69 (g := (mkF m 79 #[.val (.int n1), .val (.int n2), .val (.int n3), .val (.int n4), .val (.int (n1 &&& (3 : Int32))), .val (.int u1), .val (.int u2), .val (.int u3)] [(.int u2), (.int (1 : Int32)), (.ref b66), (.ref b66), (.ref b65), (.ref b65)])) rfl rfl (hb hby d1_79)
        rw [hnu2] at W70
        have N70 := Fr.snoc X70 N68 n_b66
        have O70 : Old Z n0 h70 := O68.wr W70 n_b66
        have CS70 : CHr Z consts_1 s.vm h68 s.vm h70 := CHr.wr W70 (Safe.arv hZ.alike V68 (by decide)) CR68.1
        have Sf70_b65 := CHr.safe CS70 ((A65.ext E66).wr W68).lt Sf68_b65
        have Sf70_b66 := CHr.safe CS70 V68.lt Sf68_b66
        have CR70 := CHr.trans CR68 CS70
        have KC70 : Keep h0 h70 [] := KC68.wr W70 (Or.inr sz_b66)
        have V70 : Arv Z h70 b66 k66 .char (2 : Int32) [(.int u1), (.int u2)] (.int (0 : Int32)) := Arv.set Ar69 q69 S69 Ng69 Hs69 G69 (hnu2 ▸ (fits_nar_char _)) W70 1 rfl (Nat.le_of_ble_eq_true rfl)
        refine OWH.st (B := T70.setTop (mkF m 80 #[.val (.int n1), .val (.int n2), .val (.int n3), .val (.int n4), .val (.int (n1 &&& (3 : Int32))), .val (.int u1), .val (.int u2), .val (.int u3)] [(.ref b66), (.ref b65), (.ref b65)])) (st70) ?_
        obtain ⟨_, _, ⟨T71, L71, k71, n71⟩, -, X71, ⟨Lc71, hQ71, l71, y71, z71⟩, st71⟩ := X70.specialBack hx (y := (⟨"java/lang/String", "<init>", "([C)V"⟩ : MethodName)) rfl hown (mvT hZ (w_8 hw)) (mvT hZ (w_9 hw)) (mvT hZ (w_10 hw)) (by decide) (backOf (W := 1) (rmS0_2 l Z a0 hw [] b65 b66 k66 u1 u2 i_COMPACT_STRINGS v_SIOOBE_FORMATTER h70 n0 O70 (((A65.ext E66).wr W68).wr W70) (((F65_20.ext E66).other W68 (Or.inl (Nat.ne_of_lt (Nat.lt_of_lt_of_le A65.lt (Nat.le_of_eq g66.symm))))).other W70 (Or.inl (Nat.ne_of_lt (Nat.lt_of_lt_of_le A65.lt (Nat.le_of_eq g66.symm))))) (((F65_21.ext E66).other W68 (Or.inl (Nat.ne_of_lt (Nat.lt_of_lt_of_le A65.lt (Nat.le_of_eq g66.symm))))).other W70 (Or.inl (Nat.ne_of_lt (Nat.lt_of_lt_of_le A65.lt (Nat.le_of_eq g66.symm))))) n_b65 V70 hS hlu1 hlu2) hZ (w_10 hw) (w_6 hw) (by decide) (by decide)) (g := (mkF m 80 #[.val (.int n1), .val (.int n2), .val (.int n3), .val (.int n4), .val (.int (n1 &&& (3 : Int32))), .val (.int u1), .val (.int u2), .val (.int u3)] [(.ref b66), (.ref b65), (.ref b65)])) rfl (by rw [hml]; rfl) (Steps.refl _) (a := b65) (argsL := [(.ref b66)]) (rest := [(.ref b65)]) (lenOf pd_7 rfl) rfl (by show 2 * 0 + _ ≤ _; exact Nat.le_of_eq rfl) (hb hby d1_80) (fun _ _ => ⟨rfl, e70, (by decide : 2 + 1 ≤ _), (by decide : 6 + 2 ≤ _)⟩)
        dsimp only [Pt.U, Pt.locs, Pt.cells, Pt.slots] at X71 l71 y71 z71 st71 hQ71
        subst l71 y71 z71
        obtain ⟨rfl, Nq71, K71, Es71, ba71, kb71, gba71, nba71, Fc71, Fv71, Vs71⟩ := hQ71
        have N71 := Fr.app N70 Nq71
        have O71 : Old Z n0 T71.heap := O70.keep K71 (allS n_b65 all0)
        have CS71 : CHr Z consts_1 s.vm h70 s.vm T71.heap := CHr.keep K71 (allS Sf70_b65 all0) CR70.1
        have Sf71_b65 := CHr.safe CS71 (((A65.ext E66).wr W68).wr W70).lt Sf70_b65
        have Sf71_b66 := CHr.safe CS71 V70.lt Sf70_b66
        have CR71 := CHr.trans CR70 CS71
        have KC71 : Keep h0 T71.heap [] := KC70.trans K71 (allS (Or.inr sz_b65) all0)
        refine OWH.tr (B := T71.setTop (mkF m 83 #[.val (.int n1), .val (.int n2), .val (.int n3), .val (.int n4), .val (.int (n1 &&& (3 : Int32))), .val (.int u1), .val (.int u2), .val (.int u3)] [(.ref b65)])) (st71) ?_
        exact OWH.ret X71 (s := s) (vm0 := s.vm) hS0 (Nat.le_trans (Nat.le_trans (Nat.le_trans (Nat.le_trans (Nat.le_trans hk0 E65.1) E66.1) (Keep.of_wr W68).1) (Keep.of_wr W70).1) K71.1) hx hlk CR71 hZ (own_EW hw) (i := .areturn) Bd.returns rfl (Or.inr (Or.inr (Or.inr (Or.inr ⟨rfl, rfl, rfl⟩)))) (hb hby d1_83) rfl (by decide) (by decide) ⟨b65, rfl, N71, KC71, n_b65, ((((A65.ext E66).wr W68).wr W70).keep K71)⟩
      · refine OWH.st (B := s₁.setTop (mkF m 84 #[.val (.int n1), .val (.int n2), .val (.int n3), .val (.int n4), .val (.int (n1 &&& (3 : Int32))), .val (.int u1), .val (.int u2), .val (.int u3)] [])) (fun _ kk_ => XS.icmpYes X0.here hx rfl (pc0 := 60) (pc' := 84) rfl (hb hby d1_60) rfl (feq hc64).2 (by decide) (by decide) kk_) ?_
        obtain ⟨T72, h72, X72, e72, E72, A72, D72, -, st72⟩ := newO X0 hx hZ hown (w_4 hw) (w_5 hw) (w_6 hw) e0 (g := (mkF m 84 #[.val (.int n1), .val (.int n2), .val (.int n3), .val (.int n4), .val (.int (n1 &&& (3 : Int32))), .val (.int u1), .val (.int u2), .val (.int u3)] [])) rfl (hb hby d1_84) (by decide) (by decide)
        obtain ⟨b72, g72⟩ : ∃ z, z = h0.size := ⟨_, rfl⟩
        rw [← g72] at A72 D72 st72
        have n_b72 : n0 ≤ b72 := Nat.le_trans (own_oldle O0) (Nat.le_of_eq g72.symm)
        have O72 : Old Z n0 h72 := O0.ext E72
        have sz_b72 : h0.size ≤ b72 := Nat.le_trans KC0.1 (Nat.le_of_eq g72.symm)
        have CS72 : CHr Z consts_1 s.vm h0 s.vm h72 := CHr.ext E72 CR0.1
        have CR72 := CHr.trans CR0 CS72
        have Sf72_b72 : Safe Z consts_1 s.vm h72 b72 := Safe.ext E72 CR0.1 (Safe.new (Nat.le_of_eq g72.symm))
        have KC72 : Keep h0 h72 [] := KC0.ext E72
        have F72_20 : Fld Z h72 b72 "java/lang/String" "value" "[B" .null := D72 (Or.inr (w_20 hw)) (ty := (.array .byte)) (by decide)
        have F72_21 : Fld Z h72 b72 "java/lang/String" "coder" "B" (.int (0 : Int32)) := D72 (Or.inr (w_21 hw)) (ty := .byte) (by decide)
        refine OWH.st (B := T72.setTop (mkF m 87 #[.val (.int n1), .val (.int n2), .val (.int n3), .val (.int n4), .val (.int (n1 &&& (3 : Int32))), .val (.int u1), .val (.int u2), .val (.int u3)] [(.ref b72)])) (st72) ?_
        refine OWH.st (B := T72.setTop (mkF m 88 #[.val (.int n1), .val (.int n2), .val (.int n3), .val (.int n4), .val (.int (n1 &&& (3 : Int32))), .val (.int u1), .val (.int u2), .val (.int u3)] [(.ref b72), (.ref b72)])) (fun _ kk_ => XS.dup X72.here hx rfl (hb hby d1_87) rfl rfl kk_) ?_
        refine OWH.st (B := T72.setTop (mkF m 89 #[.val (.int n1), .val (.int n2), .val (.int n3), .val (.int n4), .val (.int (n1 &&& (3 : Int32))), .val (.int u1), .val (.int u2), .val (.int u3)] [(.int (3 : Int32)), (.ref b72), (.ref b72)])) (fun _ kk_ => XS.iconst X72.here hx rfl (hb hby d1_88) kk_) ?_
        obtain ⟨T73, h73, k73, X73, e73, E73, A73, st73⟩ := newP (aty := .char) X72 hx hZ (w_7 hw) e72 (g := (mkF m 89 #[.val (.int n1), .val (.int n2), .val (.int n3), .val (.int n4), .val (.int (n1 &&& (3 : Int32))), .val (.int u1), .val (.int u2), .val (.int u3)] [(.int (3 : Int32)), (.ref b72), (.ref b72)])) rfl (hb hby d1_89) rfl (by decide) (cap := 3) (by decide +kernel) (by decide +kernel) (by decide +kernel) (by decide +kernel)
        obtain ⟨b73, g73⟩ : ∃ z, z = h72.size := ⟨_, rfl⟩
        rw [← g73] at A73 st73
        have n_b73 : n0 ≤ b73 := Nat.le_trans (own_oldle O72) (Nat.le_of_eq g73.symm)
        have O73 : Old Z n0 h73 := O72.ext E73
        have sz_b73 : h0.size ≤ b73 := Nat.le_trans KC72.1 (Nat.le_of_eq g73.symm)
        have CS73 : CHr Z consts_1 s.vm h72 s.vm h73 := CHr.ext E73 CR72.1
        have Sf73_b72 := CHr.safe CS73 A72.lt Sf72_b72
        have CR73 := CHr.trans CR72 CS73
        have Sf73_b73 : Safe Z consts_1 s.vm h73 b73 := Safe.ext E73 CR72.1 (Safe.new (Nat.le_of_eq g73.symm))
        have KC73 : Keep h0 h73 [] := KC72.ext E73
        have V73 : Arv Z h73 b73 k73 .char (3 : Int32) [(.int (0 : Int32)), (.int (0 : Int32)), (.int (0 : Int32))] (.int (0 : Int32)) := (Arv.new A73 (by decide)).pad (pad_rep [] (.int (0 : Int32)) 3)
        refine OWH.st (B := T73.setTop (mkF m 91 #[.val (.int n1), .val (.int n2), .val (.int n3), .val (.int n4), .val (.int (n1 &&& (3 : Int32))), .val (.int u1), .val (.int u2), .val (.int u3)] [(.ref b73), (.ref b72), (.ref b72)])) (st73) ?_
        refine OWH.st (B := T73.setTop (mkF m 92 #[.val (.int n1), .val (.int n2), .val (.int n3), .val (.int n4), .val (.int (n1 &&& (3 : Int32))), .val (.int u1), .val (.int u2), .val (.int u3)] [(.ref b73), (.ref b73), (.ref b72), (.ref b72)])) (fun _ kk_ => XS.dup X73.here hx rfl (hb hby d1_91) rfl rfl kk_) ?_
        refine OWH.st (B := T73.setTop (mkF m 93 #[.val (.int n1), .val (.int n2), .val (.int n3), .val (.int n4), .val (.int (n1 &&& (3 : Int32))), .val (.int u1), .val (.int u2), .val (.int u3)] [(.int (0 : Int32)), (.ref b73), (.ref b73), (.ref b72), (.ref b72)])) (fun _ kk_ => XS.iconst X73.here hx rfl (hb hby d1_92) kk_) ?_
        refine OWH.st (B := T73.setTop (mkF m 95 #[.val (.int n1), .val (.int n2), .val (.int n3), .val (.int n4), .val (.int (n1 &&& (3 : Int32))), .val (.int u1), .val (.int u2), .val (.int u3)] [(.int u1), (.int (0 : Int32)), (.ref b73), (.ref b73), (.ref b72), (.ref b72)])) (fun _ kk_ => XS.iload X73.here hx rfl (hb hby d1_93) rfl kk_) ?_
        obtain ⟨cl74, Ar74, q74, S74, Ng74, Hs74, G74⟩ := id V73
        have hin74 : ¬ ((0 : Int32) < 0 ∨ cl74.slots.size ≤ ((0 : Int32)).toNatClampNeg) := inb_of S74 ⟨by decide, by decide⟩
        obtain ⟨T75, h75, X75, e75, W75, st75⟩ := stC X73 hx hZ e73 Ar74 (j := (0 : Int32)) hin74 (g := (mkF m 95 #[.val (.int n1), .val (.int n2), .val (.int n3), .val (.int n4), .val (.int (n1 &&& (3 : Int32))), .val (.int u1), .val (.int u2), .val (.int u3)] [(.int u1), (.int (0 : Int32)), (.ref b73), (.ref b73), (.ref b72), (.ref b72)])) rfl rfl (hb hby d1_95)
        rw [hnu1] at W75
        have N75 := Fr.snoc X75 N0 n_b73
        have O75 : Old Z n0 h75 := O73.wr W75 n_b73
        have CS75 : CHr Z consts_1 s.vm h73 s.vm h75 := CHr.wr W75 (Safe.arv hZ.alike V73 (by decide)) CR73.1
        have Sf75_b72 := CHr.safe CS75 (A72.ext E73).lt Sf73_b72
        have Sf75_b73 := CHr.safe CS75 V73.lt Sf73_b73
        have CR75 := CHr.trans CR73 CS75
        have KC75 : Keep h0 h75 [] := KC73.wr W75 (Or.inr sz_b73)
        have V75 : Arv Z h75 b73 k73 .char (3 : Int32) [(.int u1), (.int (0 : Int32)), (.int (0 : Int32))] (.int (0 : Int32)) := Arv.set Ar74 q74 S74 Ng74 Hs74 G74 (hnu1 ▸ (fits_nar_char _)) W75 0 rfl (Nat.le_of_ble_eq_true rfl)
        refine OWH.st (B := T75.setTop (mkF m 96 #[.val (.int n1), .val (.int n2), .val (.int n3), .val (.int n4), .val (.int (n1 &&& (3 : Int32))), .val (.int u1), .val (.int u2), .val (.int u3)] [(.ref b73), (.ref b72), (.ref b72)])) (st75) ?_
        refine OWH.st (B := T75.setTop (mkF m 97 #[.val (.int n1), .val (.int n2), .val (.int n3), .val (.int n4), .val (.int (n1 &&& (3 : Int32))), .val (.int u1), .val (.int u2), .val (.int u3)] [(.ref b73), (.ref b73), (.ref b72), (.ref b72)])) (fun _ kk_ => XS.dup X75.here hx rfl (hb hby d1_96) rfl rfl kk_) ?_
        refine OWH.st (B := T75.setTop (mkF m 98 #[.val (.int n1), .val (.int n2), .val (.int n3), .val (.int n4), .val (.int (n1 &&& (3 : Int32))), .val (.int u1), .val (.int u2), .val (.int u3)] [(.int (1 : Int32)), (.ref b73), (.ref b73), (.ref b72), (.ref b72)])) (fun _ kk_ => XS.iconst X75.here hx rfl (hb hby d1_97) kk_) ?_
        refine OWH.st (B := T75.setTop (mkF m 100 #[.val (.int n1), .val (.int n2), .val (.int n3), .val (.int n4), .val (.int (n1 &&& (3 : Int32))), .val (.int u1), .val (.int u2), .val (.int u3)] [(.int u2), (.int (1 : Int32)), (.ref b73), (.ref b73), (.ref b72), (.ref b72)])) (fun _ kk_ => XS.iload X75.here hx rfl (hb hby d1_98) rfl kk_) ?_
        obtain ⟨cl76, Ar76, q76, S76, Ng76, Hs76, G76⟩ := id V75
        have hin76 : ¬ ((1 : Int32) < 0 ∨ cl76.slots.size ≤ ((1 : Int32)).toNatClampNeg) := inb_of S76 ⟨by decide, by decide⟩
        obtain ⟨T77, h77, X77, e77, W77, st77⟩ := stC X75 hx hZ e75 Ar76 (j := (1 : Int32)) hin76 (g := (mkF m 100 #[.val (.int n1), .val (.int n2), .val (.int n3), .val (.int n4), .val (.int (n1 &&& (3 : Int32))), .val (.int u1), .val (.int u2), .val (.int u3)] [(.int u2), (.int (1 : Int32)), (.ref b73), (.ref b73), (.ref b72), (.ref b72)])) rfl rfl (hb hby d1_100)
        rw [hnu2] at W77
        have N77 := Fr.snoc X77 N75 n_b73
        have O77 : Old Z n0 h77 := O75.wr W77 n_b73
        have CS77 : CHr Z consts_1 s.vm h75 s.vm h77 := CHr.wr W77 (Safe.arv hZ.alike V75 (by decide)) CR75.1
        have Sf77_b72 := CHr.safe CS77 ((A72.ext E73).wr W75).lt Sf75_b72
        have Sf77_b73 := CHr.safe CS77 V75.lt Sf75_b73
        have CR77 := CHr.trans CR75 CS77
        have KC77 : Keep h0 h77 [] := KC75.wr W77 (Or.inr sz_b73)
        have V77 : Arv Z h77 b73 k73 .char (3 : Int32) [(.int u1), (.int u2), (.int (0 : Int32))] (.int (0 : Int32)) := Arv.set Ar76 q76 S76 Ng76 Hs76 G76 (hnu2 ▸ (fits_nar_char _)) W77 1 rfl (Nat.le_of_ble_eq_true rfl)
        refine OWH.st (B := T77.setTop (mkF m 101 #[.val (.int n1), .val (.int n2), .val (.int n3), .val (.int n4), .val (.int (n1 &&& (3 : Int32))), .val (.int u1), .val (.int u2), .val (.int u3)] [(.ref b73), (.ref b72), (.ref b72)])) (st77) ?_
        refine OWH.st (B := T77.setTop (mkF m 102 #[.val (.int n1), .val (.int n2), .val (.int n3), .val (.int n4), .val (.int (n1 &&& (3 : Int32))), .val (.int u1), .val (.int u2), .val (.int u3)] [(.ref b73), (.ref b73), (.ref b72), (.ref b72)])) (fun _ kk_ => XS.dup X77.here hx rfl (hb hby d1_101) rfl rfl kk_) ?_
        refine OWH.st (B := T77.setTop (mkF m 103 #[.val (.int n1), .val (.int n2), .val (.int n3), .val (.int n4), .val (.int (n1 &&& (3 : Int32))), .val (.int u1), .val (.int u2), .val (.int u3)] [(.int (2 : Int32)), (.ref b73), (.ref b73), (.ref b72), (.ref b72)])) (fun _ kk_ => XS.iconst X77.here hx rfl (hb hby d1_102) kk_) ?_
        refine OWH.st (B := T77.setTop (mkF m 105 #[.val (.int n1), .val (.int n2), .val (.int n3), .val (.int n4), .val (.int (n1 &&& (3 : Int32))), .val (.int u1), .val (.int u2), .val (.int u3)] [(.int u3), (.int (2 : Int32)), (.ref b73), (.ref b73), (.ref b72), (.ref b72)])) (fun _ kk_ => XS.iload X77.here hx rfl (hb hby d1_103) rfl kk_) ?_
        obtain ⟨cl78, Ar78, q78, S78, Ng78, Hs78, G78⟩ := id V77
        have hin78 : ¬ ((2 : Int32) < 0 ∨ cl78.slots.size ≤ ((2 : Int32)).toNatClampNeg) := inb_of S78 ⟨by decide, by decide⟩
        obtain ⟨T79, h79, X79, e79, W79, st79⟩ := stC X77 hx hZ e77 Ar78 (j := (2 : Int32)) hin78 (g := (mkF m 105 #[.val (.int n1), .val (.int n2), .val (.int n3), .val (.int n4), .val (.int (n1 &&& (3 : Int32))), .val (.int u1), .val (.int u2), .val (.int u3)] [(.int u3), (.int (2 : Int32)), (.ref b73), (.ref b73), (.ref b72), (.ref b72)])) rfl rfl (hb hby d1_105)
        rw [hnu3] at W79
        have N79 := Fr.snoc X79 N77 n_b73
        have O79 : Old Z n0 h79 := O77.wr W79 n_b73
        have CS79 : CHr Z consts_1 s.vm h77 s.vm h79 := CHr.wr W79 (Safe.arv hZ.alike V77 (by decide)) CR77.1
        have Sf79_b72 := CHr.safe CS79 (((A72.ext E73).wr W75).wr W77).lt Sf77_b72
        have Sf79_b73 := CHr.safe CS79 V77.lt Sf77_b73
        have CR79 := CHr.trans CR77 CS79
        have KC79 : Keep h0 h79 [] := KC77.wr W79 (Or.inr sz_b73)
        have V79 : Arv Z h79 b73 k73 .char (3 : Int32) [(.int u1), (.int u2), (.int u3)] (.int (0 : Int32)) := Arv.set Ar78 q78 S78 Ng78 Hs78 G78 (hnu3 ▸ (fits_nar_char _)) W79 2 rfl (Nat.le_of_ble_eq_true rfl)
        refine OWH.st (B := T79.setTop (mkF m 106 #[.val (.int n1), .val (.int n2), .val (.int n3), .val (.int n4), .val (.int (n1 &&& (3 : Int32))), .val (.int u1), .val (.int u2), .val (.int u3)] [(.ref b73), (.ref b72), (.ref b72)])) (st79) ?_
        obtain ⟨_, _, ⟨T80, L80, k80, n80⟩, -, X80, ⟨Lc80, hQ80, l80, y80, z80⟩, st80⟩ := X79.specialBack hx (y := (⟨"java/lang/String", "<init>", "([C)V"⟩ : MethodName)) rfl hown (mvT hZ (w_8 hw)) (mvT hZ (w_9 hw)) (mvT hZ (w_10 hw)) (by decide) (backOf (W := 1) (rmS0_3 l Z a0 hw [] b72 b73 k73 u1 u2 u3 i_COMPACT_STRINGS v_SIOOBE_FORMATTER h79 n0 O79 ((((A72.ext E73).wr W75).wr W77).wr W79) ((((F72_20.ext E73).other W75 (Or.inl (Nat.ne_of_lt (Nat.lt_of_lt_of_le A72.lt (Nat.le_of_eq g73.symm))))).other W77 (Or.inl (Nat.ne_of_lt (Nat.lt_of_lt_of_le A72.lt (Nat.le_of_eq g73.symm))))).other W79 (Or.inl (Nat.ne_of_lt (Nat.lt_of_lt_of_le A72.lt (Nat.le_of_eq g73.symm))))) ((((F72_21.ext E73).other W75 (Or.inl (Nat.ne_of_lt (Nat.lt_of_lt_of_le A72.lt (Nat.le_of_eq g73.symm))))).other W77 (Or.inl (Nat.ne_of_lt (Nat.lt_of_lt_of_le A72.lt (Nat.le_of_eq g73.symm))))).other W79 (Or.inl (Nat.ne_of_lt (Nat.lt_of_lt_of_le A72.lt (Nat.le_of_eq g73.symm))))) n_b72 V79 hS hlu1 hlu2 hlu3) hZ (w_10 hw) (w_6 hw) (by decide) (by decide)) (g := (mkF m 106 #[.val (.int n1), .val (.int n2), .val (.int n3), .val (.int n4), .val (.int (n1 &&& (3 : Int32))), .val (.int u1), .val (.int u2), .val (.int u3)] [(.ref b73), (.ref b72), (.ref b72)])) rfl (by rw [hml]; rfl) (Steps.refl _) (a := b72) (argsL := [(.ref b73)]) (rest := [(.ref b72)]) (lenOf pd_7 rfl) rfl (by show 2 * 0 + _ ≤ _; exact Nat.le_of_eq rfl) (hb hby d1_106) (fun _ _ => ⟨rfl, e79, (by decide : 2 + 1 ≤ _), (by decide : 7 + 3 ≤ _)⟩)
        dsimp only [Pt.U, Pt.locs, Pt.cells, Pt.slots] at X80 l80 y80 z80 st80 hQ80
        subst l80 y80 z80
        obtain ⟨rfl, Nq80, K80, Es80, ba80, kb80, gba80, nba80, Fc80, Fv80, Vs80⟩ := hQ80
        have N80 := Fr.app N79 Nq80
        have O80 : Old Z n0 T80.heap := O79.keep K80 (allS n_b72 all0)
        have CS80 : CHr Z consts_1 s.vm h79 s.vm T80.heap := CHr.keep K80 (allS Sf79_b72 all0) CR79.1
        have Sf80_b72 := CHr.safe CS80 ((((A72.ext E73).wr W75).wr W77).wr W79).lt Sf79_b72
        have Sf80_b73 := CHr.safe CS80 V79.lt Sf79_b73
        have CR80 := CHr.trans CR79 CS80
        have KC80 : Keep h0 T80.heap [] := KC79.trans K80 (allS (Or.inr sz_b72) all0)
        refine OWH.tr (B := T80.setTop (mkF m 109 #[.val (.int n1), .val (.int n2), .val (.int n3), .val (.int n4), .val (.int (n1 &&& (3 : Int32))), .val (.int u1), .val (.int u2), .val (.int u3)] [(.ref b72)])) (st80) ?_
        exact OWH.ret X80 (s := s) (vm0 := s.vm) hS0 (Nat.le_trans (Nat.le_trans (Nat.le_trans (Nat.le_trans (Nat.le_trans (Nat.le_trans hk0 E72.1) E73.1) (Keep.of_wr W75).1) (Keep.of_wr W77).1) (Keep.of_wr W79).1) K80.1) hx hlk CR80 hZ (own_EW hw) (i := .areturn) Bd.returns rfl (Or.inr (Or.inr (Or.inr (Or.inr ⟨rfl, rfl, rfl⟩)))) (hb hby d1_109) rfl (by decide) (by decide) ⟨b72, rfl, N80, KC80, n_b72, (((((A72.ext E73).wr W75).wr W77).wr W79).keep K80)⟩
theorem ef_RI (m : MethodId) (x0 : Addr) : entryFrame m #[(.ref x0)] 1 = mkF m 0 #[.val (.ref x0)] [] := by first | (simp [entryFrame, mkF, argsToLocals, Value.category]; done) | rfl
def QRI (Z : State) (a : Addr) (h0 : Heap) (n0 : Nat) (v : Option Value) (h : Heap) (L : List Loc) : Prop := v = none ∧ Fr n0 L ∧ h = h0
set_option maxRecDepth 65536 in
set_option maxHeartbeats 40000000 in
theorem rmRI (l : Launch) (Z : State) (a0 : Array Value) (hw : ∀ d ∈ tables_1, d.before a0 Z = true) (ws : List Jvm.Cond) (a : Addr) (h0 : Heap) (n0 : Nat) (O0 : Old Z n0 h0) :
    MetFree l (⟨"java/lang/Record", "<init>", "()V"⟩ : MethodName) (head1 (Jvm.Cond.code (⟨"java/lang/Record", "<init>", "()V"⟩ : MethodName) jdk_30_method_1_code 1 none :: ws) ({ frames := 1, cells := 0, slots := 0, locals := 12 } : Room)) (fun aa_ UU_ => aa_ = #[(.ref a)] ∧ Z.Warmed39 UU_.vm ∧ UU_.heap = h0) (fun _ _ _ _ _ => True) (fun _ UU_ oo_ UV_ => ∃ vv_ LL_, oo_ = .returned vv_ ∧ QRI Z a h0 n0 vv_ UV_.heap LL_ ∧ FrameEnd UU_ oo_ UV_ LL_ ({ frames := 1, cells := 0, slots := 0, locals := 12 } : Room).cells ({ frames := 1, cells := 0, slots := 0, locals := 12 } : Room).slots) := by
  refine MetFree.of_bodySF (plainFor_of_name pn_4) hisR ?_
  intro p e s m args below meth c s₁ Bd hml0 hP hK
  obtain ⟨rfl, hZ, hh⟩ := hP
  have hx := Bd.exec
  have hby := Bd.bytes
  have hlk := BodyLoose.notSynchronized Bd
  have hml : c.maxLocals = 1 := hml0
  have hown : s.vm.findClass "java/lang/Record" = some m.cls := findClass_of_methodNamed Bd.named
  have hnm := (name_of_methodNamed Bd.named Bd.method).1
  have X0 : Stand p l e ({ frames := 1, cells := 0, slots := 0, locals := 12 } : Room) s m #[(.ref a)] below meth c s₁ [] 0 0 := Stand.of_body Bd
  have e0 : s₁.heap = h0 := by rw [← hh, Bd.state]; rfl
  have N0 := Fr.nil n0
  suffices hOW : OW p e below s (QRI Z a h0 n0) 0 0 (s₁.setTop (mkF m 0 #[.val (.ref a)] [])) by
    obtain ⟨oq1_, oq2_, oq3_, oq4_⟩ := hOW
    exact ⟨oq1_, oq2_, castTop (ef_RI m a) oq3_, oq4_⟩
  refine OW.st (B := s₁.setTop (mkF m 1 #[.val (.ref a)] [(.ref a)])) (fun _ kk_ => XS.aloadN X0.here hx rfl (hb hby d7_0) rfl rfl kk_) ?_
  obtain ⟨T81, X81, e81, st81⟩ := initO X0 hx hZ hown (w_41 hw) (w_16 hw) (w_17 hw) e0 (g := (mkF m 1 #[.val (.ref a)] [(.ref a)])) rfl (by rw [hml]; rfl) rfl (hb hby d7_1) (by decide) (W := 0) (by show 2 * 0 + _ ≤ _; exact Nat.le_of_eq rfl) (by decide)
  refine OW.st (B := T81.setTop (mkF m 4 #[.val (.ref a)] [])) (st81) ?_
  exact OW.retV X81 hx hlk Bd.returns (hb hby d7_4) e81 (by decide) (by decide) ⟨rfl, N0, rfl⟩
theorem ef_OI (m : MethodId) (x0 : Addr) (x1 : Addr) (x2 : Addr) (x3 : Int32) : entryFrame m #[(.ref x0), (.ref x1), (.ref x2), (.int x3)] 4 = mkF m 0 #[.val (.ref x0), .val (.ref x1), .val (.ref x2), .val (.int x3)] [] := by first | (simp [entryFrame, mkF, argsToLocals, Value.category]; done) | rfl
def QOI (Z : State) (b : Addr) (sa : Addr) (sb : Addr) (h0 : Heap) (n0 : Nat) (v : Option Value) (h : Heap) (L : List Loc) : Prop := v = none ∧ Fr n0 L ∧ Keep h0 h [b] ∧ Fld Z h b "tenorbook/cli/Arguments$Option" "name" "Ljava/lang/String;" (.ref sa) ∧ Fld Z h b "tenorbook/cli/Arguments$Option" "value" "Ljava/lang/String;" (.ref sb) ∧ Fld Z h b "tenorbook/cli/Arguments$Option" "required" "Z" (.int (0 : Int32))
set_option maxRecDepth 65536 in
set_option maxHeartbeats 40000000 in
theorem rmOI (l : Launch) (Z : State) (a0 : Array Value) (hw : ∀ d ∈ tables_1, d.before a0 Z = true) (ws : List Jvm.Cond) (b : Addr) (sa : Addr) (sb : Addr) (h0 : Heap) (n0 : Nat) (O0 : Old Z n0 h0) (E : Exa Z h0 b "tenorbook/cli/Arguments$Option") (F1 : Fld Z h0 b "tenorbook/cli/Arguments$Option" "name" "Ljava/lang/String;" .null) (F2 : Fld Z h0 b "tenorbook/cli/Arguments$Option" "value" "Ljava/lang/String;" .null) (F3 : Fld Z h0 b "tenorbook/cli/Arguments$Option" "required" "Z" (.int (0 : Int32))) (g : n0 ≤ b) :
    MetFree l (⟨"tenorbook/cli/Arguments$Option", "<init>", "(Ljava/lang/String;Ljava/lang/String;Z)V"⟩ : MethodName) (head1 (Jvm.Cond.code (⟨"tenorbook/cli/Arguments$Option", "<init>", "(Ljava/lang/String;Ljava/lang/String;Z)V"⟩ : MethodName) prog_45_method_2_code 4 none :: ws) ({ frames := 2, cells := 0, slots := 0, locals := 24 } : Room)) (fun aa_ UU_ => aa_ = #[(.ref b), (.ref sa), (.ref sb), (.int (0 : Int32))] ∧ Z.Warmed39 UU_.vm ∧ UU_.heap = h0) (fun _ _ _ _ _ => True) (fun _ UU_ oo_ UV_ => ∃ vv_ LL_, oo_ = .returned vv_ ∧ QOI Z b sa sb h0 n0 vv_ UV_.heap LL_ ∧ FrameEnd UU_ oo_ UV_ LL_ ({ frames := 2, cells := 0, slots := 0, locals := 24 } : Room).cells ({ frames := 2, cells := 0, slots := 0, locals := 24 } : Room).slots) := by
  refine MetFree.of_bodySF (plainFor_of_name pn_5) hisR ?_
  intro p e s m args below meth c s₁ Bd hml0 hP hK
  obtain ⟨rfl, hZ, hh⟩ := hP
  have hx := Bd.exec
  have hby := Bd.bytes
  have hlk := BodyLoose.notSynchronized Bd
  have hml : c.maxLocals = 4 := hml0
  have hown : s.vm.findClass "tenorbook/cli/Arguments$Option" = some m.cls := findClass_of_methodNamed Bd.named
  have hnm := (name_of_methodNamed Bd.named Bd.method).1
  have X0 : Stand p l e ({ frames := 2, cells := 0, slots := 0, locals := 24 } : Room) s m #[(.ref b), (.ref sa), (.ref sb), (.int (0 : Int32))] below meth c s₁ [] 0 0 := Stand.of_body Bd
  have e0 : s₁.heap = h0 := by rw [← hh, Bd.state]; rfl
  have N0 := Fr.nil n0
  have KC0 : Keep h0 h0 [b] := Keep.refl _ _
  suffices hOW : OW p e below s (QOI Z b sa sb h0 n0) 0 0 (s₁.setTop (mkF m 0 #[.val (.ref b), .val (.ref sa), .val (.ref sb), .val (.int (0 : Int32))] [])) by
    obtain ⟨oq1_, oq2_, oq3_, oq4_⟩ := hOW
    exact ⟨oq1_, oq2_, castTop (ef_OI m b sa sb (0 : Int32)) oq3_, oq4_⟩
  refine OW.st (B := s₁.setTop (mkF m 1 #[.val (.ref b), .val (.ref sa), .val (.ref sb), .val (.int (0 : Int32))] [(.ref b)])) (fun _ kk_ => XS.aloadN X0.here hx rfl (hb hby d6_0) rfl rfl kk_) ?_
  obtain ⟨_, _, ⟨T82, L82, k82, n82⟩, -, X82, ⟨Lc82, hQ82, l82, y82, z82⟩, st82⟩ := X0.specialBack hx (y := (⟨"java/lang/Record", "<init>", "()V"⟩ : MethodName)) rfl hown (mvT hZ (w_36 hw)) (mvT hZ (w_37 hw)) (mvT hZ (w_40 hw)) (by decide) (backOf (W := 0) (rmRI l Z a0 hw [] b h0 n0 O0 ) hZ (w_40 hw) (w_39 hw) (by decide) (by decide)) (g := (mkF m 1 #[.val (.ref b), .val (.ref sa), .val (.ref sb), .val (.int (0 : Int32))] [(.ref b)])) rfl (by rw [hml]; rfl) (Steps.refl _) (a := b) (argsL := []) (rest := []) (lenOf pd_9 rfl) rfl (by show 2 * 0 + _ ≤ _; exact Nat.le_of_eq rfl) (hb hby d6_1) (fun _ _ => ⟨rfl, e0, (by decide : 0 + 0 ≤ _), (by decide : 0 + 0 ≤ _)⟩)
  dsimp only [Pt.U, Pt.locs, Pt.cells, Pt.slots] at X82 l82 y82 z82 st82 hQ82
  subst l82 y82 z82
  obtain ⟨rfl, Nq82, e82⟩ := hQ82
  have N82 := Fr.app N0 Nq82
  refine OW.tr (B := T82.setTop (mkF m 4 #[.val (.ref b), .val (.ref sa), .val (.ref sb), .val (.int (0 : Int32))] [])) (st82) ?_
  refine OW.st (B := T82.setTop (mkF m 5 #[.val (.ref b), .val (.ref sa), .val (.ref sb), .val (.int (0 : Int32))] [(.ref b)])) (fun _ kk_ => XS.aloadN X82.here hx rfl (hb hby d6_4) rfl rfl kk_) ?_
  refine OW.st (B := T82.setTop (mkF m 6 #[.val (.ref b), .val (.ref sa), .val (.ref sb), .val (.int (0 : Int32))] [(.ref sa), (.ref b)])) (fun _ kk_ => XS.aloadN X82.here hx rfl (hb hby d6_5) rfl rfl kk_) ?_
  obtain ⟨T83, h83, X83, e83, W83, st83⟩ := putF X82 hx hZ hown (host := "") (Or.inl (w_42 hw)) Via.refl e82 F1 E (Or.inr ⟨(w_43 hw), rfl, hnm⟩) (w_31 hw) (ty := (.object "java/lang/String")) (by decide) rfl rfl (g := (mkF m 6 #[.val (.ref b), .val (.ref sa), .val (.ref sb), .val (.int (0 : Int32))] [(.ref sa), (.ref b)])) rfl rfl (hb hby d6_6)
  have N83 := Fr.snoc X83 N82 g
  have O83 : Old Z n0 h83 := O0.wr W83 g
  have KC83 : Keep h0 h83 [b] := KC0.wr W83 (Or.inl (List.mem_of_getElem? (i := 0) rfl))
  have F83 : Fld Z h83 b "tenorbook/cli/Arguments$Option" "name" "Ljava/lang/String;" (.ref sa) := Fld.same W83 F1
  refine OW.st (B := T83.setTop (mkF m 9 #[.val (.ref b), .val (.ref sa), .val (.ref sb), .val (.int (0 : Int32))] [])) (st83) ?_
  refine OW.st (B := T83.setTop (mkF m 10 #[.val (.ref b), .val (.ref sa), .val (.ref sb), .val (.int (0 : Int32))] [(.ref b)])) (fun _ kk_ => XS.aloadN X83.here hx rfl (hb hby d6_9) rfl rfl kk_) ?_
  refine OW.st (B := T83.setTop (mkF m 11 #[.val (.ref b), .val (.ref sa), .val (.ref sb), .val (.int (0 : Int32))] [(.ref sb), (.ref b)])) (fun _ kk_ => XS.aloadN X83.here hx rfl (hb hby d6_10) rfl rfl kk_) ?_
  obtain ⟨T84, h84, X84, e84, W84, st84⟩ := putF X83 hx hZ hown (host := "") (Or.inl (w_44 hw)) Via.refl e83 (F2.other W83 (Or.inr (slot_ne (Or.inr (w_45 hw)) (Or.inr (w_43 hw)) (by decide) (t := (.object "java/lang/String")) (t' := (.object "java/lang/String")) (by decide) (by decide)))) (E.wr W83) (Or.inr ⟨(w_45 hw), rfl, hnm⟩) (w_31 hw) (ty := (.object "java/lang/String")) (by decide) rfl rfl (g := (mkF m 11 #[.val (.ref b), .val (.ref sa), .val (.ref sb), .val (.int (0 : Int32))] [(.ref sb), (.ref b)])) rfl rfl (hb hby d6_11)
  have N84 := Fr.snoc X84 N83 g
  have O84 : Old Z n0 h84 := O83.wr W84 g
  have KC84 : Keep h0 h84 [b] := KC83.wr W84 (Or.inl (List.mem_of_getElem? (i := 0) rfl))
  have F84 : Fld Z h84 b "tenorbook/cli/Arguments$Option" "value" "Ljava/lang/String;" (.ref sb) := Fld.same W84 (F2.other W83 (Or.inr (slot_ne (Or.inr (w_45 hw)) (Or.inr (w_43 hw)) (by decide) (t := (.object "java/lang/String")) (t' := (.object "java/lang/String")) (by decide) (by decide))))
  refine OW.st (B := T84.setTop (mkF m 14 #[.val (.ref b), .val (.ref sa), .val (.ref sb), .val (.int (0 : Int32))] [])) (st84) ?_
  refine OW.st (B := T84.setTop (mkF m 15 #[.val (.ref b), .val (.ref sa), .val (.ref sb), .val (.int (0 : Int32))] [(.ref b)])) (fun _ kk_ => XS.aloadN X84.here hx rfl (hb hby d6_14) rfl rfl kk_) ?_
  refine OW.st (B := T84.setTop (mkF m 16 #[.val (.ref b), .val (.ref sa), .val (.ref sb), .val (.int (0 : Int32))] [(.int (0 : Int32)), (.ref b)])) (fun _ kk_ => XS.iloadN X84.here hx rfl (hb hby d6_15) rfl kk_) ?_
  obtain ⟨T85, h85, X85, e85, W85, st85⟩ := putFN X84 hx hZ hown (w_46 hw) Via.refl e84 ((F3.other W83 (Or.inr (slot_ne (Or.inr (w_47 hw)) (Or.inr (w_43 hw)) (by decide) (t := .boolean) (t' := (.object "java/lang/String")) (by decide) (by decide)))).other W84 (Or.inr (slot_ne (Or.inr (w_47 hw)) (Or.inr (w_45 hw)) (by decide) (t := .boolean) (t' := (.object "java/lang/String")) (by decide) (by decide)))) ((E.wr W83).wr W84) (Or.inr ⟨(w_47 hw), rfl, hnm⟩) (w_31 hw) (ty := .boolean) (v' := (.int (0 : Int32))) (by decide) rfl rfl (g := (mkF m 16 #[.val (.ref b), .val (.ref sa), .val (.ref sb), .val (.int (0 : Int32))] [(.int (0 : Int32)), (.ref b)])) rfl rfl (hb hby d6_16)
  have N85 := Fr.snoc X85 N84 g
  have O85 : Old Z n0 h85 := O84.wr W85 g
  have KC85 : Keep h0 h85 [b] := KC84.wr W85 (Or.inl (List.mem_of_getElem? (i := 0) rfl))
  have F85 : Fld Z h85 b "tenorbook/cli/Arguments$Option" "required" "Z" (.int (0 : Int32)) := Fld.same W85 ((F3.other W83 (Or.inr (slot_ne (Or.inr (w_47 hw)) (Or.inr (w_43 hw)) (by decide) (t := .boolean) (t' := (.object "java/lang/String")) (by decide) (by decide)))).other W84 (Or.inr (slot_ne (Or.inr (w_47 hw)) (Or.inr (w_45 hw)) (by decide) (t := .boolean) (t' := (.object "java/lang/String")) (by decide) (by decide))))
  refine OW.st (B := T85.setTop (mkF m 19 #[.val (.ref b), .val (.ref sa), .val (.ref sb), .val (.int (0 : Int32))] [])) (st85) ?_
  exact OW.retV X85 hx hlk Bd.returns (hb hby d6_19) e85 (by decide) (by decide) ⟨rfl, N85, KC85, ((F83.other W84 (Or.inr (slot_ne (Or.inr (w_43 hw)) (Or.inr (w_45 hw)) (by decide) (t := (.object "java/lang/String")) (t' := (.object "java/lang/String")) (by decide) (by decide)))).other W85 (Or.inr (slot_ne (Or.inr (w_43 hw)) (Or.inr (w_47 hw)) (by decide) (t := (.object "java/lang/String")) (t' := .boolean) (by decide) (by decide)))), (F84.other W85 (Or.inr (slot_ne (Or.inr (w_45 hw)) (Or.inr (w_47 hw)) (by decide) (t := (.object "java/lang/String")) (t' := .boolean) (by decide) (by decide)))), F85⟩
theorem ef_FL (m : MethodId) (x0 : Addr) : entryFrame m #[(.ref x0)] 1 = mkF m 0 #[.val (.ref x0)] [] := by first | (simp [entryFrame, mkF, argsToLocals, Value.category]; done) | rfl
def QFL (Z : State) (sa : Addr) (h0 : Heap) (n0 : Nat) (v : Option Value) (h : Heap) (L : List Loc) : Prop := ∃ (b sb vb : Addr) (kv : ClassId), v = some (.ref b) ∧ Fr n0 L ∧ Keep h0 h [] ∧ n0 ≤ b ∧ Exa Z h b "tenorbook/cli/Arguments$Option" ∧ Fld Z h b "tenorbook/cli/Arguments$Option" "name" "Ljava/lang/String;" (.ref sa) ∧ Fld Z h b "tenorbook/cli/Arguments$Option" "value" "Ljava/lang/String;" (.ref sb) ∧ Fld Z h b "tenorbook/cli/Arguments$Option" "required" "Z" (.int (0 : Int32)) ∧ Exa Z h sb "java/lang/String" ∧ Fld Z h sb "java/lang/String" "value" "[B" (.ref vb) ∧ Arv Z h vb kv .byte (0 : Int32) [] (.int (0 : Int32))
set_option maxRecDepth 65536 in
set_option maxHeartbeats 40000000 in
theorem rmFL (l : Launch) (Z : State) (a0 : Array Value) (hw : ∀ d ∈ tables_1, d.before a0 Z = true) (ws : List Jvm.Cond) (sa : Addr) (h0 : Heap) (n0 : Nat) (O0 : Old Z n0 h0) :
    MetFree l (⟨"tenorbook/cli/Arguments$Option", "flag", "(Ljava/lang/String;)Ltenorbook/cli/Arguments$Option;"⟩ : MethodName) (head1 (Jvm.Cond.code (⟨"tenorbook/cli/Arguments$Option", "flag", "(Ljava/lang/String;)Ltenorbook/cli/Arguments$Option;"⟩ : MethodName) prog_45_method_4_code 1 (some (.object "tenorbook/cli/Arguments$Option")) :: ws) ({ frames := 3, cells := 3, slots := 7, locals := 40 } : Room)) (fun aa_ UU_ => aa_ = #[(.ref sa)] ∧ Z.Warmed39 UU_.vm ∧ UU_.heap = h0 ∧ CHv Z consts_1 UU_.vm h0) (fun _ _ _ _ _ => True) (fun _ UU_ oo_ UV_ => ∃ vv_ LL_, oo_ = .returned vv_ ∧ QFL Z sa h0 n0 vv_ UV_.heap LL_ ∧ CHr Z consts_1 UU_.vm UU_.heap UV_.vm UV_.heap ∧ ReturnedEndW UU_ oo_ UV_ LL_ ({ frames := 3, cells := 3, slots := 7, locals := 40 } : Room).cells ({ frames := 3, cells := 3, slots := 7, locals := 40 } : Room).slots) := by
  refine MetFree.of_bodySF (plainFor_of_name pn_5) hisR ?_
  intro p e s m args below meth c s₁ Bd hml0 hP hK
  obtain ⟨rfl, hZ, hh, hCH⟩ := hP
  have hx := Bd.exec
  have hby := Bd.bytes
  have hlk := BodyLoose.notSynchronized Bd
  have hml : c.maxLocals = 1 := hml0
  have hown : s.vm.findClass "tenorbook/cli/Arguments$Option" = some m.cls := findClass_of_methodNamed Bd.named
  have hnm := (name_of_methodNamed Bd.named Bd.method).1
  have X0 : Stand p l e ({ frames := 3, cells := 3, slots := 7, locals := 40 } : Room) s m #[(.ref sa)] below meth c s₁ [] 0 0 := Stand.of_body Bd
  have e0 : s₁.heap = h0 := by rw [← hh, Bd.state]; rfl
  have N0 := Fr.nil n0
  have hS0 : s.Since s.vm 0 := (State.WarmedH.refl s).since 0
  have hk0 : 0 ≤ h0.size := Nat.zero_le _
  have CR0 : CHr Z consts_1 s.vm h0 s.vm h0 := CHr.refl hCH
  have KC0 : Keep h0 h0 [] := Keep.refl _ _
  suffices hOW : OWH Z consts_1 h0 p e below s (QFL Z sa h0 n0) 3 7 (s₁.setTop (mkF m 0 #[.val (.ref sa)] [])) by
    obtain ⟨oq1_, oq2_, oq3_, oq4_⟩ := hOW
    obtain ⟨oq5_, oq6_, oq7_, oq8_, oq9_, or1_, or2_, or3_⟩ := oq4_
    exact ⟨oq1_, oq2_, castTop (ef_FL m sa) oq3_, oq5_, oq6_, oq7_, oq8_, oq9_, or1_, by rw [hh]; exact or2_, or3_⟩
  obtain ⟨T86, h86, X86, e86, E86, A86, D86, -, st86⟩ := newO X0 hx hZ hown (w_30 hw) (w_31 hw) (w_28 hw) e0 (g := (mkF m 0 #[.val (.ref sa)] [])) rfl (hb hby d5_0) (by decide) (by decide)
  obtain ⟨b86, g86⟩ : ∃ z, z = h0.size := ⟨_, rfl⟩
  rw [← g86] at A86 D86 st86
  have n_b86 : n0 ≤ b86 := Nat.le_trans (own_oldle O0) (Nat.le_of_eq g86.symm)
  have O86 : Old Z n0 h86 := O0.ext E86
  have sz_b86 : h0.size ≤ b86 := Nat.le_trans KC0.1 (Nat.le_of_eq g86.symm)
  have CS86 : CHr Z consts_1 s.vm h0 s.vm h86 := CHr.ext E86 CR0.1
  have CR86 := CHr.trans CR0 CS86
  have Sf86_b86 : Safe Z consts_1 s.vm h86 b86 := Safe.ext E86 CR0.1 (Safe.new (Nat.le_of_eq g86.symm))
  have KC86 : Keep h0 h86 [] := KC0.ext E86
  have F86_43 : Fld Z h86 b86 "tenorbook/cli/Arguments$Option" "name" "Ljava/lang/String;" .null := D86 (Or.inr (w_43 hw)) (ty := (.object "java/lang/String")) (by decide)
  have F86_45 : Fld Z h86 b86 "tenorbook/cli/Arguments$Option" "value" "Ljava/lang/String;" .null := D86 (Or.inr (w_45 hw)) (ty := (.object "java/lang/String")) (by decide)
  have F86_47 : Fld Z h86 b86 "tenorbook/cli/Arguments$Option" "required" "Z" (.int (0 : Int32)) := D86 (Or.inr (w_47 hw)) (ty := .boolean) (by decide)
  refine OWH.st (B := T86.setTop (mkF m 3 #[.val (.ref sa)] [(.ref b86)])) (st86) ?_
  refine OWH.st (B := T86.setTop (mkF m 4 #[.val (.ref sa)] [(.ref b86), (.ref b86)])) (fun _ kk_ => XS.dup X86.here hx rfl (hb hby d5_3) rfl rfl kk_) ?_
  refine OWH.st (B := T86.setTop (mkF m 5 #[.val (.ref sa)] [(.ref sa), (.ref b86), (.ref b86)])) (fun _ kk_ => XS.aloadN X86.here hx rfl (hb hby d5_4) rfl rfl kk_) ?_
  obtain ⟨a87, T87, h87, k87, lb87, lk87, X87, e87, E87, hS87, hk87, hZ87, hown87, Ea87, Fc87, Fv87, V87, -, -, Cs87, -, hne87, st87⟩ := ldcCH (s := s) (vm0 := s.vm) X86 hx hZ hown (w_32 hw) (own_wS hw) e86 hS0 (Nat.le_trans hk0 E86.1) (own_EW hw) (List.mem_of_getElem? (i := 1) rfl) CR86.1 (vs := []) (z := (0 : Int32)) ⟨by decide, by decide⟩ (by decide) (by decide) (g := (mkF m 5 #[.val (.ref sa)] [(.ref sa), (.ref b86), (.ref b86)])) rfl (hb hby d5_5) (n := 0) (by decide) (by decide) (by decide) (by decide)
  have O87 : Old Z n0 h87 := O86.ext E87
  have CS87 : CHr Z consts_1 s.vm h86 T87.vm h87 := Cs87
  have Sf87_b86 := CHr.safe CS87 A86.lt Sf86_b86
  have CR87 := CHr.trans CR86 CS87
  have KC87 : Keep h0 h87 [] := KC86.ext E87
  refine OWH.st (B := T87.setTop (mkF m 7 #[.val (.ref sa)] [(.ref a87), (.ref sa), (.ref b86), (.ref b86)])) (st87) ?_
  refine OWH.st (B := T87.setTop (mkF m 8 #[.val (.ref sa)] [(.int (0 : Int32)), (.ref a87), (.ref sa), (.ref b86), (.ref b86)])) (fun _ kk_ => XS.iconst X87.here hx rfl (hb hby d5_7) kk_) ?_
  obtain ⟨_, _, ⟨T88, L88, k88, n88⟩, -, X88, ⟨Lc88, hQ88, l88, y88, z88⟩, st88⟩ := X87.specialBack hx (y := (⟨"tenorbook/cli/Arguments$Option", "<init>", "(Ljava/lang/String;Ljava/lang/String;Z)V"⟩ : MethodName)) rfl hown87 (mvT hZ87 (w_33 hw)) (mvT hZ87 (w_34 hw)) (mvT hZ87 (w_35 hw)) (by decide) (backOf (W := 1) (rmOI l Z a0 hw [] b86 sa a87 h87 n0 O87 (A86.ext E87) (F86_43.ext E87) (F86_45.ext E87) (F86_47.ext E87) n_b86) hZ87 (w_35 hw) (w_28 hw) (by decide) (by decide)) (g := (mkF m 8 #[.val (.ref sa)] [(.int (0 : Int32)), (.ref a87), (.ref sa), (.ref b86), (.ref b86)])) rfl (by rw [hml]; rfl) (Steps.refl _) (a := b86) (argsL := [(.ref sa), (.ref a87), (.int (0 : Int32))]) (rest := [(.ref b86)]) (lenOf pd_10 rfl) rfl (by show 2 * 0 + _ ≤ _; exact Nat.le_of_eq rfl) (hb hby d5_8) (fun _ _ => ⟨rfl, e87, (by decide : 3 + 0 ≤ _), (by decide : 7 + 0 ≤ _)⟩)
  dsimp only [Pt.U, Pt.locs, Pt.cells, Pt.slots] at X88 l88 y88 z88 st88 hQ88
  subst l88 y88 z88
  obtain ⟨rfl, Nq88, K88, Fn88, Fa88, Fr88⟩ := hQ88
  have N88 := Fr.app N0 Nq88
  have O88 : Old Z n0 T88.heap := O87.keep K88 (allS n_b86 all0)
  have CS88 : CHr Z consts_1 T87.vm h87 T87.vm T88.heap := CHr.keep K88 (allS (Safe.exa hZ87.alike (A86.ext E87) (by decide) (by decide)) all0) CR87.1
  have Sf88_b86 := CHr.safe CS88 (A86.ext E87).lt Sf87_b86
  have CR88 := CHr.trans CR87 CS88
  have KC88 : Keep h0 T88.heap [] := KC87.trans K88 (allS (Or.inr sz_b86) all0)
  refine OWH.tr (B := T88.setTop (mkF m 11 #[.val (.ref sa)] [(.ref b86)])) (st88) ?_
  exact OWH.ret X88 (s := s) (vm0 := T87.vm) hS87 (Nat.le_trans hk87 K88.1) hx hlk CR88 hZ87 (own_EW hw) (i := .areturn) Bd.returns rfl (Or.inr (Or.inr (Or.inr (Or.inr ⟨rfl, rfl, rfl⟩)))) (hb hby d5_11) rfl (by decide) (by decide) ⟨b86, a87, lb87, lk87, rfl, N88, KC88, n_b86, ((A86.ext E87).keep K88), Fn88, Fa88, Fr88, (Ea87.keep K88), (Fv87.keep K88 (ninS (Exa.ne Ea87 (A86.ext E87) (by decide)) nin0)), (V87.keep K88 (ninS (Ne.symm (Exa.neArv (A86.ext E87) V87 (w_31 hw))) nin0))⟩
theorem ef_GN (m : MethodId) (x0 : Addr) : entryFrame m #[(.ref x0)] 1 = mkF m 0 #[.val (.ref x0)] [] := by first | (simp [entryFrame, mkF, argsToLocals, Value.category]; done) | rfl
def QGN (Z : State) (a : Addr) (x1 : Addr) (h0 : Heap) (n0 : Nat) (v : Option Value) (h : Heap) (L : List Loc) : Prop := v = some (.ref x1) ∧ Fr n0 L ∧ h = h0
set_option maxRecDepth 65536 in
set_option maxHeartbeats 40000000 in
theorem rmGN (l : Launch) (Z : State) (a0 : Array Value) (hw : ∀ d ∈ tables_1, d.before a0 Z = true) (ws : List Jvm.Cond) (a : Addr) (x1 : Addr) (h0 : Heap) (n0 : Nat) (O0 : Old Z n0 h0) (F : Fld Z h0 a "tenorbook/cli/Arguments$Option" "name" "Ljava/lang/String;" (.ref x1)) :
    MetFree l (⟨"tenorbook/cli/Arguments$Option", "name", "()Ljava/lang/String;"⟩ : MethodName) (head1 (Jvm.Cond.code (⟨"tenorbook/cli/Arguments$Option", "name", "()Ljava/lang/String;"⟩ : MethodName) prog_45_method_9_code 1 (some (.object "java/lang/String")) :: ws) ({ frames := 0, cells := 0, slots := 0, locals := 0 } : Room)) (fun aa_ UU_ => aa_ = #[(.ref a)] ∧ Z.Warmed39 UU_.vm ∧ UU_.heap = h0) (fun _ _ _ _ _ => True) (fun _ UU_ oo_ UV_ => ∃ vv_ LL_, oo_ = .returned vv_ ∧ QGN Z a x1 h0 n0 vv_ UV_.heap LL_ ∧ FrameEnd UU_ oo_ UV_ LL_ ({ frames := 0, cells := 0, slots := 0, locals := 0 } : Room).cells ({ frames := 0, cells := 0, slots := 0, locals := 0 } : Room).slots) := by
  refine MetFree.of_bodySF (plainFor_of_name pn_5) hisR ?_
  intro p e s m args below meth c s₁ Bd hml0 hP hK
  obtain ⟨rfl, hZ, hh⟩ := hP
  have hx := Bd.exec
  have hby := Bd.bytes
  have hlk := BodyLoose.notSynchronized Bd
  have hml : c.maxLocals = 1 := hml0
  have hown : s.vm.findClass "tenorbook/cli/Arguments$Option" = some m.cls := findClass_of_methodNamed Bd.named
  have hnm := (name_of_methodNamed Bd.named Bd.method).1
  have X0 : Stand p l e ({ frames := 0, cells := 0, slots := 0, locals := 0 } : Room) s m #[(.ref a)] below meth c s₁ [] 0 0 := Stand.of_body Bd
  have e0 : s₁.heap = h0 := by rw [← hh, Bd.state]; rfl
  have N0 := Fr.nil n0
  suffices hOW : OW p e below s (QGN Z a x1 h0 n0) 0 0 (s₁.setTop (mkF m 0 #[.val (.ref a)] [])) by
    obtain ⟨oq1_, oq2_, oq3_, oq4_⟩ := hOW
    exact ⟨oq1_, oq2_, castTop (ef_GN m a) oq3_, oq4_⟩
  refine OW.st (B := s₁.setTop (mkF m 1 #[.val (.ref a)] [(.ref a)])) (fun _ kk_ => XS.aloadN X0.here hx rfl (hb hby d8_0) rfl rfl kk_) ?_
  obtain ⟨T89, X89, e89, st89⟩ := getF X0 hx hZ hown (host := "") (Or.inl (w_42 hw)) Via.refl e0 F (g := (mkF m 1 #[.val (.ref a)] [(.ref a)])) rfl rfl (hb hby d8_1)
  refine OW.st (B := T89.setTop (mkF m 4 #[.val (.ref a)] [(.ref x1)])) (st89) ?_
  exact OW.ret X89 hx hlk (i := .areturn) Bd.returns rfl (Or.inr (Or.inr (Or.inr (Or.inr ⟨rfl, rfl, rfl⟩)))) (hb hby d8_4) e89 (by decide) (by decide) ⟨rfl, N0, rfl⟩
theorem ef_GV (m : MethodId) (x0 : Addr) : entryFrame m #[(.ref x0)] 1 = mkF m 0 #[.val (.ref x0)] [] := by first | (simp [entryFrame, mkF, argsToLocals, Value.category]; done) | rfl
def QGV (Z : State) (a : Addr) (x1 : Addr) (h0 : Heap) (n0 : Nat) (v : Option Value) (h : Heap) (L : List Loc) : Prop := v = some (.ref x1) ∧ Fr n0 L ∧ h = h0
set_option maxRecDepth 65536 in
set_option maxHeartbeats 40000000 in
theorem rmGV (l : Launch) (Z : State) (a0 : Array Value) (hw : ∀ d ∈ tables_1, d.before a0 Z = true) (ws : List Jvm.Cond) (a : Addr) (x1 : Addr) (h0 : Heap) (n0 : Nat) (O0 : Old Z n0 h0) (F : Fld Z h0 a "tenorbook/cli/Arguments$Option" "value" "Ljava/lang/String;" (.ref x1)) :
    MetFree l (⟨"tenorbook/cli/Arguments$Option", "value", "()Ljava/lang/String;"⟩ : MethodName) (head1 (Jvm.Cond.code (⟨"tenorbook/cli/Arguments$Option", "value", "()Ljava/lang/String;"⟩ : MethodName) prog_45_method_10_code 1 (some (.object "java/lang/String")) :: ws) ({ frames := 0, cells := 0, slots := 0, locals := 0 } : Room)) (fun aa_ UU_ => aa_ = #[(.ref a)] ∧ Z.Warmed39 UU_.vm ∧ UU_.heap = h0) (fun _ _ _ _ _ => True) (fun _ UU_ oo_ UV_ => ∃ vv_ LL_, oo_ = .returned vv_ ∧ QGV Z a x1 h0 n0 vv_ UV_.heap LL_ ∧ FrameEnd UU_ oo_ UV_ LL_ ({ frames := 0, cells := 0, slots := 0, locals := 0 } : Room).cells ({ frames := 0, cells := 0, slots := 0, locals := 0 } : Room).slots) := by
  refine MetFree.of_bodySF (plainFor_of_name pn_5) hisR ?_
  intro p e s m args below meth c s₁ Bd hml0 hP hK
  obtain ⟨rfl, hZ, hh⟩ := hP
  have hx := Bd.exec
  have hby := Bd.bytes
  have hlk := BodyLoose.notSynchronized Bd
  have hml : c.maxLocals = 1 := hml0
  have hown : s.vm.findClass "tenorbook/cli/Arguments$Option" = some m.cls := findClass_of_methodNamed Bd.named
  have hnm := (name_of_methodNamed Bd.named Bd.method).1
  have X0 : Stand p l e ({ frames := 0, cells := 0, slots := 0, locals := 0 } : Room) s m #[(.ref a)] below meth c s₁ [] 0 0 := Stand.of_body Bd
  have e0 : s₁.heap = h0 := by rw [← hh, Bd.state]; rfl
  have N0 := Fr.nil n0
  suffices hOW : OW p e below s (QGV Z a x1 h0 n0) 0 0 (s₁.setTop (mkF m 0 #[.val (.ref a)] [])) by
    obtain ⟨oq1_, oq2_, oq3_, oq4_⟩ := hOW
    exact ⟨oq1_, oq2_, castTop (ef_GV m a) oq3_, oq4_⟩
  refine OW.st (B := s₁.setTop (mkF m 1 #[.val (.ref a)] [(.ref a)])) (fun _ kk_ => XS.aloadN X0.here hx rfl (hb hby d9_0) rfl rfl kk_) ?_
  obtain ⟨T90, X90, e90, st90⟩ := getF X0 hx hZ hown (host := "") (Or.inl (w_44 hw)) Via.refl e0 F (g := (mkF m 1 #[.val (.ref a)] [(.ref a)])) rfl rfl (hb hby d9_1)
  refine OW.st (B := T90.setTop (mkF m 4 #[.val (.ref a)] [(.ref x1)])) (st90) ?_
  exact OW.ret X90 hx hlk (i := .areturn) Bd.returns rfl (Or.inr (Or.inr (Or.inr (Or.inr ⟨rfl, rfl, rfl⟩)))) (hb hby d9_4) e90 (by decide) (by decide) ⟨rfl, N0, rfl⟩
theorem ef_GR (m : MethodId) (x0 : Addr) : entryFrame m #[(.ref x0)] 1 = mkF m 0 #[.val (.ref x0)] [] := by first | (simp [entryFrame, mkF, argsToLocals, Value.category]; done) | rfl
def QGR (Z : State) (b : Addr) (h0 : Heap) (n0 : Nat) (v : Option Value) (h : Heap) (L : List Loc) : Prop := v = some (.int 0) ∧ Fr n0 L ∧ h = h0
set_option maxRecDepth 65536 in
set_option maxHeartbeats 40000000 in
theorem rmGR (l : Launch) (Z : State) (a0 : Array Value) (hw : ∀ d ∈ tables_1, d.before a0 Z = true) (ws : List Jvm.Cond) (b : Addr) (h0 : Heap) (n0 : Nat) (O0 : Old Z n0 h0) (F : Fld Z h0 b "tenorbook/cli/Arguments$Option" "required" "Z" (.int (0 : Int32))) :
    MetFree l (⟨"tenorbook/cli/Arguments$Option", "required", "()Z"⟩ : MethodName) (head1 (Jvm.Cond.code (⟨"tenorbook/cli/Arguments$Option", "required", "()Z"⟩ : MethodName) prog_45_method_11_code 1 (some .boolean) :: ws) ({ frames := 0, cells := 0, slots := 0, locals := 0 } : Room)) (fun aa_ UU_ => aa_ = #[(.ref b)] ∧ Z.Warmed39 UU_.vm ∧ UU_.heap = h0) (fun _ _ _ _ _ => True) (fun _ UU_ oo_ UV_ => ∃ vv_ LL_, oo_ = .returned vv_ ∧ QGR Z b h0 n0 vv_ UV_.heap LL_ ∧ FrameEnd UU_ oo_ UV_ LL_ ({ frames := 0, cells := 0, slots := 0, locals := 0 } : Room).cells ({ frames := 0, cells := 0, slots := 0, locals := 0 } : Room).slots) := by
  refine MetFree.of_bodySF (plainFor_of_name pn_5) hisR ?_
  intro p e s m args below meth c s₁ Bd hml0 hP hK
  obtain ⟨rfl, hZ, hh⟩ := hP
  have hx := Bd.exec
  have hby := Bd.bytes
  have hlk := BodyLoose.notSynchronized Bd
  have hml : c.maxLocals = 1 := hml0
  have hown : s.vm.findClass "tenorbook/cli/Arguments$Option" = some m.cls := findClass_of_methodNamed Bd.named
  have hnm := (name_of_methodNamed Bd.named Bd.method).1
  have X0 : Stand p l e ({ frames := 0, cells := 0, slots := 0, locals := 0 } : Room) s m #[(.ref b)] below meth c s₁ [] 0 0 := Stand.of_body Bd
  have e0 : s₁.heap = h0 := by rw [← hh, Bd.state]; rfl
  have N0 := Fr.nil n0
  suffices hOW : OW p e below s (QGR Z b h0 n0) 0 0 (s₁.setTop (mkF m 0 #[.val (.ref b)] [])) by
    obtain ⟨oq1_, oq2_, oq3_, oq4_⟩ := hOW
    exact ⟨oq1_, oq2_, castTop (ef_GR m b) oq3_, oq4_⟩
  refine OW.st (B := s₁.setTop (mkF m 1 #[.val (.ref b)] [(.ref b)])) (fun _ kk_ => XS.aloadN X0.here hx rfl (hb hby d10_0) rfl rfl kk_) ?_
  obtain ⟨T91, X91, e91, st91⟩ := getF X0 hx hZ hown (host := "") (Or.inl (w_46 hw)) Via.refl e0 F (g := (mkF m 1 #[.val (.ref b)] [(.ref b)])) rfl rfl (hb hby d10_1)
  refine OW.st (B := T91.setTop (mkF m 4 #[.val (.ref b)] [(.int (0 : Int32))])) (st91) ?_
  exact OW.ret X91 hx hlk (i := .ireturn) Bd.returns rfl (Or.inl ⟨rfl, Or.inr (Or.inl rfl), _, rfl⟩) (hb hby d10_4) e91 (by decide) (by decide) ⟨rfl, N0, rfl⟩
theorem ef_IE (m : MethodId) (x0 : Addr) : entryFrame m #[(.ref x0)] 1 = mkF m 0 #[.val (.ref x0)] [] := by first | (simp [entryFrame, mkF, argsToLocals, Value.category]; done) | rfl
def QIE (Z : State) (b : Addr) (ba : Addr) (kb : ClassId) (h0 : Heap) (n0 : Nat) (v : Option Value) (h : Heap) (L : List Loc) : Prop := v = some (.int 1) ∧ Fr n0 L ∧ h = h0
set_option maxRecDepth 65536 in
set_option maxHeartbeats 40000000 in
theorem rmIE (l : Launch) (Z : State) (a0 : Array Value) (hw : ∀ d ∈ tables_1, d.before a0 Z = true) (ws : List Jvm.Cond) (b : Addr) (ba : Addr) (kb : ClassId) (h0 : Heap) (n0 : Nat) (O0 : Old Z n0 h0) (F : Fld Z h0 b "java/lang/String" "value" "[B" (.ref ba)) (V : Arv Z h0 ba kb .byte (0 : Int32) [] (.int (0 : Int32))) :
    MetFree l (⟨"java/lang/String", "isEmpty", "()Z"⟩ : MethodName) (head1 (Jvm.Cond.code (⟨"java/lang/String", "isEmpty", "()Z"⟩ : MethodName) jdk_42_method_55_code 1 (some .boolean) :: ws) ({ frames := 0, cells := 0, slots := 0, locals := 0 } : Room)) (fun aa_ UU_ => aa_ = #[(.ref b)] ∧ Z.Warmed39 UU_.vm ∧ UU_.heap = h0) (fun _ _ _ _ _ => True) (fun _ UU_ oo_ UV_ => ∃ vv_ LL_, oo_ = .returned vv_ ∧ QIE Z b ba kb h0 n0 vv_ UV_.heap LL_ ∧ FrameEnd UU_ oo_ UV_ LL_ ({ frames := 0, cells := 0, slots := 0, locals := 0 } : Room).cells ({ frames := 0, cells := 0, slots := 0, locals := 0 } : Room).slots) := by
  refine MetFree.of_bodySF (plainFor_of_name pn_1) hisR ?_
  intro p e s m args below meth c s₁ Bd hml0 hP hK
  obtain ⟨rfl, hZ, hh⟩ := hP
  have hx := Bd.exec
  have hby := Bd.bytes
  have hlk := BodyLoose.notSynchronized Bd
  have hml : c.maxLocals = 1 := hml0
  have hown : s.vm.findClass "java/lang/String" = some m.cls := findClass_of_methodNamed Bd.named
  have hnm := (name_of_methodNamed Bd.named Bd.method).1
  have X0 : Stand p l e ({ frames := 0, cells := 0, slots := 0, locals := 0 } : Room) s m #[(.ref b)] below meth c s₁ [] 0 0 := Stand.of_body Bd
  have e0 : s₁.heap = h0 := by rw [← hh, Bd.state]; rfl
  have N0 := Fr.nil n0
  suffices hOW : OW p e below s (QIE Z b ba kb h0 n0) 0 0 (s₁.setTop (mkF m 0 #[.val (.ref b)] [])) by
    obtain ⟨oq1_, oq2_, oq3_, oq4_⟩ := hOW
    exact ⟨oq1_, oq2_, castTop (ef_IE m b) oq3_, oq4_⟩
  refine OW.st (B := s₁.setTop (mkF m 1 #[.val (.ref b)] [(.ref b)])) (fun _ kk_ => XS.aloadN X0.here hx rfl (hb hby d12_0) rfl rfl kk_) ?_
  obtain ⟨T92, X92, e92, st92⟩ := getF X0 hx hZ hown (host := "") (Or.inl (w_24 hw)) Via.refl e0 F (g := (mkF m 1 #[.val (.ref b)] [(.ref b)])) rfl rfl (hb hby d12_1)
  refine OW.st (B := T92.setTop (mkF m 4 #[.val (.ref b)] [(.ref ba)])) (st92) ?_
  obtain ⟨cl93, Ar93, q93, S93, Ng93, Hs93, G93⟩ := id V
  refine OW.st (X92.arraylength hx (by rw [e92]; exact Ar93.1) (State.isArrayOf_alike hZ.alike Ar93.2.1) (g := (mkF m 4 #[.val (.ref b)] [(.ref ba)])) rfl rfl (hb hby d12_4)) ?_
  rw [len_of S93 Ng93]
  show OW p e below s (QIE Z b ba kb h0 n0) 0 0 (T92.setTop (mkF m 5 #[.val (.ref b)] [(.int (0 : Int32))]))
  refine OW.st (B := T92.setTop (mkF m 8 #[.val (.ref b)] [])) (fun _ kk_ => XS.ifNo X92.here hx rfl (hb hby d12_5) rfl ((if0 _ _).trans (teq (by decide)).2) kk_) ?_
  refine OW.st (B := T92.setTop (mkF m 9 #[.val (.ref b)] [(.int (1 : Int32))])) (fun _ kk_ => XS.iconst X92.here hx rfl (hb hby d12_8) kk_) ?_
  refine OW.st (B := T92.setTop (mkF m 13 #[.val (.ref b)] [(.int (1 : Int32))])) (fun _ kk_ => XS.goto X92.here hx rfl (pc0 := 9) (pc' := 13) rfl (hb hby d12_9) (by decide) (by decide) kk_) ?_
  exact OW.ret X92 hx hlk (i := .ireturn) Bd.returns rfl (Or.inl ⟨rfl, Or.inr (Or.inl rfl), _, rfl⟩) (hb hby d12_13) e92 (by decide) (by decide) ⟨rfl, N0, rfl⟩
theorem ef_GF (m : MethodId) (x0 : Addr) : entryFrame m #[(.ref x0)] 1 = mkF m 0 #[.val (.ref x0)] [] := by first | (simp [entryFrame, mkF, argsToLocals, Value.category]; done) | rfl
def QGF (Z : State) (b : Addr) (sb : Addr) (ba : Addr) (kb : ClassId) (h0 : Heap) (n0 : Nat) (v : Option Value) (h : Heap) (L : List Loc) : Prop := v = some (.int 1) ∧ Fr n0 L ∧ h = h0
set_option maxRecDepth 65536 in
set_option maxHeartbeats 40000000 in
theorem rmGF (l : Launch) (Z : State) (a0 : Array Value) (hw : ∀ d ∈ tables_1, d.before a0 Z = true) (ws : List Jvm.Cond) (b : Addr) (sb : Addr) (ba : Addr) (kb : ClassId) (h0 : Heap) (n0 : Nat) (O0 : Old Z n0 h0) (E : Exa Z h0 b "tenorbook/cli/Arguments$Option") (F1 : Fld Z h0 b "tenorbook/cli/Arguments$Option" "value" "Ljava/lang/String;" (.ref sb)) (Es : Exa Z h0 sb "java/lang/String") (F2 : Fld Z h0 sb "java/lang/String" "value" "[B" (.ref ba)) (V : Arv Z h0 ba kb .byte (0 : Int32) [] (.int (0 : Int32))) :
    MetFree l (⟨"tenorbook/cli/Arguments$Option", "isFlag", "()Z"⟩ : MethodName) (head1 (Jvm.Cond.code (⟨"tenorbook/cli/Arguments$Option", "isFlag", "()Z"⟩ : MethodName) prog_45_method_5_code 1 (some .boolean) :: ws) ({ frames := 1, cells := 0, slots := 0, locals := 12 } : Room)) (fun aa_ UU_ => aa_ = #[(.ref b)] ∧ Z.Warmed39 UU_.vm ∧ UU_.heap = h0) (fun _ _ _ _ _ => True) (fun _ UU_ oo_ UV_ => ∃ vv_ LL_, oo_ = .returned vv_ ∧ QGF Z b sb ba kb h0 n0 vv_ UV_.heap LL_ ∧ FrameEnd UU_ oo_ UV_ LL_ ({ frames := 1, cells := 0, slots := 0, locals := 12 } : Room).cells ({ frames := 1, cells := 0, slots := 0, locals := 12 } : Room).slots) := by
  refine MetFree.of_bodySF (plainFor_of_name pn_5) hisR ?_
  intro p e s m args below meth c s₁ Bd hml0 hP hK
  obtain ⟨rfl, hZ, hh⟩ := hP
  have hx := Bd.exec
  have hby := Bd.bytes
  have hlk := BodyLoose.notSynchronized Bd
  have hml : c.maxLocals = 1 := hml0
  have hown : s.vm.findClass "tenorbook/cli/Arguments$Option" = some m.cls := findClass_of_methodNamed Bd.named
  have hnm := (name_of_methodNamed Bd.named Bd.method).1
  have X0 : Stand p l e ({ frames := 1, cells := 0, slots := 0, locals := 12 } : Room) s m #[(.ref b)] below meth c s₁ [] 0 0 := Stand.of_body Bd
  have e0 : s₁.heap = h0 := by rw [← hh, Bd.state]; rfl
  have N0 := Fr.nil n0
  suffices hOW : OW p e below s (QGF Z b sb ba kb h0 n0) 0 0 (s₁.setTop (mkF m 0 #[.val (.ref b)] [])) by
    obtain ⟨oq1_, oq2_, oq3_, oq4_⟩ := hOW
    exact ⟨oq1_, oq2_, castTop (ef_GF m b) oq3_, oq4_⟩
  refine OW.st (B := s₁.setTop (mkF m 1 #[.val (.ref b)] [(.ref b)])) (fun _ kk_ => XS.aloadN X0.here hx rfl (hb hby d11_0) rfl rfl kk_) ?_
  obtain ⟨T94, X94, e94, st94⟩ := getF X0 hx hZ hown (host := "") (Or.inl (w_44 hw)) Via.refl e0 F1 (g := (mkF m 1 #[.val (.ref b)] [(.ref b)])) rfl rfl (hb hby d11_1)
  refine OW.st (B := T94.setTop (mkF m 4 #[.val (.ref b)] [(.ref sb)])) (st94) ?_
  obtain ⟨cq95, kq95, q95a, q95b, q95c⟩ := isOf hZ e94 Es
  obtain ⟨_, _, ⟨T95, L95, k95, n95⟩, -, X95, ⟨Lc95, hQ95, l95, y95, z95⟩, st95⟩ := X94.virtualBack hx (y := (⟨"java/lang/String", "isEmpty", "()Z"⟩ : MethodName)) (z := (⟨"java/lang/String", "isEmpty", "()Z"⟩ : MethodName)) hown (mvT hZ (w_68 hw)) (mvT hZ (w_69 hw)) (notFace_of_selects (args := #[]) (mvT hZ (w_71 hw))) (mvT hZ (w_71 hw)) (mvT hZ (w_70 hw)) (by decide) (backOf (W := 0) (rmIE l Z a0 hw [] sb ba kb h0 n0 O0 F2 V) hZ (w_72 hw) (w_6 hw) (by decide) (by decide)) q95a q95c (g := (mkF m 4 #[.val (.ref b)] [(.ref sb)])) rfl (by rw [hml]; rfl) (Steps.refl _) (argsL := []) (rest := []) (lenOf pd_11 rfl) rfl (by show 2 * 0 + _ ≤ _; exact Nat.le_of_eq rfl) (hb hby d11_4) (fun _ _ => ⟨rfl, e94, (by decide : 0 + 0 ≤ _), (by decide : 0 + 0 ≤ _)⟩)
  dsimp only [Pt.U, Pt.locs, Pt.cells, Pt.slots] at X95 l95 y95 z95 st95 hQ95
  subst l95 y95 z95
  obtain ⟨rfl, Nq95, e95⟩ := hQ95
  have N95 := Fr.app N0 Nq95
  refine OW.tr (B := T95.setTop (mkF m 7 #[.val (.ref b)] [(.int (1 : Int32))])) (st95) ?_
  exact OW.ret X95 hx hlk (i := .ireturn) Bd.returns rfl (Or.inl ⟨rfl, Or.inr (Or.inl rfl), _, rfl⟩) (hb hby d11_7) e95 (by decide) (by decide) ⟨rfl, N95, rfl⟩
theorem ef_EQ (m : MethodId) (x0 : Addr) (x1 : Addr) : entryFrame m #[(.ref x0), (.ref x1)] 3 = mkF m 0 #[.val (.ref x0), .val (.ref x1), .unset] [] := by first | (simp [entryFrame, mkF, argsToLocals, Value.category]; done) | rfl
def QEQ (Z : State) (a : Addr) (h0 : Heap) (n0 : Nat) (v : Option Value) (h : Heap) (L : List Loc) : Prop := v = some (.int 1) ∧ Fr n0 L ∧ h = h0
set_option maxRecDepth 65536 in
set_option maxHeartbeats 40000000 in
theorem rmEQ (l : Launch) (Z : State) (a0 : Array Value) (hw : ∀ d ∈ tables_1, d.before a0 Z = true) (ws : List Jvm.Cond) (a : Addr) (h0 : Heap) (n0 : Nat) (O0 : Old Z n0 h0) :
    MetFree l (⟨"java/lang/String", "equals", "(Ljava/lang/Object;)Z"⟩ : MethodName) (head1 (Jvm.Cond.code (⟨"java/lang/String", "equals", "(Ljava/lang/Object;)Z"⟩ : MethodName) jdk_42_method_66_code 3 (some .boolean) :: ws) ({ frames := 0, cells := 0, slots := 0, locals := 0 } : Room)) (fun aa_ UU_ => aa_ = #[(.ref a), (.ref a)] ∧ Z.Warmed39 UU_.vm ∧ UU_.heap = h0) (fun _ _ _ _ _ => True) (fun _ UU_ oo_ UV_ => ∃ vv_ LL_, oo_ = .returned vv_ ∧ QEQ Z a h0 n0 vv_ UV_.heap LL_ ∧ FrameEnd UU_ oo_ UV_ LL_ ({ frames := 0, cells := 0, slots := 0, locals := 0 } : Room).cells ({ frames := 0, cells := 0, slots := 0, locals := 0 } : Room).slots) := by
  refine MetFree.of_bodySF (plainFor_of_name pn_1) hisR ?_
  intro p e s m args below meth c s₁ Bd hml0 hP hK
  obtain ⟨rfl, hZ, hh⟩ := hP
  have hx := Bd.exec
  have hby := Bd.bytes
  have hlk := BodyLoose.notSynchronized Bd
  have hml : c.maxLocals = 3 := hml0
  have hown : s.vm.findClass "java/lang/String" = some m.cls := findClass_of_methodNamed Bd.named
  have hnm := (name_of_methodNamed Bd.named Bd.method).1
  have X0 : Stand p l e ({ frames := 0, cells := 0, slots := 0, locals := 0 } : Room) s m #[(.ref a), (.ref a)] below meth c s₁ [] 0 0 := Stand.of_body Bd
  have e0 : s₁.heap = h0 := by rw [← hh, Bd.state]; rfl
  have N0 := Fr.nil n0
  suffices hOW : OW p e below s (QEQ Z a h0 n0) 0 0 (s₁.setTop (mkF m 0 #[.val (.ref a), .val (.ref a), .unset] [])) by
    obtain ⟨oq1_, oq2_, oq3_, oq4_⟩ := hOW
    exact ⟨oq1_, oq2_, castTop (ef_EQ m a a) oq3_, oq4_⟩
  refine OW.st (B := s₁.setTop (mkF m 1 #[.val (.ref a), .val (.ref a), .unset] [(.ref a)])) (fun _ kk_ => XS.aloadN X0.here hx rfl (hb hby d13_0) rfl rfl kk_) ?_
  refine OW.st (B := s₁.setTop (mkF m 2 #[.val (.ref a), .val (.ref a), .unset] [(.ref a), (.ref a)])) (fun _ kk_ => XS.aloadN X0.here hx rfl (hb hby d13_1) rfl rfl kk_) ?_
  refine OW.st (B := s₁.setTop (mkF m 5 #[.val (.ref a), .val (.ref a), .unset] [])) (fun _ kk_ => Jvm.RoadKit.acmp (g := (mkF m 2 #[.val (.ref a), .val (.ref a), .unset] [(.ref a), (.ref a)])) X0 hx rfl rfl rfl (pc0 := 2) (pc' := 5) (same := true) rfl (hb hby d13_2) rfl (decide_eq_true rfl) (by decide) (by decide) kk_) ?_
  refine OW.st (B := s₁.setTop (mkF m 6 #[.val (.ref a), .val (.ref a), .unset] [(.int (1 : Int32))])) (fun _ kk_ => XS.iconst X0.here hx rfl (hb hby d13_5) kk_) ?_
  exact OW.ret X0 hx hlk (i := .ireturn) Bd.returns rfl (Or.inl ⟨rfl, Or.inr (Or.inl rfl), _, rfl⟩) (hb hby d13_6) e0 (by decide) (by decide) ⟨rfl, N0, rfl⟩
theorem ef_0 (m : MethodId) (x0 : Int32) (x1 : Int32) (x2 : Int32) (x3 : Int32) : entryFrame m #[(.int x0), (.int x1), (.int x2), (.int x3)] maxLocals = mkF m 0 #[.val (.int x0), .val (.int x1), .val (.int x2), .val (.int x3), .unset, .unset, .unset, .unset, .unset, .unset] [] := by first | (simp [entryFrame, mkF, argsToLocals, Value.category, maxLocals]; done) | rfl
def Q0 (Z : State) (n1 : Int32) (n2 : Int32) (n3 : Int32) (n4 : Int32) (i_COMPACT_STRINGS : Int32) (v_SIOOBE_FORMATTER : Value) (h0 : Heap) (n0 : Nat) (v : Option Value) (h : Heap) (L : List Loc) : Prop := v = some (.int 1) ∧ Fr n0 L
set_option maxRecDepth 65536 in
set_option maxHeartbeats 40000000 in
theorem rm0 (l : Launch) (Z : State) (a0 : Array Value) (hw : ∀ d ∈ tables_1, d.before a0 Z = true) (ws : List Jvm.Cond) (n1 : Int32) (n2 : Int32) (n3 : Int32) (n4 : Int32) (i_COMPACT_STRINGS : Int32) (v_SIOOBE_FORMATTER : Value) (h0 : Heap) (n0 : Nat) (O0 : Old Z n0 h0) (hS : OwnS Z i_COMPACT_STRINGS v_SIOOBE_FORMATTER) :
    MetFree l x (head1 (Jvm.Cond.code x code maxLocals ret :: ws) room_1) (fun aa_ UU_ => aa_ = #[(.int n1), (.int n2), (.int n3), (.int n4)] ∧ Z.Warmed39 UU_.vm ∧ UU_.heap = h0 ∧ CHv Z consts_1 UU_.vm h0) (fun _ _ _ _ _ => True) (fun _ UU_ oo_ UV_ => ∃ vv_ LL_, oo_ = .returned vv_ ∧ Q0 Z n1 n2 n3 n4 i_COMPACT_STRINGS v_SIOOBE_FORMATTER h0 n0 vv_ UV_.heap LL_ ∧ CHr Z consts_1 UU_.vm UU_.heap UV_.vm UV_.heap ∧ ReturnedEndW UU_ oo_ UV_ LL_ 9 19) := by
  refine MetFree.of_bodySF (plainFor_of_name pn_3) hisR ?_
  intro p e s m args below meth c s₁ Bd hml0 hP hK
  obtain ⟨rfl, hZ, hh, hCH⟩ := hP
  have hx := Bd.exec
  have hby := Bd.bytes
  have hlk := BodyLoose.notSynchronized Bd
  have hml : c.maxLocals = 10 := hml0
  have hown : s.vm.findClass "tenorbook/cli/OptionFlagPinLaw" = some m.cls := findClass_of_methodNamed Bd.named
  have hnm := (name_of_methodNamed Bd.named Bd.method).1
  have X0 : Stand p l e room_1 s m #[(.int n1), (.int n2), (.int n3), (.int n4)] below meth c s₁ [] 0 0 := Stand.of_body Bd
  have e0 : s₁.heap = h0 := by rw [← hh, Bd.state]; rfl
  have N0 := Fr.nil n0
  have hS0 : s.Since s.vm 0 := (State.WarmedH.refl s).since 0
  have hk0 : 0 ≤ h0.size := Nat.zero_le _
  have CR0 : CHr Z consts_1 s.vm h0 s.vm h0 := CHr.refl hCH
  suffices hOW : OWH Z consts_1 h0 p e below s (Q0 Z n1 n2 n3 n4 i_COMPACT_STRINGS v_SIOOBE_FORMATTER h0 n0) 9 19 (s₁.setTop (mkF m 0 #[.val (.int n1), .val (.int n2), .val (.int n3), .val (.int n4), .unset, .unset, .unset, .unset, .unset, .unset] [])) by
    obtain ⟨oq1_, oq2_, oq3_, oq4_⟩ := hOW
    obtain ⟨oq5_, oq6_, oq7_, oq8_, oq9_, or1_, or2_, or3_⟩ := oq4_
    exact ⟨oq1_, oq2_, castTop (ef_0 m n1 n2 n3 n4) oq3_, oq5_, oq6_, oq7_, oq8_, oq9_, or1_, by rw [hh]; exact or2_, or3_⟩
  have hS' := hS
  obtain ⟨Si_COMPACT_STRINGS, Sv_SIOOBE_FORMATTER, Rv_SIOOBE_FORMATTER, Pi_COMPACT_STRINGS⟩ := hS'
  refine OWH.st (B := s₁.setTop (mkF m 1 #[.val (.int n1), .val (.int n2), .val (.int n3), .val (.int n4), .unset, .unset, .unset, .unset, .unset, .unset] [(.int n1)])) (fun _ kk_ => XS.iloadN X0.here hx rfl (hb hby at_0) rfl kk_) ?_
  refine OWH.st (B := s₁.setTop (mkF m 2 #[.val (.int n1), .val (.int n2), .val (.int n3), .val (.int n4), .unset, .unset, .unset, .unset, .unset, .unset] [(.int n2), (.int n1)])) (fun _ kk_ => XS.iloadN X0.here hx rfl (hb hby at_1) rfl kk_) ?_
  refine OWH.st (B := s₁.setTop (mkF m 3 #[.val (.int n1), .val (.int n2), .val (.int n3), .val (.int n4), .unset, .unset, .unset, .unset, .unset, .unset] [(.int n3), (.int n2), (.int n1)])) (fun _ kk_ => XS.iloadN X0.here hx rfl (hb hby at_2) rfl kk_) ?_
  refine OWH.st (B := s₁.setTop (mkF m 4 #[.val (.int n1), .val (.int n2), .val (.int n3), .val (.int n4), .unset, .unset, .unset, .unset, .unset, .unset] [(.int n4), (.int n3), (.int n2), (.int n1)])) (fun _ kk_ => XS.iloadN X0.here hx rfl (hb hby at_3) rfl kk_) ?_
  obtain ⟨_, _, ⟨T96, L96, k96, n96⟩, -, X96, hs96, hsz96, ⟨Lc96, hQ96, l96, y96, z96, CQ96⟩, st96⟩ := callSS X0 hx (y := (⟨"tenorbook/cli/OptionFlagPinLaw", "draw", "(IIII)Ljava/lang/String;"⟩ : MethodName)) hown (mvT hZ (w_0 hw)) (mvT hZ (w_1 hw)) (mvT hZ (w_2 hw)) (mvT hZ (w_3 hw)) (by decide) (backOfSH (W := 0) (rmDR l Z a0 hw [] n1 n2 n3 n4 i_COMPACT_STRINGS v_SIOOBE_FORMATTER h0 n0 O0 hS) hZ (w_3 hw) (w_2 hw) (by decide) (by decide) (own_EW hw) CR0.1) (g := (mkF m 4 #[.val (.int n1), .val (.int n2), .val (.int n3), .val (.int n4), .unset, .unset, .unset, .unset, .unset, .unset] [(.int n4), (.int n3), (.int n2), (.int n1)])) rfl (by rw [hml]; rfl) (argsL := [(.int n1), (.int n2), (.int n3), (.int n4)]) (rest := []) (lenOf pd_12 rfl) rfl (by show 2 * 0 + _ ≤ _; exact Nat.le_of_eq rfl) (hb hby at_4) (fun _ _ => ⟨rfl, e0, (by decide : 0 + 6 ≤ _), (by decide : 0 + 12 ≤ _)⟩)
  dsimp only [Pt.U, Pt.locs, Pt.cells, Pt.slots] at hs96 hsz96
  have hS96 := foldS hS0 (show _ ≤ s₁.heap.size by rw [e0]; exact hk0) hs96 hsz96
  have hZ96 : Z.Warmed39 (s.setVm T96.vm).vm := State.Warmed39.trans (t := s) hZ hs96.1
  have hown96 : (s.setVm T96.vm).vm.findClass "tenorbook/cli/OptionFlagPinLaw" = some m.cls := by rw [show (s.setVm T96.vm).vm = T96.vm from rfl, hs96.1.alike.findClass]; exact hown
  dsimp only [Pt.U, Pt.locs, Pt.cells, Pt.slots] at X96 l96 y96 z96 st96 hQ96 CQ96
  subst l96 y96 z96
  obtain ⟨b96, rfl, Nq96, K96, gb96, Eb96⟩ := hQ96
  have N96 := Fr.app N0 Nq96
  have O96 : Old Z n0 T96.heap := O0.keep K96 all0
  have CS96 : CHr Z consts_1 s.vm h0 T96.vm T96.heap := CQ96
  have CR96 := CHr.trans CR0 CS96
  have hk96 : T96.heap.size ≤ T96.heap.size := Nat.le_of_eq (by rfl)
  refine OWH.tr (B := T96.setTop (mkF m 7 #[.val (.int n1), .val (.int n2), .val (.int n3), .val (.int n4), .unset, .unset, .unset, .unset, .unset, .unset] [(.ref b96)])) (st96) ?_
  refine OWH.st (B := T96.setTop (mkF m 9 #[.val (.int n1), .val (.int n2), .val (.int n3), .val (.int n4), .val (.ref b96), .unset, .unset, .unset, .unset, .unset] [])) (fun _ kk_ => XS.astore X96.here hx rfl (hb hby at_7) rfl rfl (l' := #[.val (.int n1), .val (.int n2), .val (.int n3), .val (.int n4), .val (.ref b96), .unset, .unset, .unset, .unset, .unset]) rfl kk_) ?_
  refine OWH.st (B := T96.setTop (mkF m 11 #[.val (.int n1), .val (.int n2), .val (.int n3), .val (.int n4), .val (.ref b96), .unset, .unset, .unset, .unset, .unset] [(.ref b96)])) (fun _ kk_ => XS.aload X96.here hx rfl (hb hby at_9) rfl rfl kk_) ?_
  obtain ⟨_, _, ⟨T97, L97, k97, n97⟩, -, X97, hs97, hsz97, ⟨Lc97, hQ97, l97, y97, z97, CQ97⟩, st97⟩ := callSS X96 hx (y := (⟨"tenorbook/cli/Arguments$Option", "flag", "(Ljava/lang/String;)Ltenorbook/cli/Arguments$Option;"⟩ : MethodName)) hown96 (mvT hZ96 (w_26 hw)) (mvT hZ96 (w_27 hw)) (mvT hZ96 (w_28 hw)) (mvT hZ96 (w_29 hw)) (by decide) (backOfSH (W := 0) (rmFL l Z a0 hw [] b96 T96.heap n0 O96 ) hZ96 (w_29 hw) (w_28 hw) (by decide) (by decide) (own_EW hw) CR96.1) (g := (mkF m 11 #[.val (.int n1), .val (.int n2), .val (.int n3), .val (.int n4), .val (.ref b96), .unset, .unset, .unset, .unset, .unset] [(.ref b96)])) rfl (by rw [hml]; rfl) (argsL := [(.ref b96)]) (rest := []) (lenOf pd_13 rfl) rfl (by show 2 * 0 + _ ≤ _; exact Nat.le_of_eq rfl) (hb hby at_11) (fun _ _ => ⟨rfl, rfl, (by decide : 6 + 3 ≤ _), (by decide : 12 + 7 ≤ _)⟩)
  dsimp only [Pt.U, Pt.locs, Pt.cells, Pt.slots] at hs97 hsz97
  have hS97 := foldS hS96 hk96 hs97 hsz97
  have hZ97 : Z.Warmed39 (s.setVm T97.vm).vm := State.Warmed39.trans (t := (s.setVm T96.vm)) hZ96 hs97.1
  have hown97 : (s.setVm T97.vm).vm.findClass "tenorbook/cli/OptionFlagPinLaw" = some m.cls := by rw [show (s.setVm T97.vm).vm = T97.vm from rfl, hs97.1.alike.findClass]; exact hown96
  dsimp only [Pt.U, Pt.locs, Pt.cells, Pt.slots] at X97 l97 y97 z97 st97 hQ97 CQ97
  subst l97 y97 z97
  obtain ⟨b97, sb97, vb97, kv97, rfl, Nq97, K97, gb97, Eb97, Fn97, Fa97, Fr97, Es97, Fs97, Vv97⟩ := hQ97
  have N97 := Fr.app N96 Nq97
  have O97 : Old Z n0 T97.heap := O96.keep K97 all0
  have CS97 : CHr Z consts_1 T96.vm T96.heap T97.vm T97.heap := CQ97
  have CR97 := CHr.trans CR96 CS97
  have hk97 : T97.heap.size ≤ T97.heap.size := Nat.le_of_eq (by rfl)
  refine OWH.tr (B := T97.setTop (mkF m 14 #[.val (.int n1), .val (.int n2), .val (.int n3), .val (.int n4), .val (.ref b96), .unset, .unset, .unset, .unset, .unset] [(.ref b97)])) (st97) ?_
  refine OWH.st (B := T97.setTop (mkF m 16 #[.val (.int n1), .val (.int n2), .val (.int n3), .val (.int n4), .val (.ref b96), .val (.ref b97), .unset, .unset, .unset, .unset] [])) (fun _ kk_ => XS.astore X97.here hx rfl (hb hby at_14) rfl rfl (l' := #[.val (.int n1), .val (.int n2), .val (.int n3), .val (.int n4), .val (.ref b96), .val (.ref b97), .unset, .unset, .unset, .unset]) rfl kk_) ?_
  refine OWH.st (B := T97.setTop (mkF m 18 #[.val (.int n1), .val (.int n2), .val (.int n3), .val (.int n4), .val (.ref b96), .val (.ref b97), .unset, .unset, .unset, .unset] [(.ref b97)])) (fun _ kk_ => XS.aload X97.here hx rfl (hb hby at_16) rfl rfl kk_) ?_
  obtain ⟨cq98, kq98, q98a, q98b, q98c⟩ := isOf hZ97 rfl Eb97
  obtain ⟨_, _, ⟨T98, L98, k98, n98⟩, -, X98, ⟨Lc98, hQ98, l98, y98, z98⟩, st98⟩ := X97.virtualBack hx (y := (⟨"tenorbook/cli/Arguments$Option", "name", "()Ljava/lang/String;"⟩ : MethodName)) (z := (⟨"tenorbook/cli/Arguments$Option", "name", "()Ljava/lang/String;"⟩ : MethodName)) hown97 (mvT hZ97 (w_48 hw)) (mvT hZ97 (w_49 hw)) (notFace_of_selects (args := #[]) (mvT hZ97 (w_51 hw))) (mvT hZ97 (w_51 hw)) (mvT hZ97 (w_50 hw)) (by decide) (backOf (W := 0) (rmGN l Z a0 hw [] b97 b96 T97.heap n0 O97 Fn97) hZ97 (w_52 hw) (w_28 hw) (by decide) (by decide)) q98a q98c (g := (mkF m 18 #[.val (.int n1), .val (.int n2), .val (.int n3), .val (.int n4), .val (.ref b96), .val (.ref b97), .unset, .unset, .unset, .unset] [(.ref b97)])) rfl (by rw [hml]; rfl) (Steps.refl _) (argsL := []) (rest := []) (lenOf pd_14 rfl) rfl (by show 2 * 0 + _ ≤ _; exact Nat.le_of_eq rfl) (hb hby at_18) (fun _ _ => ⟨rfl, rfl, (by decide : 9 + 0 ≤ _), (by decide : 19 + 0 ≤ _)⟩)
  dsimp only [Pt.U, Pt.locs, Pt.cells, Pt.slots] at X98 l98 y98 z98 st98 hQ98
  subst l98 y98 z98
  obtain ⟨rfl, Nq98, e98⟩ := hQ98
  have N98 := Fr.app N97 Nq98
  refine OWH.tr (B := T98.setTop (mkF m 21 #[.val (.int n1), .val (.int n2), .val (.int n3), .val (.int n4), .val (.ref b96), .val (.ref b97), .unset, .unset, .unset, .unset] [(.ref b96)])) (st98) ?_
  refine OWH.st (B := T98.setTop (mkF m 23 #[.val (.int n1), .val (.int n2), .val (.int n3), .val (.int n4), .val (.ref b96), .val (.ref b97), .val (.ref b96), .unset, .unset, .unset] [])) (fun _ kk_ => XS.astore X98.here hx rfl (hb hby at_21) rfl rfl (l' := #[.val (.int n1), .val (.int n2), .val (.int n3), .val (.int n4), .val (.ref b96), .val (.ref b97), .val (.ref b96), .unset, .unset, .unset]) rfl kk_) ?_
  refine OWH.st (B := T98.setTop (mkF m 25 #[.val (.int n1), .val (.int n2), .val (.int n3), .val (.int n4), .val (.ref b96), .val (.ref b97), .val (.ref b96), .unset, .unset, .unset] [(.ref b97)])) (fun _ kk_ => XS.aload X98.here hx rfl (hb hby at_23) rfl rfl kk_) ?_
  obtain ⟨cq99, kq99, q99a, q99b, q99c⟩ := isOf hZ97 e98 Eb97
  obtain ⟨_, _, ⟨T99, L99, k99, n99⟩, -, X99, ⟨Lc99, hQ99, l99, y99, z99⟩, st99⟩ := X98.virtualBack hx (y := (⟨"tenorbook/cli/Arguments$Option", "value", "()Ljava/lang/String;"⟩ : MethodName)) (z := (⟨"tenorbook/cli/Arguments$Option", "value", "()Ljava/lang/String;"⟩ : MethodName)) hown97 (mvT hZ97 (w_53 hw)) (mvT hZ97 (w_54 hw)) (notFace_of_selects (args := #[]) (mvT hZ97 (w_56 hw))) (mvT hZ97 (w_56 hw)) (mvT hZ97 (w_55 hw)) (by decide) (backOf (W := 0) (rmGV l Z a0 hw [] b97 sb97 T97.heap n0 O97 Fa97) hZ97 (w_57 hw) (w_28 hw) (by decide) (by decide)) q99a q99c (g := (mkF m 25 #[.val (.int n1), .val (.int n2), .val (.int n3), .val (.int n4), .val (.ref b96), .val (.ref b97), .val (.ref b96), .unset, .unset, .unset] [(.ref b97)])) rfl (by rw [hml]; rfl) (Steps.refl _) (argsL := []) (rest := []) (lenOf pd_14 rfl) rfl (by show 2 * 0 + _ ≤ _; exact Nat.le_of_eq rfl) (hb hby at_25) (fun _ _ => ⟨rfl, e98, (by decide : 9 + 0 ≤ _), (by decide : 19 + 0 ≤ _)⟩)
  dsimp only [Pt.U, Pt.locs, Pt.cells, Pt.slots] at X99 l99 y99 z99 st99 hQ99
  subst l99 y99 z99
  obtain ⟨rfl, Nq99, e99⟩ := hQ99
  have N99 := Fr.app N98 Nq99
  refine OWH.tr (B := T99.setTop (mkF m 28 #[.val (.int n1), .val (.int n2), .val (.int n3), .val (.int n4), .val (.ref b96), .val (.ref b97), .val (.ref b96), .unset, .unset, .unset] [(.ref sb97)])) (st99) ?_
  refine OWH.st (B := T99.setTop (mkF m 30 #[.val (.int n1), .val (.int n2), .val (.int n3), .val (.int n4), .val (.ref b96), .val (.ref b97), .val (.ref b96), .val (.ref sb97), .unset, .unset] [])) (fun _ kk_ => XS.astore X99.here hx rfl (hb hby at_28) rfl rfl (l' := #[.val (.int n1), .val (.int n2), .val (.int n3), .val (.int n4), .val (.ref b96), .val (.ref b97), .val (.ref b96), .val (.ref sb97), .unset, .unset]) rfl kk_) ?_
  refine OWH.st (B := T99.setTop (mkF m 32 #[.val (.int n1), .val (.int n2), .val (.int n3), .val (.int n4), .val (.ref b96), .val (.ref b97), .val (.ref b96), .val (.ref sb97), .unset, .unset] [(.ref b97)])) (fun _ kk_ => XS.aload X99.here hx rfl (hb hby at_30) rfl rfl kk_) ?_
  obtain ⟨cq100, kq100, q100a, q100b, q100c⟩ := isOf hZ97 e99 Eb97
  obtain ⟨_, _, ⟨T100, L100, k100, n100⟩, -, X100, ⟨Lc100, hQ100, l100, y100, z100⟩, st100⟩ := X99.virtualBack hx (y := (⟨"tenorbook/cli/Arguments$Option", "required", "()Z"⟩ : MethodName)) (z := (⟨"tenorbook/cli/Arguments$Option", "required", "()Z"⟩ : MethodName)) hown97 (mvT hZ97 (w_58 hw)) (mvT hZ97 (w_59 hw)) (notFace_of_selects (args := #[]) (mvT hZ97 (w_61 hw))) (mvT hZ97 (w_61 hw)) (mvT hZ97 (w_60 hw)) (by decide) (backOf (W := 0) (rmGR l Z a0 hw [] b97 T97.heap n0 O97 Fr97) hZ97 (w_62 hw) (w_28 hw) (by decide) (by decide)) q100a q100c (g := (mkF m 32 #[.val (.int n1), .val (.int n2), .val (.int n3), .val (.int n4), .val (.ref b96), .val (.ref b97), .val (.ref b96), .val (.ref sb97), .unset, .unset] [(.ref b97)])) rfl (by rw [hml]; rfl) (Steps.refl _) (argsL := []) (rest := []) (lenOf pd_11 rfl) rfl (by show 2 * 0 + _ ≤ _; exact Nat.le_of_eq rfl) (hb hby at_32) (fun _ _ => ⟨rfl, e99, (by decide : 9 + 0 ≤ _), (by decide : 19 + 0 ≤ _)⟩)
  dsimp only [Pt.U, Pt.locs, Pt.cells, Pt.slots] at X100 l100 y100 z100 st100 hQ100
  subst l100 y100 z100
  obtain ⟨rfl, Nq100, e100⟩ := hQ100
  have N100 := Fr.app N99 Nq100
  refine OWH.tr (B := T100.setTop (mkF m 35 #[.val (.int n1), .val (.int n2), .val (.int n3), .val (.int n4), .val (.ref b96), .val (.ref b97), .val (.ref b96), .val (.ref sb97), .unset, .unset] [(.int (0 : Int32))])) (st100) ?_
  refine OWH.st (B := T100.setTop (mkF m 37 #[.val (.int n1), .val (.int n2), .val (.int n3), .val (.int n4), .val (.ref b96), .val (.ref b97), .val (.ref b96), .val (.ref sb97), .val (.int (0 : Int32)), .unset] [])) (fun _ kk_ => XS.istore X100.here hx rfl (hb hby at_35) rfl (l' := #[.val (.int n1), .val (.int n2), .val (.int n3), .val (.int n4), .val (.ref b96), .val (.ref b97), .val (.ref b96), .val (.ref sb97), .val (.int (0 : Int32)), .unset]) rfl kk_) ?_
  refine OWH.st (B := T100.setTop (mkF m 39 #[.val (.int n1), .val (.int n2), .val (.int n3), .val (.int n4), .val (.ref b96), .val (.ref b97), .val (.ref b96), .val (.ref sb97), .val (.int (0 : Int32)), .unset] [(.ref b97)])) (fun _ kk_ => XS.aload X100.here hx rfl (hb hby at_37) rfl rfl kk_) ?_
  obtain ⟨cq101, kq101, q101a, q101b, q101c⟩ := isOf hZ97 e100 Eb97
  obtain ⟨_, _, ⟨T101, L101, k101, n101⟩, -, X101, ⟨Lc101, hQ101, l101, y101, z101⟩, st101⟩ := X100.virtualBack hx (y := (⟨"tenorbook/cli/Arguments$Option", "isFlag", "()Z"⟩ : MethodName)) (z := (⟨"tenorbook/cli/Arguments$Option", "isFlag", "()Z"⟩ : MethodName)) hown97 (mvT hZ97 (w_63 hw)) (mvT hZ97 (w_64 hw)) (notFace_of_selects (args := #[]) (mvT hZ97 (w_66 hw))) (mvT hZ97 (w_66 hw)) (mvT hZ97 (w_65 hw)) (by decide) (backOf (W := 0) (rmGF l Z a0 hw [] b97 sb97 vb97 kv97 T97.heap n0 O97 Eb97 Fa97 Es97 Fs97 Vv97) hZ97 (w_67 hw) (w_28 hw) (by decide) (by decide)) q101a q101c (g := (mkF m 39 #[.val (.int n1), .val (.int n2), .val (.int n3), .val (.int n4), .val (.ref b96), .val (.ref b97), .val (.ref b96), .val (.ref sb97), .val (.int (0 : Int32)), .unset] [(.ref b97)])) rfl (by rw [hml]; rfl) (Steps.refl _) (argsL := []) (rest := []) (lenOf pd_11 rfl) rfl (by show 2 * 0 + _ ≤ _; exact Nat.le_of_eq rfl) (hb hby at_39) (fun _ _ => ⟨rfl, e100, (by decide : 9 + 0 ≤ _), (by decide : 19 + 0 ≤ _)⟩)
  dsimp only [Pt.U, Pt.locs, Pt.cells, Pt.slots] at X101 l101 y101 z101 st101 hQ101
  subst l101 y101 z101
  obtain ⟨rfl, Nq101, e101⟩ := hQ101
  have N101 := Fr.app N100 Nq101
  refine OWH.tr (B := T101.setTop (mkF m 42 #[.val (.int n1), .val (.int n2), .val (.int n3), .val (.int n4), .val (.ref b96), .val (.ref b97), .val (.ref b96), .val (.ref sb97), .val (.int (0 : Int32)), .unset] [(.int (1 : Int32))])) (st101) ?_
  refine OWH.st (B := T101.setTop (mkF m 44 #[.val (.int n1), .val (.int n2), .val (.int n3), .val (.int n4), .val (.ref b96), .val (.ref b97), .val (.ref b96), .val (.ref sb97), .val (.int (0 : Int32)), .val (.int (1 : Int32))] [])) (fun _ kk_ => XS.istore X101.here hx rfl (hb hby at_42) rfl (l' := #[.val (.int n1), .val (.int n2), .val (.int n3), .val (.int n4), .val (.ref b96), .val (.ref b97), .val (.ref b96), .val (.ref sb97), .val (.int (0 : Int32)), .val (.int (1 : Int32))]) rfl kk_) ?_
  refine OWH.st (B := T101.setTop (mkF m 46 #[.val (.int n1), .val (.int n2), .val (.int n3), .val (.int n4), .val (.ref b96), .val (.ref b97), .val (.ref b96), .val (.ref sb97), .val (.int (0 : Int32)), .val (.int (1 : Int32))] [(.ref b96)])) (fun _ kk_ => XS.aload X101.here hx rfl (hb hby at_44) rfl rfl kk_) ?_
  refine OWH.st (B := T101.setTop (mkF m 49 #[.val (.int n1), .val (.int n2), .val (.int n3), .val (.int n4), .val (.ref b96), .val (.ref b97), .val (.ref b96), .val (.ref sb97), .val (.int (0 : Int32)), .val (.int (1 : Int32))] [])) (fun _ kk_ => XS.ifnullNo X101.here hx rfl (hb hby at_46) rfl kk_) ?_
  refine OWH.st (B := T101.setTop (mkF m 51 #[.val (.int n1), .val (.int n2), .val (.int n3), .val (.int n4), .val (.ref b96), .val (.ref b97), .val (.ref b96), .val (.ref sb97), .val (.int (0 : Int32)), .val (.int (1 : Int32))] [(.ref b96)])) (fun _ kk_ => XS.aload X101.here hx rfl (hb hby at_49) rfl rfl kk_) ?_
  refine OWH.st (B := T101.setTop (mkF m 53 #[.val (.int n1), .val (.int n2), .val (.int n3), .val (.int n4), .val (.ref b96), .val (.ref b97), .val (.ref b96), .val (.ref sb97), .val (.int (0 : Int32)), .val (.int (1 : Int32))] [(.ref b96), (.ref b96)])) (fun _ kk_ => XS.aload X101.here hx rfl (hb hby at_51) rfl rfl kk_) ?_
  obtain ⟨cq102, kq102, q102a, q102b, q102c⟩ := isOf hZ97 e101 (Eb96.keep K97)
  obtain ⟨_, _, ⟨T102, L102, k102, n102⟩, -, X102, ⟨Lc102, hQ102, l102, y102, z102⟩, st102⟩ := X101.virtualBack hx (y := (⟨"java/lang/String", "equals", "(Ljava/lang/Object;)Z"⟩ : MethodName)) (z := (⟨"java/lang/String", "equals", "(Ljava/lang/Object;)Z"⟩ : MethodName)) hown97 (mvT hZ97 (w_73 hw)) (mvT hZ97 (w_74 hw)) (notFace_of_selects (args := #[]) (mvT hZ97 (w_76 hw))) (mvT hZ97 (w_76 hw)) (mvT hZ97 (w_75 hw)) (by decide) (backOf (W := 0) (rmEQ l Z a0 hw [] b96 T97.heap n0 O97 ) hZ97 (w_77 hw) (w_6 hw) (by decide) (by decide)) q102a q102c (g := (mkF m 53 #[.val (.int n1), .val (.int n2), .val (.int n3), .val (.int n4), .val (.ref b96), .val (.ref b97), .val (.ref b96), .val (.ref sb97), .val (.int (0 : Int32)), .val (.int (1 : Int32))] [(.ref b96), (.ref b96)])) rfl (by rw [hml]; rfl) (Steps.refl _) (argsL := [(.ref b96)]) (rest := []) (lenOf pd_15 rfl) rfl (by show 2 * 0 + _ ≤ _; exact Nat.le_of_eq rfl) (hb hby at_53) (fun _ _ => ⟨rfl, e101, (by decide : 9 + 0 ≤ _), (by decide : 19 + 0 ≤ _)⟩)
  dsimp only [Pt.U, Pt.locs, Pt.cells, Pt.slots] at X102 l102 y102 z102 st102 hQ102
  subst l102 y102 z102
  obtain ⟨rfl, Nq102, e102⟩ := hQ102
  have N102 := Fr.app N101 Nq102
  refine OWH.tr (B := T102.setTop (mkF m 56 #[.val (.int n1), .val (.int n2), .val (.int n3), .val (.int n4), .val (.ref b96), .val (.ref b97), .val (.ref b96), .val (.ref sb97), .val (.int (0 : Int32)), .val (.int (1 : Int32))] [(.int (1 : Int32))])) (st102) ?_
  refine OWH.st (B := T102.setTop (mkF m 59 #[.val (.int n1), .val (.int n2), .val (.int n3), .val (.int n4), .val (.ref b96), .val (.ref b97), .val (.ref b96), .val (.ref sb97), .val (.int (0 : Int32)), .val (.int (1 : Int32))] [])) (fun _ kk_ => XS.ifNo X102.here hx rfl (hb hby at_56) rfl ((if0 _ _).trans (feq (by decide)).1) kk_) ?_
  refine OWH.st (B := T102.setTop (mkF m 61 #[.val (.int n1), .val (.int n2), .val (.int n3), .val (.int n4), .val (.ref b96), .val (.ref b97), .val (.ref b96), .val (.ref sb97), .val (.int (0 : Int32)), .val (.int (1 : Int32))] [(.ref sb97)])) (fun _ kk_ => XS.aload X102.here hx rfl (hb hby at_59) rfl rfl kk_) ?_
  refine OWH.st (B := T102.setTop (mkF m 64 #[.val (.int n1), .val (.int n2), .val (.int n3), .val (.int n4), .val (.ref b96), .val (.ref b97), .val (.ref b96), .val (.ref sb97), .val (.int (0 : Int32)), .val (.int (1 : Int32))] [])) (fun _ kk_ => XS.ifnullNo X102.here hx rfl (hb hby at_61) rfl kk_) ?_
  refine OWH.st (B := T102.setTop (mkF m 66 #[.val (.int n1), .val (.int n2), .val (.int n3), .val (.int n4), .val (.ref b96), .val (.ref b97), .val (.ref b96), .val (.ref sb97), .val (.int (0 : Int32)), .val (.int (1 : Int32))] [(.ref sb97)])) (fun _ kk_ => XS.aload X102.here hx rfl (hb hby at_64) rfl rfl kk_) ?_
  obtain ⟨cq103, kq103, q103a, q103b, q103c⟩ := isOf hZ97 e102 Es97
  obtain ⟨_, _, ⟨T103, L103, k103, n103⟩, -, X103, ⟨Lc103, hQ103, l103, y103, z103⟩, st103⟩ := X102.virtualBack hx (y := (⟨"java/lang/String", "isEmpty", "()Z"⟩ : MethodName)) (z := (⟨"java/lang/String", "isEmpty", "()Z"⟩ : MethodName)) hown97 (mvT hZ97 (w_78 hw)) (mvT hZ97 (w_69 hw)) (notFace_of_selects (args := #[]) (mvT hZ97 (w_71 hw))) (mvT hZ97 (w_71 hw)) (mvT hZ97 (w_70 hw)) (by decide) (backOf (W := 0) (rmIE l Z a0 hw [] sb97 vb97 kv97 T97.heap n0 O97 Fs97 Vv97) hZ97 (w_72 hw) (w_6 hw) (by decide) (by decide)) q103a q103c (g := (mkF m 66 #[.val (.int n1), .val (.int n2), .val (.int n3), .val (.int n4), .val (.ref b96), .val (.ref b97), .val (.ref b96), .val (.ref sb97), .val (.int (0 : Int32)), .val (.int (1 : Int32))] [(.ref sb97)])) rfl (by rw [hml]; rfl) (Steps.refl _) (argsL := []) (rest := []) (lenOf pd_11 rfl) rfl (by show 2 * 0 + _ ≤ _; exact Nat.le_of_eq rfl) (hb hby at_66) (fun _ _ => ⟨rfl, e102, (by decide : 9 + 0 ≤ _), (by decide : 19 + 0 ≤ _)⟩)
  dsimp only [Pt.U, Pt.locs, Pt.cells, Pt.slots] at X103 l103 y103 z103 st103 hQ103
  subst l103 y103 z103
  obtain ⟨rfl, Nq103, e103⟩ := hQ103
  have N103 := Fr.app N102 Nq103
  refine OWH.tr (B := T103.setTop (mkF m 69 #[.val (.int n1), .val (.int n2), .val (.int n3), .val (.int n4), .val (.ref b96), .val (.ref b97), .val (.ref b96), .val (.ref sb97), .val (.int (0 : Int32)), .val (.int (1 : Int32))] [(.int (1 : Int32))])) (st103) ?_
  refine OWH.st (B := T103.setTop (mkF m 72 #[.val (.int n1), .val (.int n2), .val (.int n3), .val (.int n4), .val (.ref b96), .val (.ref b97), .val (.ref b96), .val (.ref sb97), .val (.int (0 : Int32)), .val (.int (1 : Int32))] [])) (fun _ kk_ => XS.ifNo X103.here hx rfl (hb hby at_69) rfl ((if0 _ _).trans (feq (by decide)).1) kk_) ?_
  refine OWH.st (B := T103.setTop (mkF m 74 #[.val (.int n1), .val (.int n2), .val (.int n3), .val (.int n4), .val (.ref b96), .val (.ref b97), .val (.ref b96), .val (.ref sb97), .val (.int (0 : Int32)), .val (.int (1 : Int32))] [(.int (0 : Int32))])) (fun _ kk_ => XS.iload X103.here hx rfl (hb hby at_72) rfl kk_) ?_
  refine OWH.st (B := T103.setTop (mkF m 77 #[.val (.int n1), .val (.int n2), .val (.int n3), .val (.int n4), .val (.ref b96), .val (.ref b97), .val (.ref b96), .val (.ref sb97), .val (.int (0 : Int32)), .val (.int (1 : Int32))] [])) (fun _ kk_ => XS.ifNo X103.here hx rfl (hb hby at_74) rfl ((if0 _ _).trans (teq (by decide)).2) kk_) ?_
  refine OWH.st (B := T103.setTop (mkF m 79 #[.val (.int n1), .val (.int n2), .val (.int n3), .val (.int n4), .val (.ref b96), .val (.ref b97), .val (.ref b96), .val (.ref sb97), .val (.int (0 : Int32)), .val (.int (1 : Int32))] [(.int (1 : Int32))])) (fun _ kk_ => XS.iload X103.here hx rfl (hb hby at_77) rfl kk_) ?_
  refine OWH.st (B := T103.setTop (mkF m 82 #[.val (.int n1), .val (.int n2), .val (.int n3), .val (.int n4), .val (.ref b96), .val (.ref b97), .val (.ref b96), .val (.ref sb97), .val (.int (0 : Int32)), .val (.int (1 : Int32))] [])) (fun _ kk_ => XS.ifNo X103.here hx rfl (hb hby at_79) rfl ((if0 _ _).trans (feq (by decide)).1) kk_) ?_
  refine OWH.st (B := T103.setTop (mkF m 83 #[.val (.int n1), .val (.int n2), .val (.int n3), .val (.int n4), .val (.ref b96), .val (.ref b97), .val (.ref b96), .val (.ref sb97), .val (.int (0 : Int32)), .val (.int (1 : Int32))] [(.int (1 : Int32))])) (fun _ kk_ => XS.iconst X103.here hx rfl (hb hby at_82) kk_) ?_
  refine OWH.st (B := T103.setTop (mkF m 87 #[.val (.int n1), .val (.int n2), .val (.int n3), .val (.int n4), .val (.ref b96), .val (.ref b97), .val (.ref b96), .val (.ref sb97), .val (.int (0 : Int32)), .val (.int (1 : Int32))] [(.int (1 : Int32))])) (fun _ kk_ => XS.goto X103.here hx rfl (pc0 := 83) (pc' := 87) rfl (hb hby at_83) (by decide) (by decide) kk_) ?_
  exact OWH.ret X103 (s := s) (vm0 := T97.vm) hS97 hk97 hx hlk CR97 hZ97 (own_EW hw) (i := .ireturn) Bd.returns rfl (Or.inl ⟨rfl, Or.inr (Or.inl rfl), _, rfl⟩) (hb hby at_87) e103 (by decide) (by decide) ⟨rfl, N103⟩
set_option maxRecDepth 65536 in
set_option maxHeartbeats 40000000 in
theorem comes_1 {Post : Tables → Env → Array Value → State → Outcome → State → Prop} (hpost : ∀ tb e args s v u, (limb_1_1.after args s (.returned v) u = true ∧ limb_1_2.after args s (.returned v) u = true ∧ True) → ReturnedEndW s (.returned v) u (Jvm.fieldLocs frame_1_writes args s ++ Jvm.arrayLocs frame_1_arrays args s ++ Jvm.staticLocs frame_1_statics s) 24 2176 → Post tb e args s (.returned v) u) :
    ArmFor flags0 classFile x code maxLocals ret World_1 tables_1 room_1 Calls_1 rest_1 Pre_1 Post := by
  intro l hfl _ _ p e ha hc hk s m args below hf hA hF happ hP
  obtain ⟨hcalls, hrest, hpre⟩ := hP
  obtain ⟨-, -, -, hnamed, -, -, -, hat⟩ := (Spec.applies_iff hf).mp happ
  obtain ⟨hg, hn⟩ := and_e (Cond.before_iff.mp (show (Jvm.Cond.and given_1 narrow_1).before args s = true from hpre))
  obtain ⟨k104, k105⟩ := and_e hg
  obtain ⟨k106, k107⟩ := and_e k105
  obtain ⟨k108, k109⟩ := and_e k107
  obtain ⟨k110, k111⟩ := and_e k109
  obtain ⟨w0, w1, w2, w3, rfl⟩ : ∃ w0 w1 w2 w3 : Value, args = #[w0, w1, w2, w3] := by
    have hs : args.size = 4 := by simpa [Cond.value, given_1] using k104
    obtain ⟨L⟩ := args
    match L, hs with
    | [w0, w1, w2, w3], _ => exact ⟨w0, w1, w2, w3, rfl⟩
  have hw := fun d (hd : d ∈ tables_1) => atoms_spec (ws := Jvm.Cond.code x code maxLocals ret :: tables_1) hat d (List.mem_cons_of_mem _ hd)
  have hfit : Fit s := fun {y c} hc i hi => by
    obtain ⟨ha, rfl⟩ := Array.getElem?_eq_some_iff.mp hc
    have q := List.all_eq_true.mp ((Array.all_eq_true_iff_forall_mem.mp hF) _ (Array.getElem_mem ha)) i (List.mem_range.mpr hi)
    simpa [Array.getElem?_eq_getElem hi] using q
  obtain ⟨i0, ei0⟩ := is_v k106
  obtain rfl : w0 = (.int i0) := Option.some.inj ei0
  obtain ⟨i1, ei1⟩ := is_v k108
  obtain rfl : w1 = (.int i1) := Option.some.inj ei1
  obtain ⟨i2, ei2⟩ := is_v k110
  obtain rfl : w2 = (.int i2) := Option.some.inj ei2
  obtain ⟨i3, ei3⟩ := is_v k111
  obtain rfl : w3 = (.int i3) := Option.some.inj ei3
  obtain ⟨hsets, hown0⟩ := atoms_of _ (rest_1_c_eq ▸ (show rest_1_c.before _ s = true from hrest))
  have hr0 := Cond.before_iff.mp hown0
  obtain ⟨i_COMPACT_STRINGS, evi_COMPACT_STRINGS⟩ := is_v (Cond.before_iff.mp (hsets _ (List.mem_of_getElem? (i := 1) rfl)))
  obtain ⟨v_SIOOBE_FORMATTER, evv_SIOOBE_FORMATTER, rvv_SIOOBE_FORMATTER⟩ := isR_v (Cond.before_iff.mp (hsets _ (List.mem_of_getElem? (i := 8) rfl)))
  have hS : OwnS s i_COMPACT_STRINGS v_SIOOBE_FORMATTER := ⟨Sta.start evi_COMPACT_STRINGS (Or.inl (hsets _ (List.mem_of_getElem? (i := 0) rfl))), Sta.start evv_SIOOBE_FORMATTER (Or.inl (hsets _ (List.mem_of_getElem? (i := 7) rfl))), rvv_SIOOBE_FORMATTER, gotF (Cond.eq_ints evi_COMPACT_STRINGS (Term.int_eval (0 : Int32))) (not_v (Cond.before_iff.mp (hsets _ (List.mem_of_getElem? (i := 2) rfl))))⟩
  have hCH : CHv s consts_1 s.vm s.heap := CHv.start (own_EW hw) (fun q hq => hcalls.1 q hq) (show Jvm.Lit.compactW.before _ s = true from (hsets _ (List.mem_of_getElem? (i := 2) rfl))) (w_19 hw) (w_5 hw)
  obtain ⟨n, o, h1, h2, h3, _, L, rfl, ⟨rfl, N⟩, -, hq⟩ := rm0 l s _ hw tables_1 i0 i1 i2 i3 i_COMPACT_STRINGS v_SIOOBE_FORMATTER s.heap s.heap.size (Old.start s) hS p e ha hc hk s m _ below hf ((Spec.applies_iff_loose hf).mp happ).1 ⟨rfl, State.Warmed39.refl s, rfl, hCH⟩ trivial
  refine ⟨n, _, h1, h2, h3, hpost _ _ _ _ _ _ ⟨Cond.after_iff.mpr rfl, Cond.after_iff.mpr (eq_i res_at (Term.int_eval (1)) rfl), trivial⟩ ⟨hq.1, hq.2.1, hq.2.2.1, (hq.2.2.2.sift fun y hy => Or.inr (N y hy)).mono (by decide) (by decide)⟩⟩
theorem main_1_1 : Claimed_1_1 := comes_1 fun _ _ _ _ _ _ h hF => ⟨h.1, hF⟩
theorem main_1_2 : Claimed_1_2 := comes_1 fun _ _ _ _ _ _ h hF => ⟨h.2.1, hF⟩
end Jvm.Pilot.@@N@@
namespace Jvm.Pilot.@@N@@
open Jvm Jvm.ClassFile Sem Op Lib Jvm.Free Jvm.Stand Jvm.Pilot.@@N@@.Jvm.D
/-! MADE BY PROGRAM (witnessworld.py) out of the Statement's table words and the real class files: 21 classes; the members and pool entries that the words name. The judged class is class 1, her method 2. -/
namespace start1
open Jvm.ClassFile
def u (s : String) : CpInfo := .utf8 (stringToUtf16 s)
/-- a pool by its gaps: so many unusable entries, then the entry; so many at the end -/
def gap : Nat → List CpInfo → List CpInfo
  | 0, r => r
  | n + 1, r => .unusable :: gap n r
def poolList (es : List (Nat × CpInfo)) (last : Nat) : List CpInfo := es.foldr (fun e r => gap e.1 (e.2 :: r)) (gap last [])
def pool (es : List (Nat × CpInfo)) (last : Nat) : Array CpInfo := ⟨poolList es last⟩
def fileOf (pool : Array CpInfo) (this : Nat) (attrs : Array Attribute := #[]) (ms : Array MethodInfo := #[]) (fl : Nat := 33) (sup : Nat := 0) (ifs : Array Nat := #[]) (fds : Array FieldInfo := #[]) : ClassFile where
  minorVersion := 0
  majorVersion := 65
  constantPool := pool
  accessFlags := fl
  thisClass := this
  superClass := sup
  interfaces := ifs
  fields := fds
  methods := ms
  attributes := attrs
def plain (name : String) (sup : Option ClassId) : Class where
  name := name
  kind := .ordinary
  loader := none
  accessFlags := 33
  super := sup
  interfaces := #[]
  cf := none
  fields := #[]
  methods := #[]
  instanceTypes := #[]
  staticTypes := #[]
  resolved := #[]
  callSites := []
  init := .initialized
  statics := none
  mirror := none

def pool0 : Array CpInfo := pool [(5, u "<init>"), (0, u "()V"), (1, .class_ 10), (1, u "java/lang/Object")] 113

def k0c0 : Code := { maxStack := 0, maxLocals := 1, code := object_method_1_code, exceptionTable := #[], attributes := #[] }
def k0m0 : Method := { name := "<init>", desc := "()V", sig := { parameters := [], returnType := none }, accessFlags := 1, code := some k0c0 }
/-- java/lang/Object -/
def k0 : Class := { plain "java/lang/Object" none with
  accessFlags := 33
  interfaces := #[]
  cf := some (fileOf pool0 8 #[] #[{ accessFlags := 1, nameIndex := 5, descriptorIndex := 6, attributes := #[] }] 33 0 #[] #[])
  fields := #[]
  methods := #[k0m0]
  instanceTypes := #[]
  staticTypes := #[]
  resolved := Array.replicate 124 none
  statics := none }

def pool1 : Array CpInfo := pool [(2, .class_ 4), (1, u "java/lang/Object"), (0, u "<init>"), (0, u "()V"), (0, .class_ 8), (0, u "java/lang/String"), (0, .methodref 7 10), (0, .nameAndType 5 11), (0, u "([C)V"), (0, .methodref 7 13), (0, .nameAndType 14 15), (0, u "valueOf"), (0, u "(C)Ljava/lang/String;"), (0, .methodref 17 18), (0, .class_ 19), (0, .nameAndType 20 21), (0, u "tenorbook/cli/OptionFlagPinLaw"), (0, u "draw"), (0, u "(IIII)Ljava/lang/String;"), (0, .methodref 23 24), (0, .class_ 25), (0, .nameAndType 26 27), (0, u "tenorbook/cli/Arguments$Option"), (0, u "flag"), (0, u "(Ljava/lang/String;)Ltenorbook/cli/Arguments$Option;"), (0, .methodref 23 29), (0, .nameAndType 30 31), (0, u "name"), (0, u "()Ljava/lang/String;"), (0, .methodref 23 33), (0, .nameAndType 34 31), (0, u "value"), (0, .methodref 23 36), (0, .nameAndType 37 38), (0, u "required"), (0, u "()Z"), (0, .methodref 23 40), (0, .nameAndType 41 38), (0, u "isFlag"), (0, .methodref 7 43), (0, .nameAndType 44 45), (0, u "equals"), (0, u "(Ljava/lang/Object;)Z"), (0, .methodref 7 47), (0, .nameAndType 48 38), (0, u "isEmpty"), (3, u "law"), (0, u "(IIII)Z")] 6

def k1m0 : Method := { name := "<init>", desc := "()V", sig := { parameters := [], returnType := none }, accessFlags := 1, code := none }
def k1c1 : Code := { maxStack := 6, maxLocals := 8, code := method_2_code, exceptionTable := #[], attributes := #[] }
def k1m1 : Method := { name := "draw", desc := "(IIII)Ljava/lang/String;", sig := { parameters := [.int, .int, .int, .int], returnType := some (.object "java/lang/String") }, accessFlags := 10, code := some k1c1 }
def k1c2 : Code := { maxStack := 4, maxLocals := 10, code := code, exceptionTable := #[], attributes := #[] }
def k1m2 : Method := { name := "law", desc := "(IIII)Z", sig := { parameters := [.int, .int, .int, .int], returnType := some .boolean }, accessFlags := 9, code := some k1c2 }
/-- tenorbook/cli/OptionFlagPinLaw -/
def k1 : Class := { plain "tenorbook/cli/OptionFlagPinLaw" (some 0) with
  accessFlags := 49
  interfaces := #[]
  cf := some (fileOf pool1 17 #[] #[{ accessFlags := 1, nameIndex := 5, descriptorIndex := 6, attributes := #[] }, { accessFlags := 10, nameIndex := 20, descriptorIndex := 21, attributes := #[] }, { accessFlags := 9, nameIndex := 52, descriptorIndex := 53, attributes := #[] }] 49 2 #[] #[])
  fields := #[]
  methods := #[k1m0, k1m1, k1m2]
  instanceTypes := #[]
  staticTypes := #[]
  resolved := Array.replicate 60 none
  statics := none }

def pool2 : Array CpInfo := pool [(1, .class_ 2), (0, u "java/io/Serializable"), (0, .class_ 4), (0, u "java/lang/Object")] 2

/-- java/io/Serializable -/
def k2 : Class := { plain "java/io/Serializable" (some 0) with
  accessFlags := 1537
  interfaces := #[]
  cf := some (fileOf pool2 1 #[] #[] 1537 3 #[] #[])
  fields := #[]
  methods := #[]
  instanceTypes := #[]
  staticTypes := #[]
  resolved := Array.replicate 7 none
  statics := none }

def pool3 : Array CpInfo := pool [(1, .class_ 2), (0, u "java/lang/Comparable"), (0, .class_ 4), (0, u "java/lang/Object")] 7

/-- java/lang/Comparable -/
def k3 : Class := { plain "java/lang/Comparable" (some 0) with
  accessFlags := 1537
  interfaces := #[]
  cf := some (fileOf pool3 1 #[] #[] 1537 3 #[] #[])
  fields := #[]
  methods := #[]
  instanceTypes := #[]
  staticTypes := #[]
  resolved := Array.replicate 12 none
  statics := none }

def pool4 : Array CpInfo := pool [(2, .class_ 4), (1, u "java/lang/CharSequence"), (42, .class_ 48), (0, u "java/lang/CharSequence$1CodePointIterator"), (10, .class_ 60), (0, u "java/lang/CharSequence$1CharIterator"), (5, .class_ 67), (0, u "java/lang/Object")] 63

/-- java/lang/CharSequence -/
def k4 : Class := { plain "java/lang/CharSequence" (some 0) with
  accessFlags := 1537
  interfaces := #[]
  cf := some (fileOf pool4 2 #[.nestMembers #[47, 59]] #[] 1537 66 #[] #[])
  fields := #[]
  methods := #[]
  instanceTypes := #[]
  staticTypes := #[]
  resolved := Array.replicate 131 none
  statics := none }

def pool5 : Array CpInfo := pool [(1, .class_ 2), (0, u "java/lang/constant/Constable"), (0, .class_ 4), (0, u "java/lang/Object")] 6

/-- java/lang/constant/Constable -/
def k5 : Class := { plain "java/lang/constant/Constable" (some 0) with
  accessFlags := 1537
  interfaces := #[]
  cf := some (fileOf pool5 1 #[] #[] 1537 3 #[] #[])
  fields := #[]
  methods := #[]
  instanceTypes := #[]
  staticTypes := #[]
  resolved := Array.replicate 11 none
  statics := none }

def pool6 : Array CpInfo := pool [(1, .class_ 2), (0, u "java/lang/constant/ConstantDesc"), (0, .class_ 4), (0, u "java/lang/Object")] 32

/-- java/lang/constant/ConstantDesc -/
def k6 : Class := { plain "java/lang/constant/ConstantDesc" (some 0) with
  accessFlags := 1537
  interfaces := #[]
  cf := some (fileOf pool6 1 #[] #[] 1537 3 #[] #[])
  fields := #[]
  methods := #[]
  instanceTypes := #[]
  staticTypes := #[]
  resolved := Array.replicate 37 none
  statics := none }

def pool7 : Array CpInfo := pool [(1, .methodref 2 3), (0, .class_ 4), (0, .nameAndType 5 6), (0, u "java/lang/Object"), (0, u "<init>"), (0, u "()V"), (0, .string 8), (0, u ""), (0, .fieldref 10 11), (0, .class_ 12), (0, .nameAndType 13 14), (0, u "java/lang/String"), (0, u "value"), (0, u "[B"), (0, .fieldref 10 16), (0, .nameAndType 17 18), (0, u "coder"), (0, u "B"), (2, u "hash"), (0, u "I"), (2, u "hashIsZero"), (0, u "Z"), (0, .methodref 10 28), (0, .nameAndType 5 29), (0, u "([CIILjava/lang/Void;)V"), (8, .fieldref 10 39), (0, .nameAndType 40 26), (0, u "COMPACT_STRINGS"), (1, .class_ 44), (1, u "java/lang/StringUTF16"), (0, u "compress"), (1, .methodref 42 48), (0, .nameAndType 49 50), (0, u "coderFromArrayLen"), (0, u "([BI)B"), (2, u "toBytes"), (53, .class_ 109), (1, u "java/lang/StringLatin1"), (32, u "()Z"), (34, .methodref 42 178), (0, .nameAndType 45 179), (0, u "([CII)[B"), (29, .methodref 10 210), (0, .nameAndType 5 211), (0, u "([BB)V"), (157, u "(C)Z"), (173, u "equals"), (29, u "(Ljava/lang/Object;)Z"), (1, .class_ 576), (0, u "java/lang/CharSequence"), (22, u "CASE_INSENSITIVE_ORDER"), (0, u "Ljava/util/Comparator;"), (91, u "isEmpty"), (89, u "valueOf"), (0, u "(C)Ljava/lang/String;"), (226, u "([C)V"), (4, .methodref 107 1016), (0, .nameAndType 1017 369), (0, u "canEncode"), (0, .methodref 107 1019), (0, .nameAndType 53 1020), (0, u "(C)[B"), (80, u "serialPersistentFields"), (0, u "[Ljava/io/ObjectStreamField;"), (0, .class_ 1104), (0, u "java/lang/String$CaseInsensitiveComparator"), (1, .class_ 1107), (0, u "java/io/Serializable"), (0, .class_ 1109), (0, u "java/lang/Comparable"), (0, .class_ 1111), (0, u "java/lang/constant/Constable"), (0, .class_ 1113), (0, u "java/lang/constant/ConstantDesc"), (2, u "serialVersionUID"), (0, u "J"), (3, u "REPL"), (0, u "C"), (2, u "LATIN1"), (1, u "UTF16")] 323

def k7m0 : Method := { name := "<init>", desc := "()V", sig := { parameters := [], returnType := none }, accessFlags := 1, code := none }
def k7c1 : Code := { maxStack := 5, maxLocals := 2, code := jdk_42_method_3_code, exceptionTable := #[], attributes := #[] }
def k7m1 : Method := { name := "<init>", desc := "([C)V", sig := { parameters := [(.array .char)], returnType := none }, accessFlags := 1, code := some k7c1 }
def k7c2 : Code := { maxStack := 1, maxLocals := 1, code := jdk_42_method_55_code, exceptionTable := #[], attributes := #[] }
def k7m2 : Method := { name := "isEmpty", desc := "()Z", sig := { parameters := [], returnType := some .boolean }, accessFlags := 1, code := some k7c2 }
def k7c3 : Code := { maxStack := 2, maxLocals := 3, code := jdk_42_method_66_code, exceptionTable := #[], attributes := #[] }
def k7m3 : Method := { name := "equals", desc := "(Ljava/lang/Object;)Z", sig := { parameters := [(.object "java/lang/Object")], returnType := some .boolean }, accessFlags := 1, code := some k7c3 }
def k7c4 : Code := { maxStack := 4, maxLocals := 1, code := jdk_42_method_139_code, exceptionTable := #[], attributes := #[] }
def k7m4 : Method := { name := "valueOf", desc := "(C)Ljava/lang/String;", sig := { parameters := [.char], returnType := some (.object "java/lang/String") }, accessFlags := 9, code := some k7c4 }
def k7c5 : Code := { maxStack := 4, maxLocals := 6, code := jdk_42_method_149_code, exceptionTable := #[], attributes := #[] }
def k7m5 : Method := { name := "<init>", desc := "([CIILjava/lang/Void;)V", sig := { parameters := [(.array .char), .int, .int, (.object "java/lang/Void")], returnType := none }, accessFlags := 2, code := some k7c5 }
def k7c6 : Code := { maxStack := 2, maxLocals := 3, code := jdk_42_method_151_code, exceptionTable := #[], attributes := #[] }
def k7m6 : Method := { name := "<init>", desc := "([BB)V", sig := { parameters := [(.array .byte), .byte], returnType := none }, accessFlags := 0, code := some k7c6 }
/-- java/lang/String -/
def k7 : Class := { plain "java/lang/String" (some 0) with
  accessFlags := 49
  interfaces := #[2, 3, 4, 5, 6]
  cf := some (fileOf pool7 10 #[.nestMembers #[1103]] #[{ accessFlags := 1, nameIndex := 5, descriptorIndex := 6, attributes := #[] }, { accessFlags := 1, nameIndex := 5, descriptorIndex := 1010, attributes := #[] }, { accessFlags := 1, nameIndex := 692, descriptorIndex := 142, attributes := #[] }, { accessFlags := 1, nameIndex := 543, descriptorIndex := 573, attributes := #[] }, { accessFlags := 9, nameIndex := 782, descriptorIndex := 783, attributes := #[] }, { accessFlags := 2, nameIndex := 5, descriptorIndex := 29, attributes := #[] }, { accessFlags := 0, nameIndex := 5, descriptorIndex := 211, attributes := #[] }] 49 2 #[1106, 1108, 575, 1110, 1112] #[{ accessFlags := 18, nameIndex := 13, descriptorIndex := 14, attributes := #[] }, { accessFlags := 18, nameIndex := 17, descriptorIndex := 18, attributes := #[] }, { accessFlags := 2, nameIndex := 21, descriptorIndex := 22, attributes := #[] }, { accessFlags := 2, nameIndex := 25, descriptorIndex := 26, attributes := #[] }, { accessFlags := 26, nameIndex := 1116, descriptorIndex := 1117, attributes := #[] }, { accessFlags := 24, nameIndex := 40, descriptorIndex := 26, attributes := #[] }, { accessFlags := 26, nameIndex := 1101, descriptorIndex := 1102, attributes := #[] }, { accessFlags := 26, nameIndex := 1121, descriptorIndex := 1122, attributes := #[] }, { accessFlags := 25, nameIndex := 599, descriptorIndex := 600, attributes := #[] }, { accessFlags := 24, nameIndex := 1125, descriptorIndex := 18, attributes := #[] }, { accessFlags := 24, nameIndex := 1127, descriptorIndex := 18, attributes := #[] }])
  fields := #[{ name := "value", type := (.array .byte), accessFlags := 18, slot := 0, constantValue := 0 }, { name := "coder", type := .byte, accessFlags := 18, slot := 1, constantValue := 0 }, { name := "hash", type := .int, accessFlags := 2, slot := 2, constantValue := 0 }, { name := "hashIsZero", type := .boolean, accessFlags := 2, slot := 3, constantValue := 0 }, { name := "serialVersionUID", type := .long, accessFlags := 26, slot := 0, constantValue := 0 }, { name := "COMPACT_STRINGS", type := .boolean, accessFlags := 24, slot := 1, constantValue := 0 }, { name := "serialPersistentFields", type := (.array (.object "java/io/ObjectStreamField")), accessFlags := 26, slot := 2, constantValue := 0 }, { name := "REPL", type := .char, accessFlags := 26, slot := 3, constantValue := 0 }, { name := "CASE_INSENSITIVE_ORDER", type := (.object "java/util/Comparator"), accessFlags := 25, slot := 4, constantValue := 0 }, { name := "LATIN1", type := .byte, accessFlags := 24, slot := 5, constantValue := 0 }, { name := "UTF16", type := .byte, accessFlags := 24, slot := 6, constantValue := 0 }]
  methods := #[k7m0, k7m1, k7m2, k7m3, k7m4, k7m5, k7m6]
  instanceTypes := #[(.array .byte), .byte, .int, .boolean]
  staticTypes := #[.long, .boolean, (.array (.object "java/io/ObjectStreamField")), .char, (.object "java/util/Comparator"), .byte, .byte]
  resolved := Array.replicate 1451 none
  statics := some 0 }

def pool8 : Array CpInfo := pool [(1, .methodref 2 3), (0, .class_ 4), (0, .nameAndType 5 6), (0, u "java/lang/Object"), (0, u "<init>"), (0, u "()V"), (0, .class_ 8), (0, u "java/lang/Record")] 13

def k8c0 : Code := { maxStack := 1, maxLocals := 1, code := jdk_30_method_1_code, exceptionTable := #[], attributes := #[] }
def k8m0 : Method := { name := "<init>", desc := "()V", sig := { parameters := [], returnType := none }, accessFlags := 4, code := some k8c0 }
/-- java/lang/Record -/
def k8 : Class := { plain "java/lang/Record" (some 0) with
  accessFlags := 1057
  interfaces := #[]
  cf := some (fileOf pool8 7 #[] #[{ accessFlags := 4, nameIndex := 5, descriptorIndex := 6, attributes := #[] }] 1057 2 #[] #[])
  fields := #[]
  methods := #[k8m0]
  instanceTypes := #[]
  staticTypes := #[]
  resolved := Array.replicate 22 none
  statics := none }

def pool9 : Array CpInfo := pool [(1, .methodref 2 3), (0, .class_ 4), (0, .nameAndType 5 6), (0, u "java/lang/Record"), (0, u "<init>"), (0, u "()V"), (0, .fieldref 8 9), (0, .class_ 10), (0, .nameAndType 11 12), (0, u "tenorbook/cli/Arguments$Option"), (0, u "name"), (0, u "Ljava/lang/String;"), (0, .fieldref 8 14), (0, .nameAndType 15 12), (0, u "value"), (0, .fieldref 8 17), (0, .nameAndType 18 19), (0, u "required"), (0, u "Z"), (0, .methodref 8 21), (0, .nameAndType 5 22), (0, u "(Ljava/lang/String;Ljava/lang/String;Z)V"), (0, .string 24), (0, u ""), (0, .methodref 26 27), (0, .class_ 28), (0, .nameAndType 29 30), (0, u "java/lang/String"), (0, u "isEmpty"), (0, u "()Z"), (18, u "flag"), (0, u "(Ljava/lang/String;)Ltenorbook/cli/Arguments$Option;"), (0, u "isFlag"), (0, u "()Ljava/lang/String;"), (5, .class_ 59), (0, u "tenorbook/cli/Arguments")] 21

def k9c0 : Code := { maxStack := 2, maxLocals := 4, code := prog_45_method_2_code, exceptionTable := #[], attributes := #[] }
def k9m0 : Method := { name := "<init>", desc := "(Ljava/lang/String;Ljava/lang/String;Z)V", sig := { parameters := [(.object "java/lang/String"), (.object "java/lang/String"), .boolean], returnType := none }, accessFlags := 0, code := some k9c0 }
def k9c1 : Code := { maxStack := 5, maxLocals := 1, code := prog_45_method_4_code, exceptionTable := #[], attributes := #[] }
def k9m1 : Method := { name := "flag", desc := "(Ljava/lang/String;)Ltenorbook/cli/Arguments$Option;", sig := { parameters := [(.object "java/lang/String")], returnType := some (.object "tenorbook/cli/Arguments$Option") }, accessFlags := 8, code := some k9c1 }
def k9c2 : Code := { maxStack := 1, maxLocals := 1, code := prog_45_method_5_code, exceptionTable := #[], attributes := #[] }
def k9m2 : Method := { name := "isFlag", desc := "()Z", sig := { parameters := [], returnType := some .boolean }, accessFlags := 0, code := some k9c2 }
def k9c3 : Code := { maxStack := 1, maxLocals := 1, code := prog_45_method_9_code, exceptionTable := #[], attributes := #[] }
def k9m3 : Method := { name := "name", desc := "()Ljava/lang/String;", sig := { parameters := [], returnType := some (.object "java/lang/String") }, accessFlags := 1, code := some k9c3 }
def k9c4 : Code := { maxStack := 1, maxLocals := 1, code := prog_45_method_10_code, exceptionTable := #[], attributes := #[] }
def k9m4 : Method := { name := "value", desc := "()Ljava/lang/String;", sig := { parameters := [], returnType := some (.object "java/lang/String") }, accessFlags := 1, code := some k9c4 }
def k9c5 : Code := { maxStack := 1, maxLocals := 1, code := prog_45_method_11_code, exceptionTable := #[], attributes := #[] }
def k9m5 : Method := { name := "required", desc := "()Z", sig := { parameters := [], returnType := some .boolean }, accessFlags := 1, code := some k9c5 }
/-- tenorbook/cli/Arguments$Option -/
def k9 : Class := { plain "tenorbook/cli/Arguments$Option" (some 8) with
  accessFlags := 48
  interfaces := #[]
  cf := some (fileOf pool9 8 #[.nestHost 58] #[{ accessFlags := 0, nameIndex := 5, descriptorIndex := 22, attributes := #[] }, { accessFlags := 8, nameIndex := 49, descriptorIndex := 50, attributes := #[] }, { accessFlags := 0, nameIndex := 51, descriptorIndex := 30, attributes := #[] }, { accessFlags := 1, nameIndex := 11, descriptorIndex := 52, attributes := #[] }, { accessFlags := 1, nameIndex := 15, descriptorIndex := 52, attributes := #[] }, { accessFlags := 1, nameIndex := 18, descriptorIndex := 30, attributes := #[] }] 48 2 #[] #[{ accessFlags := 18, nameIndex := 11, descriptorIndex := 12, attributes := #[] }, { accessFlags := 18, nameIndex := 15, descriptorIndex := 12, attributes := #[] }, { accessFlags := 18, nameIndex := 18, descriptorIndex := 19, attributes := #[] }])
  fields := #[{ name := "name", type := (.object "java/lang/String"), accessFlags := 18, slot := 0, constantValue := 0 }, { name := "value", type := (.object "java/lang/String"), accessFlags := 18, slot := 1, constantValue := 0 }, { name := "required", type := .boolean, accessFlags := 18, slot := 2, constantValue := 0 }]
  methods := #[k9m0, k9m1, k9m2, k9m3, k9m4, k9m5]
  instanceTypes := #[(.object "java/lang/String"), (.object "java/lang/String"), .boolean]
  staticTypes := #[]
  resolved := Array.replicate 81 none
  statics := none }

def pool10 : Array CpInfo := pool [(6, .class_ 8), (1, u "java/lang/Object"), (0, u "<init>"), (0, u "()V"), (1, .class_ 14), (1, u "java/lang/StringUTF16"), (31, u "$assertionsDisabled"), (0, u "Z"), (13, u "HI_BYTE_SHIFT"), (0, u "I"), (2, u "LO_BYTE_SHIFT"), (49, .methodref 12 116), (0, .nameAndType 117 118), (0, u "compress"), (0, u "([CI[BII)I"), (3, u "([CII)[B"), (138, u "coderFromArrayLen"), (0, u "([BI)B"), (106, .class_ 371), (1, u "java/lang/StringUTF16$LinesSpliterator"), (58, u "MAX_LENGTH"), (196, .class_ 628), (0, u "java/lang/StringUTF16$CodePointsSpliterator"), (0, .class_ 630), (0, u "java/lang/StringUTF16$CharsSpliterator")] 4

def k10m0 : Method := { name := "<init>", desc := "()V", sig := { parameters := [], returnType := none }, accessFlags := 0, code := none }
def k10c1 : Code := { maxStack := 2, maxLocals := 2, code := jdk_52_method_15_code, exceptionTable := #[], attributes := #[] }
def k10m1 : Method := { name := "coderFromArrayLen", desc := "([BI)B", sig := { parameters := [(.array .byte), .int], returnType := some .byte }, accessFlags := 8, code := some k10c1 }
def k10c2 : Code := { maxStack := 5, maxLocals := 6, code := jdk_52_method_16_code, exceptionTable := #[], attributes := #[] }
def k10m2 : Method := { name := "compress", desc := "([CII)[B", sig := { parameters := [(.array .char), .int, .int], returnType := some (.array .byte) }, accessFlags := 9, code := some k10c2 }
def k10c3 : Code := { maxStack := 3, maxLocals := 7, code := jdk_52_method_21_code, exceptionTable := #[], attributes := #[] }
def k10m3 : Method := { name := "compress", desc := "([CI[BII)I", sig := { parameters := [(.array .char), .int, (.array .byte), .int, .int], returnType := some .int }, accessFlags := 9, code := some k10c3 }
/-- java/lang/StringUTF16 -/
def k10 : Class := { plain "java/lang/StringUTF16" (some 0) with
  accessFlags := 48
  interfaces := #[]
  cf := some (fileOf pool10 12 #[.nestMembers #[627, 629, 369]] #[{ accessFlags := 0, nameIndex := 9, descriptorIndex := 10, attributes := #[] }, { accessFlags := 8, nameIndex := 261, descriptorIndex := 262, attributes := #[] }, { accessFlags := 9, nameIndex := 117, descriptorIndex := 122, attributes := #[] }, { accessFlags := 9, nameIndex := 117, descriptorIndex := 118, attributes := #[] }] 48 6 #[] #[{ accessFlags := 26, nameIndex := 61, descriptorIndex := 62, attributes := #[] }, { accessFlags := 26, nameIndex := 65, descriptorIndex := 62, attributes := #[] }, { accessFlags := 24, nameIndex := 430, descriptorIndex := 62, attributes := #[] }, { accessFlags := 4120, nameIndex := 46, descriptorIndex := 47, attributes := #[] }])
  fields := #[{ name := "HI_BYTE_SHIFT", type := .int, accessFlags := 26, slot := 0, constantValue := 0 }, { name := "LO_BYTE_SHIFT", type := .int, accessFlags := 26, slot := 1, constantValue := 0 }, { name := "MAX_LENGTH", type := .int, accessFlags := 24, slot := 2, constantValue := 0 }, { name := "$assertionsDisabled", type := .boolean, accessFlags := 4120, slot := 3, constantValue := 0 }]
  methods := #[k10m0, k10m1, k10m2, k10m3]
  instanceTypes := #[]
  staticTypes := #[.int, .int, .int, .boolean]
  resolved := Array.replicate 635 none
  statics := none }

def pool11 : Array CpInfo := pool [(4, .class_ 6), (1, u "java/lang/Object"), (0, u "<init>"), (0, u "()V"), (5, .class_ 16), (1, u "java/lang/StringLatin1"), (73, u "canEncode"), (14, u "(C)Z"), (15, u "$assertionsDisabled"), (0, u "Z"), (98, .class_ 223), (1, u "java/lang/StringLatin1$LinesSpliterator"), (156, u "toBytes"), (1, u "(C)[B"), (7, .class_ 391), (0, u "java/lang/StringLatin1$CharsSpliterator")] 3

def k11m0 : Method := { name := "<init>", desc := "()V", sig := { parameters := [], returnType := none }, accessFlags := 0, code := none }
def k11c1 : Code := { maxStack := 2, maxLocals := 1, code := jdk_43_method_3_code, exceptionTable := #[], attributes := #[] }
def k11m1 : Method := { name := "canEncode", desc := "(C)Z", sig := { parameters := [.char], returnType := some .boolean }, accessFlags := 9, code := some k11c1 }
def k11c2 : Code := { maxStack := 4, maxLocals := 1, code := jdk_43_method_46_code, exceptionTable := #[], attributes := #[] }
def k11m2 : Method := { name := "toBytes", desc := "(C)[B", sig := { parameters := [.char], returnType := some (.array .byte) }, accessFlags := 9, code := some k11c2 }
/-- java/lang/StringLatin1 -/
def k11 : Class := { plain "java/lang/StringLatin1" (some 0) with
  accessFlags := 48
  interfaces := #[]
  cf := some (fileOf pool11 14 #[.nestMembers #[390, 221]] #[{ accessFlags := 0, nameIndex := 7, descriptorIndex := 8, attributes := #[] }, { accessFlags := 9, nameIndex := 90, descriptorIndex := 105, attributes := #[] }, { accessFlags := 9, nameIndex := 380, descriptorIndex := 382, attributes := #[] }] 48 4 #[] #[{ accessFlags := 4120, nameIndex := 121, descriptorIndex := 122, attributes := #[] }])
  fields := #[{ name := "$assertionsDisabled", type := .boolean, accessFlags := 4120, slot := 0, constantValue := 0 }]
  methods := #[k11m0, k11m1, k11m2]
  instanceTypes := #[]
  staticTypes := #[.boolean]
  resolved := Array.replicate 395 none
  statics := none }

def pool12 : Array CpInfo := pool [(2, .class_ 4), (1, u "java/lang/Object"), (0, u "<init>"), (0, u "()V"), (17, .class_ 26), (1, u "jdk/internal/util/Preconditions"), (28, .class_ 56), (0, u "jdk/internal/util/Preconditions$4"), (57, .class_ 115), (0, u "jdk/internal/util/Preconditions$1"), (7, u "SIOOBE_FORMATTER"), (0, u "Ljava/util/function/BiFunction;"), (0, .class_ 126), (0, u "jdk/internal/util/Preconditions$2"), (3, u "AIOOBE_FORMATTER"), (0, .class_ 132), (0, u "jdk/internal/util/Preconditions$3"), (3, u "IOOBE_FORMATTER")] 57

def k12m0 : Method := { name := "<init>", desc := "()V", sig := { parameters := [], returnType := none }, accessFlags := 1, code := none }
/-- jdk/internal/util/Preconditions -/
def k12 : Class := { plain "jdk/internal/util/Preconditions" (some 0) with
  accessFlags := 33
  interfaces := #[]
  cf := some (fileOf pool12 24 #[.nestMembers #[55, 131, 125, 114]] #[{ accessFlags := 1, nameIndex := 5, descriptorIndex := 6, attributes := #[] }] 33 2 #[] #[{ accessFlags := 25, nameIndex := 123, descriptorIndex := 124, attributes := #[] }, { accessFlags := 25, nameIndex := 130, descriptorIndex := 124, attributes := #[] }, { accessFlags := 25, nameIndex := 136, descriptorIndex := 124, attributes := #[] }])
  fields := #[{ name := "SIOOBE_FORMATTER", type := (.object "java/util/function/BiFunction"), accessFlags := 25, slot := 0, constantValue := 0 }, { name := "AIOOBE_FORMATTER", type := (.object "java/util/function/BiFunction"), accessFlags := 25, slot := 1, constantValue := 0 }, { name := "IOOBE_FORMATTER", type := (.object "java/util/function/BiFunction"), accessFlags := 25, slot := 2, constantValue := 0 }]
  methods := #[k12m0]
  instanceTypes := #[]
  staticTypes := #[(.object "java/util/function/BiFunction"), (.object "java/util/function/BiFunction"), (.object "java/util/function/BiFunction")]
  resolved := Array.replicate 194 none
  statics := some 1 }

def pool13 : Array CpInfo := pool [(9, u "<init>"), (6, .class_ 18), (1, u "java/lang/Object"), (0, u "()V"), (1, .class_ 23), (1, u "jdk/internal/util/ArraysSupport"), (0, u "LOG2_ARRAY_LONG_INDEX_SCALE"), (0, u "I"), (2, u "U"), (0, u "Ljdk/internal/misc/Unsafe;"), (8, u "BIG_ENDIAN"), (0, u "Z"), (8, u "LOG2_BYTE_BIT_SIZE"), (4, u "LOG2_ARRAY_INT_INDEX_SCALE"), (54, u "JLA"), (0, u "Ljdk/internal/access/JavaLangAccess;"), (11, u "LOG2_ARRAY_BOOLEAN_INDEX_SCALE"), (9, u "LOG2_ARRAY_BYTE_INDEX_SCALE"), (5, u "LOG2_ARRAY_CHAR_INDEX_SCALE"), (5, u "LOG2_ARRAY_SHORT_INDEX_SCALE"), (18, u "LOG2_ARRAY_FLOAT_INDEX_SCALE"), (24, u "LOG2_ARRAY_DOUBLE_INDEX_SCALE"), (89, u "T_BOOLEAN"), (2, u "T_CHAR"), (1, u "T_FLOAT"), (1, u "T_DOUBLE"), (1, u "T_BYTE"), (1, u "T_SHORT"), (1, u "T_INT"), (1, u "T_LONG"), (1, u "SOFT_MAX_ARRAY_LENGTH")] 83

def k13m0 : Method := { name := "<init>", desc := "()V", sig := { parameters := [], returnType := none }, accessFlags := 2, code := none }
/-- jdk/internal/util/ArraysSupport -/
def k13 : Class := { plain "jdk/internal/util/ArraysSupport" (some 0) with
  accessFlags := 33
  interfaces := #[]
  cf := some (fileOf pool13 21 #[] #[{ accessFlags := 2, nameIndex := 9, descriptorIndex := 19, attributes := #[] }] 33 16 #[] #[{ accessFlags := 24, nameIndex := 28, descriptorIndex := 29, attributes := #[] }, { accessFlags := 26, nameIndex := 38, descriptorIndex := 39, attributes := #[] }, { accessFlags := 25, nameIndex := 121, descriptorIndex := 25, attributes := #[] }, { accessFlags := 25, nameIndex := 131, descriptorIndex := 25, attributes := #[] }, { accessFlags := 25, nameIndex := 137, descriptorIndex := 25, attributes := #[] }, { accessFlags := 25, nameIndex := 143, descriptorIndex := 25, attributes := #[] }, { accessFlags := 25, nameIndex := 53, descriptorIndex := 25, attributes := #[] }, { accessFlags := 25, nameIndex := 24, descriptorIndex := 25, attributes := #[] }, { accessFlags := 25, nameIndex := 162, descriptorIndex := 25, attributes := #[] }, { accessFlags := 25, nameIndex := 187, descriptorIndex := 25, attributes := #[] }, { accessFlags := 26, nameIndex := 48, descriptorIndex := 25, attributes := #[] }, { accessFlags := 25, nameIndex := 277, descriptorIndex := 25, attributes := #[] }, { accessFlags := 25, nameIndex := 280, descriptorIndex := 25, attributes := #[] }, { accessFlags := 25, nameIndex := 282, descriptorIndex := 25, attributes := #[] }, { accessFlags := 25, nameIndex := 284, descriptorIndex := 25, attributes := #[] }, { accessFlags := 25, nameIndex := 286, descriptorIndex := 25, attributes := #[] }, { accessFlags := 25, nameIndex := 288, descriptorIndex := 25, attributes := #[] }, { accessFlags := 25, nameIndex := 290, descriptorIndex := 25, attributes := #[] }, { accessFlags := 25, nameIndex := 292, descriptorIndex := 25, attributes := #[] }, { accessFlags := 26, nameIndex := 108, descriptorIndex := 109, attributes := #[] }, { accessFlags := 25, nameIndex := 294, descriptorIndex := 25, attributes := #[] }])
  fields := #[{ name := "U", type := (.object "jdk/internal/misc/Unsafe"), accessFlags := 24, slot := 0, constantValue := 0 }, { name := "BIG_ENDIAN", type := .boolean, accessFlags := 26, slot := 1, constantValue := 0 }, { name := "LOG2_ARRAY_BOOLEAN_INDEX_SCALE", type := .int, accessFlags := 25, slot := 2, constantValue := 0 }, { name := "LOG2_ARRAY_BYTE_INDEX_SCALE", type := .int, accessFlags := 25, slot := 3, constantValue := 0 }, { name := "LOG2_ARRAY_CHAR_INDEX_SCALE", type := .int, accessFlags := 25, slot := 4, constantValue := 0 }, { name := "LOG2_ARRAY_SHORT_INDEX_SCALE", type := .int, accessFlags := 25, slot := 5, constantValue := 0 }, { name := "LOG2_ARRAY_INT_INDEX_SCALE", type := .int, accessFlags := 25, slot := 6, constantValue := 0 }, { name := "LOG2_ARRAY_LONG_INDEX_SCALE", type := .int, accessFlags := 25, slot := 7, constantValue := 0 }, { name := "LOG2_ARRAY_FLOAT_INDEX_SCALE", type := .int, accessFlags := 25, slot := 8, constantValue := 0 }, { name := "LOG2_ARRAY_DOUBLE_INDEX_SCALE", type := .int, accessFlags := 25, slot := 9, constantValue := 0 }, { name := "LOG2_BYTE_BIT_SIZE", type := .int, accessFlags := 26, slot := 10, constantValue := 0 }, { name := "T_BOOLEAN", type := .int, accessFlags := 25, slot := 11, constantValue := 0 }, { name := "T_CHAR", type := .int, accessFlags := 25, slot := 12, constantValue := 0 }, { name := "T_FLOAT", type := .int, accessFlags := 25, slot := 13, constantValue := 0 }, { name := "T_DOUBLE", type := .int, accessFlags := 25, slot := 14, constantValue := 0 }, { name := "T_BYTE", type := .int, accessFlags := 25, slot := 15, constantValue := 0 }, { name := "T_SHORT", type := .int, accessFlags := 25, slot := 16, constantValue := 0 }, { name := "T_INT", type := .int, accessFlags := 25, slot := 17, constantValue := 0 }, { name := "T_LONG", type := .int, accessFlags := 25, slot := 18, constantValue := 0 }, { name := "JLA", type := (.object "jdk/internal/access/JavaLangAccess"), accessFlags := 26, slot := 19, constantValue := 0 }, { name := "SOFT_MAX_ARRAY_LENGTH", type := .int, accessFlags := 25, slot := 20, constantValue := 0 }]
  methods := #[k13m0]
  instanceTypes := #[]
  staticTypes := #[(.object "jdk/internal/misc/Unsafe"), .boolean, .int, .int, .int, .int, .int, .int, .int, .int, .int, .int, .int, .int, .int, .int, .int, .int, .int, (.object "jdk/internal/access/JavaLangAccess"), .int]
  resolved := Array.replicate 378 none
  statics := none }

def pool14 : Array CpInfo := pool [(1, u "java/lang/Cloneable"), (0, .class_ 1), (0, u "java/lang/Object"), (0, .class_ 3)] 3

/-- java/lang/Cloneable -/
def k14 : Class := { plain "java/lang/Cloneable" (some 0) with
  accessFlags := 1537
  interfaces := #[]
  cf := some (fileOf pool14 2 #[] #[] 1537 4 #[] #[])
  fields := #[]
  methods := #[]
  instanceTypes := #[]
  staticTypes := #[]
  resolved := Array.replicate 8 none
  statics := none }

/-- the primitive byte -/
def k15 : Class := { plain "byte" none with kind := .primitive 'B', accessFlags := 0x411 }
/-- [B -/
def k16 : Class := { plain "[B" (some 0) with kind := .array 15 .byte, interfaces := #[14, 2], accessFlags := 1041 }

/-- the primitive char -/
def k17 : Class := { plain "char" none with kind := .primitive 'C', accessFlags := 0x411 }
/-- [C -/
def k18 : Class := { plain "[C" (some 0) with kind := .array 17 .char, interfaces := #[14, 2], accessFlags := 1041 }

/-- the primitive int -/
def k19 : Class := { plain "int" none with kind := .primitive 'I', accessFlags := 0x411 }
/-- [I -/
def k20 : Class := { plain "[I" (some 0) with kind := .array 19 .int, interfaces := #[14, 2], accessFlags := 1041 }

def heap : Heap := #[{ cls := 7, slots := #[.long 0, .int 1, .null, .int 0, .null, .int 0, .int 0], vm := .statics 7 },
  { cls := 12, slots := #[.null, .null, .null], vm := .statics 12 }]
def classes : Array Class := #[k0, k1, k2, k3, k4, k5, k6, k7, k8, k9, k10, k11, k12, k13, k14, k15, k16, k17, k18, k19, k20]
def interned : List (Array UInt16 × Addr) := []
def slotsUsed : Nat := 10
def theMethod : MethodId := ⟨1, 2⟩
def args0 : Array Value := #[.int 5, .int 7, .int 1, .int 2]
def aboutOver (below : List Frame) : State where
  vm := { classes := classes, interned := interned.toArray }
  heap := heap
  slotsUsed := slotsUsed
  threads := #[{ frames := .invoking theMethod args0 :: below }]
def below0 : List Frame := [.native { method := ⟨0, 0⟩, args := #[] }]
def about1 : State := aboutOver below0
def p0 : Program := .bare "" "" ""
def e0 : Env := launch0.env 0 0 0
theorem w_frames : about1.frames = Frame.invoking theMethod args0 :: below0 := rfl
set_option maxRecDepth 65536 in
theorem w_args : argsFit about1.vm theMethod args0 = true := by decide +kernel
set_option maxRecDepth 65536 in
theorem w_heap : heapFits about1 = true := by decide +kernel
set_option maxRecDepth 65536 in
theorem w_runnable : about1.curStatus? = some .runnable := by decide +kernel
set_option maxRecDepth 65536 in
theorem w_alone : about1.alone = true := by decide +kernel
set_option maxRecDepth 65536 in
theorem w_named : about1.methodNamed? x = some theMethod := by decide +kernel
set_option maxRecDepth 65536 in
theorem w_hears : about1.hears theMethod below0 = true := by decide +kernel
set_option maxRecDepth 65536 in
theorem w_ripe : about1.ripe theMethod args0 below0 = true := by decide +kernel
theorem w_running : about1.status = .running := rfl
set_option maxRecDepth 65536 in
theorem w_room : about1.hasRoom e0.platform room_1 = true :=
  launch0.hasRoom_least _ room_1 (by decide +kernel) (by decide +kernel) (by decide +kernel) (by decide +kernel) (by decide +kernel) (by decide +kernel)
theorem allAtoms_all (ts : List Jvm.Cond) (a : Array Jvm.Value) (st : Jvm.State) : (allAtoms ts).before a st = ts.all (fun c => c.before a st) := by
  induction ts with
  | nil => rfl
  | cons c t ih =>
    show (Jvm.Cond.and c (allAtoms t)).before a st = _
    rw [Jvm.Cond.before_and, ih, List.all_cons]
def words1 : List Jvm.Cond := Jvm.Cond.code x code maxLocals ret :: tables_1
/-- a 'code' word, met by the world's own term for the bytes: nothing is compared byte by byte -/
theorem code_word {y : MethodName} {bytes : ByteArray} {mx : Nat} {rt : Option FieldType} {a : Array Value} {s : State} {m : MethodId} {meth : Method} {c : Code} (h1 : s.methodNamed? y = some m) (h2 : s.vm.method? m = some meth) (h3 : meth.code = some c) (h4 : c.code = bytes)
    (h5 : (c.maxLocals == mx && c.exceptionTable.isEmpty && decide (c.maxStack ≤ mostOperands) && decide (meth.sig.returnType = rt) && !meth.locks && decide (parseMethodDescriptor y.desc = some meth.sig)) = true) : (Jvm.Cond.code y bytes mx rt).before a s = true := by
  simp only [Bool.and_eq_true, beq_iff_eq, Bool.not_eq_true', decide_eq_true_eq] at h5
  obtain ⟨⟨⟨⟨⟨g1, g2⟩, g3⟩, g4⟩, g5⟩, g6⟩ := h5
  simp [Cond.before, Cond.holds, Cond.value, h1, h2, h3, h4, g1, g2, g3, g4, g5, g6]
def isCode : Jvm.Cond → Bool
  | .code _ _ _ _ => true
  | _ => false
theorem all_split {L : List Jvm.Cond} {P : Jvm.Cond → Bool} (h1 : L.all (fun c => isCode c || P c) = true) (h2 : ∀ c ∈ L.filter isCode, P c = true) : L.all P = true := by
  refine List.all_eq_true.mpr fun c hc => ?_
  have h := List.all_eq_true.mp h1 c hc
  rcases Bool.eq_false_or_eq_true (isCode c) with hi | hi
  · exact h2 c (List.mem_filter.mpr ⟨hc, hi⟩)
  · simpa [hi] using h
set_option maxRecDepth 65536 in
theorem w_c0 : (Jvm.Cond.code x code maxLocals ret).before args0 about1 = true := code_word (m := ⟨1, 2⟩) (meth := k1m2) (c := k1c2) (by decide +kernel) rfl rfl rfl (by decide +kernel)
set_option maxRecDepth 65536 in
theorem w_c1 : (Jvm.Cond.code ({ cls := "tenorbook/cli/OptionFlagPinLaw", name := "draw", desc := "(IIII)Ljava/lang/String;" } : Jvm.MethodName) method_2_code (8 : Nat) (Option.some (Jvm.ClassFile.FieldType.object "java/lang/String"))).before args0 about1 = true := code_word (m := ⟨1, 1⟩) (meth := k1m1) (c := k1c1) (by decide +kernel) rfl rfl rfl (by decide +kernel)
set_option maxRecDepth 65536 in
theorem w_c2 : (Jvm.Cond.code ({ cls := "java/lang/String", name := "<init>", desc := "([C)V" } : Jvm.MethodName) jdk_42_method_3_code (2 : Nat) (Option.none : Option Jvm.ClassFile.FieldType)).before args0 about1 = true := code_word (m := ⟨7, 1⟩) (meth := k7m1) (c := k7c1) (by decide +kernel) rfl rfl rfl (by decide +kernel)
set_option maxRecDepth 65536 in
theorem w_c3 : (Jvm.Cond.code ({ cls := "java/lang/String", name := "<init>", desc := "([CIILjava/lang/Void;)V" } : Jvm.MethodName) jdk_42_method_149_code (6 : Nat) (Option.none : Option Jvm.ClassFile.FieldType)).before args0 about1 = true := code_word (m := ⟨7, 5⟩) (meth := k7m5) (c := k7c5) (by decide +kernel) rfl rfl rfl (by decide +kernel)
set_option maxRecDepth 65536 in
theorem w_c4 : (Jvm.Cond.code ({ cls := "java/lang/Object", name := "<init>", desc := "()V" } : Jvm.MethodName) object_method_1_code (1 : Nat) (Option.none : Option Jvm.ClassFile.FieldType)).before args0 about1 = true := code_word (m := ⟨0, 0⟩) (meth := k0m0) (c := k0c0) (by decide +kernel) rfl rfl rfl (by decide +kernel)
set_option maxRecDepth 65536 in
theorem w_c5 : (Jvm.Cond.code ({ cls := "tenorbook/cli/Arguments$Option", name := "flag", desc := "(Ljava/lang/String;)Ltenorbook/cli/Arguments$Option;" } : Jvm.MethodName) prog_45_method_4_code (1 : Nat) (Option.some (Jvm.ClassFile.FieldType.object "tenorbook/cli/Arguments$Option"))).before args0 about1 = true := code_word (m := ⟨9, 1⟩) (meth := k9m1) (c := k9c1) (by decide +kernel) rfl rfl rfl (by decide +kernel)
set_option maxRecDepth 65536 in
theorem w_c6 : (Jvm.Cond.code ({ cls := "tenorbook/cli/Arguments$Option", name := "<init>", desc := "(Ljava/lang/String;Ljava/lang/String;Z)V" } : Jvm.MethodName) prog_45_method_2_code (4 : Nat) (Option.none : Option Jvm.ClassFile.FieldType)).before args0 about1 = true := code_word (m := ⟨9, 0⟩) (meth := k9m0) (c := k9c0) (by decide +kernel) rfl rfl rfl (by decide +kernel)
set_option maxRecDepth 65536 in
theorem w_c7 : (Jvm.Cond.code ({ cls := "java/lang/Record", name := "<init>", desc := "()V" } : Jvm.MethodName) jdk_30_method_1_code (1 : Nat) (Option.none : Option Jvm.ClassFile.FieldType)).before args0 about1 = true := code_word (m := ⟨8, 0⟩) (meth := k8m0) (c := k8c0) (by decide +kernel) rfl rfl rfl (by decide +kernel)
set_option maxRecDepth 65536 in
theorem w_c8 : (Jvm.Cond.code ({ cls := "tenorbook/cli/Arguments$Option", name := "name", desc := "()Ljava/lang/String;" } : Jvm.MethodName) prog_45_method_9_code (1 : Nat) (Option.some (Jvm.ClassFile.FieldType.object "java/lang/String"))).before args0 about1 = true := code_word (m := ⟨9, 3⟩) (meth := k9m3) (c := k9c3) (by decide +kernel) rfl rfl rfl (by decide +kernel)
set_option maxRecDepth 65536 in
theorem w_c9 : (Jvm.Cond.code ({ cls := "tenorbook/cli/Arguments$Option", name := "value", desc := "()Ljava/lang/String;" } : Jvm.MethodName) prog_45_method_10_code (1 : Nat) (Option.some (Jvm.ClassFile.FieldType.object "java/lang/String"))).before args0 about1 = true := code_word (m := ⟨9, 4⟩) (meth := k9m4) (c := k9c4) (by decide +kernel) rfl rfl rfl (by decide +kernel)
set_option maxRecDepth 65536 in
theorem w_c10 : (Jvm.Cond.code ({ cls := "tenorbook/cli/Arguments$Option", name := "required", desc := "()Z" } : Jvm.MethodName) prog_45_method_11_code (1 : Nat) (Option.some Jvm.ClassFile.FieldType.boolean)).before args0 about1 = true := code_word (m := ⟨9, 5⟩) (meth := k9m5) (c := k9c5) (by decide +kernel) rfl rfl rfl (by decide +kernel)
set_option maxRecDepth 65536 in
theorem w_c11 : (Jvm.Cond.code ({ cls := "tenorbook/cli/Arguments$Option", name := "isFlag", desc := "()Z" } : Jvm.MethodName) prog_45_method_5_code (1 : Nat) (Option.some Jvm.ClassFile.FieldType.boolean)).before args0 about1 = true := code_word (m := ⟨9, 2⟩) (meth := k9m2) (c := k9c2) (by decide +kernel) rfl rfl rfl (by decide +kernel)
set_option maxRecDepth 65536 in
theorem w_c12 : (Jvm.Cond.code ({ cls := "java/lang/String", name := "isEmpty", desc := "()Z" } : Jvm.MethodName) jdk_42_method_55_code (1 : Nat) (Option.some Jvm.ClassFile.FieldType.boolean)).before args0 about1 = true := code_word (m := ⟨7, 2⟩) (meth := k7m2) (c := k7c2) (by decide +kernel) rfl rfl rfl (by decide +kernel)
set_option maxRecDepth 65536 in
theorem w_c13 : (Jvm.Cond.code ({ cls := "java/lang/String", name := "equals", desc := "(Ljava/lang/Object;)Z" } : Jvm.MethodName) jdk_42_method_66_code (3 : Nat) (Option.some Jvm.ClassFile.FieldType.boolean)).before args0 about1 = true := code_word (m := ⟨7, 3⟩) (meth := k7m3) (c := k7c3) (by decide +kernel) rfl rfl rfl (by decide +kernel)
set_option maxRecDepth 65536 in
theorem w_c14 : (Jvm.Cond.code ({ cls := "java/lang/StringUTF16", name := "compress", desc := "([CII)[B" } : Jvm.MethodName) jdk_52_method_16_code (6 : Nat) (Option.some (Jvm.ClassFile.FieldType.array Jvm.ClassFile.FieldType.byte))).before args0 about1 = true := code_word (m := ⟨10, 2⟩) (meth := k10m2) (c := k10c2) (by decide +kernel) rfl rfl rfl (by decide +kernel)
set_option maxRecDepth 65536 in
theorem w_c15 : (Jvm.Cond.code ({ cls := "java/lang/StringUTF16", name := "compress", desc := "([CI[BII)I" } : Jvm.MethodName) jdk_52_method_21_code (7 : Nat) (Option.some Jvm.ClassFile.FieldType.int)).before args0 about1 = true := code_word (m := ⟨10, 3⟩) (meth := k10m3) (c := k10c3) (by decide +kernel) rfl rfl rfl (by decide +kernel)
set_option maxRecDepth 65536 in
theorem w_c16 : (Jvm.Cond.code ({ cls := "java/lang/StringUTF16", name := "coderFromArrayLen", desc := "([BI)B" } : Jvm.MethodName) jdk_52_method_15_code (2 : Nat) (Option.some Jvm.ClassFile.FieldType.byte)).before args0 about1 = true := code_word (m := ⟨10, 1⟩) (meth := k10m1) (c := k10c1) (by decide +kernel) rfl rfl rfl (by decide +kernel)
set_option maxRecDepth 65536 in
theorem w_c17 : (Jvm.Cond.code ({ cls := "java/lang/String", name := "valueOf", desc := "(C)Ljava/lang/String;" } : Jvm.MethodName) jdk_42_method_139_code (1 : Nat) (Option.some (Jvm.ClassFile.FieldType.object "java/lang/String"))).before args0 about1 = true := code_word (m := ⟨7, 4⟩) (meth := k7m4) (c := k7c4) (by decide +kernel) rfl rfl rfl (by decide +kernel)
set_option maxRecDepth 65536 in
theorem w_c18 : (Jvm.Cond.code ({ cls := "java/lang/StringLatin1", name := "canEncode", desc := "(C)Z" } : Jvm.MethodName) jdk_43_method_3_code (1 : Nat) (Option.some Jvm.ClassFile.FieldType.boolean)).before args0 about1 = true := code_word (m := ⟨11, 1⟩) (meth := k11m1) (c := k11c1) (by decide +kernel) rfl rfl rfl (by decide +kernel)
set_option maxRecDepth 65536 in
theorem w_c19 : (Jvm.Cond.code ({ cls := "java/lang/StringLatin1", name := "toBytes", desc := "(C)[B" } : Jvm.MethodName) jdk_43_method_46_code (1 : Nat) (Option.some (Jvm.ClassFile.FieldType.array Jvm.ClassFile.FieldType.byte))).before args0 about1 = true := code_word (m := ⟨11, 2⟩) (meth := k11m2) (c := k11c2) (by decide +kernel) rfl rfl rfl (by decide +kernel)
set_option maxRecDepth 65536 in
theorem w_c20 : (Jvm.Cond.code ({ cls := "java/lang/String", name := "<init>", desc := "([BB)V" } : Jvm.MethodName) jdk_42_method_151_code (3 : Nat) (Option.none : Option Jvm.ClassFile.FieldType)).before args0 about1 = true := code_word (m := ⟨7, 6⟩) (meth := k7m6) (c := k7c6) (by decide +kernel) rfl rfl rfl (by decide +kernel)
def codes1 : List Jvm.Cond := [Jvm.Cond.code x code maxLocals ret, Jvm.Cond.code ({ cls := "tenorbook/cli/OptionFlagPinLaw", name := "draw", desc := "(IIII)Ljava/lang/String;" } : Jvm.MethodName) method_2_code (8 : Nat) (Option.some (Jvm.ClassFile.FieldType.object "java/lang/String")), Jvm.Cond.code ({ cls := "java/lang/String", name := "<init>", desc := "([C)V" } : Jvm.MethodName) jdk_42_method_3_code (2 : Nat) (Option.none : Option Jvm.ClassFile.FieldType), Jvm.Cond.code ({ cls := "java/lang/String", name := "<init>", desc := "([CIILjava/lang/Void;)V" } : Jvm.MethodName) jdk_42_method_149_code (6 : Nat) (Option.none : Option Jvm.ClassFile.FieldType), Jvm.Cond.code ({ cls := "java/lang/Object", name := "<init>", desc := "()V" } : Jvm.MethodName) object_method_1_code (1 : Nat) (Option.none : Option Jvm.ClassFile.FieldType), Jvm.Cond.code ({ cls := "tenorbook/cli/Arguments$Option", name := "flag", desc := "(Ljava/lang/String;)Ltenorbook/cli/Arguments$Option;" } : Jvm.MethodName) prog_45_method_4_code (1 : Nat) (Option.some (Jvm.ClassFile.FieldType.object "tenorbook/cli/Arguments$Option")), Jvm.Cond.code ({ cls := "tenorbook/cli/Arguments$Option", name := "<init>", desc := "(Ljava/lang/String;Ljava/lang/String;Z)V" } : Jvm.MethodName) prog_45_method_2_code (4 : Nat) (Option.none : Option Jvm.ClassFile.FieldType), Jvm.Cond.code ({ cls := "java/lang/Record", name := "<init>", desc := "()V" } : Jvm.MethodName) jdk_30_method_1_code (1 : Nat) (Option.none : Option Jvm.ClassFile.FieldType), Jvm.Cond.code ({ cls := "tenorbook/cli/Arguments$Option", name := "name", desc := "()Ljava/lang/String;" } : Jvm.MethodName) prog_45_method_9_code (1 : Nat) (Option.some (Jvm.ClassFile.FieldType.object "java/lang/String")), Jvm.Cond.code ({ cls := "tenorbook/cli/Arguments$Option", name := "value", desc := "()Ljava/lang/String;" } : Jvm.MethodName) prog_45_method_10_code (1 : Nat) (Option.some (Jvm.ClassFile.FieldType.object "java/lang/String")), Jvm.Cond.code ({ cls := "tenorbook/cli/Arguments$Option", name := "required", desc := "()Z" } : Jvm.MethodName) prog_45_method_11_code (1 : Nat) (Option.some Jvm.ClassFile.FieldType.boolean), Jvm.Cond.code ({ cls := "tenorbook/cli/Arguments$Option", name := "isFlag", desc := "()Z" } : Jvm.MethodName) prog_45_method_5_code (1 : Nat) (Option.some Jvm.ClassFile.FieldType.boolean), Jvm.Cond.code ({ cls := "java/lang/String", name := "isEmpty", desc := "()Z" } : Jvm.MethodName) jdk_42_method_55_code (1 : Nat) (Option.some Jvm.ClassFile.FieldType.boolean), Jvm.Cond.code ({ cls := "java/lang/String", name := "equals", desc := "(Ljava/lang/Object;)Z" } : Jvm.MethodName) jdk_42_method_66_code (3 : Nat) (Option.some Jvm.ClassFile.FieldType.boolean), Jvm.Cond.code ({ cls := "java/lang/StringUTF16", name := "compress", desc := "([CII)[B" } : Jvm.MethodName) jdk_52_method_16_code (6 : Nat) (Option.some (Jvm.ClassFile.FieldType.array Jvm.ClassFile.FieldType.byte)), Jvm.Cond.code ({ cls := "java/lang/StringUTF16", name := "compress", desc := "([CI[BII)I" } : Jvm.MethodName) jdk_52_method_21_code (7 : Nat) (Option.some Jvm.ClassFile.FieldType.int), Jvm.Cond.code ({ cls := "java/lang/StringUTF16", name := "coderFromArrayLen", desc := "([BI)B" } : Jvm.MethodName) jdk_52_method_15_code (2 : Nat) (Option.some Jvm.ClassFile.FieldType.byte), Jvm.Cond.code ({ cls := "java/lang/String", name := "valueOf", desc := "(C)Ljava/lang/String;" } : Jvm.MethodName) jdk_42_method_139_code (1 : Nat) (Option.some (Jvm.ClassFile.FieldType.object "java/lang/String")), Jvm.Cond.code ({ cls := "java/lang/StringLatin1", name := "canEncode", desc := "(C)Z" } : Jvm.MethodName) jdk_43_method_3_code (1 : Nat) (Option.some Jvm.ClassFile.FieldType.boolean), Jvm.Cond.code ({ cls := "java/lang/StringLatin1", name := "toBytes", desc := "(C)[B" } : Jvm.MethodName) jdk_43_method_46_code (1 : Nat) (Option.some (Jvm.ClassFile.FieldType.array Jvm.ClassFile.FieldType.byte)), Jvm.Cond.code ({ cls := "java/lang/String", name := "<init>", desc := "([BB)V" } : Jvm.MethodName) jdk_42_method_151_code (3 : Nat) (Option.none : Option Jvm.ClassFile.FieldType)]
set_option maxRecDepth 65536 in
theorem codes_eq : words1.filter isCode = codes1 := rfl
theorem w_codes : ∀ c ∈ words1.filter isCode, c.before args0 about1 = true := by
  rw [codes_eq]
  intro c hc
  simp only [codes1, List.mem_cons, List.not_mem_nil, or_false] at hc
  rcases hc with rfl | rfl | rfl | rfl | rfl | rfl | rfl | rfl | rfl | rfl | rfl | rfl | rfl | rfl | rfl | rfl | rfl | rfl | rfl | rfl | rfl
  · exact w_c0
  · exact w_c1
  · exact w_c2
  · exact w_c3
  · exact w_c4
  · exact w_c5
  · exact w_c6
  · exact w_c7
  · exact w_c8
  · exact w_c9
  · exact w_c10
  · exact w_c11
  · exact w_c12
  · exact w_c13
  · exact w_c14
  · exact w_c15
  · exact w_c16
  · exact w_c17
  · exact w_c18
  · exact w_c19
  · exact w_c20
set_option maxRecDepth 65536 in
theorem w_t1 : (words1.take 24).all (fun c => isCode c || c.before args0 about1) = true := by decide +kernel
set_option maxRecDepth 65536 in
theorem w_t2 : ((words1.drop 24).take 24).all (fun c => isCode c || c.before args0 about1) = true := by decide +kernel
set_option maxRecDepth 65536 in
theorem w_t3 : (((words1.drop 24).drop 24).take 24).all (fun c => isCode c || c.before args0 about1) = true := by decide +kernel
set_option maxRecDepth 65536 in
theorem w_t4 : ((((words1.drop 24).drop 24).drop 24).take 24).all (fun c => isCode c || c.before args0 about1) = true := by decide +kernel
set_option maxRecDepth 65536 in
theorem w_t5 : ((((words1.drop 24).drop 24).drop 24).drop 24).all (fun c => isCode c || c.before args0 about1) = true := by decide +kernel
theorem w_tables : (allAtoms (Jvm.Cond.code x code maxLocals ret :: tables_1)).before args0 about1 = true := by
  rw [allAtoms_all]
  show words1.all (fun c => c.before args0 about1) = true
  refine all_split ?_ w_codes
  rw [← List.take_append_drop 24 words1, List.all_append, w_t1, ← List.take_append_drop 24 (words1.drop 24), List.all_append, w_t2, ← List.take_append_drop 24 ((words1.drop 24).drop 24), List.all_append, w_t3, ← List.take_append_drop 24 (((words1.drop 24).drop 24).drop 24), List.all_append, w_t4, w_t5]
  rfl
set_option maxRecDepth 65536 in
theorem w_rest : rest_1_c.before args0 about1 = true := by decide +kernel
set_option maxRecDepth 65536 in
theorem w_case : (Jvm.Cond.and given_1 narrow_1).before args0 about1 = true := by decide +kernel
set_option maxRecDepth 65536 in
theorem w_consts : constsHeld consts_1 about1 := Jvm.Lit.constsHeldB_iff.mp (by decide +kernel)
theorem w_applies : (headSpec (Jvm.Cond.code x code maxLocals ret :: tables_1) room_1).applies x e0.platform about1 = true :=
  (Spec.applies_iff w_frames).mpr ⟨w_running, w_runnable, w_alone, w_named, w_hears, w_ripe, w_room, w_tables⟩
theorem atStart : AtStart classFile x code maxLocals ret World_1 tables_1 room_1 Calls_1 rest_1 Pre_1 launch0 p0 e0 about1 theMethod args0 below0 :=
  ⟨lists_1, trivial, launch0.admits_env _ _ _, launch0.least_env, fairChoices_fair.cas, fairChoices_fair.clock, w_frames, w_args, w_heap, w_applies, ⟨w_consts, trivial⟩, w_rest, w_case⟩
end start1
theorem witness_1 : WitnessClaimed_1 := ⟨start1.p0, start1.e0, start1.about1, start1.theMethod, start1.args0, start1.below0, start1.atStart⟩
end Jvm.Pilot.@@N@@
