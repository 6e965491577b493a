import JvmDerived
import JvmDerived.Pilot.@@N@@Statement
import JvmDerived.Pilot.@@N@@Code
set_option linter.unusedVariables false
set_option linter.unusedSimpArgs false
namespace Jvm.Pilot.@@N@@
open Jvm Jvm.ClassFile Sem Op Lib Jvm.Free Jvm.Stand Jvm.LawKit Jvm.RoadKit Bundle Jvm.Pilot.@@N@@.Jvm.D
section OwnKit
variable {p : Program} {l : Launch} {e : Env} {R : Room} {s : State} {m : MethodId} {args : Array Value} {below : List Frame} {meth : Method} {c : Code} {T : State} {locs : List Loc} {cells slots kc ks : Nat} {Q : Option Value → Heap → List Loc → Prop} {A B : State}
/-- the rest of a walk: from the state A the run comes to a return that Q describes -/
def OW (p : Program) (e : Env) (below : List Frame) (s : State) (Q : Option Value → Heap → List Loc → Prop) (kc ks : Nat) (A : State) : Prop :=
  ∃ s₂ o, Steps p.tables e below A s₂ ∧ s₂.status = .running ∧ Ended s₂ below o ∧ ∃ v L, o = .returned v ∧ Q v s₂.heap L ∧ FrameEnd s o s₂ L kc ks
theorem OW.st (h : ∀ t, Steps p.tables e below B t → Steps p.tables e below A t) (k : OW p e below s Q kc ks B) : OW p e below s Q kc ks A := by
  obtain ⟨a, o, h1, h2⟩ := k; exact ⟨a, o, h _ h1, h2⟩
theorem OW.tr (h : Steps p.tables e below A B) (k : OW p e below s Q kc ks B) : OW p e below s Q kc ks A := by
  obtain ⟨a, o, h1, h2⟩ := k; exact ⟨a, o, h.trans h1, h2⟩
theorem OW.ret (X : Stand p l e R s m args below meth c T locs cells slots) (hx : p.tables.exec = Jvm.exec) (hlk : meth.locks = false) {pc : Nat} {Ls : Array Slot} {w : Value} {t : FieldType} {i : Instr} {rest : List Value} (hret : meth.sig.returnType = some t) (hn : narrow t w = w)
    (hi : (i = .ireturn ∧ (t = .int ∨ t = .boolean ∨ t = .byte ∨ t = .char ∨ t = .short) ∧ ∃ z, w = .int z) ∨ (i = .lreturn ∧ t = .long ∧ ∃ z, w = .long z) ∨ (i = .dreturn ∧ t = .double ∧ ∃ z, w = .double z) ∨ (i = .freturn ∧ t = .float ∧ ∃ z, w = .float z) ∨ (i = .areturn ∧ t.isReference = true ∧ w.isRef = true))
    (hd : decode c.code pc = .ok (i, 1)) {h : Heap} (eT : T.heap = h) (hc : cells ≤ kc) (hs : slots ≤ ks) (q : Q (some w) h locs) : OW p e below s Q kc ks (T.setTop (mkF m pc Ls (w :: rest))) := by
  obtain ⟨fs, hr, hrun, hended, hW, hsame⟩ := X.leave (v := some w) (fun h => by rw [hret] at h; cases h) hlk
  subst eT
  exact ⟨_, _, retOut X hx hret hn hi hd hr, hrun, hended, _, _, rfl, q, ⟨_, rfl⟩, hW, hsame.mono hc hs⟩
theorem OW.retV (X : Stand p l e R s m args below meth c T locs cells slots) (hx : p.tables.exec = Jvm.exec) (hlk : meth.locks = false) {pc : Nat} {Ls : Array Slot} (hret : meth.sig.returnType = none)
    (hd : decode c.code pc = .ok (.return_, 1)) {h : Heap} (eT : T.heap = h) (hc : cells ≤ kc) (hs : slots ≤ ks) (q : Q none h locs) : OW p e below s Q kc ks (T.setTop (mkF m pc Ls [])) := by
  obtain ⟨fs, hr, hrun, hended, hW, hsame⟩ := X.leave (v := none) (fun _ => rfl) hlk
  subst eT
  exact ⟨_, _, X.returnOut hx hret hd hr, hrun, hended, _, _, rfl, q, ⟨_, rfl⟩, hW, hsame.mono hc hs⟩
/-- the same for a walk that may intern: its Stand is over 's.setVm vm0' -/
def OWW (p : Program) (e : Env) (below : List Frame) (s : State) (Q : Option Value → Heap → List Loc → Prop) (kc ks : Nat) (A : State) : Prop :=
  ∃ s₂ o, Steps p.tables e below A s₂ ∧ s₂.status = .running ∧ Ended s₂ below o ∧ ∃ v L, o = .returned v ∧ Q v s₂.heap L ∧ ReturnedEndW s o s₂ L kc ks
theorem OWW.st (h : ∀ t, Steps p.tables e below B t → Steps p.tables e below A t) (k : OWW p e below s Q kc ks B) : OWW p e below s Q kc ks A := by
  obtain ⟨a, o, h1, h2⟩ := k; exact ⟨a, o, h _ h1, h2⟩
theorem OWW.tr (h : Steps p.tables e below A B) (k : OWW p e below s Q kc ks B) : OWW p e below s Q kc ks A := by
  obtain ⟨a, o, h1, h2⟩ := k; exact ⟨a, o, h.trans h1, h2⟩
theorem OWW.ret {vm0 : Vm} {k0 : Nat} (X : Stand p l e R (s.setVm vm0) m args below meth c T locs cells slots) {h : Heap} (hS : s.Since vm0 k0) (hk : k0 ≤ h.size) (hx : p.tables.exec = Jvm.exec) (hlk : meth.locks = false) {pc : Nat} {Ls : Array Slot} {w : Value} {t : FieldType} {i : Instr} {rest : List Value} (hret : meth.sig.returnType = some t) (hn : narrow t w = w)
    (hi : (i = .ireturn ∧ (t = .int ∨ t = .boolean ∨ t = .byte ∨ t = .char ∨ t = .short) ∧ ∃ z, w = .int z) ∨ (i = .lreturn ∧ t = .long ∧ ∃ z, w = .long z) ∨ (i = .dreturn ∧ t = .double ∧ ∃ z, w = .double z) ∨ (i = .freturn ∧ t = .float ∧ ∃ z, w = .float z) ∨ (i = .areturn ∧ t.isReference = true ∧ w.isRef = true))
    (hd : decode c.code pc = .ok (i, 1)) (eT : T.heap = h) (hc : cells ≤ kc) (hs : slots ≤ ks) (q : Q (some w) h locs) : OWW p e below s Q kc ks (T.setTop (mkF m pc Ls (w :: rest))) := by
  obtain ⟨fs, hr, hrun, hended, hW, hsame⟩ := X.leave (v := some w) (fun h => by rw [hret] at h; cases h) hlk
  subst eT
  obtain ⟨g1, g2, g3⟩ := hS.ended (U := T.setFrames fs) hW hk hsame
  exact ⟨_, _, retOut X hx hret hn hi hd hr, hrun, hended, _, _, rfl, q, ⟨_, rfl⟩, g1, g2, g3.mono hc hs⟩
theorem OWW.retV {vm0 : Vm} {k0 : Nat} (X : Stand p l e R (s.setVm vm0) m args below meth c T locs cells slots) {h : Heap} (hS : s.Since vm0 k0) (hk : k0 ≤ h.size) (hx : p.tables.exec = Jvm.exec) (hlk : meth.locks = false) {pc : Nat} {Ls : Array Slot} (hret : meth.sig.returnType = none)
    (hd : decode c.code pc = .ok (.return_, 1)) (eT : T.heap = h) (hc : cells ≤ kc) (hs : slots ≤ ks) (q : Q none h locs) : OWW p e below s Q kc ks (T.setTop (mkF m pc Ls [])) := by
  obtain ⟨fs, hr, hrun, hended, hW, hsame⟩ := X.leave (v := none) (fun _ => rfl) hlk
  subst eT
  obtain ⟨g1, g2, g3⟩ := hS.ended (U := T.setFrames fs) hW hk hsame
  exact ⟨_, _, X.returnOut hx hret hd hr, hrun, hended, _, _, rfl, q, ⟨_, rfl⟩, g1, g2, g3.mono hc hs⟩
end OwnKit
section OwnWords
variable {args : Array Value} {first s : State} {o : Option Outcome} {idx : List Nat} {t : Term}
theorem own_eq_int {k : Int32} (h : (Jvm.Cond.eq t (.int k)).value args first o s idx = some true) : t.eval args first o idx s = some (.int k) := by
  obtain ⟨x, y, h1, h2, k1, k2⟩ := cmp_v (Or.inl h)
  rw [Term.int_eval] at h2
  cases h2
  obtain ⟨z, rfl⟩ := k2
  rw [h1, gotT (Cond.eq_ints h1 (Term.int_eval k)) h]
theorem own_eq_ref {u : Term} {a : Addr} (h : (Jvm.Cond.eq t u).value args first o s idx = some true) (hu : u.eval args first o idx s = some (.ref a)) : t.eval args first o idx s = some (.ref a) := by
  obtain ⟨x, y, h1, h2, k1, k2⟩ := cmp_v (Or.inl h)
  cases hu.symm.trans h2
  have q := gotT (eq_R h1 hu k2.2 rfl) h
  rw [h1, q]
theorem own_eq_dbl {n : Int64} {b : UInt64} (hb : Jvm.Unary.bitsD.apply (.long n) = some (.double b)) (h : (Jvm.Cond.eq t (.op1 .bitsD (.long n))).value args first o s idx = some true) : t.eval args first o idx s = some (.double b) := by
  obtain ⟨x, y, h1, h2, k1, k2⟩ := cmp_v (Or.inl h)
  rw [op1_f (long_at n), hb] at h2
  cases h2
  obtain ⟨z, rfl⟩ := k2
  have h3 : (Term.op1 Jvm.Unary.bitsD (.long n)).eval args first o idx s = some (.double b) := by rw [op1_f (long_at n), hb]
  simp only [Cond.value, h1, h3, Option.some.injEq, decide_eq_true_eq] at h
  rw [h1, h]
theorem own_arr {ty : FieldType} {a : Addr} {z : Int32} (ev : t.eval args s none [] s = some (.ref a)) (ha : (Jvm.Cond.arrayOf t ty).value args s none s [] = some true) (hl : (Term.length t).eval args s none [] s = some (.int z)) :
    ∃ cl : Cell, Arr s s.heap a cl ty ∧ cl.slots.size < 2 ^ 31 ∧ cl.slots.size.toInt32 = z ∧ ∀ j : Int32, ¬ j < 0 → ∀ v, (Term.elem t (.int j)).eval args s none [] s = some v → cl.slots[j.toNatClampNeg]? = some v := by
  obtain ⟨cl, A⟩ := Arr.start ev ha
  have hat := A.fin (Vm.Alike.refl _)
  have hlt : cl.slots.size < 2 ^ 31 := by
    refine Decidable.byContradiction fun q => ?_
    simp [Term.eval, ev, hat, q] at hl
  refine ⟨cl, A, hlt, ?_, fun j hj v hv => ?_⟩
  · rw [len_f ev hat hlt] at hl; exact Value.int.inj (Option.some.inj hl)
  · rw [elem_f ev (Term.int_eval j) hat hj] at hv; exact hv
end OwnWords
theorem own_oldle {Z : State} {n0 : Nat} {h : Heap} (X : Old Z n0 h) : n0 ≤ h.size := X.1 ▸ X.2.1
theorem own_cat {v : Value} (h : v.isRef = true) : v.category = 1 := by cases v <;> first | rfl | simp [Value.isRef] at h
theorem own_nar {v : Value} {t : FieldType} (h : v.isRef = true) (ht : t.isReference = true) : narrow t v = v := by cases t <;> first | (cases ht; done) | (cases v <;> first | rfl | simp [Value.isRef] at h)
theorem own_fit {v : Value} {t : FieldType} (h : v.isRef = true) (ht : t.isReference = true) : fits t v = true := by cases t <;> first | (cases ht; done) | (cases v <;> first | rfl | simp [Value.isRef] at h)

theorem own_nz {r : Int32} (h : r = 0 ∨ r = 1) : narrow .boolean (.int r) = .int r := by rcases h with rfl | rfl <;> rfl
theorem own_fz {r : Int32} (h : r = 0 ∨ r = 1) : fits .boolean (.int r) = true := by rcases h with rfl | rfl <;> rfl
section OwnHeld
open Jvm.Free.SB Jvm.Free.SBG
variable {p : Program} {l : Launch} {e : Env} {R : Room} {s : State} {m : MethodId} {args : Array Value} {below : List Frame} {meth : Method} {c : Code} {T : State} {locs : List Loc} {cells slots kc ks : Nat} {Q : Option Value → Heap → List Loc → Prop} {A B : State} {Z : State} {EL : List (String × Nat)} {h0 : Heap} {a0 : Array Value}
/-- the rest of a walk that may intern, and keeps what is held of the String constants EL -/
def OWH (Z : State) (EL : List (String × Nat)) (h0 : Heap) (p : Program) (e : Env) (below : List Frame) (s : State) (Q : Option Value → Heap → List Loc → Prop) (kc ks : Nat) (A : State) : Prop :=
  ∃ s₂ o, Steps p.tables e below A s₂ ∧ s₂.status = .running ∧ Ended s₂ below o ∧ ∃ v L, o = .returned v ∧ Q v s₂.heap L ∧ CHr Z EL s.vm h0 s₂.vm s₂.heap ∧ ReturnedEndW s o s₂ L kc ks
theorem OWH.st (h : ∀ t, Steps p.tables e below B t → Steps p.tables e below A t) (k : OWH Z EL h0 p e below s Q kc ks B) : OWH Z EL h0 p e below s Q kc ks A := by
  obtain ⟨a, o, h1, h2⟩ := k; exact ⟨a, o, h _ h1, h2⟩
theorem OWH.tr (h : Steps p.tables e below A B) (k : OWH Z EL h0 p e below s Q kc ks B) : OWH Z EL h0 p e below s Q kc ks A := by
  obtain ⟨a, o, h1, h2⟩ := k; exact ⟨a, o, h.trans h1, h2⟩
theorem OWH.ret {vm0 : Vm} {k0 : Nat} (X : Stand p l e R (s.setVm vm0) m args below meth c T locs cells slots) {h : Heap} (hS : s.Since vm0 k0) (hk : k0 ≤ h.size) (hx : p.tables.exec = Jvm.exec) (hlk : meth.locks = false) (CR : CHr Z EL s.vm h0 vm0 h) (hZ : Z.Warmed39 vm0) (hEL : EW Z a0 EL) {pc : Nat} {Ls : Array Slot} {w : Value} {t : FieldType} {i : Instr} {rest : List Value} (hret : meth.sig.returnType = some t) (hn : narrow t w = w)
    (hi : (i = .ireturn ∧ (t = .int ∨ t = .boolean ∨ t = .byte ∨ t = .char ∨ t = .short) ∧ ∃ z, w = .int z) ∨ (i = .lreturn ∧ t = .long ∧ ∃ z, w = .long z) ∨ (i = .dreturn ∧ t = .double ∧ ∃ z, w = .double z) ∨ (i = .freturn ∧ t = .float ∧ ∃ z, w = .float z) ∨ (i = .areturn ∧ t.isReference = true ∧ w.isRef = true))
    (hd : decode c.code pc = .ok (i, 1)) (eT : T.heap = h) (hc : cells ≤ kc) (hs : slots ≤ ks) (q : Q (some w) h locs) : OWH Z EL h0 p e below s Q kc ks (T.setTop (mkF m pc Ls (w :: rest))) := by
  obtain ⟨fs, hr, hrun, hended, hW, hsame⟩ := X.leave (v := some w) (fun h => by rw [hret] at h; cases h) hlk
  subst eT
  have CA := CHv.at X hZ hEL CR.1
  obtain ⟨g1, g2, g3⟩ := hS.ended (U := T.setFrames fs) hW hk hsame
  exact ⟨_, _, retOut X hx hret hn hi hd hr, hrun, hended, _, _, rfl, q, CR.trans CA, ⟨_, rfl⟩, g1, g2, g3.mono hc hs⟩
theorem OWH.retV {vm0 : Vm} {k0 : Nat} (X : Stand p l e R (s.setVm vm0) m args below meth c T locs cells slots) {h : Heap} (hS : s.Since vm0 k0) (hk : k0 ≤ h.size) (hx : p.tables.exec = Jvm.exec) (hlk : meth.locks = false) (CR : CHr Z EL s.vm h0 vm0 h) (hZ : Z.Warmed39 vm0) (hEL : EW Z a0 EL) {pc : Nat} {Ls : Array Slot} (hret : meth.sig.returnType = none)
    (hd : decode c.code pc = .ok (.return_, 1)) (eT : T.heap = h) (hc : cells ≤ kc) (hs : slots ≤ ks) (q : Q none h locs) : OWH Z EL h0 p e below s Q kc ks (T.setTop (mkF m pc Ls [])) := by
  obtain ⟨fs, hr, hrun, hended, hW, hsame⟩ := X.leave (v := none) (fun _ => rfl) hlk
  subst eT
  have CA := CHv.at X hZ hEL CR.1
  obtain ⟨g1, g2, g3⟩ := hS.ended (U := T.setFrames fs) hW hk hsame
  exact ⟨_, _, X.returnOut hx hret hd hr, hrun, hended, _, _, rfl, q, CR.trans CA, ⟨_, rfl⟩, g1, g2, g3.mono hc hs⟩
/-- a String whose value isn't set yet is none of the booked ones -/
theorem own_safeS {vm : Vm} {h : Heap} {x : Addr} (hal : Z.vm.Alike vm) (E : Exa Z h x "java/lang/String") (F : Fld Z h x "java/lang/String" "value" "[B" .null) : Safe Z EL vm h x := fun Bx => by
  obtain ⟨q0, -, u, a, -, q, -, S, rfl | rfl⟩ := Bx
  · obtain ⟨cS, ⟨⟨s1, s2, s3, ⟨cv, kv, iv, s4, s4'⟩, -, s6, -, s8, -⟩, -⟩, -⟩ := S
    obtain ⟨cell, cf, k, i, f, e1, e2, e3, e4, e5, e6, e7⟩ := F
    cases (show h[q.sa]? = some q.sC from s1).symm.trans e1
    obtain ⟨kv', z4⟩ := ff_back (U := Wst Z vm h) hal s4
    have z5 := z4.symm.trans e2
    simp only [Option.some.injEq, Prod.mk.injEq] at z5
    rw [← z5.2.2.2, s8] at e7
    cases e7
  · obtain ⟨cell, k, e1, e2, e3, -, -⟩ := E
    cases (show h[q.sd]? = some q.SA from S.hd).symm.trans e1
    obtain ⟨cS, -, -, f, -⟩ := S
    have f' : vm.findClass "[B" = some q.SA.cls := f
    rw [hal.findClass] at f'
    obtain ⟨k1, q1, q2⟩ := Vm.findClass_spec f'
    obtain ⟨k2, q3, q4⟩ := Vm.findClass_spec e2
    cases q1.symm.trans q3
    exact absurd (q2.symm.trans q4) (by decide)
theorem own_neTy {h : Heap} {a b : Addr} {k1 k2 : ClassId} {t1 t2 : FieldType} {z1 z2 : Int32} {v1 v2 : List Value} {d1 d2 : Value} (A : Arv Z h a k1 t1 z1 v1 d1) (B : Arv Z h b k2 t2 z2 v2 d2) (ht : t1 ≠ t2) : a ≠ b := fun q => by
  subst q
  obtain ⟨c1, ⟨e1, ⟨-, ka, ha, ca, na⟩, -⟩, -⟩ := A
  obtain ⟨c2, ⟨e2, ⟨-, kb, hb, cb, nb⟩, -⟩, -⟩ := B
  cases e1.symm.trans e2
  cases ha.symm.trans hb
  have := na.symm.trans nb
  injection this with _ e
  exact ht e
end OwnHeld
theorem w_0 {a0 : Array Value} {Z : State} (hw : ∀ d ∈ tables_1, d.before a0 Z = true) : (Jvm.Cond.fieldLink "com/example/latticework/latticework/MeasureAddsPinLaw" (7 : Nat) "com/example/latticework/latticework/Measure$Function" "COUNT" "Lcom/example/latticework/latticework/Measure$Function;").before a0 Z = true := hw _ (List.mem_of_getElem? (i := 0) rfl)
theorem w_1 {a0 : Array Value} {Z : State} (hw : ∀ d ∈ tables_1, d.before a0 Z = true) : (Jvm.Cond.initialized "com/example/latticework/latticework/Measure$Function").before a0 Z = true := hw _ (List.mem_of_getElem? (i := 1) rfl)
theorem w_2 {a0 : Array Value} {Z : State} (hw : ∀ d ∈ tables_1, d.before a0 Z = true) : (Jvm.Cond.laysStatic "com/example/latticework/latticework/Measure$Function" "COUNT" "Lcom/example/latticework/latticework/Measure$Function;").before a0 Z = true := hw _ (List.mem_of_getElem? (i := 2) rfl)
theorem w_3 {a0 : Array Value} {Z : State} (hw : ∀ d ∈ tables_1, d.before a0 Z = true) : (Jvm.Cond.methodLink "com/example/latticework/latticework/MeasureAddsPinLaw" (22 : Nat) ({ cls := "java/lang/String", name := "valueOf", desc := "(C)Ljava/lang/String;" } : Jvm.MethodName)).before a0 Z = true := hw _ (List.mem_of_getElem? (i := 3) rfl)
theorem w_4 {a0 : Array Value} {Z : State} (hw : ∀ d ∈ tables_1, d.before a0 Z = true) : (Jvm.Cond.static ({ cls := "java/lang/String", name := "valueOf", desc := "(C)Ljava/lang/String;" } : Jvm.MethodName)).before a0 Z = true := hw _ (List.mem_of_getElem? (i := 4) rfl)
theorem w_5 {a0 : Array Value} {Z : State} (hw : ∀ d ∈ tables_1, d.before a0 Z = true) : (Jvm.Cond.initialized "java/lang/String").before a0 Z = true := hw _ (List.mem_of_getElem? (i := 5) rfl)
theorem w_6 {a0 : Array Value} {Z : State} (hw : ∀ d ∈ tables_1, d.before a0 Z = true) : (Jvm.Cond.code ({ cls := "java/lang/String", name := "valueOf", desc := "(C)Ljava/lang/String;" } : Jvm.MethodName) jdk_42_method_139_code (1 : Nat) (Option.some (Jvm.ClassFile.FieldType.object "java/lang/String"))).before a0 Z = true := hw _ (List.mem_of_getElem? (i := 6) rfl)
theorem w_7 {a0 : Array Value} {Z : State} (hw : ∀ d ∈ tables_1, d.before a0 Z = true) : (Jvm.Cond.fieldLink "java/lang/String" (38 : Nat) "java/lang/String" "COMPACT_STRINGS" "Z").before a0 Z = true := hw _ (List.mem_of_getElem? (i := 7) rfl)
theorem w_8 {a0 : Array Value} {Z : State} (hw : ∀ d ∈ tables_1, d.before a0 Z = true) : (Jvm.Cond.methodLink "java/lang/String" (1015 : Nat) ({ cls := "java/lang/StringLatin1", name := "canEncode", desc := "(C)Z" } : Jvm.MethodName)).before a0 Z = true := hw _ (List.mem_of_getElem? (i := 8) rfl)
theorem w_9 {a0 : Array Value} {Z : State} (hw : ∀ d ∈ tables_1, d.before a0 Z = true) : (Jvm.Cond.static ({ cls := "java/lang/StringLatin1", name := "canEncode", desc := "(C)Z" } : Jvm.MethodName)).before a0 Z = true := hw _ (List.mem_of_getElem? (i := 9) rfl)
theorem w_10 {a0 : Array Value} {Z : State} (hw : ∀ d ∈ tables_1, d.before a0 Z = true) : (Jvm.Cond.initialized "java/lang/StringLatin1").before a0 Z = true := hw _ (List.mem_of_getElem? (i := 10) rfl)
theorem w_11 {a0 : Array Value} {Z : State} (hw : ∀ d ∈ tables_1, d.before a0 Z = true) : (Jvm.Cond.code ({ cls := "java/lang/StringLatin1", name := "canEncode", desc := "(C)Z" } : Jvm.MethodName) jdk_43_method_3_code (1 : Nat) (Option.some Jvm.ClassFile.FieldType.boolean)).before a0 Z = true := hw _ (List.mem_of_getElem? (i := 11) rfl)
theorem w_12 {a0 : Array Value} {Z : State} (hw : ∀ d ∈ tables_1, d.before a0 Z = true) : (Jvm.Cond.classLink "java/lang/String" (10 : Nat) "java/lang/String").before a0 Z = true := hw _ (List.mem_of_getElem? (i := 12) rfl)
theorem w_13 {a0 : Array Value} {Z : State} (hw : ∀ d ∈ tables_1, d.before a0 Z = true) : (Jvm.Cond.instantiable "java/lang/String" (4 : Nat)).before a0 Z = true := hw _ (List.mem_of_getElem? (i := 13) rfl)
theorem w_14 {a0 : Array Value} {Z : State} (hw : ∀ d ∈ tables_1, d.before a0 Z = true) : (Jvm.Cond.methodLink "java/lang/String" (1018 : Nat) ({ cls := "java/lang/StringLatin1", name := "toBytes", desc := "(C)[B" } : Jvm.MethodName)).before a0 Z = true := hw _ (List.mem_of_getElem? (i := 14) rfl)
theorem w_15 {a0 : Array Value} {Z : State} (hw : ∀ d ∈ tables_1, d.before a0 Z = true) : (Jvm.Cond.static ({ cls := "java/lang/StringLatin1", name := "toBytes", desc := "(C)[B" } : Jvm.MethodName)).before a0 Z = true := hw _ (List.mem_of_getElem? (i := 15) rfl)
theorem w_16 {a0 : Array Value} {Z : State} (hw : ∀ d ∈ tables_1, d.before a0 Z = true) : (Jvm.Cond.code ({ cls := "java/lang/StringLatin1", name := "toBytes", desc := "(C)[B" } : Jvm.MethodName) jdk_43_method_46_code (1 : Nat) (Option.some (Jvm.ClassFile.FieldType.array Jvm.ClassFile.FieldType.byte))).before a0 Z = true := hw _ (List.mem_of_getElem? (i := 16) rfl)
theorem w_17 {a0 : Array Value} {Z : State} (hw : ∀ d ∈ tables_1, d.before a0 Z = true) : (Jvm.Cond.arrayClass Jvm.ClassFile.FieldType.byte).before a0 Z = true := hw _ (List.mem_of_getElem? (i := 17) rfl)
theorem w_18 {a0 : Array Value} {Z : State} (hw : ∀ d ∈ tables_1, d.before a0 Z = true) : (Jvm.Cond.methodLink "java/lang/String" (209 : Nat) ({ cls := "java/lang/String", name := "<init>", desc := "([BB)V" } : Jvm.MethodName)).before a0 Z = true := hw _ (List.mem_of_getElem? (i := 18) rfl)
theorem w_19 {a0 : Array Value} {Z : State} (hw : ∀ d ∈ tables_1, d.before a0 Z = true) : (Jvm.Cond.instanceMethod ({ cls := "java/lang/String", name := "<init>", desc := "([BB)V" } : Jvm.MethodName)).before a0 Z = true := hw _ (List.mem_of_getElem? (i := 19) rfl)
theorem w_21 {a0 : Array Value} {Z : State} (hw : ∀ d ∈ tables_1, d.before a0 Z = true) : (Jvm.Cond.code ({ cls := "java/lang/String", name := "<init>", desc := "([BB)V" } : Jvm.MethodName) jdk_42_method_151_code (3 : Nat) (Option.none : Option Jvm.ClassFile.FieldType)).before a0 Z = true := hw _ (List.mem_of_getElem? (i := 21) rfl)
theorem w_22 {a0 : Array Value} {Z : State} (hw : ∀ d ∈ tables_1, d.before a0 Z = true) : (Jvm.Cond.methodLink "java/lang/String" (1 : Nat) ({ cls := "java/lang/Object", name := "<init>", desc := "()V" } : Jvm.MethodName)).before a0 Z = true := hw _ (List.mem_of_getElem? (i := 22) rfl)
theorem w_23 {a0 : Array Value} {Z : State} (hw : ∀ d ∈ tables_1, d.before a0 Z = true) : (Jvm.Cond.instanceMethod ({ cls := "java/lang/Object", name := "<init>", desc := "()V" } : Jvm.MethodName)).before a0 Z = true := hw _ (List.mem_of_getElem? (i := 23) rfl)
theorem w_24 {a0 : Array Value} {Z : State} (hw : ∀ d ∈ tables_1, d.before a0 Z = true) : (Jvm.Cond.code ({ cls := "java/lang/Object", name := "<init>", desc := "()V" } : Jvm.MethodName) object_method_1_code (1 : Nat) (Option.none : Option Jvm.ClassFile.FieldType)).before a0 Z = true := hw _ (List.mem_of_getElem? (i := 24) rfl)
theorem w_25 {a0 : Array Value} {Z : State} (hw : ∀ d ∈ tables_1, d.before a0 Z = true) : (Jvm.Cond.fieldLink "java/lang/String" (9 : Nat) "java/lang/String" "value" "[B").before a0 Z = true := hw _ (List.mem_of_getElem? (i := 25) rfl)
theorem w_26 {a0 : Array Value} {Z : State} (hw : ∀ d ∈ tables_1, d.before a0 Z = true) : (Jvm.Cond.laysFinal "java/lang/String" "java/lang/String" "value" "[B").before a0 Z = true := hw _ (List.mem_of_getElem? (i := 26) rfl)
theorem w_27 {a0 : Array Value} {Z : State} (hw : ∀ d ∈ tables_1, d.before a0 Z = true) : (Jvm.Cond.fieldLink "java/lang/String" (15 : Nat) "java/lang/String" "coder" "B").before a0 Z = true := hw _ (List.mem_of_getElem? (i := 27) rfl)
theorem w_28 {a0 : Array Value} {Z : State} (hw : ∀ d ∈ tables_1, d.before a0 Z = true) : (Jvm.Cond.laysFinal "java/lang/String" "java/lang/String" "coder" "B").before a0 Z = true := hw _ (List.mem_of_getElem? (i := 28) rfl)
theorem w_29 {a0 : Array Value} {Z : State} (hw : ∀ d ∈ tables_1, d.before a0 Z = true) : (Jvm.Cond.classLink "com/example/latticework/latticework/MeasureAddsPinLaw" (28 : Nat) "com/example/latticework/latticework/Measure").before a0 Z = true := hw _ (List.mem_of_getElem? (i := 29) rfl)
theorem w_30 {a0 : Array Value} {Z : State} (hw : ∀ d ∈ tables_1, d.before a0 Z = true) : (Jvm.Cond.instantiable "com/example/latticework/latticework/Measure" (3 : Nat)).before a0 Z = true := hw _ (List.mem_of_getElem? (i := 30) rfl)
theorem w_31 {a0 : Array Value} {Z : State} (hw : ∀ d ∈ tables_1, d.before a0 Z = true) : (Jvm.Cond.initialized "com/example/latticework/latticework/Measure").before a0 Z = true := hw _ (List.mem_of_getElem? (i := 31) rfl)
theorem w_32 {a0 : Array Value} {Z : State} (hw : ∀ d ∈ tables_1, d.before a0 Z = true) : (Jvm.Cond.methodLink "com/example/latticework/latticework/MeasureAddsPinLaw" (30 : Nat) ({ cls := "com/example/latticework/latticework/Measure", name := "<init>", desc := "(Ljava/lang/String;Lcom/example/latticework/latticework/Measure$Function;Ljava/lang/String;)V" } : Jvm.MethodName)).before a0 Z = true := hw _ (List.mem_of_getElem? (i := 32) rfl)
theorem w_33 {a0 : Array Value} {Z : State} (hw : ∀ d ∈ tables_1, d.before a0 Z = true) : (Jvm.Cond.instanceMethod ({ cls := "com/example/latticework/latticework/Measure", name := "<init>", desc := "(Ljava/lang/String;Lcom/example/latticework/latticework/Measure$Function;Ljava/lang/String;)V" } : Jvm.MethodName)).before a0 Z = true := hw _ (List.mem_of_getElem? (i := 33) rfl)
theorem w_34 {a0 : Array Value} {Z : State} (hw : ∀ d ∈ tables_1, d.before a0 Z = true) : (Jvm.Cond.code ({ cls := "com/example/latticework/latticework/Measure", name := "<init>", desc := "(Ljava/lang/String;Lcom/example/latticework/latticework/Measure$Function;Ljava/lang/String;)V" } : Jvm.MethodName) prog_25_method_1_code (4 : Nat) (Option.none : Option Jvm.ClassFile.FieldType)).before a0 Z = true := hw _ (List.mem_of_getElem? (i := 34) rfl)
theorem w_35 {a0 : Array Value} {Z : State} (hw : ∀ d ∈ tables_1, d.before a0 Z = true) : (Jvm.Cond.methodLink "com/example/latticework/latticework/Measure" (1 : Nat) ({ cls := "java/lang/Record", name := "<init>", desc := "()V" } : Jvm.MethodName)).before a0 Z = true := hw _ (List.mem_of_getElem? (i := 35) rfl)
theorem w_36 {a0 : Array Value} {Z : State} (hw : ∀ d ∈ tables_1, d.before a0 Z = true) : (Jvm.Cond.instanceMethod ({ cls := "java/lang/Record", name := "<init>", desc := "()V" } : Jvm.MethodName)).before a0 Z = true := hw _ (List.mem_of_getElem? (i := 36) rfl)
theorem w_38 {a0 : Array Value} {Z : State} (hw : ∀ d ∈ tables_1, d.before a0 Z = true) : (Jvm.Cond.initialized "java/lang/Record").before a0 Z = true := hw _ (List.mem_of_getElem? (i := 38) rfl)
theorem w_39 {a0 : Array Value} {Z : State} (hw : ∀ d ∈ tables_1, d.before a0 Z = true) : (Jvm.Cond.code ({ cls := "java/lang/Record", name := "<init>", desc := "()V" } : Jvm.MethodName) jdk_30_method_1_code (1 : Nat) (Option.none : Option Jvm.ClassFile.FieldType)).before a0 Z = true := hw _ (List.mem_of_getElem? (i := 39) rfl)
theorem w_40 {a0 : Array Value} {Z : State} (hw : ∀ d ∈ tables_1, d.before a0 Z = true) : (Jvm.Cond.methodLink "java/lang/Record" (1 : Nat) ({ cls := "java/lang/Object", name := "<init>", desc := "()V" } : Jvm.MethodName)).before a0 Z = true := hw _ (List.mem_of_getElem? (i := 40) rfl)
theorem w_41 {a0 : Array Value} {Z : State} (hw : ∀ d ∈ tables_1, d.before a0 Z = true) : (Jvm.Cond.stringLink "com/example/latticework/latticework/Measure" (7 : Nat) "function").before a0 Z = true := hw _ (List.mem_of_getElem? (i := 41) rfl)
theorem w_42 {a0 : Array Value} {Z : State} (hw : ∀ d ∈ tables_1, d.before a0 Z = true) : (Jvm.Cond.soleField "java/lang/String" "value").before a0 Z = true := hw _ (List.mem_of_getElem? (i := 42) rfl)
theorem w_43 {a0 : Array Value} {Z : State} (hw : ∀ d ∈ tables_1, d.before a0 Z = true) : (Jvm.Cond.soleField "java/lang/String" "coder").before a0 Z = true := hw _ (List.mem_of_getElem? (i := 43) rfl)
theorem w_44 {a0 : Array Value} {Z : State} (hw : ∀ d ∈ tables_1, d.before a0 Z = true) : (Jvm.Cond.methodLink "com/example/latticework/latticework/Measure" (9 : Nat) ({ cls := "java/util/Objects", name := "requireNonNull", desc := "(Ljava/lang/Object;Ljava/lang/String;)Ljava/lang/Object;" } : Jvm.MethodName)).before a0 Z = true := hw _ (List.mem_of_getElem? (i := 44) rfl)
theorem w_45 {a0 : Array Value} {Z : State} (hw : ∀ d ∈ tables_1, d.before a0 Z = true) : (Jvm.Cond.static ({ cls := "java/util/Objects", name := "requireNonNull", desc := "(Ljava/lang/Object;Ljava/lang/String;)Ljava/lang/Object;" } : Jvm.MethodName)).before a0 Z = true := hw _ (List.mem_of_getElem? (i := 45) rfl)
theorem w_46 {a0 : Array Value} {Z : State} (hw : ∀ d ∈ tables_1, d.before a0 Z = true) : (Jvm.Cond.initialized "java/util/Objects").before a0 Z = true := hw _ (List.mem_of_getElem? (i := 46) rfl)
theorem w_47 {a0 : Array Value} {Z : State} (hw : ∀ d ∈ tables_1, d.before a0 Z = true) : (Jvm.Cond.code ({ cls := "java/util/Objects", name := "requireNonNull", desc := "(Ljava/lang/Object;Ljava/lang/String;)Ljava/lang/Object;" } : Jvm.MethodName) jdk_31_method_11_code (2 : Nat) (Option.some (Jvm.ClassFile.FieldType.object "java/lang/Object"))).before a0 Z = true := hw _ (List.mem_of_getElem? (i := 47) rfl)
theorem w_48 {a0 : Array Value} {Z : State} (hw : ∀ d ∈ tables_1, d.before a0 Z = true) : (Jvm.Cond.methodLink "com/example/latticework/latticework/Measure" (15 : Nat) ({ cls := "java/lang/String", name := "isEmpty", desc := "()Z" } : Jvm.MethodName)).before a0 Z = true := hw _ (List.mem_of_getElem? (i := 48) rfl)
theorem w_49 {a0 : Array Value} {Z : State} (hw : ∀ d ∈ tables_1, d.before a0 Z = true) : (Jvm.Cond.declares ({ cls := "java/lang/String", name := "isEmpty", desc := "()Z" } : Jvm.MethodName)).before a0 Z = true := hw _ (List.mem_of_getElem? (i := 49) rfl)
theorem w_50 {a0 : Array Value} {Z : State} (hw : ∀ d ∈ tables_1, d.before a0 Z = true) : (Jvm.Cond.instanceMethod ({ cls := "java/lang/String", name := "isEmpty", desc := "()Z" } : Jvm.MethodName)).before a0 Z = true := hw _ (List.mem_of_getElem? (i := 50) rfl)
theorem w_51 {a0 : Array Value} {Z : State} (hw : ∀ d ∈ tables_1, d.before a0 Z = true) : (Jvm.Cond.selects "java/lang/String" ({ cls := "java/lang/String", name := "isEmpty", desc := "()Z" } : Jvm.MethodName) ({ cls := "java/lang/String", name := "isEmpty", desc := "()Z" } : Jvm.MethodName)).before a0 Z = true := hw _ (List.mem_of_getElem? (i := 51) rfl)
theorem w_52 {a0 : Array Value} {Z : State} (hw : ∀ d ∈ tables_1, d.before a0 Z = true) : (Jvm.Cond.code ({ cls := "java/lang/String", name := "isEmpty", desc := "()Z" } : Jvm.MethodName) jdk_42_method_55_code (1 : Nat) (Option.some Jvm.ClassFile.FieldType.boolean)).before a0 Z = true := hw _ (List.mem_of_getElem? (i := 52) rfl)
theorem w_53 {a0 : Array Value} {Z : State} (hw : ∀ d ∈ tables_1, d.before a0 Z = true) : (Jvm.Cond.stringLink "com/example/latticework/latticework/Measure" (28 : Nat) "").before a0 Z = true := hw _ (List.mem_of_getElem? (i := 53) rfl)
theorem w_54 {a0 : Array Value} {Z : State} (hw : ∀ d ∈ tables_1, d.before a0 Z = true) : (Jvm.Cond.methodLink "com/example/latticework/latticework/Measure" (30 : Nat) ({ cls := "java/lang/String", name := "equals", desc := "(Ljava/lang/Object;)Z" } : Jvm.MethodName)).before a0 Z = true := hw _ (List.mem_of_getElem? (i := 54) rfl)
theorem w_55 {a0 : Array Value} {Z : State} (hw : ∀ d ∈ tables_1, d.before a0 Z = true) : (Jvm.Cond.declares ({ cls := "java/lang/String", name := "equals", desc := "(Ljava/lang/Object;)Z" } : Jvm.MethodName)).before a0 Z = true := hw _ (List.mem_of_getElem? (i := 55) rfl)
theorem w_56 {a0 : Array Value} {Z : State} (hw : ∀ d ∈ tables_1, d.before a0 Z = true) : (Jvm.Cond.instanceMethod ({ cls := "java/lang/String", name := "equals", desc := "(Ljava/lang/Object;)Z" } : Jvm.MethodName)).before a0 Z = true := hw _ (List.mem_of_getElem? (i := 56) rfl)
theorem w_57 {a0 : Array Value} {Z : State} (hw : ∀ d ∈ tables_1, d.before a0 Z = true) : (Jvm.Cond.selects "java/lang/String" ({ cls := "java/lang/String", name := "equals", desc := "(Ljava/lang/Object;)Z" } : Jvm.MethodName) ({ cls := "java/lang/String", name := "equals", desc := "(Ljava/lang/Object;)Z" } : Jvm.MethodName)).before a0 Z = true := hw _ (List.mem_of_getElem? (i := 57) rfl)
theorem w_58 {a0 : Array Value} {Z : State} (hw : ∀ d ∈ tables_1, d.before a0 Z = true) : (Jvm.Cond.code ({ cls := "java/lang/String", name := "equals", desc := "(Ljava/lang/Object;)Z" } : Jvm.MethodName) jdk_42_method_66_code (3 : Nat) (Option.some Jvm.ClassFile.FieldType.boolean)).before a0 Z = true := hw _ (List.mem_of_getElem? (i := 58) rfl)
theorem w_59 {a0 : Array Value} {Z : State} (hw : ∀ d ∈ tables_1, d.before a0 Z = true) : (Jvm.Cond.methodLink "java/lang/String" (541 : Nat) ({ cls := "java/lang/StringLatin1", name := "equals", desc := "([B[B)Z" } : Jvm.MethodName)).before a0 Z = true := hw _ (List.mem_of_getElem? (i := 59) rfl)
theorem w_60 {a0 : Array Value} {Z : State} (hw : ∀ d ∈ tables_1, d.before a0 Z = true) : (Jvm.Cond.static ({ cls := "java/lang/StringLatin1", name := "equals", desc := "([B[B)Z" } : Jvm.MethodName)).before a0 Z = true := hw _ (List.mem_of_getElem? (i := 60) rfl)
theorem w_61 {a0 : Array Value} {Z : State} (hw : ∀ d ∈ tables_1, d.before a0 Z = true) : (Jvm.Cond.code ({ cls := "java/lang/StringLatin1", name := "equals", desc := "([B[B)Z" } : Jvm.MethodName) jdk_43_method_13_code (3 : Nat) (Option.some Jvm.ClassFile.FieldType.boolean)).before a0 Z = true := hw _ (List.mem_of_getElem? (i := 61) rfl)
theorem w_62 {a0 : Array Value} {Z : State} (hw : ∀ d ∈ tables_1, d.before a0 Z = true) : (Jvm.Cond.fieldLink "com/example/latticework/latticework/Measure" (48 : Nat) "com/example/latticework/latticework/Measure" "name" "Ljava/lang/String;").before a0 Z = true := hw _ (List.mem_of_getElem? (i := 62) rfl)
theorem w_63 {a0 : Array Value} {Z : State} (hw : ∀ d ∈ tables_1, d.before a0 Z = true) : (Jvm.Cond.laysFinal "com/example/latticework/latticework/Measure" "com/example/latticework/latticework/Measure" "name" "Ljava/lang/String;").before a0 Z = true := hw _ (List.mem_of_getElem? (i := 63) rfl)
theorem w_64 {a0 : Array Value} {Z : State} (hw : ∀ d ∈ tables_1, d.before a0 Z = true) : (Jvm.Cond.fieldLink "com/example/latticework/latticework/Measure" (54 : Nat) "com/example/latticework/latticework/Measure" "function" "Lcom/example/latticework/latticework/Measure$Function;").before a0 Z = true := hw _ (List.mem_of_getElem? (i := 64) rfl)
theorem w_65 {a0 : Array Value} {Z : State} (hw : ∀ d ∈ tables_1, d.before a0 Z = true) : (Jvm.Cond.laysFinal "com/example/latticework/latticework/Measure" "com/example/latticework/latticework/Measure" "function" "Lcom/example/latticework/latticework/Measure$Function;").before a0 Z = true := hw _ (List.mem_of_getElem? (i := 65) rfl)
theorem w_66 {a0 : Array Value} {Z : State} (hw : ∀ d ∈ tables_1, d.before a0 Z = true) : (Jvm.Cond.fieldLink "com/example/latticework/latticework/Measure" (56 : Nat) "com/example/latticework/latticework/Measure" "column" "Ljava/lang/String;").before a0 Z = true := hw _ (List.mem_of_getElem? (i := 66) rfl)
theorem w_67 {a0 : Array Value} {Z : State} (hw : ∀ d ∈ tables_1, d.before a0 Z = true) : (Jvm.Cond.laysFinal "com/example/latticework/latticework/Measure" "com/example/latticework/latticework/Measure" "column" "Ljava/lang/String;").before a0 Z = true := hw _ (List.mem_of_getElem? (i := 67) rfl)
theorem w_68 {a0 : Array Value} {Z : State} (hw : ∀ d ∈ tables_1, d.before a0 Z = true) : (Jvm.Cond.methodLink "com/example/latticework/latticework/MeasureAddsPinLaw" (33 : Nat) ({ cls := "com/example/latticework/latticework/Measure", name := "adds", desc := "()Z" } : Jvm.MethodName)).before a0 Z = true := hw _ (List.mem_of_getElem? (i := 68) rfl)
theorem w_69 {a0 : Array Value} {Z : State} (hw : ∀ d ∈ tables_1, d.before a0 Z = true) : (Jvm.Cond.declares ({ cls := "com/example/latticework/latticework/Measure", name := "adds", desc := "()Z" } : Jvm.MethodName)).before a0 Z = true := hw _ (List.mem_of_getElem? (i := 69) rfl)
theorem w_70 {a0 : Array Value} {Z : State} (hw : ∀ d ∈ tables_1, d.before a0 Z = true) : (Jvm.Cond.instanceMethod ({ cls := "com/example/latticework/latticework/Measure", name := "adds", desc := "()Z" } : Jvm.MethodName)).before a0 Z = true := hw _ (List.mem_of_getElem? (i := 70) rfl)
theorem w_71 {a0 : Array Value} {Z : State} (hw : ∀ d ∈ tables_1, d.before a0 Z = true) : (Jvm.Cond.selects "com/example/latticework/latticework/Measure" ({ cls := "com/example/latticework/latticework/Measure", name := "adds", desc := "()Z" } : Jvm.MethodName) ({ cls := "com/example/latticework/latticework/Measure", name := "adds", desc := "()Z" } : Jvm.MethodName)).before a0 Z = true := hw _ (List.mem_of_getElem? (i := 71) rfl)
theorem w_72 {a0 : Array Value} {Z : State} (hw : ∀ d ∈ tables_1, d.before a0 Z = true) : (Jvm.Cond.code ({ cls := "com/example/latticework/latticework/Measure", name := "adds", desc := "()Z" } : Jvm.MethodName) prog_25_method_6_code (1 : Nat) (Option.some Jvm.ClassFile.FieldType.boolean)).before a0 Z = true := hw _ (List.mem_of_getElem? (i := 72) rfl)
theorem w_73 {a0 : Array Value} {Z : State} (hw : ∀ d ∈ tables_1, d.before a0 Z = true) : (Jvm.Cond.fieldLink "com/example/latticework/latticework/Measure" (34 : Nat) "com/example/latticework/latticework/Measure$Function" "COUNT" "Lcom/example/latticework/latticework/Measure$Function;").before a0 Z = true := hw _ (List.mem_of_getElem? (i := 73) rfl)
theorem w_74 {a0 : Array Value} {Z : State} (hw : ∀ d ∈ tables_1, d.before a0 Z = true) : (Jvm.Cond.fieldLink "com/example/latticework/latticework/MeasureAddsPinLaw" (19 : Nat) "com/example/latticework/latticework/Measure$Function" "MAX" "Lcom/example/latticework/latticework/Measure$Function;").before a0 Z = true := hw _ (List.mem_of_getElem? (i := 74) rfl)
theorem w_75 {a0 : Array Value} {Z : State} (hw : ∀ d ∈ tables_1, d.before a0 Z = true) : (Jvm.Cond.laysStatic "com/example/latticework/latticework/Measure$Function" "MAX" "Lcom/example/latticework/latticework/Measure$Function;").before a0 Z = true := hw _ (List.mem_of_getElem? (i := 75) rfl)
theorem w_76 {a0 : Array Value} {Z : State} (hw : ∀ d ∈ tables_1, d.before a0 Z = true) : (Jvm.Cond.fieldLink "com/example/latticework/latticework/Measure" (102 : Nat) "com/example/latticework/latticework/Measure$Function" "SUM" "Lcom/example/latticework/latticework/Measure$Function;").before a0 Z = true := hw _ (List.mem_of_getElem? (i := 76) rfl)
theorem w_77 {a0 : Array Value} {Z : State} (hw : ∀ d ∈ tables_1, d.before a0 Z = true) : (Jvm.Cond.laysStatic "com/example/latticework/latticework/Measure$Function" "SUM" "Lcom/example/latticework/latticework/Measure$Function;").before a0 Z = true := hw _ (List.mem_of_getElem? (i := 77) rfl)
theorem w_78 {a0 : Array Value} {Z : State} (hw : ∀ d ∈ tables_1, d.before a0 Z = true) : (Jvm.Cond.methodLink "com/example/latticework/latticework/MeasureAddsPinLaw" (37 : Nat) ({ cls := "com/example/latticework/latticework/Measure", name := "pick", desc := "(JJ)J" } : Jvm.MethodName)).before a0 Z = true := hw _ (List.mem_of_getElem? (i := 78) rfl)
theorem w_79 {a0 : Array Value} {Z : State} (hw : ∀ d ∈ tables_1, d.before a0 Z = true) : (Jvm.Cond.declares ({ cls := "com/example/latticework/latticework/Measure", name := "pick", desc := "(JJ)J" } : Jvm.MethodName)).before a0 Z = true := hw _ (List.mem_of_getElem? (i := 79) rfl)
theorem w_80 {a0 : Array Value} {Z : State} (hw : ∀ d ∈ tables_1, d.before a0 Z = true) : (Jvm.Cond.instanceMethod ({ cls := "com/example/latticework/latticework/Measure", name := "pick", desc := "(JJ)J" } : Jvm.MethodName)).before a0 Z = true := hw _ (List.mem_of_getElem? (i := 80) rfl)
theorem w_81 {a0 : Array Value} {Z : State} (hw : ∀ d ∈ tables_1, d.before a0 Z = true) : (Jvm.Cond.selects "com/example/latticework/latticework/Measure" ({ cls := "com/example/latticework/latticework/Measure", name := "pick", desc := "(JJ)J" } : Jvm.MethodName) ({ cls := "com/example/latticework/latticework/Measure", name := "pick", desc := "(JJ)J" } : Jvm.MethodName)).before a0 Z = true := hw _ (List.mem_of_getElem? (i := 81) rfl)
theorem w_82 {a0 : Array Value} {Z : State} (hw : ∀ d ∈ tables_1, d.before a0 Z = true) : (Jvm.Cond.code ({ cls := "com/example/latticework/latticework/Measure", name := "pick", desc := "(JJ)J" } : Jvm.MethodName) prog_25_method_7_code (5 : Nat) (Option.some Jvm.ClassFile.FieldType.long)).before a0 Z = true := hw _ (List.mem_of_getElem? (i := 82) rfl)
theorem w_83 {a0 : Array Value} {Z : State} (hw : ∀ d ∈ tables_1, d.before a0 Z = true) : (Jvm.Cond.fieldLink "com/example/latticework/latticework/Measure" (105 : Nat) "com/example/latticework/latticework/Measure$Function" "MIN" "Lcom/example/latticework/latticework/Measure$Function;").before a0 Z = true := hw _ (List.mem_of_getElem? (i := 83) rfl)
theorem w_84 {a0 : Array Value} {Z : State} (hw : ∀ d ∈ tables_1, d.before a0 Z = true) : (Jvm.Cond.laysStatic "com/example/latticework/latticework/Measure$Function" "MIN" "Lcom/example/latticework/latticework/Measure$Function;").before a0 Z = true := hw _ (List.mem_of_getElem? (i := 84) rfl)
theorem w_85 {a0 : Array Value} {Z : State} (hw : ∀ d ∈ tables_1, d.before a0 Z = true) : (Jvm.Cond.methodLink "com/example/latticework/latticework/Measure" (114 : Nat) ({ cls := "java/lang/Math", name := "max", desc := "(JJ)J" } : Jvm.MethodName)).before a0 Z = true := hw _ (List.mem_of_getElem? (i := 85) rfl)
theorem w_86 {a0 : Array Value} {Z : State} (hw : ∀ d ∈ tables_1, d.before a0 Z = true) : (Jvm.Cond.static ({ cls := "java/lang/Math", name := "max", desc := "(JJ)J" } : Jvm.MethodName)).before a0 Z = true := hw _ (List.mem_of_getElem? (i := 86) rfl)
theorem w_87 {a0 : Array Value} {Z : State} (hw : ∀ d ∈ tables_1, d.before a0 Z = true) : (Jvm.Cond.initialized "java/lang/Math").before a0 Z = true := hw _ (List.mem_of_getElem? (i := 87) rfl)
theorem w_88 {a0 : Array Value} {Z : State} (hw : ∀ d ∈ tables_1, d.before a0 Z = true) : (Jvm.Cond.code ({ cls := "java/lang/Math", name := "max", desc := "(JJ)J" } : Jvm.MethodName) jdk_29_method_66_code (4 : Nat) (Option.some Jvm.ClassFile.FieldType.long)).before a0 Z = true := hw _ (List.mem_of_getElem? (i := 88) rfl)
theorem w_89 {a0 : Array Value} {Z : State} (hw : ∀ d ∈ tables_1, d.before a0 Z = true) : (Jvm.Cond.fieldLink "com/example/latticework/latticework/MeasureAddsPinLaw" (13 : Nat) "com/example/latticework/latticework/Measure$Function" "SUM" "Lcom/example/latticework/latticework/Measure$Function;").before a0 Z = true := hw _ (List.mem_of_getElem? (i := 89) rfl)
theorem w_90 {a0 : Array Value} {Z : State} (hw : ∀ d ∈ tables_1, d.before a0 Z = true) : (Jvm.Cond.fieldLink "com/example/latticework/latticework/MeasureAddsPinLaw" (16 : Nat) "com/example/latticework/latticework/Measure$Function" "MIN" "Lcom/example/latticework/latticework/Measure$Function;").before a0 Z = true := hw _ (List.mem_of_getElem? (i := 90) rfl)
theorem w_91 {a0 : Array Value} {Z : State} (hw : ∀ d ∈ tables_1, d.before a0 Z = true) : (Jvm.Cond.methodLink "com/example/latticework/latticework/Measure" (108 : Nat) ({ cls := "java/lang/Math", name := "min", desc := "(JJ)J" } : Jvm.MethodName)).before a0 Z = true := hw _ (List.mem_of_getElem? (i := 91) rfl)
theorem w_92 {a0 : Array Value} {Z : State} (hw : ∀ d ∈ tables_1, d.before a0 Z = true) : (Jvm.Cond.static ({ cls := "java/lang/Math", name := "min", desc := "(JJ)J" } : Jvm.MethodName)).before a0 Z = true := hw _ (List.mem_of_getElem? (i := 92) rfl)
theorem w_93 {a0 : Array Value} {Z : State} (hw : ∀ d ∈ tables_1, d.before a0 Z = true) : (Jvm.Cond.code ({ cls := "java/lang/Math", name := "min", desc := "(JJ)J" } : Jvm.MethodName) jdk_29_method_70_code (4 : Nat) (Option.some Jvm.ClassFile.FieldType.long)).before a0 Z = true := hw _ (List.mem_of_getElem? (i := 93) rfl)
theorem d1_0 : decode jdk_42_method_139_code 0 = .ok (.getstatic 38, 3) := by decide +kernel
theorem d1_3 : decode jdk_42_method_139_code 3 = .ok (.ifCond .eq 23, 3) := by decide +kernel
theorem d1_6 : decode jdk_42_method_139_code 6 = .ok (.iload_n 0, 1) := by decide +kernel
theorem d1_7 : decode jdk_42_method_139_code 7 = .ok (.invokestatic 1015, 3) := by decide +kernel
theorem d1_10 : decode jdk_42_method_139_code 10 = .ok (.ifCond .eq 16, 3) := by decide +kernel
theorem d1_13 : decode jdk_42_method_139_code 13 = .ok (.new 10, 3) := by decide +kernel
theorem d1_16 : decode jdk_42_method_139_code 16 = .ok (.dup, 1) := by decide +kernel
theorem d1_17 : decode jdk_42_method_139_code 17 = .ok (.iload_n 0, 1) := by decide +kernel
theorem d1_18 : decode jdk_42_method_139_code 18 = .ok (.invokestatic 1018, 3) := by decide +kernel
theorem d1_21 : decode jdk_42_method_139_code 21 = .ok (.iconst 0, 1) := by decide +kernel
theorem d1_22 : decode jdk_42_method_139_code 22 = .ok (.invokespecial 209, 3) := by decide +kernel
theorem d1_25 : decode jdk_42_method_139_code 25 = .ok (.areturn, 1) := by decide +kernel
theorem d2_0 : decode jdk_43_method_3_code 0 = .ok (.iload_n 0, 1) := by decide +kernel
theorem d2_1 : decode jdk_43_method_3_code 1 = .ok (.sipush 255, 3) := by decide +kernel
theorem d2_4 : decode jdk_43_method_3_code 4 = .ok (.if_icmp .gt 7, 3) := by decide +kernel
theorem d2_7 : decode jdk_43_method_3_code 7 = .ok (.iconst 1, 1) := by decide +kernel
theorem d2_8 : decode jdk_43_method_3_code 8 = .ok (.goto 4, 3) := by decide +kernel
theorem d2_12 : decode jdk_43_method_3_code 12 = .ok (.ireturn, 1) := by decide +kernel
theorem d3_0 : decode jdk_43_method_46_code 0 = .ok (.iconst 1, 1) := by decide +kernel
theorem d3_1 : decode jdk_43_method_46_code 1 = .ok (.newarray .byte, 2) := by decide +kernel
theorem d3_3 : decode jdk_43_method_46_code 3 = .ok (.dup, 1) := by decide +kernel
theorem d3_4 : decode jdk_43_method_46_code 4 = .ok (.iconst 0, 1) := by decide +kernel
theorem d3_5 : decode jdk_43_method_46_code 5 = .ok (.iload_n 0, 1) := by decide +kernel
theorem d3_6 : decode jdk_43_method_46_code 6 = .ok (.i2b, 1) := by decide +kernel
theorem d3_7 : decode jdk_43_method_46_code 7 = .ok (.bastore, 1) := by decide +kernel
theorem d3_8 : decode jdk_43_method_46_code 8 = .ok (.areturn, 1) := by decide +kernel
theorem d4_0 : decode jdk_42_method_151_code 0 = .ok (.aload_n 0, 1) := by decide +kernel
theorem d4_1 : decode jdk_42_method_151_code 1 = .ok (.invokespecial 1, 3) := by decide +kernel
theorem d4_4 : decode jdk_42_method_151_code 4 = .ok (.aload_n 0, 1) := by decide +kernel
theorem d4_5 : decode jdk_42_method_151_code 5 = .ok (.aload_n 1, 1) := by decide +kernel
theorem d4_6 : decode jdk_42_method_151_code 6 = .ok (.putfield 9, 3) := by decide +kernel
theorem d4_9 : decode jdk_42_method_151_code 9 = .ok (.aload_n 0, 1) := by decide +kernel
theorem d4_10 : decode jdk_42_method_151_code 10 = .ok (.iload_n 2, 1) := by decide +kernel
theorem d4_11 : decode jdk_42_method_151_code 11 = .ok (.putfield 15, 3) := by decide +kernel
theorem d4_14 : decode jdk_42_method_151_code 14 = .ok (.return_, 1) := by decide +kernel
theorem d6_0 : decode prog_25_method_1_code 0 = .ok (.aload_n 0, 1) := by decide +kernel
theorem d6_1 : decode prog_25_method_1_code 1 = .ok (.invokespecial 1, 3) := by decide +kernel
theorem d6_4 : decode prog_25_method_1_code 4 = .ok (.aload_n 2, 1) := by decide +kernel
theorem d6_5 : decode prog_25_method_1_code 5 = .ok (.ldc 7, 2) := by decide +kernel
theorem d6_7 : decode prog_25_method_1_code 7 = .ok (.invokestatic 9, 3) := by decide +kernel
theorem d6_10 : decode prog_25_method_1_code 10 = .ok (.pop, 1) := by decide +kernel
theorem d6_11 : decode prog_25_method_1_code 11 = .ok (.aload_n 1, 1) := by decide +kernel
theorem d6_12 : decode prog_25_method_1_code 12 = .ok (.invokevirtual 15, 3) := by decide +kernel
theorem d6_15 : decode prog_25_method_1_code 15 = .ok (.ifCond .eq 13, 3) := by decide +kernel
theorem d6_28 : decode prog_25_method_1_code 28 = .ok (.ldc 28, 2) := by decide +kernel
theorem d6_30 : decode prog_25_method_1_code 30 = .ok (.aload_n 3, 1) := by decide +kernel
theorem d6_31 : decode prog_25_method_1_code 31 = .ok (.invokevirtual 30, 3) := by decide +kernel
theorem d6_34 : decode prog_25_method_1_code 34 = .ok (.ifCond .ne 14, 3) := by decide +kernel
theorem d6_37 : decode prog_25_method_1_code 37 = .ok (.aload_n 3, 1) := by decide +kernel
theorem d6_38 : decode prog_25_method_1_code 38 = .ok (.ifnonnull 28, 3) := by decide +kernel
theorem d6_41 : decode prog_25_method_1_code 41 = .ok (.aload_n 2, 1) := by decide +kernel
theorem d6_42 : decode prog_25_method_1_code 42 = .ok (.getstatic 34, 3) := by decide +kernel
theorem d6_45 : decode prog_25_method_1_code 45 = .ok (.if_acmp .eq 21, 3) := by decide +kernel
theorem d6_66 : decode prog_25_method_1_code 66 = .ok (.aload_n 0, 1) := by decide +kernel
theorem d6_67 : decode prog_25_method_1_code 67 = .ok (.aload_n 1, 1) := by decide +kernel
theorem d6_68 : decode prog_25_method_1_code 68 = .ok (.putfield 48, 3) := by decide +kernel
theorem d6_71 : decode prog_25_method_1_code 71 = .ok (.aload_n 0, 1) := by decide +kernel
theorem d6_72 : decode prog_25_method_1_code 72 = .ok (.aload_n 2, 1) := by decide +kernel
theorem d6_73 : decode prog_25_method_1_code 73 = .ok (.putfield 54, 3) := by decide +kernel
theorem d6_76 : decode prog_25_method_1_code 76 = .ok (.aload_n 0, 1) := by decide +kernel
theorem d6_77 : decode prog_25_method_1_code 77 = .ok (.aload_n 3, 1) := by decide +kernel
theorem d6_78 : decode prog_25_method_1_code 78 = .ok (.putfield 56, 3) := by decide +kernel
theorem d6_81 : decode prog_25_method_1_code 81 = .ok (.return_, 1) := by decide +kernel
theorem d7_0 : decode jdk_30_method_1_code 0 = .ok (.aload_n 0, 1) := by decide +kernel
theorem d7_1 : decode jdk_30_method_1_code 1 = .ok (.invokespecial 1, 3) := by decide +kernel
theorem d7_4 : decode jdk_30_method_1_code 4 = .ok (.return_, 1) := by decide +kernel
theorem d8_0 : decode jdk_31_method_11_code 0 = .ok (.aload_n 0, 1) := by decide +kernel
theorem d8_1 : decode jdk_31_method_11_code 1 = .ok (.ifnonnull 12, 3) := by decide +kernel
theorem d8_13 : decode jdk_31_method_11_code 13 = .ok (.aload_n 0, 1) := by decide +kernel
theorem d8_14 : decode jdk_31_method_11_code 14 = .ok (.areturn, 1) := by decide +kernel
theorem d9_0 : decode jdk_42_method_55_code 0 = .ok (.aload_n 0, 1) := by decide +kernel
theorem d9_1 : decode jdk_42_method_55_code 1 = .ok (.getfield 9, 3) := by decide +kernel
theorem d9_4 : decode jdk_42_method_55_code 4 = .ok (.arraylength, 1) := by decide +kernel
theorem d9_5 : decode jdk_42_method_55_code 5 = .ok (.ifCond .ne 7, 3) := by decide +kernel
theorem d9_12 : decode jdk_42_method_55_code 12 = .ok (.iconst 0, 1) := by decide +kernel
theorem d9_13 : decode jdk_42_method_55_code 13 = .ok (.ireturn, 1) := by decide +kernel
theorem d10_0 : decode jdk_42_method_66_code 0 = .ok (.aload_n 0, 1) := by decide +kernel
theorem d10_1 : decode jdk_42_method_66_code 1 = .ok (.aload_n 1, 1) := by decide +kernel
theorem d10_2 : decode jdk_42_method_66_code 2 = .ok (.if_acmp .ne 5, 3) := by decide +kernel
theorem d10_7 : decode jdk_42_method_66_code 7 = .ok (.aload_n 1, 1) := by decide +kernel
theorem d10_8 : decode jdk_42_method_66_code 8 = .ok (.instanceof 10, 3) := by decide +kernel
theorem d10_11 : decode jdk_42_method_66_code 11 = .ok (.ifCond .eq 43, 3) := by decide +kernel
theorem d10_14 : decode jdk_42_method_66_code 14 = .ok (.aload_n 1, 1) := by decide +kernel
theorem d10_15 : decode jdk_42_method_66_code 15 = .ok (.checkcast 10, 3) := by decide +kernel
theorem d10_18 : decode jdk_42_method_66_code 18 = .ok (.astore_n 2, 1) := by decide +kernel
theorem d10_19 : decode jdk_42_method_66_code 19 = .ok (.getstatic 38, 3) := by decide +kernel
theorem d10_22 : decode jdk_42_method_66_code 22 = .ok (.ifCond .eq 14, 3) := by decide +kernel
theorem d10_25 : decode jdk_42_method_66_code 25 = .ok (.aload_n 0, 1) := by decide +kernel
theorem d10_26 : decode jdk_42_method_66_code 26 = .ok (.getfield 15, 3) := by decide +kernel
theorem d10_29 : decode jdk_42_method_66_code 29 = .ok (.aload_n 2, 1) := by decide +kernel
theorem d10_30 : decode jdk_42_method_66_code 30 = .ok (.getfield 15, 3) := by decide +kernel
theorem d10_33 : decode jdk_42_method_66_code 33 = .ok (.if_icmp .ne 21, 3) := by decide +kernel
theorem d10_36 : decode jdk_42_method_66_code 36 = .ok (.aload_n 0, 1) := by decide +kernel
theorem d10_37 : decode jdk_42_method_66_code 37 = .ok (.getfield 9, 3) := by decide +kernel
theorem d10_40 : decode jdk_42_method_66_code 40 = .ok (.aload_n 2, 1) := by decide +kernel
theorem d10_41 : decode jdk_42_method_66_code 41 = .ok (.getfield 9, 3) := by decide +kernel
theorem d10_44 : decode jdk_42_method_66_code 44 = .ok (.invokestatic 541, 3) := by decide +kernel
theorem d10_47 : decode jdk_42_method_66_code 47 = .ok (.ifCond .eq 7, 3) := by decide +kernel
theorem d10_54 : decode jdk_42_method_66_code 54 = .ok (.iconst 0, 1) := by decide +kernel
theorem d10_55 : decode jdk_42_method_66_code 55 = .ok (.ireturn, 1) := by decide +kernel
theorem d11_0 : decode jdk_43_method_13_code 0 = .ok (.aload_n 0, 1) := by decide +kernel
theorem d11_1 : decode jdk_43_method_13_code 1 = .ok (.arraylength, 1) := by decide +kernel
theorem d11_2 : decode jdk_43_method_13_code 2 = .ok (.aload_n 1, 1) := by decide +kernel
theorem d11_3 : decode jdk_43_method_13_code 3 = .ok (.arraylength, 1) := by decide +kernel
theorem d11_4 : decode jdk_43_method_13_code 4 = .ok (.if_icmp .ne 30, 3) := by decide +kernel
theorem d11_34 : decode jdk_43_method_13_code 34 = .ok (.iconst 0, 1) := by decide +kernel
theorem d11_35 : decode jdk_43_method_13_code 35 = .ok (.ireturn, 1) := by decide +kernel
theorem d12_0 : decode prog_25_method_6_code 0 = .ok (.aload_n 0, 1) := by decide +kernel
theorem d12_1 : decode prog_25_method_6_code 1 = .ok (.getfield 54, 3) := by decide +kernel
theorem d12_4 : decode prog_25_method_6_code 4 = .ok (.getstatic 34, 3) := by decide +kernel
theorem d12_7 : decode prog_25_method_6_code 7 = .ok (.if_acmp .eq 13, 3) := by decide +kernel
theorem d12_10 : decode prog_25_method_6_code 10 = .ok (.aload_n 0, 1) := by decide +kernel
theorem d12_11 : decode prog_25_method_6_code 11 = .ok (.getfield 54, 3) := by decide +kernel
theorem d12_14 : decode prog_25_method_6_code 14 = .ok (.getstatic 102, 3) := by decide +kernel
theorem d12_17 : decode prog_25_method_6_code 17 = .ok (.if_acmp .ne 7, 3) := by decide +kernel
theorem d12_20 : decode prog_25_method_6_code 20 = .ok (.iconst 1, 1) := by decide +kernel
theorem d12_21 : decode prog_25_method_6_code 21 = .ok (.goto 4, 3) := by decide +kernel
theorem d12_24 : decode prog_25_method_6_code 24 = .ok (.iconst 0, 1) := by decide +kernel
theorem d12_25 : decode prog_25_method_6_code 25 = .ok (.ireturn, 1) := by decide +kernel
theorem d13_0 : decode prog_25_method_7_code 0 = .ok (.aload_n 0, 1) := by decide +kernel
theorem d13_1 : decode prog_25_method_7_code 1 = .ok (.getfield 54, 3) := by decide +kernel
theorem d13_4 : decode prog_25_method_7_code 4 = .ok (.getstatic 105, 3) := by decide +kernel
theorem d13_7 : decode prog_25_method_7_code 7 = .ok (.if_acmp .ne 11, 3) := by decide +kernel
theorem d13_10 : decode prog_25_method_7_code 10 = .ok (.lload_n 1, 1) := by decide +kernel
theorem d13_11 : decode prog_25_method_7_code 11 = .ok (.lload_n 3, 1) := by decide +kernel
theorem d13_12 : decode prog_25_method_7_code 12 = .ok (.invokestatic 108, 3) := by decide +kernel
theorem d13_15 : decode prog_25_method_7_code 15 = .ok (.goto 8, 3) := by decide +kernel
theorem d13_18 : decode prog_25_method_7_code 18 = .ok (.lload_n 1, 1) := by decide +kernel
theorem d13_19 : decode prog_25_method_7_code 19 = .ok (.lload_n 3, 1) := by decide +kernel
theorem d13_20 : decode prog_25_method_7_code 20 = .ok (.invokestatic 114, 3) := by decide +kernel
theorem d13_23 : decode prog_25_method_7_code 23 = .ok (.lreturn, 1) := by decide +kernel
theorem d14_0 : decode jdk_29_method_66_code 0 = .ok (.lload_n 0, 1) := by decide +kernel
theorem d14_1 : decode jdk_29_method_66_code 1 = .ok (.lload_n 2, 1) := by decide +kernel
theorem d14_2 : decode jdk_29_method_66_code 2 = .ok (.lcmp, 1) := by decide +kernel
theorem d14_3 : decode jdk_29_method_66_code 3 = .ok (.ifCond .lt 7, 3) := by decide +kernel
theorem d14_6 : decode jdk_29_method_66_code 6 = .ok (.lload_n 0, 1) := by decide +kernel
theorem d14_7 : decode jdk_29_method_66_code 7 = .ok (.goto 4, 3) := by decide +kernel
theorem d14_10 : decode jdk_29_method_66_code 10 = .ok (.lload_n 2, 1) := by decide +kernel
theorem d14_11 : decode jdk_29_method_66_code 11 = .ok (.lreturn, 1) := by decide +kernel
theorem d15_0 : decode jdk_29_method_70_code 0 = .ok (.lload_n 0, 1) := by decide +kernel
theorem d15_1 : decode jdk_29_method_70_code 1 = .ok (.lload_n 2, 1) := by decide +kernel
theorem d15_2 : decode jdk_29_method_70_code 2 = .ok (.lcmp, 1) := by decide +kernel
theorem d15_3 : decode jdk_29_method_70_code 3 = .ok (.ifCond .gt 7, 3) := by decide +kernel
theorem d15_6 : decode jdk_29_method_70_code 6 = .ok (.lload_n 0, 1) := by decide +kernel
theorem d15_7 : decode jdk_29_method_70_code 7 = .ok (.goto 4, 3) := by decide +kernel
theorem d15_10 : decode jdk_29_method_70_code 10 = .ok (.lload_n 2, 1) := by decide +kernel
theorem d15_11 : decode jdk_29_method_70_code 11 = .ok (.lreturn, 1) := by decide +kernel
theorem pn_0 : plainName "java/lang/StringLatin1" = true := by first | (simp [plainName, overriddenIn]; done) | decide +kernel
theorem pn_1 : plainName "java/lang/String" = true := by first | (simp [plainName, overriddenIn]; done) | decide +kernel
theorem pn_2 : plainName "java/lang/Record" = true := by first | (simp [plainName, overriddenIn]; done) | decide +kernel
theorem pn_3 : plainName "java/util/Objects" = true := by first | (simp [plainName, overriddenIn]; done) | decide +kernel
theorem pn_4 : plainName "com/example/latticework/latticework/Measure" = true := by first | (simp [plainName, overriddenIn]; done) | decide +kernel
theorem pn_5 : plainName "com/example/latticework/latticework/MeasureAddsPinLaw" = true := by first | (simp [plainName, overriddenIn]; done) | decide +kernel
theorem pd_0 : parseMethodDescriptor "(C)Z" = some ⟨[.char], some .boolean⟩ := by decide +kernel
theorem pd_1 : parseMethodDescriptor "(C)[B" = some ⟨[.char], some (.array .byte)⟩ := by decide +kernel
theorem pd_2 : parseMethodDescriptor "([BB)V" = some ⟨[(.array .byte), .byte], none⟩ := by decide +kernel
theorem pd_3 : parseMethodDescriptor "([B[B)Z" = some ⟨[(.array .byte), (.array .byte)], some .boolean⟩ := by decide +kernel
theorem pd_4 : parseMethodDescriptor "()V" = some ⟨[], none⟩ := by decide +kernel
theorem pd_5 : parseMethodDescriptor "(Ljava/lang/Object;Ljava/lang/String;)Ljava/lang/Object;" = some ⟨[(.object "java/lang/Object"), (.object "java/lang/String")], some (.object "java/lang/Object")⟩ := by decide +kernel
theorem pd_6 : parseMethodDescriptor "()Z" = some ⟨[], some .boolean⟩ := by decide +kernel
theorem pd_7 : parseMethodDescriptor "(Ljava/lang/Object;)Z" = some ⟨[(.object "java/lang/Object")], some .boolean⟩ := by decide +kernel
theorem pd_8 : parseMethodDescriptor "(JJ)J" = some ⟨[.long, .long], some .long⟩ := by decide +kernel
theorem pd_9 : parseMethodDescriptor "(C)Ljava/lang/String;" = some ⟨[.char], some (.object "java/lang/String")⟩ := by decide +kernel
theorem pd_10 : parseMethodDescriptor "(Ljava/lang/String;Lcom/example/latticework/latticework/Measure$Function;Ljava/lang/String;)V" = some ⟨[(.object "java/lang/String"), (.object "com/example/latticework/latticework/Measure$Function"), (.object "java/lang/String")], none⟩ := by decide +kernel
theorem own_wS {a0 : Array Value} {Z : State} (hw : ∀ d ∈ tables_1, d.before a0 Z = true) : ∀ a ∈ Bundle.stringAtoms, a.before a0 Z = true := fun d hd => by
  simp only [Bundle.stringAtoms, List.mem_cons, List.not_mem_nil, or_false] at hd
  rcases hd with rfl | rfl | rfl | rfl | rfl | rfl | rfl
  · exact (w_5 hw)
  · exact (w_13 hw)
  · exact (w_17 hw)
  · exact (w_26 hw)
  · exact (w_28 hw)
  · exact (w_42 hw)
  · exact (w_43 hw)
theorem own_EW {a0 : Array Value} {Z : State} (hw : ∀ d ∈ tables_1, d.before a0 Z = true) : EW Z a0 consts_1 := EW.cons (w_41 hw) (by decide) (EW.cons (w_53 hw) (by decide) (EW.nil))
def OwnS (Z : State) (a_COUNT : Addr) (a_MAX : Addr) (a_SUM : Addr) (a_MIN : Addr) (i_COMPACT_STRINGS : Int32) (v_SIOOBE_FORMATTER : Value) : Prop := (Sta Z Z.heap "com/example/latticework/latticework/Measure$Function" "COUNT" "Lcom/example/latticework/latticework/Measure$Function;" (.ref a_COUNT)) ∧ (Exa Z Z.heap a_COUNT "com/example/latticework/latticework/Measure$Function") ∧ (Sta Z Z.heap "com/example/latticework/latticework/Measure$Function" "MAX" "Lcom/example/latticework/latticework/Measure$Function;" (.ref a_MAX)) ∧ (Exa Z Z.heap a_MAX "com/example/latticework/latticework/Measure$Function") ∧ (Sta Z Z.heap "com/example/latticework/latticework/Measure$Function" "SUM" "Lcom/example/latticework/latticework/Measure$Function;" (.ref a_SUM)) ∧ (Exa Z Z.heap a_SUM "com/example/latticework/latticework/Measure$Function") ∧ (Sta Z Z.heap "com/example/latticework/latticework/Measure$Function" "MIN" "Lcom/example/latticework/latticework/Measure$Function;" (.ref a_MIN)) ∧ (Exa Z Z.heap a_MIN "com/example/latticework/latticework/Measure$Function") ∧ (Sta Z Z.heap "java/lang/String" "COMPACT_STRINGS" "Z" (.int i_COMPACT_STRINGS)) ∧ (Sta Z Z.heap "jdk/internal/util/Preconditions" "SIOOBE_FORMATTER" "Ljava/util/function/BiFunction;" v_SIOOBE_FORMATTER) ∧ (v_SIOOBE_FORMATTER.isRef = true) ∧ (¬ (i_COMPACT_STRINGS = (0 : Int32))) ∧ (Fld Z Z.heap a_MAX "java/lang/Enum" "ordinal" "I" (.int (3 : Int32))) ∧ (Fld Z Z.heap a_COUNT "java/lang/Enum" "ordinal" "I" (.int (0 : Int32))) ∧ (Fld Z Z.heap a_SUM "java/lang/Enum" "ordinal" "I" (.int (1 : Int32))) ∧ (Fld Z Z.heap a_MIN "java/lang/Enum" "ordinal" "I" (.int (2 : Int32)))
def own_by (c : Int32) : Int32 := nar .byte c.toInt8.toInt32
theorem own_ch255 (y : Int32) : ¬ ((255 : Int32) < ((y &&& (255 : Int32)).toUInt32.toUInt16.toUInt32.toInt32)) ∧ nar .char ((y &&& (255 : Int32)).toUInt32.toUInt16.toUInt32.toInt32) = ((y &&& (255 : Int32)).toUInt32.toUInt16.toUInt32.toInt32) := by
  rw [i2c_mask]
  refine ⟨?_, i2c_mask y⟩
  have h := (c_and y 255 (by decide)).2
  rw [Int32.lt_iff_toInt_lt]
  omega
theorem own_lself (x : Int64) : lcmpW x x = 0 := by unfold lcmpW; simp
theorem ef_CE (m : MethodId) (x0 : Int32) : entryFrame m #[(.int x0)] 1 = mkF m 0 #[.val (.int x0)] [] := by first | (simp [entryFrame, mkF, argsToLocals, Value.category]; done) | rfl
def QCE (Z : State) (x1 : Int32) (h0 : Heap) (n0 : Nat) (v : Option Value) (h : Heap) (L : List Loc) : Prop := v = some (.int 1) ∧ Fr n0 L ∧ h = h0
set_option maxRecDepth 65536 in
set_option maxHeartbeats 40000000 in
theorem rmCE (l : Launch) (Z : State) (a0 : Array Value) (hw : ∀ d ∈ tables_1, d.before a0 Z = true) (ws : List Jvm.Cond) (x1 : Int32) (h0 : Heap) (n0 : Nat) (O0 : Old Z n0 h0) (hx1 : ¬ ((255 : Int32) < x1)) :
    MetFree l (⟨"java/lang/StringLatin1", "canEncode", "(C)Z"⟩ : MethodName) (head1 (Jvm.Cond.code (⟨"java/lang/StringLatin1", "canEncode", "(C)Z"⟩ : MethodName) jdk_43_method_3_code 1 (some .boolean) :: ws) ({ frames := 0, cells := 0, slots := 0, locals := 0 } : Room)) (fun aa_ UU_ => aa_ = #[(.int x1)] ∧ Z.Warmed39 UU_.vm ∧ UU_.heap = h0) (fun _ _ _ _ _ => True) (fun _ UU_ oo_ UV_ => ∃ vv_ LL_, oo_ = .returned vv_ ∧ QCE Z x1 h0 n0 vv_ UV_.heap LL_ ∧ FrameEnd UU_ oo_ UV_ LL_ ({ frames := 0, cells := 0, slots := 0, locals := 0 } : Room).cells ({ frames := 0, cells := 0, slots := 0, locals := 0 } : Room).slots) := by
  refine MetFree.of_bodySF (plainFor_of_name pn_0) hisR ?_
  intro p e s m args below meth c s₁ Bd hml0 hP hK
  obtain ⟨rfl, hZ, hh⟩ := hP
  have hx := Bd.exec
  have hby := Bd.bytes
  have hlk := BodyLoose.notSynchronized Bd
  have hml : c.maxLocals = 1 := hml0
  have hown : s.vm.findClass "java/lang/StringLatin1" = some m.cls := findClass_of_methodNamed Bd.named
  have hnm := (name_of_methodNamed Bd.named Bd.method).1
  have X0 : Stand p l e ({ frames := 0, cells := 0, slots := 0, locals := 0 } : Room) s m #[(.int x1)] below meth c s₁ [] 0 0 := Stand.of_body Bd
  have e0 : s₁.heap = h0 := by rw [← hh, Bd.state]; rfl
  have N0 := Fr.nil n0
  suffices hOW : OW p e below s (QCE Z x1 h0 n0) 0 0 (s₁.setTop (mkF m 0 #[.val (.int x1)] [])) by
    obtain ⟨oq1_, oq2_, oq3_, oq4_⟩ := hOW
    exact ⟨oq1_, oq2_, castTop (ef_CE m x1) oq3_, oq4_⟩
  refine OW.st (B := s₁.setTop (mkF m 1 #[.val (.int x1)] [(.int x1)])) (fun _ kk_ => XS.iloadN X0.here hx rfl (hb hby d2_0) rfl kk_) ?_
  refine OW.st (B := s₁.setTop (mkF m 4 #[.val (.int x1)] [(.int (255 : Int32)), (.int x1)])) (fun _ kk_ => XS.sipush X0.here hx rfl (hb hby d2_1) kk_) ?_
  refine OW.st (B := s₁.setTop (mkF m 7 #[.val (.int x1)] [])) (fun _ kk_ => XS.icmpNo X0.here hx rfl (hb hby d2_4) rfl (flt hx1).2.2.1 kk_) ?_
  refine OW.st (B := s₁.setTop (mkF m 8 #[.val (.int x1)] [(.int (1 : Int32))])) (fun _ kk_ => XS.iconst X0.here hx rfl (hb hby d2_7) kk_) ?_
  refine OW.st (B := s₁.setTop (mkF m 12 #[.val (.int x1)] [(.int (1 : Int32))])) (fun _ kk_ => XS.goto X0.here hx rfl (pc0 := 8) (pc' := 12) rfl (hb hby d2_8) (by decide) (by decide) kk_) ?_
  exact OW.ret X0 hx hlk (i := .ireturn) Bd.returns rfl (Or.inl ⟨rfl, Or.inr (Or.inl rfl), _, rfl⟩) (hb hby d2_12) e0 (by decide) (by decide) ⟨rfl, N0, rfl⟩
theorem ef_TB (m : MethodId) (x0 : Int32) : entryFrame m #[(.int x0)] 1 = mkF m 0 #[.val (.int x0)] [] := by first | (simp [entryFrame, mkF, argsToLocals, Value.category]; done) | rfl
def QTB (Z : State) (x1 : Int32) (h0 : Heap) (n0 : Nat) (v : Option Value) (h : Heap) (L : List Loc) : Prop := ∃ (ba : Addr) (kb : ClassId), v = some (.ref ba) ∧ Fr n0 L ∧ Keep h0 h [] ∧ n0 ≤ ba ∧ h0.size ≤ ba ∧ Arv Z h ba kb .byte (1 : Int32) [(.int (own_by x1))] (.int (0 : Int32))
set_option maxRecDepth 65536 in
set_option maxHeartbeats 40000000 in
theorem rmTB (l : Launch) (Z : State) (a0 : Array Value) (hw : ∀ d ∈ tables_1, d.before a0 Z = true) (ws : List Jvm.Cond) (x1 : Int32) (h0 : Heap) (n0 : Nat) (O0 : Old Z n0 h0) :
    MetFree l (⟨"java/lang/StringLatin1", "toBytes", "(C)[B"⟩ : MethodName) (head1 (Jvm.Cond.code (⟨"java/lang/StringLatin1", "toBytes", "(C)[B"⟩ : MethodName) jdk_43_method_46_code 1 (some (.array .byte)) :: ws) ({ frames := 0, cells := 1, slots := 1, locals := 0 } : Room)) (fun aa_ UU_ => aa_ = #[(.int x1)] ∧ Z.Warmed39 UU_.vm ∧ UU_.heap = h0) (fun _ _ _ _ _ => True) (fun _ UU_ oo_ UV_ => ∃ vv_ LL_, oo_ = .returned vv_ ∧ QTB Z x1 h0 n0 vv_ UV_.heap LL_ ∧ FrameEnd UU_ oo_ UV_ LL_ ({ frames := 0, cells := 1, slots := 1, locals := 0 } : Room).cells ({ frames := 0, cells := 1, slots := 1, locals := 0 } : Room).slots) := by
  refine MetFree.of_bodySF (plainFor_of_name pn_0) hisR ?_
  intro p e s m args below meth c s₁ Bd hml0 hP hK
  obtain ⟨rfl, hZ, hh⟩ := hP
  have hx := Bd.exec
  have hby := Bd.bytes
  have hlk := BodyLoose.notSynchronized Bd
  have hml : c.maxLocals = 1 := hml0
  have hown : s.vm.findClass "java/lang/StringLatin1" = some m.cls := findClass_of_methodNamed Bd.named
  have hnm := (name_of_methodNamed Bd.named Bd.method).1
  have X0 : Stand p l e ({ frames := 0, cells := 1, slots := 1, locals := 0 } : Room) s m #[(.int x1)] below meth c s₁ [] 0 0 := Stand.of_body Bd
  have e0 : s₁.heap = h0 := by rw [← hh, Bd.state]; rfl
  have N0 := Fr.nil n0
  have KC0 : Keep h0 h0 [] := Keep.refl _ _
  suffices hOW : OW p e below s (QTB Z x1 h0 n0) 1 1 (s₁.setTop (mkF m 0 #[.val (.int x1)] [])) by
    obtain ⟨oq1_, oq2_, oq3_, oq4_⟩ := hOW
    exact ⟨oq1_, oq2_, castTop (ef_TB m x1) oq3_, oq4_⟩
  refine OW.st (B := s₁.setTop (mkF m 1 #[.val (.int x1)] [(.int (1 : Int32))])) (fun _ kk_ => XS.iconst X0.here hx rfl (hb hby d3_0) kk_) ?_
  obtain ⟨T15, h15, k15, X15, e15, E15, A15, st15⟩ := newP (aty := .byte) X0 hx hZ (w_17 hw) e0 (g := (mkF m 1 #[.val (.int x1)] [(.int (1 : Int32))])) rfl (hb hby d3_1) rfl (by decide) (cap := 1) (by decide +kernel) (by decide +kernel) (by decide +kernel) (by decide +kernel)
  obtain ⟨b15, g15⟩ : ∃ z, z = h0.size := ⟨_, rfl⟩
  rw [← g15] at A15 st15
  have n_b15 : n0 ≤ b15 := Nat.le_trans (own_oldle O0) (Nat.le_of_eq g15.symm)
  have O15 : Old Z n0 h15 := O0.ext E15
  have sz_b15 : h0.size ≤ b15 := Nat.le_trans KC0.1 (Nat.le_of_eq g15.symm)
  have KC15 : Keep h0 h15 [] := KC0.ext E15
  have V15 : Arv Z h15 b15 k15 .byte (1 : Int32) [(.int (0 : Int32))] (.int (0 : Int32)) := (Arv.new A15 (by decide)).pad (pad_rep [] (.int (0 : Int32)) 1)
  refine OW.st (B := T15.setTop (mkF m 3 #[.val (.int x1)] [(.ref b15)])) (st15) ?_
  refine OW.st (B := T15.setTop (mkF m 4 #[.val (.int x1)] [(.ref b15), (.ref b15)])) (fun _ kk_ => XS.dup X15.here hx rfl (hb hby d3_3) rfl rfl kk_) ?_
  refine OW.st (B := T15.setTop (mkF m 5 #[.val (.int x1)] [(.int (0 : Int32)), (.ref b15), (.ref b15)])) (fun _ kk_ => XS.iconst X15.here hx rfl (hb hby d3_4) kk_) ?_
  refine OW.st (B := T15.setTop (mkF m 6 #[.val (.int x1)] [(.int x1), (.int (0 : Int32)), (.ref b15), (.ref b15)])) (fun _ kk_ => XS.iloadN X15.here hx rfl (hb hby d3_5) rfl kk_) ?_
  refine OW.st (B := T15.setTop (mkF m 7 #[.val (.int x1)] [(.int (x1.toInt8.toInt32)), (.int (0 : Int32)), (.ref b15), (.ref b15)])) (fun _ kk_ => XS.i2b X15.here hx rfl (hb hby d3_6) rfl kk_) ?_
  obtain ⟨cl16, Ar16, q16, S16, Ng16, Hs16, G16⟩ := id V15
  have hin16 : ¬ ((0 : Int32) < 0 ∨ cl16.slots.size ≤ ((0 : Int32)).toNatClampNeg) := inb_of S16 ⟨by decide, by decide⟩
  obtain ⟨T17, h17, X17, e17, W17, st17⟩ := stB X15 hx hZ e15 Ar16 (j := (0 : Int32)) hin16 (g := (mkF m 7 #[.val (.int x1)] [(.int (x1.toInt8.toInt32)), (.int (0 : Int32)), (.ref b15), (.ref b15)])) rfl rfl (hb hby d3_7)
  have N17 := Fr.snoc X17 N0 n_b15
  have O17 : Old Z n0 h17 := O15.wr W17 n_b15
  have KC17 : Keep h0 h17 [] := KC15.wr W17 (Or.inr sz_b15)
  have V17 : Arv Z h17 b15 k15 .byte (1 : Int32) [(.int (nar .byte (x1.toInt8.toInt32)))] (.int (0 : Int32)) := Arv.set Ar16 q16 S16 Ng16 Hs16 G16 (fits_nar_byte _) W17 0 rfl (Nat.le_of_ble_eq_true rfl)
  refine OW.st (B := T17.setTop (mkF m 8 #[.val (.int x1)] [(.ref b15)])) (st17) ?_
  exact OW.ret X17 hx hlk (i := .areturn) Bd.returns rfl (Or.inr (Or.inr (Or.inr (Or.inr ⟨rfl, rfl, rfl⟩)))) (hb hby d3_8) e17 (by decide) (by decide) ⟨b15, k15, rfl, N17, KC17, n_b15, sz_b15, V17⟩
theorem ef_SI (m : MethodId) (x0 : Addr) (x1 : Addr) (x2 : Int32) : entryFrame m #[(.ref x0), (.ref x1), (.int x2)] 3 = mkF m 0 #[.val (.ref x0), .val (.ref x1), .val (.int x2)] [] := by first | (simp [entryFrame, mkF, argsToLocals, Value.category]; done) | rfl
def QSI (Z : State) (b : Addr) (ba : Addr) (h0 : Heap) (n0 : Nat) (v : Option Value) (h : Heap) (L : List Loc) : Prop := v = none ∧ Fr n0 L ∧ Keep h0 h [b] ∧ Exa Z h b "java/lang/String" ∧ Fld Z h b "java/lang/String" "value" "[B" (.ref ba) ∧ Fld Z h b "java/lang/String" "coder" "B" (.int (0 : Int32))
set_option maxRecDepth 65536 in
set_option maxHeartbeats 40000000 in
theorem rmSI (l : Launch) (Z : State) (a0 : Array Value) (hw : ∀ d ∈ tables_1, d.before a0 Z = true) (ws : List Jvm.Cond) (b : Addr) (ba : Addr) (h0 : Heap) (n0 : Nat) (O0 : Old Z n0 h0) (E : Exa Z h0 b "java/lang/String") (F1 : Fld Z h0 b "java/lang/String" "value" "[B" .null) (F2 : Fld Z h0 b "java/lang/String" "coder" "B" (.int (0 : Int32))) (g : n0 ≤ b) :
    MetFree l (⟨"java/lang/String", "<init>", "([BB)V"⟩ : MethodName) (head1 (Jvm.Cond.code (⟨"java/lang/String", "<init>", "([BB)V"⟩ : MethodName) jdk_42_method_151_code 3 none :: ws) ({ frames := 1, cells := 0, slots := 0, locals := 12 } : Room)) (fun aa_ UU_ => aa_ = #[(.ref b), (.ref ba), (.int (0 : Int32))] ∧ Z.Warmed39 UU_.vm ∧ UU_.heap = h0) (fun _ _ _ _ _ => True) (fun _ UU_ oo_ UV_ => ∃ vv_ LL_, oo_ = .returned vv_ ∧ QSI Z b ba h0 n0 vv_ UV_.heap LL_ ∧ FrameEnd UU_ oo_ UV_ LL_ ({ frames := 1, cells := 0, slots := 0, locals := 12 } : Room).cells ({ frames := 1, cells := 0, slots := 0, locals := 12 } : Room).slots) := by
  refine MetFree.of_bodySF (plainFor_of_name pn_1) hisR ?_
  intro p e s m args below meth c s₁ Bd hml0 hP hK
  obtain ⟨rfl, hZ, hh⟩ := hP
  have hx := Bd.exec
  have hby := Bd.bytes
  have hlk := BodyLoose.notSynchronized Bd
  have hml : c.maxLocals = 3 := hml0
  have hown : s.vm.findClass "java/lang/String" = some m.cls := findClass_of_methodNamed Bd.named
  have hnm := (name_of_methodNamed Bd.named Bd.method).1
  have X0 : Stand p l e ({ frames := 1, cells := 0, slots := 0, locals := 12 } : Room) s m #[(.ref b), (.ref ba), (.int (0 : Int32))] below meth c s₁ [] 0 0 := Stand.of_body Bd
  have e0 : s₁.heap = h0 := by rw [← hh, Bd.state]; rfl
  have N0 := Fr.nil n0
  have KC0 : Keep h0 h0 [b] := Keep.refl _ _
  suffices hOW : OW p e below s (QSI Z b ba h0 n0) 0 0 (s₁.setTop (mkF m 0 #[.val (.ref b), .val (.ref ba), .val (.int (0 : Int32))] [])) by
    obtain ⟨oq1_, oq2_, oq3_, oq4_⟩ := hOW
    exact ⟨oq1_, oq2_, castTop (ef_SI m b ba (0 : Int32)) oq3_, oq4_⟩
  refine OW.st (B := s₁.setTop (mkF m 1 #[.val (.ref b), .val (.ref ba), .val (.int (0 : Int32))] [(.ref b)])) (fun _ kk_ => XS.aloadN X0.here hx rfl (hb hby d4_0) rfl rfl kk_) ?_
  obtain ⟨T18, X18, e18, st18⟩ := initO X0 hx hZ hown (w_22 hw) (w_23 hw) (w_24 hw) e0 (g := (mkF m 1 #[.val (.ref b), .val (.ref ba), .val (.int (0 : Int32))] [(.ref b)])) rfl (by rw [hml]; rfl) rfl (hb hby d4_1) (by decide) (W := 0) (by show 2 * 0 + _ ≤ _; exact Nat.le_of_eq rfl) (by decide)
  refine OW.st (B := T18.setTop (mkF m 4 #[.val (.ref b), .val (.ref ba), .val (.int (0 : Int32))] [])) (st18) ?_
  refine OW.st (B := T18.setTop (mkF m 5 #[.val (.ref b), .val (.ref ba), .val (.int (0 : Int32))] [(.ref b)])) (fun _ kk_ => XS.aloadN X18.here hx rfl (hb hby d4_4) rfl rfl kk_) ?_
  refine OW.st (B := T18.setTop (mkF m 6 #[.val (.ref b), .val (.ref ba), .val (.int (0 : Int32))] [(.ref ba), (.ref b)])) (fun _ kk_ => XS.aloadN X18.here hx rfl (hb hby d4_5) rfl rfl kk_) ?_
  obtain ⟨T19, h19, X19, e19, W19, st19⟩ := putF X18 hx hZ hown (host := "") (Or.inl (w_25 hw)) Via.refl e18 F1 E (Or.inr ⟨(w_26 hw), rfl, hnm⟩) (w_13 hw) (ty := (.array .byte)) (by decide) rfl rfl (g := (mkF m 6 #[.val (.ref b), .val (.ref ba), .val (.int (0 : Int32))] [(.ref ba), (.ref b)])) rfl rfl (hb hby d4_6)
  have N19 := Fr.snoc X19 N0 g
  have O19 : Old Z n0 h19 := O0.wr W19 g
  have KC19 : Keep h0 h19 [b] := KC0.wr W19 (Or.inl (List.mem_of_getElem? (i := 0) rfl))
  have F19 : Fld Z h19 b "java/lang/String" "value" "[B" (.ref ba) := Fld.same W19 F1
  refine OW.st (B := T19.setTop (mkF m 9 #[.val (.ref b), .val (.ref ba), .val (.int (0 : Int32))] [])) (st19) ?_
  refine OW.st (B := T19.setTop (mkF m 10 #[.val (.ref b), .val (.ref ba), .val (.int (0 : Int32))] [(.ref b)])) (fun _ kk_ => XS.aloadN X19.here hx rfl (hb hby d4_9) rfl rfl kk_) ?_
  refine OW.st (B := T19.setTop (mkF m 11 #[.val (.ref b), .val (.ref ba), .val (.int (0 : Int32))] [(.int (0 : Int32)), (.ref b)])) (fun _ kk_ => XS.iloadN X19.here hx rfl (hb hby d4_10) rfl kk_) ?_
  obtain ⟨T20, h20, X20, e20, W20, st20⟩ := putFN X19 hx hZ hown (w_27 hw) Via.refl e19 (F2.other W19 (Or.inr (slot_ne (Or.inr (w_28 hw)) (Or.inr (w_26 hw)) (by decide) (t := .byte) (t' := (.array .byte)) (by decide) (by decide)))) (E.wr W19) (Or.inr ⟨(w_28 hw), rfl, hnm⟩) (w_13 hw) (ty := .byte) (v' := (.int (0 : Int32))) (by decide) rfl rfl (g := (mkF m 11 #[.val (.ref b), .val (.ref ba), .val (.int (0 : Int32))] [(.int (0 : Int32)), (.ref b)])) rfl rfl (hb hby d4_11)
  have N20 := Fr.snoc X20 N19 g
  have O20 : Old Z n0 h20 := O19.wr W20 g
  have KC20 : Keep h0 h20 [b] := KC19.wr W20 (Or.inl (List.mem_of_getElem? (i := 0) rfl))
  have F20 : Fld Z h20 b "java/lang/String" "coder" "B" (.int (0 : Int32)) := Fld.same W20 (F2.other W19 (Or.inr (slot_ne (Or.inr (w_28 hw)) (Or.inr (w_26 hw)) (by decide) (t := .byte) (t' := (.array .byte)) (by decide) (by decide))))
  refine OW.st (B := T20.setTop (mkF m 14 #[.val (.ref b), .val (.ref ba), .val (.int (0 : Int32))] [])) (st20) ?_
  exact OW.retV X20 hx hlk Bd.returns (hb hby d4_14) e20 (by decide) (by decide) ⟨rfl, N20, KC20, ((E.wr W19).wr W20), (F19.other W20 (Or.inr (slot_ne (Or.inr (w_26 hw)) (Or.inr (w_28 hw)) (by decide) (t := (.array .byte)) (t' := .byte) (by decide) (by decide)))), F20⟩
theorem ef_VO (m : MethodId) (x0 : Int32) : entryFrame m #[(.int x0)] 1 = mkF m 0 #[.val (.int x0)] [] := by first | (simp [entryFrame, mkF, argsToLocals, Value.category]; done) | rfl
def QVO (Z : State) (x1 : Int32) (a_COUNT : Addr) (a_MAX : Addr) (a_SUM : Addr) (a_MIN : Addr) (i_COMPACT_STRINGS : Int32) (v_SIOOBE_FORMATTER : Value) (h0 : Heap) (n0 : Nat) (v : Option Value) (h : Heap) (L : List Loc) : Prop := ∃ (b ba : Addr) (kb : ClassId), v = some (.ref b) ∧ Fr n0 L ∧ Keep h0 h [] ∧ n0 ≤ b ∧ h0.size ≤ b ∧ Exa Z h b "java/lang/String" ∧ Fld Z h b "java/lang/String" "value" "[B" (.ref ba) ∧ Fld Z h b "java/lang/String" "coder" "B" (.int (0 : Int32)) ∧ Arv Z h ba kb .byte (1 : Int32) [(.int (own_by x1))] (.int (0 : Int32))
set_option maxRecDepth 65536 in
set_option maxHeartbeats 40000000 in
theorem rmVO (l : Launch) (Z : State) (a0 : Array Value) (hw : ∀ d ∈ tables_1, d.before a0 Z = true) (ws : List Jvm.Cond) (x1 : Int32) (a_COUNT : Addr) (a_MAX : Addr) (a_SUM : Addr) (a_MIN : Addr) (i_COMPACT_STRINGS : Int32) (v_SIOOBE_FORMATTER : Value) (h0 : Heap) (n0 : Nat) (O0 : Old Z n0 h0) (hS : OwnS Z a_COUNT a_MAX a_SUM a_MIN i_COMPACT_STRINGS v_SIOOBE_FORMATTER) (hx1 : ¬ ((255 : Int32) < x1)) :
    MetFree l (⟨"java/lang/String", "valueOf", "(C)Ljava/lang/String;"⟩ : MethodName) (head1 (Jvm.Cond.code (⟨"java/lang/String", "valueOf", "(C)Ljava/lang/String;"⟩ : MethodName) jdk_42_method_139_code 1 (some (.object "java/lang/String")) :: ws) ({ frames := 2, cells := 2, slots := 5, locals := 27 } : Room)) (fun aa_ UU_ => aa_ = #[(.int x1)] ∧ Z.Warmed39 UU_.vm ∧ UU_.heap = h0) (fun _ _ _ _ _ => True) (fun _ UU_ oo_ UV_ => ∃ vv_ LL_, oo_ = .returned vv_ ∧ QVO Z x1 a_COUNT a_MAX a_SUM a_MIN i_COMPACT_STRINGS v_SIOOBE_FORMATTER h0 n0 vv_ UV_.heap LL_ ∧ FrameEnd UU_ oo_ UV_ LL_ ({ frames := 2, cells := 2, slots := 5, locals := 27 } : Room).cells ({ frames := 2, cells := 2, slots := 5, locals := 27 } : Room).slots) := by
  refine MetFree.of_bodySF (plainFor_of_name pn_1) hisR ?_
  intro p e s m args below meth c s₁ Bd hml0 hP hK
  obtain ⟨rfl, hZ, hh⟩ := hP
  have hx := Bd.exec
  have hby := Bd.bytes
  have hlk := BodyLoose.notSynchronized Bd
  have hml : c.maxLocals = 1 := hml0
  have hown : s.vm.findClass "java/lang/String" = some m.cls := findClass_of_methodNamed Bd.named
  have hnm := (name_of_methodNamed Bd.named Bd.method).1
  have X0 : Stand p l e ({ frames := 2, cells := 2, slots := 5, locals := 27 } : Room) s m #[(.int x1)] below meth c s₁ [] 0 0 := Stand.of_body Bd
  have e0 : s₁.heap = h0 := by rw [← hh, Bd.state]; rfl
  have N0 := Fr.nil n0
  have KC0 : Keep h0 h0 [] := Keep.refl _ _
  suffices hOW : OW p e below s (QVO Z x1 a_COUNT a_MAX a_SUM a_MIN i_COMPACT_STRINGS v_SIOOBE_FORMATTER h0 n0) 2 5 (s₁.setTop (mkF m 0 #[.val (.int x1)] [])) by
    obtain ⟨oq1_, oq2_, oq3_, oq4_⟩ := hOW
    exact ⟨oq1_, oq2_, castTop (ef_VO m x1) oq3_, oq4_⟩
  have hS' := hS
  obtain ⟨Sa_COUNT, Ea_COUNT, Sa_MAX, Ea_MAX, Sa_SUM, Ea_SUM, Sa_MIN, Ea_MIN, Si_COMPACT_STRINGS, Sv_SIOOBE_FORMATTER, Rv_SIOOBE_FORMATTER, Pi_COMPACT_STRINGS, Fa_MAX_ordinal, Fa_COUNT_ordinal, Fa_SUM_ordinal, Fa_MIN_ordinal⟩ := hS'
  obtain ⟨T21, X21, e21, st21⟩ := getS2 X0 hx hZ hown (host := "") (Or.inl (w_7 hw)) Via.refl e0 (Si_COMPACT_STRINGS.ext O0.2) (g := (mkF m 0 #[.val (.int x1)] [])) rfl (hb hby d1_0)
  refine OW.st (B := T21.setTop (mkF m 3 #[.val (.int x1)] [(.int i_COMPACT_STRINGS)])) (st21) ?_
  refine OW.st (B := T21.setTop (mkF m 6 #[.val (.int x1)] [])) (fun _ kk_ => XS.ifNo X21.here hx rfl (hb hby d1_3) rfl ((if0 _ _).trans (feq Pi_COMPACT_STRINGS).1) kk_) ?_
  refine OW.st (B := T21.setTop (mkF m 7 #[.val (.int x1)] [(.int x1)])) (fun _ kk_ => XS.iloadN X21.here hx rfl (hb hby d1_6) rfl kk_) ?_
  obtain ⟨_, _, ⟨T22, L22, k22, n22⟩, -, X22, ⟨Lc22, hQ22, l22, y22, z22⟩, st22⟩ := Jvm.LawKit.callS X21 hx (y := (⟨"java/lang/StringLatin1", "canEncode", "(C)Z"⟩ : MethodName)) hown (mvT hZ (w_8 hw)) (mvT hZ (w_9 hw)) (mvT hZ (w_10 hw)) (mvT hZ (w_11 hw)) (by decide) (backOf (W := 0) (rmCE l Z a0 hw [] x1 h0 n0 O0 hx1) hZ (w_11 hw) (w_10 hw) (by decide) (by decide)) (g := (mkF m 7 #[.val (.int x1)] [(.int x1)])) rfl (by rw [hml]; rfl) (argsL := [(.int x1)]) (rest := []) (lenOf pd_0 rfl) rfl (by show 2 * 0 + _ ≤ _; exact Nat.le_of_eq rfl) (hb hby d1_7) (fun _ _ => ⟨rfl, e21, (by decide : 0 + 0 ≤ _), (by decide : 0 + 0 ≤ _)⟩)
  dsimp only [Pt.U, Pt.locs, Pt.cells, Pt.slots] at X22 l22 y22 z22 st22 hQ22
  subst l22 y22 z22
  obtain ⟨rfl, Nq22, e22⟩ := hQ22
  have N22 := Fr.app N0 Nq22
  refine OW.st (B := T22.setTop (mkF m 10 #[.val (.int x1)] [(.int (1 : Int32))])) (st22) ?_
  refine OW.st (B := T22.setTop (mkF m 13 #[.val (.int x1)] [])) (fun _ kk_ => XS.ifNo X22.here hx rfl (hb hby d1_10) rfl ((if0 _ _).trans (feq (by decide)).1) kk_) ?_
  obtain ⟨T23, h23, X23, e23, E23, A23, D23, -, st23⟩ := newO X22 hx hZ hown (w_12 hw) (w_13 hw) (w_5 hw) e22 (g := (mkF m 13 #[.val (.int x1)] [])) rfl (hb hby d1_13) (by decide) (by decide)
  obtain ⟨b23, g23⟩ : ∃ z, z = h0.size := ⟨_, rfl⟩
  rw [← g23] at A23 D23 st23
  have n_b23 : n0 ≤ b23 := Nat.le_trans (own_oldle O0) (Nat.le_of_eq g23.symm)
  have O23 : Old Z n0 h23 := O0.ext E23
  have sz_b23 : h0.size ≤ b23 := Nat.le_trans KC0.1 (Nat.le_of_eq g23.symm)
  have KC23 : Keep h0 h23 [] := KC0.ext E23
  have F23_26 : Fld Z h23 b23 "java/lang/String" "value" "[B" .null := D23 (Or.inr (w_26 hw)) (ty := (.array .byte)) (by decide)
  have F23_28 : Fld Z h23 b23 "java/lang/String" "coder" "B" (.int (0 : Int32)) := D23 (Or.inr (w_28 hw)) (ty := .byte) (by decide)
  refine OW.st (B := T23.setTop (mkF m 16 #[.val (.int x1)] [(.ref b23)])) (st23) ?_
  refine OW.st (B := T23.setTop (mkF m 17 #[.val (.int x1)] [(.ref b23), (.ref b23)])) (fun _ kk_ => XS.dup X23.here hx rfl (hb hby d1_16) rfl rfl kk_) ?_
  refine OW.st (B := T23.setTop (mkF m 18 #[.val (.int x1)] [(.int x1), (.ref b23), (.ref b23)])) (fun _ kk_ => XS.iloadN X23.here hx rfl (hb hby d1_17) rfl kk_) ?_
  obtain ⟨_, _, ⟨T24, L24, k24, n24⟩, -, X24, ⟨Lc24, hQ24, l24, y24, z24⟩, st24⟩ := Jvm.LawKit.callS X23 hx (y := (⟨"java/lang/StringLatin1", "toBytes", "(C)[B"⟩ : MethodName)) hown (mvT hZ (w_14 hw)) (mvT hZ (w_15 hw)) (mvT hZ (w_10 hw)) (mvT hZ (w_16 hw)) (by decide) (backOf (W := 2) (rmTB l Z a0 hw [] x1 h23 n0 O23 ) hZ (w_16 hw) (w_10 hw) (by decide) (by decide)) (g := (mkF m 18 #[.val (.int x1)] [(.int x1), (.ref b23), (.ref b23)])) rfl (by rw [hml]; rfl) (argsL := [(.int x1)]) (rest := [(.ref b23), (.ref b23)]) (lenOf pd_1 rfl) rfl (by show 2 * 0 + _ ≤ _; exact Nat.le_of_eq rfl) (hb hby d1_18) (fun _ _ => ⟨rfl, e23, (by decide : 1 + 1 ≤ _), (by decide : 4 + 1 ≤ _)⟩)
  dsimp only [Pt.U, Pt.locs, Pt.cells, Pt.slots] at X24 l24 y24 z24 st24 hQ24
  subst l24 y24 z24
  obtain ⟨b24, kb24, rfl, Nq24, K24, gb24, zb24, Vb24⟩ := hQ24
  have N24 := Fr.app N22 Nq24
  have O24 : Old Z n0 T24.heap := O23.keep K24 all0
  have KC24 : Keep h0 T24.heap [] := KC23.trans K24 all0
  refine OW.st (B := T24.setTop (mkF m 21 #[.val (.int x1)] [(.ref b24), (.ref b23), (.ref b23)])) (st24) ?_
  refine OW.st (B := T24.setTop (mkF m 22 #[.val (.int x1)] [(.int (0 : Int32)), (.ref b24), (.ref b23), (.ref b23)])) (fun _ kk_ => XS.iconst X24.here hx rfl (hb hby d1_21) kk_) ?_
  obtain ⟨_, _, ⟨T25, L25, k25, n25⟩, -, X25, ⟨Lc25, hQ25, l25, y25, z25⟩, st25⟩ := X24.specialBack hx (y := (⟨"java/lang/String", "<init>", "([BB)V"⟩ : MethodName)) rfl hown (mvT hZ (w_18 hw)) (mvT hZ (w_19 hw)) (mvT hZ (w_21 hw)) (by decide) (backOf (W := 1) (rmSI l Z a0 hw [] b23 b24 T24.heap n0 O24 (A23.keep K24) (F23_26.keep K24 nin0) (F23_28.keep K24 nin0) n_b23) hZ (w_21 hw) (w_5 hw) (by decide) (by decide)) (g := (mkF m 22 #[.val (.int x1)] [(.int (0 : Int32)), (.ref b24), (.ref b23), (.ref b23)])) rfl (by rw [hml]; rfl) (Steps.refl _) (a := b23) (argsL := [(.ref b24), (.int (0 : Int32))]) (rest := [(.ref b23)]) (lenOf pd_2 rfl) rfl (by show 2 * 0 + _ ≤ _; exact Nat.le_of_eq rfl) (hb hby d1_22) (fun _ _ => ⟨rfl, rfl, (by decide : 2 + 0 ≤ _), (by decide : 5 + 0 ≤ _)⟩)
  dsimp only [Pt.U, Pt.locs, Pt.cells, Pt.slots] at X25 l25 y25 z25 st25 hQ25
  subst l25 y25 z25
  obtain ⟨rfl, Nq25, K25, Es25, Fv25, Fc25⟩ := hQ25
  have N25 := Fr.app N24 Nq25
  have O25 : Old Z n0 T25.heap := O24.keep K25 (allS n_b23 all0)
  have KC25 : Keep h0 T25.heap [] := KC24.trans K25 (allS (Or.inr sz_b23) all0)
  refine OW.tr (B := T25.setTop (mkF m 25 #[.val (.int x1)] [(.ref b23)])) (st25) ?_
  exact OW.ret X25 hx hlk (i := .areturn) Bd.returns rfl (Or.inr (Or.inr (Or.inr (Or.inr ⟨rfl, rfl, rfl⟩)))) (hb hby d1_25) rfl (by decide) (by decide) ⟨b23, b24, kb24, rfl, N25, KC25, n_b23, sz_b23, ((A23.keep K24).keep K25), Fv25, Fc25, (Vb24.keep K25 (ninS (Ne.symm (Nat.ne_of_lt (Nat.lt_of_lt_of_le A23.lt zb24))) nin0))⟩
theorem ef_RI (m : MethodId) (x0 : Addr) : entryFrame m #[(.ref x0)] 1 = mkF m 0 #[.val (.ref x0)] [] := by first | (simp [entryFrame, mkF, argsToLocals, Value.category]; done) | rfl
def QRI (Z : State) (a : Addr) (h0 : Heap) (n0 : Nat) (v : Option Value) (h : Heap) (L : List Loc) : Prop := v = none ∧ Fr n0 L ∧ h = h0
set_option maxRecDepth 65536 in
set_option maxHeartbeats 40000000 in
theorem rmRI (l : Launch) (Z : State) (a0 : Array Value) (hw : ∀ d ∈ tables_1, d.before a0 Z = true) (ws : List Jvm.Cond) (a : Addr) (h0 : Heap) (n0 : Nat) (O0 : Old Z n0 h0) :
    MetFree l (⟨"java/lang/Record", "<init>", "()V"⟩ : MethodName) (head1 (Jvm.Cond.code (⟨"java/lang/Record", "<init>", "()V"⟩ : MethodName) jdk_30_method_1_code 1 none :: ws) ({ frames := 1, cells := 0, slots := 0, locals := 12 } : Room)) (fun aa_ UU_ => aa_ = #[(.ref a)] ∧ Z.Warmed39 UU_.vm ∧ UU_.heap = h0) (fun _ _ _ _ _ => True) (fun _ UU_ oo_ UV_ => ∃ vv_ LL_, oo_ = .returned vv_ ∧ QRI Z a h0 n0 vv_ UV_.heap LL_ ∧ FrameEnd UU_ oo_ UV_ LL_ ({ frames := 1, cells := 0, slots := 0, locals := 12 } : Room).cells ({ frames := 1, cells := 0, slots := 0, locals := 12 } : Room).slots) := by
  refine MetFree.of_bodySF (plainFor_of_name pn_2) hisR ?_
  intro p e s m args below meth c s₁ Bd hml0 hP hK
  obtain ⟨rfl, hZ, hh⟩ := hP
  have hx := Bd.exec
  have hby := Bd.bytes
  have hlk := BodyLoose.notSynchronized Bd
  have hml : c.maxLocals = 1 := hml0
  have hown : s.vm.findClass "java/lang/Record" = some m.cls := findClass_of_methodNamed Bd.named
  have hnm := (name_of_methodNamed Bd.named Bd.method).1
  have X0 : Stand p l e ({ frames := 1, cells := 0, slots := 0, locals := 12 } : Room) s m #[(.ref a)] below meth c s₁ [] 0 0 := Stand.of_body Bd
  have e0 : s₁.heap = h0 := by rw [← hh, Bd.state]; rfl
  have N0 := Fr.nil n0
  suffices hOW : OW p e below s (QRI Z a h0 n0) 0 0 (s₁.setTop (mkF m 0 #[.val (.ref a)] [])) by
    obtain ⟨oq1_, oq2_, oq3_, oq4_⟩ := hOW
    exact ⟨oq1_, oq2_, castTop (ef_RI m a) oq3_, oq4_⟩
  refine OW.st (B := s₁.setTop (mkF m 1 #[.val (.ref a)] [(.ref a)])) (fun _ kk_ => XS.aloadN X0.here hx rfl (hb hby d7_0) rfl rfl kk_) ?_
  obtain ⟨T26, X26, e26, st26⟩ := initO X0 hx hZ hown (w_40 hw) (w_23 hw) (w_24 hw) e0 (g := (mkF m 1 #[.val (.ref a)] [(.ref a)])) rfl (by rw [hml]; rfl) rfl (hb hby d7_1) (by decide) (W := 0) (by show 2 * 0 + _ ≤ _; exact Nat.le_of_eq rfl) (by decide)
  refine OW.st (B := T26.setTop (mkF m 4 #[.val (.ref a)] [])) (st26) ?_
  exact OW.retV X26 hx hlk Bd.returns (hb hby d7_4) e26 (by decide) (by decide) ⟨rfl, N0, rfl⟩
theorem ef_NN (m : MethodId) (x0 : Addr) (x1 : Addr) : entryFrame m #[(.ref x0), (.ref x1)] 2 = mkF m 0 #[.val (.ref x0), .val (.ref x1)] [] := by first | (simp [entryFrame, mkF, argsToLocals, Value.category]; done) | rfl
def QNN (Z : State) (a : Addr) (b : Addr) (h0 : Heap) (n0 : Nat) (v : Option Value) (h : Heap) (L : List Loc) : Prop := v = some (.ref a) ∧ Fr n0 L ∧ h = h0
set_option maxRecDepth 65536 in
set_option maxHeartbeats 40000000 in
theorem rmNN (l : Launch) (Z : State) (a0 : Array Value) (hw : ∀ d ∈ tables_1, d.before a0 Z = true) (ws : List Jvm.Cond) (a : Addr) (b : Addr) (h0 : Heap) (n0 : Nat) (O0 : Old Z n0 h0) :
    MetFree l (⟨"java/util/Objects", "requireNonNull", "(Ljava/lang/Object;Ljava/lang/String;)Ljava/lang/Object;"⟩ : MethodName) (head1 (Jvm.Cond.code (⟨"java/util/Objects", "requireNonNull", "(Ljava/lang/Object;Ljava/lang/String;)Ljava/lang/Object;"⟩ : MethodName) jdk_31_method_11_code 2 (some (.object "java/lang/Object")) :: ws) ({ frames := 0, cells := 0, slots := 0, locals := 0 } : Room)) (fun aa_ UU_ => aa_ = #[(.ref a), (.ref b)] ∧ Z.Warmed39 UU_.vm ∧ UU_.heap = h0) (fun _ _ _ _ _ => True) (fun _ UU_ oo_ UV_ => ∃ vv_ LL_, oo_ = .returned vv_ ∧ QNN Z a b h0 n0 vv_ UV_.heap LL_ ∧ FrameEnd UU_ oo_ UV_ LL_ ({ frames := 0, cells := 0, slots := 0, locals := 0 } : Room).cells ({ frames := 0, cells := 0, slots := 0, locals := 0 } : Room).slots) := by
  refine MetFree.of_bodySF (plainFor_of_name pn_3) hisR ?_
  intro p e s m args below meth c s₁ Bd hml0 hP hK
  obtain ⟨rfl, hZ, hh⟩ := hP
  have hx := Bd.exec
  have hby := Bd.bytes
  have hlk := BodyLoose.notSynchronized Bd
  have hml : c.maxLocals = 2 := hml0
  have hown : s.vm.findClass "java/util/Objects" = some m.cls := findClass_of_methodNamed Bd.named
  have hnm := (name_of_methodNamed Bd.named Bd.method).1
  have X0 : Stand p l e ({ frames := 0, cells := 0, slots := 0, locals := 0 } : Room) s m #[(.ref a), (.ref b)] below meth c s₁ [] 0 0 := Stand.of_body Bd
  have e0 : s₁.heap = h0 := by rw [← hh, Bd.state]; rfl
  have N0 := Fr.nil n0
  suffices hOW : OW p e below s (QNN Z a b h0 n0) 0 0 (s₁.setTop (mkF m 0 #[.val (.ref a), .val (.ref b)] [])) by
    obtain ⟨oq1_, oq2_, oq3_, oq4_⟩ := hOW
    exact ⟨oq1_, oq2_, castTop (ef_NN m a b) oq3_, oq4_⟩
  refine OW.st (B := s₁.setTop (mkF m 1 #[.val (.ref a), .val (.ref b)] [(.ref a)])) (fun _ kk_ => XS.aloadN X0.here hx rfl (hb hby d8_0) rfl rfl kk_) ?_
  refine OW.st (B := s₁.setTop (mkF m 13 #[.val (.ref a), .val (.ref b)] [])) (fun _ kk_ => XS.ifnonnullYes X0.here hx rfl (pc0 := 1) (pc' := 13) rfl (hb hby d8_1) rfl (by decide) (by decide) kk_) ?_
  refine OW.st (B := s₁.setTop (mkF m 14 #[.val (.ref a), .val (.ref b)] [(.ref a)])) (fun _ kk_ => XS.aloadN X0.here hx rfl (hb hby d8_13) rfl rfl kk_) ?_
  exact OW.ret X0 hx hlk (i := .areturn) Bd.returns rfl (Or.inr (Or.inr (Or.inr (Or.inr ⟨rfl, rfl, rfl⟩)))) (hb hby d8_14) e0 (by decide) (by decide) ⟨rfl, N0, rfl⟩
theorem ef_IE (m : MethodId) (x0 : Addr) : entryFrame m #[(.ref x0)] 1 = mkF m 0 #[.val (.ref x0)] [] := by first | (simp [entryFrame, mkF, argsToLocals, Value.category]; done) | rfl
def QIE (Z : State) (b : Addr) (ba : Addr) (kb : ClassId) (x1 : Int32) (h0 : Heap) (n0 : Nat) (v : Option Value) (h : Heap) (L : List Loc) : Prop := v = some (.int 0) ∧ Fr n0 L ∧ h = h0
set_option maxRecDepth 65536 in
set_option maxHeartbeats 40000000 in
theorem rmIE (l : Launch) (Z : State) (a0 : Array Value) (hw : ∀ d ∈ tables_1, d.before a0 Z = true) (ws : List Jvm.Cond) (b : Addr) (ba : Addr) (kb : ClassId) (x1 : Int32) (h0 : Heap) (n0 : Nat) (O0 : Old Z n0 h0) (F : Fld Z h0 b "java/lang/String" "value" "[B" (.ref ba)) (V : Arv Z h0 ba kb .byte (1 : Int32) [(.int x1)] (.int (0 : Int32))) :
    MetFree l (⟨"java/lang/String", "isEmpty", "()Z"⟩ : MethodName) (head1 (Jvm.Cond.code (⟨"java/lang/String", "isEmpty", "()Z"⟩ : MethodName) jdk_42_method_55_code 1 (some .boolean) :: ws) ({ frames := 0, cells := 0, slots := 0, locals := 0 } : Room)) (fun aa_ UU_ => aa_ = #[(.ref b)] ∧ Z.Warmed39 UU_.vm ∧ UU_.heap = h0) (fun _ _ _ _ _ => True) (fun _ UU_ oo_ UV_ => ∃ vv_ LL_, oo_ = .returned vv_ ∧ QIE Z b ba kb x1 h0 n0 vv_ UV_.heap LL_ ∧ FrameEnd UU_ oo_ UV_ LL_ ({ frames := 0, cells := 0, slots := 0, locals := 0 } : Room).cells ({ frames := 0, cells := 0, slots := 0, locals := 0 } : Room).slots) := by
  refine MetFree.of_bodySF (plainFor_of_name pn_1) hisR ?_
  intro p e s m args below meth c s₁ Bd hml0 hP hK
  obtain ⟨rfl, hZ, hh⟩ := hP
  have hx := Bd.exec
  have hby := Bd.bytes
  have hlk := BodyLoose.notSynchronized Bd
  have hml : c.maxLocals = 1 := hml0
  have hown : s.vm.findClass "java/lang/String" = some m.cls := findClass_of_methodNamed Bd.named
  have hnm := (name_of_methodNamed Bd.named Bd.method).1
  have X0 : Stand p l e ({ frames := 0, cells := 0, slots := 0, locals := 0 } : Room) s m #[(.ref b)] below meth c s₁ [] 0 0 := Stand.of_body Bd
  have e0 : s₁.heap = h0 := by rw [← hh, Bd.state]; rfl
  have N0 := Fr.nil n0
  suffices hOW : OW p e below s (QIE Z b ba kb x1 h0 n0) 0 0 (s₁.setTop (mkF m 0 #[.val (.ref b)] [])) by
    obtain ⟨oq1_, oq2_, oq3_, oq4_⟩ := hOW
    exact ⟨oq1_, oq2_, castTop (ef_IE m b) oq3_, oq4_⟩
  refine OW.st (B := s₁.setTop (mkF m 1 #[.val (.ref b)] [(.ref b)])) (fun _ kk_ => XS.aloadN X0.here hx rfl (hb hby d9_0) rfl rfl kk_) ?_
  obtain ⟨T27, X27, e27, st27⟩ := getF X0 hx hZ hown (host := "") (Or.inl (w_25 hw)) Via.refl e0 F (g := (mkF m 1 #[.val (.ref b)] [(.ref b)])) rfl rfl (hb hby d9_1)
  refine OW.st (B := T27.setTop (mkF m 4 #[.val (.ref b)] [(.ref ba)])) (st27) ?_
  obtain ⟨cl28, Ar28, q28, S28, Ng28, Hs28, G28⟩ := id V
  refine OW.st (X27.arraylength hx (by rw [e27]; exact Ar28.1) (State.isArrayOf_alike hZ.alike Ar28.2.1) (g := (mkF m 4 #[.val (.ref b)] [(.ref ba)])) rfl rfl (hb hby d9_4)) ?_
  rw [len_of S28 Ng28]
  show OW p e below s (QIE Z b ba kb x1 h0 n0) 0 0 (T27.setTop (mkF m 5 #[.val (.ref b)] [(.int (1 : Int32))]))
  refine OW.st (B := T27.setTop (mkF m 12 #[.val (.ref b)] [])) (fun _ kk_ => XS.ifYes X27.here hx rfl (pc0 := 5) (pc' := 12) rfl (hb hby d9_5) rfl ((if0 _ _).trans (feq (by decide)).2) (by decide) (by decide) kk_) ?_
  refine OW.st (B := T27.setTop (mkF m 13 #[.val (.ref b)] [(.int (0 : Int32))])) (fun _ kk_ => XS.iconst X27.here hx rfl (hb hby d9_12) kk_) ?_
  exact OW.ret X27 hx hlk (i := .ireturn) Bd.returns rfl (Or.inl ⟨rfl, Or.inr (Or.inl rfl), _, rfl⟩) (hb hby d9_13) e27 (by decide) (by decide) ⟨rfl, N0, rfl⟩
theorem ef_LE (m : MethodId) (x0 : Addr) (x1 : Addr) : entryFrame m #[(.ref x0), (.ref x1)] 3 = mkF m 0 #[.val (.ref x0), .val (.ref x1), .unset] [] := by first | (simp [entryFrame, mkF, argsToLocals, Value.category]; done) | rfl
def QLE (Z : State) (aa : Addr) (ka : ClassId) (ba : Addr) (kb : ClassId) (x1 : Int32) (h0 : Heap) (n0 : Nat) (v : Option Value) (h : Heap) (L : List Loc) : Prop := v = some (.int 0) ∧ Fr n0 L ∧ h = h0
set_option maxRecDepth 65536 in
set_option maxHeartbeats 40000000 in
theorem rmLE (l : Launch) (Z : State) (a0 : Array Value) (hw : ∀ d ∈ tables_1, d.before a0 Z = true) (ws : List Jvm.Cond) (aa : Addr) (ka : ClassId) (ba : Addr) (kb : ClassId) (x1 : Int32) (h0 : Heap) (n0 : Nat) (O0 : Old Z n0 h0) (V1 : Arv Z h0 aa ka .byte (0 : Int32) [] (.int (0 : Int32))) (V2 : Arv Z h0 ba kb .byte (1 : Int32) [(.int x1)] (.int (0 : Int32))) :
    MetFree l (⟨"java/lang/StringLatin1", "equals", "([B[B)Z"⟩ : MethodName) (head1 (Jvm.Cond.code (⟨"java/lang/StringLatin1", "equals", "([B[B)Z"⟩ : MethodName) jdk_43_method_13_code 3 (some .boolean) :: ws) ({ frames := 0, cells := 0, slots := 0, locals := 0 } : Room)) (fun aa_ UU_ => aa_ = #[(.ref aa), (.ref ba)] ∧ Z.Warmed39 UU_.vm ∧ UU_.heap = h0) (fun _ _ _ _ _ => True) (fun _ UU_ oo_ UV_ => ∃ vv_ LL_, oo_ = .returned vv_ ∧ QLE Z aa ka ba kb x1 h0 n0 vv_ UV_.heap LL_ ∧ FrameEnd UU_ oo_ UV_ LL_ ({ frames := 0, cells := 0, slots := 0, locals := 0 } : Room).cells ({ frames := 0, cells := 0, slots := 0, locals := 0 } : Room).slots) := by
  refine MetFree.of_bodySF (plainFor_of_name pn_0) hisR ?_
  intro p e s m args below meth c s₁ Bd hml0 hP hK
  obtain ⟨rfl, hZ, hh⟩ := hP
  have hx := Bd.exec
  have hby := Bd.bytes
  have hlk := BodyLoose.notSynchronized Bd
  have hml : c.maxLocals = 3 := hml0
  have hown : s.vm.findClass "java/lang/StringLatin1" = some m.cls := findClass_of_methodNamed Bd.named
  have hnm := (name_of_methodNamed Bd.named Bd.method).1
  have X0 : Stand p l e ({ frames := 0, cells := 0, slots := 0, locals := 0 } : Room) s m #[(.ref aa), (.ref ba)] below meth c s₁ [] 0 0 := Stand.of_body Bd
  have e0 : s₁.heap = h0 := by rw [← hh, Bd.state]; rfl
  have N0 := Fr.nil n0
  suffices hOW : OW p e below s (QLE Z aa ka ba kb x1 h0 n0) 0 0 (s₁.setTop (mkF m 0 #[.val (.ref aa), .val (.ref ba), .unset] [])) by
    obtain ⟨oq1_, oq2_, oq3_, oq4_⟩ := hOW
    exact ⟨oq1_, oq2_, castTop (ef_LE m aa ba) oq3_, oq4_⟩
  refine OW.st (B := s₁.setTop (mkF m 1 #[.val (.ref aa), .val (.ref ba), .unset] [(.ref aa)])) (fun _ kk_ => XS.aloadN X0.here hx rfl (hb hby d11_0) rfl rfl kk_) ?_
  obtain ⟨cl29, Ar29, q29, S29, Ng29, Hs29, G29⟩ := id V1
  refine OW.st (X0.arraylength hx (by rw [e0]; exact Ar29.1) (State.isArrayOf_alike hZ.alike Ar29.2.1) (g := (mkF m 1 #[.val (.ref aa), .val (.ref ba), .unset] [(.ref aa)])) rfl rfl (hb hby d11_1)) ?_
  rw [len_of S29 Ng29]
  show OW p e below s (QLE Z aa ka ba kb x1 h0 n0) 0 0 (s₁.setTop (mkF m 2 #[.val (.ref aa), .val (.ref ba), .unset] [(.int (0 : Int32))]))
  refine OW.st (B := s₁.setTop (mkF m 3 #[.val (.ref aa), .val (.ref ba), .unset] [(.ref ba), (.int (0 : Int32))])) (fun _ kk_ => XS.aloadN X0.here hx rfl (hb hby d11_2) rfl rfl kk_) ?_
  obtain ⟨cl30, Ar30, q30, S30, Ng30, Hs30, G30⟩ := id V2
  refine OW.st (X0.arraylength hx (by rw [e0]; exact Ar30.1) (State.isArrayOf_alike hZ.alike Ar30.2.1) (g := (mkF m 3 #[.val (.ref aa), .val (.ref ba), .unset] [(.ref ba), (.int (0 : Int32))])) rfl rfl (hb hby d11_3)) ?_
  rw [len_of S30 Ng30]
  show OW p e below s (QLE Z aa ka ba kb x1 h0 n0) 0 0 (s₁.setTop (mkF m 4 #[.val (.ref aa), .val (.ref ba), .unset] [(.int (1 : Int32)), (.int (0 : Int32))]))
  refine OW.st (B := s₁.setTop (mkF m 34 #[.val (.ref aa), .val (.ref ba), .unset] [])) (fun _ kk_ => XS.icmpYes X0.here hx rfl (pc0 := 4) (pc' := 34) rfl (hb hby d11_4) rfl (feq (by decide)).2 (by decide) (by decide) kk_) ?_
  refine OW.st (B := s₁.setTop (mkF m 35 #[.val (.ref aa), .val (.ref ba), .unset] [(.int (0 : Int32))])) (fun _ kk_ => XS.iconst X0.here hx rfl (hb hby d11_34) kk_) ?_
  exact OW.ret X0 hx hlk (i := .ireturn) Bd.returns rfl (Or.inl ⟨rfl, Or.inr (Or.inl rfl), _, rfl⟩) (hb hby d11_35) e0 (by decide) (by decide) ⟨rfl, N0, rfl⟩
theorem ef_EQ (m : MethodId) (x0 : Addr) (x1 : Addr) : entryFrame m #[(.ref x0), (.ref x1)] 3 = mkF m 0 #[.val (.ref x0), .val (.ref x1), .unset] [] := by first | (simp [entryFrame, mkF, argsToLocals, Value.category]; done) | rfl
def QEQ (Z : State) (a : Addr) (aa : Addr) (ka : ClassId) (b : Addr) (ba : Addr) (kb : ClassId) (x1 : Int32) (a_COUNT : Addr) (a_MAX : Addr) (a_SUM : Addr) (a_MIN : Addr) (i_COMPACT_STRINGS : Int32) (v_SIOOBE_FORMATTER : Value) (h0 : Heap) (n0 : Nat) (v : Option Value) (h : Heap) (L : List Loc) : Prop := v = some (.int 0) ∧ Fr n0 L ∧ h = h0
set_option maxRecDepth 65536 in
set_option maxHeartbeats 40000000 in
theorem rmEQ (l : Launch) (Z : State) (a0 : Array Value) (hw : ∀ d ∈ tables_1, d.before a0 Z = true) (ws : List Jvm.Cond) (a : Addr) (aa : Addr) (ka : ClassId) (b : Addr) (ba : Addr) (kb : ClassId) (x1 : Int32) (a_COUNT : Addr) (a_MAX : Addr) (a_SUM : Addr) (a_MIN : Addr) (i_COMPACT_STRINGS : Int32) (v_SIOOBE_FORMATTER : Value) (h0 : Heap) (n0 : Nat) (O0 : Old Z n0 h0) (Ea : Exa Z h0 a "java/lang/String") (Fa1 : Fld Z h0 a "java/lang/String" "value" "[B" (.ref aa)) (Fa2 : Fld Z h0 a "java/lang/String" "coder" "B" (.int (0 : Int32))) (Eb : Exa Z h0 b "java/lang/String") (Fb1 : Fld Z h0 b "java/lang/String" "value" "[B" (.ref ba)) (Fb2 : Fld Z h0 b "java/lang/String" "coder" "B" (.int (0 : Int32))) (V1 : Arv Z h0 aa ka .byte (0 : Int32) [] (.int (0 : Int32))) (V2 : Arv Z h0 ba kb .byte (1 : Int32) [(.int x1)] (.int (0 : Int32))) (hab : a ≠ b) (hS : OwnS Z a_COUNT a_MAX a_SUM a_MIN i_COMPACT_STRINGS v_SIOOBE_FORMATTER) :
    MetFree l (⟨"java/lang/String", "equals", "(Ljava/lang/Object;)Z"⟩ : MethodName) (head1 (Jvm.Cond.code (⟨"java/lang/String", "equals", "(Ljava/lang/Object;)Z"⟩ : MethodName) jdk_42_method_66_code 3 (some .boolean) :: ws) ({ frames := 1, cells := 0, slots := 0, locals := 14 } : Room)) (fun aa_ UU_ => aa_ = #[(.ref a), (.ref b)] ∧ Z.Warmed39 UU_.vm ∧ UU_.heap = h0) (fun _ _ _ _ _ => True) (fun _ UU_ oo_ UV_ => ∃ vv_ LL_, oo_ = .returned vv_ ∧ QEQ Z a aa ka b ba kb x1 a_COUNT a_MAX a_SUM a_MIN i_COMPACT_STRINGS v_SIOOBE_FORMATTER h0 n0 vv_ UV_.heap LL_ ∧ FrameEnd UU_ oo_ UV_ LL_ ({ frames := 1, cells := 0, slots := 0, locals := 14 } : Room).cells ({ frames := 1, cells := 0, slots := 0, locals := 14 } : Room).slots) := by
  refine MetFree.of_bodySF (plainFor_of_name pn_1) hisR ?_
  intro p e s m args below meth c s₁ Bd hml0 hP hK
  obtain ⟨rfl, hZ, hh⟩ := hP
  have hx := Bd.exec
  have hby := Bd.bytes
  have hlk := BodyLoose.notSynchronized Bd
  have hml : c.maxLocals = 3 := hml0
  have hown : s.vm.findClass "java/lang/String" = some m.cls := findClass_of_methodNamed Bd.named
  have hnm := (name_of_methodNamed Bd.named Bd.method).1
  have X0 : Stand p l e ({ frames := 1, cells := 0, slots := 0, locals := 14 } : Room) s m #[(.ref a), (.ref b)] below meth c s₁ [] 0 0 := Stand.of_body Bd
  have e0 : s₁.heap = h0 := by rw [← hh, Bd.state]; rfl
  have N0 := Fr.nil n0
  suffices hOW : OW p e below s (QEQ Z a aa ka b ba kb x1 a_COUNT a_MAX a_SUM a_MIN i_COMPACT_STRINGS v_SIOOBE_FORMATTER h0 n0) 0 0 (s₁.setTop (mkF m 0 #[.val (.ref a), .val (.ref b), .unset] [])) by
    obtain ⟨oq1_, oq2_, oq3_, oq4_⟩ := hOW
    exact ⟨oq1_, oq2_, castTop (ef_EQ m a b) oq3_, oq4_⟩
  have hS' := hS
  obtain ⟨Sa_COUNT, Ea_COUNT, Sa_MAX, Ea_MAX, Sa_SUM, Ea_SUM, Sa_MIN, Ea_MIN, Si_COMPACT_STRINGS, Sv_SIOOBE_FORMATTER, Rv_SIOOBE_FORMATTER, Pi_COMPACT_STRINGS, Fa_MAX_ordinal, Fa_COUNT_ordinal, Fa_SUM_ordinal, Fa_MIN_ordinal⟩ := hS'
  refine OW.st (B := s₁.setTop (mkF m 1 #[.val (.ref a), .val (.ref b), .unset] [(.ref a)])) (fun _ kk_ => XS.aloadN X0.here hx rfl (hb hby d10_0) rfl rfl kk_) ?_
  refine OW.st (B := s₁.setTop (mkF m 2 #[.val (.ref a), .val (.ref b), .unset] [(.ref b), (.ref a)])) (fun _ kk_ => XS.aloadN X0.here hx rfl (hb hby d10_1) rfl rfl kk_) ?_
  refine OW.st (B := s₁.setTop (mkF m 7 #[.val (.ref a), .val (.ref b), .unset] [])) (fun _ kk_ => Jvm.RoadKit.acmp (g := (mkF m 2 #[.val (.ref a), .val (.ref b), .unset] [(.ref b), (.ref a)])) X0 hx rfl rfl rfl (pc0 := 2) (pc' := 7) (same := false) rfl (hb hby d10_2) rfl (decide_eq_false fun q => hab (Value.ref.inj q)) (by decide) (by decide) kk_) ?_
  refine OW.st (B := s₁.setTop (mkF m 8 #[.val (.ref a), .val (.ref b), .unset] [(.ref b)])) (fun _ kk_ => XS.aloadN X0.here hx rfl (hb hby d10_7) rfl rfl kk_) ?_
  obtain ⟨T31, X31, e31, st31⟩ := instY X0 hx hZ hown (w_12 hw) e0 (Ins.self Eb) (g := (mkF m 8 #[.val (.ref a), .val (.ref b), .unset] [(.ref b)])) rfl rfl (hb hby d10_8)
  refine OW.st (B := T31.setTop (mkF m 11 #[.val (.ref a), .val (.ref b), .unset] [(.int (1 : Int32))])) (st31) ?_
  refine OW.st (B := T31.setTop (mkF m 14 #[.val (.ref a), .val (.ref b), .unset] [])) (fun _ kk_ => XS.ifNo X31.here hx rfl (hb hby d10_11) rfl ((if0 _ _).trans (feq (by decide)).1) kk_) ?_
  refine OW.st (B := T31.setTop (mkF m 15 #[.val (.ref a), .val (.ref b), .unset] [(.ref b)])) (fun _ kk_ => XS.aloadN X31.here hx rfl (hb hby d10_14) rfl rfl kk_) ?_
  obtain ⟨T32, X32, e32, st32⟩ := castY X31 hx hZ hown (w_12 hw) e31 (Ins.self Eb) (g := (mkF m 15 #[.val (.ref a), .val (.ref b), .unset] [(.ref b)])) rfl rfl (hb hby d10_15)
  refine OW.st (B := T32.setTop (mkF m 18 #[.val (.ref a), .val (.ref b), .unset] [(.ref b)])) (st32) ?_
  refine OW.st (B := T32.setTop (mkF m 19 #[.val (.ref a), .val (.ref b), .val (.ref b)] [])) (fun _ kk_ => XS.astoreN X32.here hx rfl (hb hby d10_18) rfl rfl (l' := #[.val (.ref a), .val (.ref b), .val (.ref b)]) rfl kk_) ?_
  obtain ⟨T33, X33, e33, st33⟩ := getS2 X32 hx hZ hown (host := "") (Or.inl (w_7 hw)) Via.refl e32 (Si_COMPACT_STRINGS.ext O0.2) (g := (mkF m 19 #[.val (.ref a), .val (.ref b), .val (.ref b)] [])) rfl (hb hby d10_19)
  refine OW.st (B := T33.setTop (mkF m 22 #[.val (.ref a), .val (.ref b), .val (.ref b)] [(.int i_COMPACT_STRINGS)])) (st33) ?_
  refine OW.st (B := T33.setTop (mkF m 25 #[.val (.ref a), .val (.ref b), .val (.ref b)] [])) (fun _ kk_ => XS.ifNo X33.here hx rfl (hb hby d10_22) rfl ((if0 _ _).trans (feq Pi_COMPACT_STRINGS).1) kk_) ?_
  refine OW.st (B := T33.setTop (mkF m 26 #[.val (.ref a), .val (.ref b), .val (.ref b)] [(.ref a)])) (fun _ kk_ => XS.aloadN X33.here hx rfl (hb hby d10_25) rfl rfl kk_) ?_
  obtain ⟨T34, X34, e34, st34⟩ := getF X33 hx hZ hown (host := "") (Or.inl (w_27 hw)) Via.refl e33 Fa2 (g := (mkF m 26 #[.val (.ref a), .val (.ref b), .val (.ref b)] [(.ref a)])) rfl rfl (hb hby d10_26)
  refine OW.st (B := T34.setTop (mkF m 29 #[.val (.ref a), .val (.ref b), .val (.ref b)] [(.int (0 : Int32))])) (st34) ?_
  refine OW.st (B := T34.setTop (mkF m 30 #[.val (.ref a), .val (.ref b), .val (.ref b)] [(.ref b), (.int (0 : Int32))])) (fun _ kk_ => XS.aloadN X34.here hx rfl (hb hby d10_29) rfl rfl kk_) ?_
  obtain ⟨T35, X35, e35, st35⟩ := getF X34 hx hZ hown (host := "") (Or.inl (w_27 hw)) Via.refl e34 Fb2 (g := (mkF m 30 #[.val (.ref a), .val (.ref b), .val (.ref b)] [(.ref b), (.int (0 : Int32))])) rfl rfl (hb hby d10_30)
  refine OW.st (B := T35.setTop (mkF m 33 #[.val (.ref a), .val (.ref b), .val (.ref b)] [(.int (0 : Int32)), (.int (0 : Int32))])) (st35) ?_
  refine OW.st (B := T35.setTop (mkF m 36 #[.val (.ref a), .val (.ref b), .val (.ref b)] [])) (fun _ kk_ => XS.icmpNo X35.here hx rfl (hb hby d10_33) rfl (teq (by decide)).2 kk_) ?_
  refine OW.st (B := T35.setTop (mkF m 37 #[.val (.ref a), .val (.ref b), .val (.ref b)] [(.ref a)])) (fun _ kk_ => XS.aloadN X35.here hx rfl (hb hby d10_36) rfl rfl kk_) ?_
  obtain ⟨T36, X36, e36, st36⟩ := getF X35 hx hZ hown (host := "") (Or.inl (w_25 hw)) Via.refl e35 Fa1 (g := (mkF m 37 #[.val (.ref a), .val (.ref b), .val (.ref b)] [(.ref a)])) rfl rfl (hb hby d10_37)
  refine OW.st (B := T36.setTop (mkF m 40 #[.val (.ref a), .val (.ref b), .val (.ref b)] [(.ref aa)])) (st36) ?_
  refine OW.st (B := T36.setTop (mkF m 41 #[.val (.ref a), .val (.ref b), .val (.ref b)] [(.ref b), (.ref aa)])) (fun _ kk_ => XS.aloadN X36.here hx rfl (hb hby d10_40) rfl rfl kk_) ?_
  obtain ⟨T37, X37, e37, st37⟩ := getF X36 hx hZ hown (host := "") (Or.inl (w_25 hw)) Via.refl e36 Fb1 (g := (mkF m 41 #[.val (.ref a), .val (.ref b), .val (.ref b)] [(.ref b), (.ref aa)])) rfl rfl (hb hby d10_41)
  refine OW.st (B := T37.setTop (mkF m 44 #[.val (.ref a), .val (.ref b), .val (.ref b)] [(.ref ba), (.ref aa)])) (st37) ?_
  obtain ⟨_, _, ⟨T38, L38, k38, n38⟩, -, X38, ⟨Lc38, hQ38, l38, y38, z38⟩, st38⟩ := Jvm.LawKit.callS X37 hx (y := (⟨"java/lang/StringLatin1", "equals", "([B[B)Z"⟩ : MethodName)) hown (mvT hZ (w_59 hw)) (mvT hZ (w_60 hw)) (mvT hZ (w_10 hw)) (mvT hZ (w_61 hw)) (by decide) (backOf (W := 0) (rmLE l Z a0 hw [] aa ka ba kb x1 h0 n0 O0 V1 V2) hZ (w_61 hw) (w_10 hw) (by decide) (by decide)) (g := (mkF m 44 #[.val (.ref a), .val (.ref b), .val (.ref b)] [(.ref ba), (.ref aa)])) rfl (by rw [hml]; rfl) (argsL := [(.ref aa), (.ref ba)]) (rest := []) (lenOf pd_3 rfl) rfl (by show 2 * 0 + _ ≤ _; exact Nat.le_of_eq rfl) (hb hby d10_44) (fun _ _ => ⟨rfl, e37, (by decide : 0 + 0 ≤ _), (by decide : 0 + 0 ≤ _)⟩)
  dsimp only [Pt.U, Pt.locs, Pt.cells, Pt.slots] at X38 l38 y38 z38 st38 hQ38
  subst l38 y38 z38
  obtain ⟨rfl, Nq38, e38⟩ := hQ38
  have N38 := Fr.app N0 Nq38
  refine OW.st (B := T38.setTop (mkF m 47 #[.val (.ref a), .val (.ref b), .val (.ref b)] [(.int (0 : Int32))])) (st38) ?_
  refine OW.st (B := T38.setTop (mkF m 54 #[.val (.ref a), .val (.ref b), .val (.ref b)] [])) (fun _ kk_ => XS.ifYes X38.here hx rfl (pc0 := 47) (pc' := 54) rfl (hb hby d10_47) rfl ((if0 _ _).trans (teq (by decide)).1) (by decide) (by decide) kk_) ?_
  refine OW.st (B := T38.setTop (mkF m 55 #[.val (.ref a), .val (.ref b), .val (.ref b)] [(.int (0 : Int32))])) (fun _ kk_ => XS.iconst X38.here hx rfl (hb hby d10_54) kk_) ?_
  exact OW.ret X38 hx hlk (i := .ireturn) Bd.returns rfl (Or.inl ⟨rfl, Or.inr (Or.inl rfl), _, rfl⟩) (hb hby d10_55) e38 (by decide) (by decide) ⟨rfl, N38, rfl⟩
theorem ef_EN (m : MethodId) (x0 : Addr) : entryFrame m #[(.ref x0), .null] 3 = mkF m 0 #[.val (.ref x0), .val .null, .unset] [] := by first | (simp [entryFrame, mkF, argsToLocals, Value.category]; done) | rfl
def QEN (Z : State) (a : Addr) (h0 : Heap) (n0 : Nat) (v : Option Value) (h : Heap) (L : List Loc) : Prop := v = some (.int 0) ∧ Fr n0 L ∧ h = h0
set_option maxRecDepth 65536 in
set_option maxHeartbeats 40000000 in
theorem rmEN (l : Launch) (Z : State) (a0 : Array Value) (hw : ∀ d ∈ tables_1, d.before a0 Z = true) (ws : List Jvm.Cond) (a : Addr) (h0 : Heap) (n0 : Nat) (O0 : Old Z n0 h0) :
    MetFree l (⟨"java/lang/String", "equals", "(Ljava/lang/Object;)Z"⟩ : MethodName) (head1 (Jvm.Cond.code (⟨"java/lang/String", "equals", "(Ljava/lang/Object;)Z"⟩ : MethodName) jdk_42_method_66_code 3 (some .boolean) :: ws) ({ frames := 0, cells := 0, slots := 0, locals := 0 } : Room)) (fun aa_ UU_ => aa_ = #[(.ref a), .null] ∧ Z.Warmed39 UU_.vm ∧ UU_.heap = h0) (fun _ _ _ _ _ => True) (fun _ UU_ oo_ UV_ => ∃ vv_ LL_, oo_ = .returned vv_ ∧ QEN Z a h0 n0 vv_ UV_.heap LL_ ∧ FrameEnd UU_ oo_ UV_ LL_ ({ frames := 0, cells := 0, slots := 0, locals := 0 } : Room).cells ({ frames := 0, cells := 0, slots := 0, locals := 0 } : Room).slots) := by
  refine MetFree.of_bodySF (plainFor_of_name pn_1) hisR ?_
  intro p e s m args below meth c s₁ Bd hml0 hP hK
  obtain ⟨rfl, hZ, hh⟩ := hP
  have hx := Bd.exec
  have hby := Bd.bytes
  have hlk := BodyLoose.notSynchronized Bd
  have hml : c.maxLocals = 3 := hml0
  have hown : s.vm.findClass "java/lang/String" = some m.cls := findClass_of_methodNamed Bd.named
  have hnm := (name_of_methodNamed Bd.named Bd.method).1
  have X0 : Stand p l e ({ frames := 0, cells := 0, slots := 0, locals := 0 } : Room) s m #[(.ref a), .null] below meth c s₁ [] 0 0 := Stand.of_body Bd
  have e0 : s₁.heap = h0 := by rw [← hh, Bd.state]; rfl
  have N0 := Fr.nil n0
  suffices hOW : OW p e below s (QEN Z a h0 n0) 0 0 (s₁.setTop (mkF m 0 #[.val (.ref a), .val .null, .unset] [])) by
    obtain ⟨oq1_, oq2_, oq3_, oq4_⟩ := hOW
    exact ⟨oq1_, oq2_, castTop (ef_EN m a) oq3_, oq4_⟩
  refine OW.st (B := s₁.setTop (mkF m 1 #[.val (.ref a), .val .null, .unset] [(.ref a)])) (fun _ kk_ => XS.aloadN X0.here hx rfl (hb hby d10_0) rfl rfl kk_) ?_
  refine OW.st (B := s₁.setTop (mkF m 2 #[.val (.ref a), .val .null, .unset] [.null, (.ref a)])) (fun _ kk_ => XS.aloadN X0.here hx rfl (hb hby d10_1) rfl rfl kk_) ?_
  refine OW.st (B := s₁.setTop (mkF m 7 #[.val (.ref a), .val .null, .unset] [])) (fun _ kk_ => Jvm.RoadKit.acmp (g := (mkF m 2 #[.val (.ref a), .val .null, .unset] [.null, (.ref a)])) X0 hx rfl rfl rfl (pc0 := 2) (pc' := 7) (same := false) rfl (hb hby d10_2) rfl (decide_eq_false nofun) (by decide) (by decide) kk_) ?_
  refine OW.st (B := s₁.setTop (mkF m 8 #[.val (.ref a), .val .null, .unset] [.null])) (fun _ kk_ => XS.aloadN X0.here hx rfl (hb hby d10_7) rfl rfl kk_) ?_
  refine OW.st (B := s₁.setTop (mkF m 11 #[.val (.ref a), .val .null, .unset] [(.int (0 : Int32))])) (X0.instanceofNull hx (g := (mkF m 8 #[.val (.ref a), .val .null, .unset] [.null])) rfl rfl (hb hby d10_8)) ?_
  refine OW.st (B := s₁.setTop (mkF m 54 #[.val (.ref a), .val .null, .unset] [])) (fun _ kk_ => XS.ifYes X0.here hx rfl (pc0 := 11) (pc' := 54) rfl (hb hby d10_11) rfl ((if0 _ _).trans (teq (by decide)).1) (by decide) (by decide) kk_) ?_
  refine OW.st (B := s₁.setTop (mkF m 55 #[.val (.ref a), .val .null, .unset] [(.int (0 : Int32))])) (fun _ kk_ => XS.iconst X0.here hx rfl (hb hby d10_54) kk_) ?_
  exact OW.ret X0 hx hlk (i := .ireturn) Bd.returns rfl (Or.inl ⟨rfl, Or.inr (Or.inl rfl), _, rfl⟩) (hb hby d10_55) e0 (by decide) (by decide) ⟨rfl, N0, rfl⟩
theorem ef_MN (m : MethodId) (x0 : Addr) (x1 : Addr) (x2 : Addr) : entryFrame m #[(.ref x0), (.ref x1), (.ref x2), .null] 4 = mkF m 0 #[.val (.ref x0), .val (.ref x1), .val (.ref x2), .val .null] [] := by first | (simp [entryFrame, mkF, argsToLocals, Value.category]; done) | rfl
def QMN (Z : State) (b : Addr) (sa : Addr) (va : Addr) (ka : ClassId) (x1 : Int32) (a_COUNT : Addr) (a_MAX : Addr) (a_SUM : Addr) (a_MIN : Addr) (i_COMPACT_STRINGS : Int32) (v_SIOOBE_FORMATTER : Value) (h0 : Heap) (n0 : Nat) (v : Option Value) (h : Heap) (L : List Loc) : Prop := v = none ∧ Fr n0 L ∧ Keep h0 h [b] ∧ Exa Z h b "com/example/latticework/latticework/Measure" ∧ Fld Z h b "com/example/latticework/latticework/Measure" "function" "Lcom/example/latticework/latticework/Measure$Function;" (.ref a_COUNT)
set_option maxRecDepth 65536 in
set_option maxHeartbeats 40000000 in
theorem rmMN (l : Launch) (Z : State) (a0 : Array Value) (hw : ∀ d ∈ tables_1, d.before a0 Z = true) (ws : List Jvm.Cond) (b : Addr) (sa : Addr) (va : Addr) (ka : ClassId) (x1 : Int32) (a_COUNT : Addr) (a_MAX : Addr) (a_SUM : Addr) (a_MIN : Addr) (i_COMPACT_STRINGS : Int32) (v_SIOOBE_FORMATTER : Value) (h0 : Heap) (n0 : Nat) (O0 : Old Z n0 h0) (E : Exa Z h0 b "com/example/latticework/latticework/Measure") (F1 : Fld Z h0 b "com/example/latticework/latticework/Measure" "name" "Ljava/lang/String;" .null) (F2 : Fld Z h0 b "com/example/latticework/latticework/Measure" "function" "Lcom/example/latticework/latticework/Measure$Function;" .null) (F3 : Fld Z h0 b "com/example/latticework/latticework/Measure" "column" "Ljava/lang/String;" .null) (g : n0 ≤ b) (Es : Exa Z h0 sa "java/lang/String") (Fs1 : Fld Z h0 sa "java/lang/String" "value" "[B" (.ref va)) (Fs2 : Fld Z h0 sa "java/lang/String" "coder" "B" (.int (0 : Int32))) (V1 : Arv Z h0 va ka .byte (1 : Int32) [(.int x1)] (.int (0 : Int32))) (hS : OwnS Z a_COUNT a_MAX a_SUM a_MIN i_COMPACT_STRINGS v_SIOOBE_FORMATTER) :
    MetFree l (⟨"com/example/latticework/latticework/Measure", "<init>", "(Ljava/lang/String;Lcom/example/latticework/latticework/Measure$Function;Ljava/lang/String;)V"⟩ : MethodName) (head1 (Jvm.Cond.code (⟨"com/example/latticework/latticework/Measure", "<init>", "(Ljava/lang/String;Lcom/example/latticework/latticework/Measure$Function;Ljava/lang/String;)V"⟩ : MethodName) prog_25_method_1_code 4 none :: ws) ({ frames := 2, cells := 4, slots := 40, locals := 24 } : Room)) (fun aa_ UU_ => aa_ = #[(.ref b), (.ref sa), (.ref a_COUNT), .null] ∧ Z.Warmed39 UU_.vm ∧ UU_.heap = h0 ∧ CHv Z consts_1 UU_.vm h0) (fun _ _ _ _ _ => True) (fun _ UU_ oo_ UV_ => ∃ vv_ LL_, oo_ = .returned vv_ ∧ QMN Z b sa va ka x1 a_COUNT a_MAX a_SUM a_MIN i_COMPACT_STRINGS v_SIOOBE_FORMATTER h0 n0 vv_ UV_.heap LL_ ∧ CHr Z consts_1 UU_.vm UU_.heap UV_.vm UV_.heap ∧ ReturnedEndW UU_ oo_ UV_ LL_ ({ frames := 2, cells := 4, slots := 40, locals := 24 } : Room).cells ({ frames := 2, cells := 4, slots := 40, locals := 24 } : Room).slots) := by
  refine MetFree.of_bodySF (plainFor_of_name pn_4) hisR ?_
  intro p e s m args below meth c s₁ Bd hml0 hP hK
  obtain ⟨rfl, hZ, hh, hCH⟩ := hP
  have hx := Bd.exec
  have hby := Bd.bytes
  have hlk := BodyLoose.notSynchronized Bd
  have hml : c.maxLocals = 4 := hml0
  have hown : s.vm.findClass "com/example/latticework/latticework/Measure" = some m.cls := findClass_of_methodNamed Bd.named
  have hnm := (name_of_methodNamed Bd.named Bd.method).1
  have X0 : Stand p l e ({ frames := 2, cells := 4, slots := 40, locals := 24 } : Room) s m #[(.ref b), (.ref sa), (.ref a_COUNT), .null] below meth c s₁ [] 0 0 := Stand.of_body Bd
  have e0 : s₁.heap = h0 := by rw [← hh, Bd.state]; rfl
  have N0 := Fr.nil n0
  have hS0 : s.Since s.vm 0 := (State.WarmedH.refl s).since 0
  have hk0 : 0 ≤ h0.size := Nat.zero_le _
  have CR0 : CHr Z consts_1 s.vm h0 s.vm h0 := CHr.refl hCH
  have KC0 : Keep h0 h0 [b] := Keep.refl _ _
  suffices hOW : OWH Z consts_1 h0 p e below s (QMN Z b sa va ka x1 a_COUNT a_MAX a_SUM a_MIN i_COMPACT_STRINGS v_SIOOBE_FORMATTER h0 n0) 4 40 (s₁.setTop (mkF m 0 #[.val (.ref b), .val (.ref sa), .val (.ref a_COUNT), .val .null] [])) by
    obtain ⟨oq1_, oq2_, oq3_, oq4_⟩ := hOW
    obtain ⟨oq5_, oq6_, oq7_, oq8_, oq9_, or1_, or2_, or3_⟩ := oq4_
    exact ⟨oq1_, oq2_, castTop (ef_MN m b sa a_COUNT) oq3_, oq5_, oq6_, oq7_, oq8_, oq9_, or1_, by rw [hh]; exact or2_, or3_⟩
  have hS' := hS
  obtain ⟨Sa_COUNT, Ea_COUNT, Sa_MAX, Ea_MAX, Sa_SUM, Ea_SUM, Sa_MIN, Ea_MIN, Si_COMPACT_STRINGS, Sv_SIOOBE_FORMATTER, Rv_SIOOBE_FORMATTER, Pi_COMPACT_STRINGS, Fa_MAX_ordinal, Fa_COUNT_ordinal, Fa_SUM_ordinal, Fa_MIN_ordinal⟩ := hS'
  refine OWH.st (B := s₁.setTop (mkF m 1 #[.val (.ref b), .val (.ref sa), .val (.ref a_COUNT), .val .null] [(.ref b)])) (fun _ kk_ => XS.aloadN X0.here hx rfl (hb hby d6_0) rfl rfl kk_) ?_
  obtain ⟨_, _, ⟨T40, L40, k40, n40⟩, -, X40, ⟨Lc40, hQ40, l40, y40, z40⟩, st40⟩ := X0.specialBack hx (y := (⟨"java/lang/Record", "<init>", "()V"⟩ : MethodName)) rfl hown (mvT hZ (w_35 hw)) (mvT hZ (w_36 hw)) (mvT hZ (w_39 hw)) (by decide) (backOf (W := 0) (rmRI l Z a0 hw [] b h0 n0 O0 ) hZ (w_39 hw) (w_38 hw) (by decide) (by decide)) (g := (mkF m 1 #[.val (.ref b), .val (.ref sa), .val (.ref a_COUNT), .val .null] [(.ref b)])) rfl (by rw [hml]; rfl) (Steps.refl _) (a := b) (argsL := []) (rest := []) (lenOf pd_4 rfl) rfl (by show 2 * 0 + _ ≤ _; exact Nat.le_of_eq rfl) (hb hby d6_1) (fun _ _ => ⟨rfl, e0, (by decide : 0 + 0 ≤ _), (by decide : 0 + 0 ≤ _)⟩)
  dsimp only [Pt.U, Pt.locs, Pt.cells, Pt.slots] at X40 l40 y40 z40 st40 hQ40
  subst l40 y40 z40
  obtain ⟨rfl, Nq40, e40⟩ := hQ40
  have N40 := Fr.app N0 Nq40
  refine OWH.tr (B := T40.setTop (mkF m 4 #[.val (.ref b), .val (.ref sa), .val (.ref a_COUNT), .val .null] [])) (st40) ?_
  refine OWH.st (B := T40.setTop (mkF m 5 #[.val (.ref b), .val (.ref sa), .val (.ref a_COUNT), .val .null] [(.ref a_COUNT)])) (fun _ kk_ => XS.aloadN X40.here hx rfl (hb hby d6_4) rfl rfl kk_) ?_
  obtain ⟨a41, T41, h41, k41, lb41, lk41, X41, e41, E41, hS41, hk41, hZ41, hown41, Ea41, Fc41, Fv41, V41, -, -, Cs41, -, hne41, st41⟩ := ldcCH (s := s) (vm0 := s.vm) X40 hx hZ hown (w_41 hw) (own_wS hw) e40 hS0 hk0 (own_EW hw) (List.mem_of_getElem? (i := 0) rfl) CR0.1 (vs := [(.int (102 : Int32)), (.int (117 : Int32)), (.int (110 : Int32)), (.int (99 : Int32)), (.int (116 : Int32)), (.int (105 : Int32)), (.int (111 : Int32)), (.int (110 : Int32))]) (z := (8 : Int32)) ⟨by decide, by decide⟩ (by decide) (by decide) (g := (mkF m 5 #[.val (.ref b), .val (.ref sa), .val (.ref a_COUNT), .val .null] [(.ref a_COUNT)])) rfl (hb hby d6_5) (n := 32) (by decide) (by decide) (by decide) (by decide)
  have O41 : Old Z n0 h41 := O0.ext E41
  have CS41 : CHr Z consts_1 s.vm h0 T41.vm h41 := Cs41
  have CR41 := CHr.trans CR0 CS41
  have KC41 : Keep h0 h41 [b] := KC0.ext E41
  refine OWH.st (B := T41.setTop (mkF m 7 #[.val (.ref b), .val (.ref sa), .val (.ref a_COUNT), .val .null] [(.ref a41), (.ref a_COUNT)])) (st41) ?_
  obtain ⟨_, _, ⟨T42, L42, k42, n42⟩, -, X42, ⟨Lc42, hQ42, l42, y42, z42⟩, st42⟩ := Jvm.LawKit.callS X41 hx (y := (⟨"java/util/Objects", "requireNonNull", "(Ljava/lang/Object;Ljava/lang/String;)Ljava/lang/Object;"⟩ : MethodName)) hown41 (mvT hZ41 (w_44 hw)) (mvT hZ41 (w_45 hw)) (mvT hZ41 (w_46 hw)) (mvT hZ41 (w_47 hw)) (by decide) (backOf (W := 0) (rmNN l Z a0 hw [] a_COUNT a41 h41 n0 O41 ) hZ41 (w_47 hw) (w_46 hw) (by decide) (by decide)) (g := (mkF m 7 #[.val (.ref b), .val (.ref sa), .val (.ref a_COUNT), .val .null] [(.ref a41), (.ref a_COUNT)])) rfl (by rw [hml]; rfl) (argsL := [(.ref a_COUNT), (.ref a41)]) (rest := []) (lenOf pd_5 rfl) rfl (by show 2 * 0 + _ ≤ _; exact Nat.le_of_eq rfl) (hb hby d6_7) (fun _ _ => ⟨rfl, e41, (by decide : 2 + 0 ≤ _), (by decide : 36 + 0 ≤ _)⟩)
  dsimp only [Pt.U, Pt.locs, Pt.cells, Pt.slots] at X42 l42 y42 z42 st42 hQ42
  subst l42 y42 z42
  obtain ⟨rfl, Nq42, e42⟩ := hQ42
  have N42 := Fr.app N40 Nq42
  refine OWH.st (B := T42.setTop (mkF m 10 #[.val (.ref b), .val (.ref sa), .val (.ref a_COUNT), .val .null] [(.ref a_COUNT)])) (st42) ?_
  refine OWH.st (B := T42.setTop (mkF m 11 #[.val (.ref b), .val (.ref sa), .val (.ref a_COUNT), .val .null] [])) (fun _ kk_ => XS.pop X42.here hx rfl (hb hby d6_10) rfl rfl kk_) ?_
  refine OWH.st (B := T42.setTop (mkF m 12 #[.val (.ref b), .val (.ref sa), .val (.ref a_COUNT), .val .null] [(.ref sa)])) (fun _ kk_ => XS.aloadN X42.here hx rfl (hb hby d6_11) rfl rfl kk_) ?_
  obtain ⟨cq43, kq43, q43a, q43b, q43c⟩ := isOf hZ41 e42 (Es.ext E41)
  obtain ⟨_, _, ⟨T43, L43, k43, n43⟩, -, X43, ⟨Lc43, hQ43, l43, y43, z43⟩, st43⟩ := X42.virtualBack hx (y := (⟨"java/lang/String", "isEmpty", "()Z"⟩ : MethodName)) (z := (⟨"java/lang/String", "isEmpty", "()Z"⟩ : MethodName)) hown41 (mvT hZ41 (w_48 hw)) (mvT hZ41 (w_49 hw)) (notFace_of_selects (args := #[]) (mvT hZ41 (w_51 hw))) (mvT hZ41 (w_51 hw)) (mvT hZ41 (w_50 hw)) (by decide) (backOf (W := 0) (rmIE l Z a0 hw [] sa va ka x1 h41 n0 O41 (Fs1.ext E41) (V1.ext E41)) hZ41 (w_52 hw) (w_5 hw) (by decide) (by decide)) q43a q43c (g := (mkF m 12 #[.val (.ref b), .val (.ref sa), .val (.ref a_COUNT), .val .null] [(.ref sa)])) rfl (by rw [hml]; rfl) (Steps.refl _) (argsL := []) (rest := []) (lenOf pd_6 rfl) rfl (by show 2 * 0 + _ ≤ _; exact Nat.le_of_eq rfl) (hb hby d6_12) (fun _ _ => ⟨rfl, e42, (by decide : 2 + 0 ≤ _), (by decide : 36 + 0 ≤ _)⟩)
  dsimp only [Pt.U, Pt.locs, Pt.cells, Pt.slots] at X43 l43 y43 z43 st43 hQ43
  subst l43 y43 z43
  obtain ⟨rfl, Nq43, e43⟩ := hQ43
  have N43 := Fr.app N42 Nq43
  refine OWH.tr (B := T43.setTop (mkF m 15 #[.val (.ref b), .val (.ref sa), .val (.ref a_COUNT), .val .null] [(.int (0 : Int32))])) (st43) ?_
  refine OWH.st (B := T43.setTop (mkF m 28 #[.val (.ref b), .val (.ref sa), .val (.ref a_COUNT), .val .null] [])) (fun _ kk_ => XS.ifYes X43.here hx rfl (pc0 := 15) (pc' := 28) rfl (hb hby d6_15) rfl ((if0 _ _).trans (teq (by decide)).1) (by decide) (by decide) kk_) ?_
  obtain ⟨a44, T44, h44, k44, lb44, lk44, X44, e44, E44, hS44, hk44, hZ44, hown44, Ea44, Fc44, Fv44, V44, -, -, Cs44, -, hne44, st44⟩ := ldcCH (s := s) (vm0 := T41.vm) X43 hx hZ41 hown41 (w_53 hw) (own_wS hw) e43 hS41 hk41 (own_EW hw) (List.mem_of_getElem? (i := 1) rfl) CR41.1 (vs := []) (z := (0 : Int32)) ⟨by decide, by decide⟩ (by decide) (by decide) (g := (mkF m 28 #[.val (.ref b), .val (.ref sa), .val (.ref a_COUNT), .val .null] [])) rfl (hb hby d6_28) (n := 0) (by decide) (by decide) (by decide) (by decide)
  have O44 : Old Z n0 h44 := O41.ext E44
  have CS44 : CHr Z consts_1 T41.vm h41 T44.vm h44 := Cs44
  have CR44 := CHr.trans CR41 CS44
  have KC44 : Keep h0 h44 [b] := KC41.ext E44
  refine OWH.st (B := T44.setTop (mkF m 30 #[.val (.ref b), .val (.ref sa), .val (.ref a_COUNT), .val .null] [(.ref a44)])) (st44) ?_
  refine OWH.st (B := T44.setTop (mkF m 31 #[.val (.ref b), .val (.ref sa), .val (.ref a_COUNT), .val .null] [.null, (.ref a44)])) (fun _ kk_ => XS.aloadN X44.here hx rfl (hb hby d6_30) rfl rfl kk_) ?_
  obtain ⟨cq45, kq45, q45a, q45b, q45c⟩ := isOf hZ44 e44 Ea44
  obtain ⟨_, _, ⟨T45, L45, k45, n45⟩, -, X45, ⟨Lc45, hQ45, l45, y45, z45⟩, st45⟩ := X44.virtualBack hx (y := (⟨"java/lang/String", "equals", "(Ljava/lang/Object;)Z"⟩ : MethodName)) (z := (⟨"java/lang/String", "equals", "(Ljava/lang/Object;)Z"⟩ : MethodName)) hown44 (mvT hZ44 (w_54 hw)) (mvT hZ44 (w_55 hw)) (notFace_of_selects (args := #[]) (mvT hZ44 (w_57 hw))) (mvT hZ44 (w_57 hw)) (mvT hZ44 (w_56 hw)) (by decide) (backOf (W := 0) (rmEN l Z a0 hw [] a44 h44 n0 O44 ) hZ44 (w_58 hw) (w_5 hw) (by decide) (by decide)) q45a q45c (g := (mkF m 31 #[.val (.ref b), .val (.ref sa), .val (.ref a_COUNT), .val .null] [.null, (.ref a44)])) rfl (by rw [hml]; rfl) (Steps.refl _) (argsL := [.null]) (rest := []) (lenOf pd_7 rfl) rfl (by show 2 * 0 + _ ≤ _; exact Nat.le_of_eq rfl) (hb hby d6_31) (fun _ _ => ⟨rfl, e44, (by decide : 4 + 0 ≤ _), (by decide : 40 + 0 ≤ _)⟩)
  dsimp only [Pt.U, Pt.locs, Pt.cells, Pt.slots] at X45 l45 y45 z45 st45 hQ45
  subst l45 y45 z45
  obtain ⟨rfl, Nq45, e45⟩ := hQ45
  have N45 := Fr.app N43 Nq45
  refine OWH.tr (B := T45.setTop (mkF m 34 #[.val (.ref b), .val (.ref sa), .val (.ref a_COUNT), .val .null] [(.int (0 : Int32))])) (st45) ?_
  refine OWH.st (B := T45.setTop (mkF m 37 #[.val (.ref b), .val (.ref sa), .val (.ref a_COUNT), .val .null] [])) (fun _ kk_ => XS.ifNo X45.here hx rfl (hb hby d6_34) rfl ((if0 _ _).trans (teq (by decide)).2) kk_) ?_
  refine OWH.st (B := T45.setTop (mkF m 38 #[.val (.ref b), .val (.ref sa), .val (.ref a_COUNT), .val .null] [.null])) (fun _ kk_ => XS.aloadN X45.here hx rfl (hb hby d6_37) rfl rfl kk_) ?_
  refine OWH.st (B := T45.setTop (mkF m 41 #[.val (.ref b), .val (.ref sa), .val (.ref a_COUNT), .val .null] [])) (fun _ kk_ => XS.ifnonnullNo X45.here hx rfl (hb hby d6_38) rfl kk_) ?_
  refine OWH.st (B := T45.setTop (mkF m 42 #[.val (.ref b), .val (.ref sa), .val (.ref a_COUNT), .val .null] [(.ref a_COUNT)])) (fun _ kk_ => XS.aloadN X45.here hx rfl (hb hby d6_41) rfl rfl kk_) ?_
  obtain ⟨T46, X46, e46, st46⟩ := getS2 X45 hx hZ44 hown44 (host := "") (Or.inl (w_73 hw)) Via.refl e45 (Sa_COUNT.ext O44.2) (g := (mkF m 42 #[.val (.ref b), .val (.ref sa), .val (.ref a_COUNT), .val .null] [(.ref a_COUNT)])) rfl (hb hby d6_42)
  refine OWH.st (B := T46.setTop (mkF m 45 #[.val (.ref b), .val (.ref sa), .val (.ref a_COUNT), .val .null] [(.ref a_COUNT), (.ref a_COUNT)])) (st46) ?_
  refine OWH.st (B := T46.setTop (mkF m 66 #[.val (.ref b), .val (.ref sa), .val (.ref a_COUNT), .val .null] [])) (fun _ kk_ => Jvm.RoadKit.acmp (g := (mkF m 45 #[.val (.ref b), .val (.ref sa), .val (.ref a_COUNT), .val .null] [(.ref a_COUNT), (.ref a_COUNT)])) X46 hx rfl rfl rfl (pc0 := 45) (pc' := 66) (same := true) rfl (hb hby d6_45) rfl (decide_eq_true rfl) (by decide) (by decide) kk_) ?_
  refine OWH.st (B := T46.setTop (mkF m 67 #[.val (.ref b), .val (.ref sa), .val (.ref a_COUNT), .val .null] [(.ref b)])) (fun _ kk_ => XS.aloadN X46.here hx rfl (hb hby d6_66) rfl rfl kk_) ?_
  refine OWH.st (B := T46.setTop (mkF m 68 #[.val (.ref b), .val (.ref sa), .val (.ref a_COUNT), .val .null] [(.ref sa), (.ref b)])) (fun _ kk_ => XS.aloadN X46.here hx rfl (hb hby d6_67) rfl rfl kk_) ?_
  obtain ⟨T47, h47, X47, e47, W47, st47⟩ := putF X46 hx hZ44 hown44 (host := "") (Or.inl (w_62 hw)) Via.refl e46 ((F1.ext E41).ext E44) ((E.ext E41).ext E44) (Or.inr ⟨(w_63 hw), rfl, hnm⟩) (w_30 hw) (ty := (.object "java/lang/String")) (by decide) rfl rfl (g := (mkF m 68 #[.val (.ref b), .val (.ref sa), .val (.ref a_COUNT), .val .null] [(.ref sa), (.ref b)])) rfl rfl (hb hby d6_68)
  have N47 := Fr.snoc X47 N45 g
  have O47 : Old Z n0 h47 := O44.wr W47 g
  have CS47 : CHr Z consts_1 T44.vm h44 T44.vm h47 := CHr.wr W47 (Safe.exa hZ44.alike ((E.ext E41).ext E44) (by decide) (by decide)) CR44.1
  have CR47 := CHr.trans CR44 CS47
  have KC47 : Keep h0 h47 [b] := KC44.wr W47 (Or.inl (List.mem_of_getElem? (i := 0) rfl))
  have F47 : Fld Z h47 b "com/example/latticework/latticework/Measure" "name" "Ljava/lang/String;" (.ref sa) := Fld.same W47 ((F1.ext E41).ext E44)
  refine OWH.st (B := T47.setTop (mkF m 71 #[.val (.ref b), .val (.ref sa), .val (.ref a_COUNT), .val .null] [])) (st47) ?_
  refine OWH.st (B := T47.setTop (mkF m 72 #[.val (.ref b), .val (.ref sa), .val (.ref a_COUNT), .val .null] [(.ref b)])) (fun _ kk_ => XS.aloadN X47.here hx rfl (hb hby d6_71) rfl rfl kk_) ?_
  refine OWH.st (B := T47.setTop (mkF m 73 #[.val (.ref b), .val (.ref sa), .val (.ref a_COUNT), .val .null] [(.ref a_COUNT), (.ref b)])) (fun _ kk_ => XS.aloadN X47.here hx rfl (hb hby d6_72) rfl rfl kk_) ?_
  obtain ⟨T48, h48, X48, e48, W48, st48⟩ := putF X47 hx hZ44 hown44 (host := "") (Or.inl (w_64 hw)) Via.refl e47 (((F2.ext E41).ext E44).other W47 (Or.inr (slot_ne (Or.inr (w_65 hw)) (Or.inr (w_63 hw)) (by decide) (t := (.object "com/example/latticework/latticework/Measure$Function")) (t' := (.object "java/lang/String")) (by decide) (by decide)))) (((E.ext E41).ext E44).wr W47) (Or.inr ⟨(w_65 hw), rfl, hnm⟩) (w_30 hw) (ty := (.object "com/example/latticework/latticework/Measure$Function")) (by decide) rfl rfl (g := (mkF m 73 #[.val (.ref b), .val (.ref sa), .val (.ref a_COUNT), .val .null] [(.ref a_COUNT), (.ref b)])) rfl rfl (hb hby d6_73)
  have N48 := Fr.snoc X48 N47 g
  have O48 : Old Z n0 h48 := O47.wr W48 g
  have CS48 : CHr Z consts_1 T44.vm h47 T44.vm h48 := CHr.wr W48 (Safe.exa hZ44.alike (((E.ext E41).ext E44).wr W47) (by decide) (by decide)) CR47.1
  have CR48 := CHr.trans CR47 CS48
  have KC48 : Keep h0 h48 [b] := KC47.wr W48 (Or.inl (List.mem_of_getElem? (i := 0) rfl))
  have F48 : Fld Z h48 b "com/example/latticework/latticework/Measure" "function" "Lcom/example/latticework/latticework/Measure$Function;" (.ref a_COUNT) := Fld.same W48 (((F2.ext E41).ext E44).other W47 (Or.inr (slot_ne (Or.inr (w_65 hw)) (Or.inr (w_63 hw)) (by decide) (t := (.object "com/example/latticework/latticework/Measure$Function")) (t' := (.object "java/lang/String")) (by decide) (by decide))))
  refine OWH.st (B := T48.setTop (mkF m 76 #[.val (.ref b), .val (.ref sa), .val (.ref a_COUNT), .val .null] [])) (st48) ?_
  refine OWH.st (B := T48.setTop (mkF m 77 #[.val (.ref b), .val (.ref sa), .val (.ref a_COUNT), .val .null] [(.ref b)])) (fun _ kk_ => XS.aloadN X48.here hx rfl (hb hby d6_76) rfl rfl kk_) ?_
  refine OWH.st (B := T48.setTop (mkF m 78 #[.val (.ref b), .val (.ref sa), .val (.ref a_COUNT), .val .null] [.null, (.ref b)])) (fun _ kk_ => XS.aloadN X48.here hx rfl (hb hby d6_77) rfl rfl kk_) ?_
  obtain ⟨T49, h49, X49, e49, W49, st49⟩ := putF X48 hx hZ44 hown44 (host := "") (Or.inl (w_66 hw)) Via.refl e48 ((((F3.ext E41).ext E44).other W47 (Or.inr (slot_ne (Or.inr (w_67 hw)) (Or.inr (w_63 hw)) (by decide) (t := (.object "java/lang/String")) (t' := (.object "java/lang/String")) (by decide) (by decide)))).other W48 (Or.inr (slot_ne (Or.inr (w_67 hw)) (Or.inr (w_65 hw)) (by decide) (t := (.object "java/lang/String")) (t' := (.object "com/example/latticework/latticework/Measure$Function")) (by decide) (by decide)))) ((((E.ext E41).ext E44).wr W47).wr W48) (Or.inr ⟨(w_67 hw), rfl, hnm⟩) (w_30 hw) (ty := (.object "java/lang/String")) (by decide) rfl rfl (g := (mkF m 78 #[.val (.ref b), .val (.ref sa), .val (.ref a_COUNT), .val .null] [.null, (.ref b)])) rfl rfl (hb hby d6_78)
  have N49 := Fr.snoc X49 N48 g
  have O49 : Old Z n0 h49 := O48.wr W49 g
  have CS49 : CHr Z consts_1 T44.vm h48 T44.vm h49 := CHr.wr W49 (Safe.exa hZ44.alike ((((E.ext E41).ext E44).wr W47).wr W48) (by decide) (by decide)) CR48.1
  have CR49 := CHr.trans CR48 CS49
  have KC49 : Keep h0 h49 [b] := KC48.wr W49 (Or.inl (List.mem_of_getElem? (i := 0) rfl))
  have F49 : Fld Z h49 b "com/example/latticework/latticework/Measure" "column" "Ljava/lang/String;" .null := Fld.same W49 ((((F3.ext E41).ext E44).other W47 (Or.inr (slot_ne (Or.inr (w_67 hw)) (Or.inr (w_63 hw)) (by decide) (t := (.object "java/lang/String")) (t' := (.object "java/lang/String")) (by decide) (by decide)))).other W48 (Or.inr (slot_ne (Or.inr (w_67 hw)) (Or.inr (w_65 hw)) (by decide) (t := (.object "java/lang/String")) (t' := (.object "com/example/latticework/latticework/Measure$Function")) (by decide) (by decide))))
  refine OWH.st (B := T49.setTop (mkF m 81 #[.val (.ref b), .val (.ref sa), .val (.ref a_COUNT), .val .null] [])) (st49) ?_
  exact OWH.retV X49 (s := s) (vm0 := T44.vm) hS44 (Nat.le_trans (Nat.le_trans (Nat.le_trans hk44 (Keep.of_wr W47).1) (Keep.of_wr W48).1) (Keep.of_wr W49).1) hx hlk CR49 hZ44 (own_EW hw) Bd.returns (hb hby d6_81) e49 (by decide) (by decide) ⟨rfl, N49, KC49, (((((E.ext E41).ext E44).wr W47).wr W48).wr W49), (F48.other W49 (Or.inr (slot_ne (Or.inr (w_65 hw)) (Or.inr (w_67 hw)) (by decide) (t := (.object "com/example/latticework/latticework/Measure$Function")) (t' := (.object "java/lang/String")) (by decide) (by decide))))⟩
theorem ef_MC (m : MethodId) (x0 : Addr) (x1 : Addr) (x2 : Addr) (x3 : Addr) : entryFrame m #[(.ref x0), (.ref x1), (.ref x2), (.ref x3)] 4 = mkF m 0 #[.val (.ref x0), .val (.ref x1), .val (.ref x2), .val (.ref x3)] [] := by first | (simp [entryFrame, mkF, argsToLocals, Value.category]; done) | rfl
def QMC (Z : State) (b : Addr) (sa : Addr) (va : Addr) (ka : ClassId) (x1 : Int32) (fa : Addr) (sb : Addr) (vb : Addr) (kb : ClassId) (x2 : Int32) (a_COUNT : Addr) (a_MAX : Addr) (a_SUM : Addr) (a_MIN : Addr) (i_COMPACT_STRINGS : Int32) (v_SIOOBE_FORMATTER : Value) (h0 : Heap) (n0 : Nat) (v : Option Value) (h : Heap) (L : List Loc) : Prop := v = none ∧ Fr n0 L ∧ Keep h0 h [b] ∧ Exa Z h b "com/example/latticework/latticework/Measure" ∧ Fld Z h b "com/example/latticework/latticework/Measure" "function" "Lcom/example/latticework/latticework/Measure$Function;" (.ref fa)
set_option maxRecDepth 65536 in
set_option maxHeartbeats 40000000 in
theorem rmMC (l : Launch) (Z : State) (a0 : Array Value) (hw : ∀ d ∈ tables_1, d.before a0 Z = true) (ws : List Jvm.Cond) (b : Addr) (sa : Addr) (va : Addr) (ka : ClassId) (x1 : Int32) (fa : Addr) (sb : Addr) (vb : Addr) (kb : ClassId) (x2 : Int32) (a_COUNT : Addr) (a_MAX : Addr) (a_SUM : Addr) (a_MIN : Addr) (i_COMPACT_STRINGS : Int32) (v_SIOOBE_FORMATTER : Value) (h0 : Heap) (n0 : Nat) (O0 : Old Z n0 h0) (E : Exa Z h0 b "com/example/latticework/latticework/Measure") (F1 : Fld Z h0 b "com/example/latticework/latticework/Measure" "name" "Ljava/lang/String;" .null) (F2 : Fld Z h0 b "com/example/latticework/latticework/Measure" "function" "Lcom/example/latticework/latticework/Measure$Function;" .null) (F3 : Fld Z h0 b "com/example/latticework/latticework/Measure" "column" "Ljava/lang/String;" .null) (g : n0 ≤ b) (Es : Exa Z h0 sa "java/lang/String") (Fs1 : Fld Z h0 sa "java/lang/String" "value" "[B" (.ref va)) (Fs2 : Fld Z h0 sa "java/lang/String" "coder" "B" (.int (0 : Int32))) (V1 : Arv Z h0 va ka .byte (1 : Int32) [(.int x1)] (.int (0 : Int32))) (Ec : Exa Z h0 sb "java/lang/String") (Fc1 : Fld Z h0 sb "java/lang/String" "value" "[B" (.ref vb)) (Fc2 : Fld Z h0 sb "java/lang/String" "coder" "B" (.int (0 : Int32))) (V2 : Arv Z h0 vb kb .byte (1 : Int32) [(.int x2)] (.int (0 : Int32))) (hS : OwnS Z a_COUNT a_MAX a_SUM a_MIN i_COMPACT_STRINGS v_SIOOBE_FORMATTER) :
    MetFree l (⟨"com/example/latticework/latticework/Measure", "<init>", "(Ljava/lang/String;Lcom/example/latticework/latticework/Measure$Function;Ljava/lang/String;)V"⟩ : MethodName) (head1 (Jvm.Cond.code (⟨"com/example/latticework/latticework/Measure", "<init>", "(Ljava/lang/String;Lcom/example/latticework/latticework/Measure$Function;Ljava/lang/String;)V"⟩ : MethodName) prog_25_method_1_code 4 none :: ws) ({ frames := 2, cells := 4, slots := 40, locals := 28 } : Room)) (fun aa_ UU_ => aa_ = #[(.ref b), (.ref sa), (.ref fa), (.ref sb)] ∧ Z.Warmed39 UU_.vm ∧ UU_.heap = h0 ∧ CHv Z consts_1 UU_.vm h0) (fun _ _ _ _ _ => True) (fun _ UU_ oo_ UV_ => ∃ vv_ LL_, oo_ = .returned vv_ ∧ QMC Z b sa va ka x1 fa sb vb kb x2 a_COUNT a_MAX a_SUM a_MIN i_COMPACT_STRINGS v_SIOOBE_FORMATTER h0 n0 vv_ UV_.heap LL_ ∧ CHr Z consts_1 UU_.vm UU_.heap UV_.vm UV_.heap ∧ ReturnedEndW UU_ oo_ UV_ LL_ ({ frames := 2, cells := 4, slots := 40, locals := 28 } : Room).cells ({ frames := 2, cells := 4, slots := 40, locals := 28 } : Room).slots) := by
  refine MetFree.of_bodySF (plainFor_of_name pn_4) hisR ?_
  intro p e s m args below meth c s₁ Bd hml0 hP hK
  obtain ⟨rfl, hZ, hh, hCH⟩ := hP
  have hx := Bd.exec
  have hby := Bd.bytes
  have hlk := BodyLoose.notSynchronized Bd
  have hml : c.maxLocals = 4 := hml0
  have hown : s.vm.findClass "com/example/latticework/latticework/Measure" = some m.cls := findClass_of_methodNamed Bd.named
  have hnm := (name_of_methodNamed Bd.named Bd.method).1
  have X0 : Stand p l e ({ frames := 2, cells := 4, slots := 40, locals := 28 } : Room) s m #[(.ref b), (.ref sa), (.ref fa), (.ref sb)] below meth c s₁ [] 0 0 := Stand.of_body Bd
  have e0 : s₁.heap = h0 := by rw [← hh, Bd.state]; rfl
  have N0 := Fr.nil n0
  have hS0 : s.Since s.vm 0 := (State.WarmedH.refl s).since 0
  have hk0 : 0 ≤ h0.size := Nat.zero_le _
  have CR0 : CHr Z consts_1 s.vm h0 s.vm h0 := CHr.refl hCH
  have KC0 : Keep h0 h0 [b] := Keep.refl _ _
  suffices hOW : OWH Z consts_1 h0 p e below s (QMC Z b sa va ka x1 fa sb vb kb x2 a_COUNT a_MAX a_SUM a_MIN i_COMPACT_STRINGS v_SIOOBE_FORMATTER h0 n0) 4 40 (s₁.setTop (mkF m 0 #[.val (.ref b), .val (.ref sa), .val (.ref fa), .val (.ref sb)] [])) by
    obtain ⟨oq1_, oq2_, oq3_, oq4_⟩ := hOW
    obtain ⟨oq5_, oq6_, oq7_, oq8_, oq9_, or1_, or2_, or3_⟩ := oq4_
    exact ⟨oq1_, oq2_, castTop (ef_MC m b sa fa sb) oq3_, oq5_, oq6_, oq7_, oq8_, oq9_, or1_, by rw [hh]; exact or2_, or3_⟩
  have hS' := hS
  obtain ⟨Sa_COUNT, Ea_COUNT, Sa_MAX, Ea_MAX, Sa_SUM, Ea_SUM, Sa_MIN, Ea_MIN, Si_COMPACT_STRINGS, Sv_SIOOBE_FORMATTER, Rv_SIOOBE_FORMATTER, Pi_COMPACT_STRINGS, Fa_MAX_ordinal, Fa_COUNT_ordinal, Fa_SUM_ordinal, Fa_MIN_ordinal⟩ := hS'
  refine OWH.st (B := s₁.setTop (mkF m 1 #[.val (.ref b), .val (.ref sa), .val (.ref fa), .val (.ref sb)] [(.ref b)])) (fun _ kk_ => XS.aloadN X0.here hx rfl (hb hby d6_0) rfl rfl kk_) ?_
  obtain ⟨_, _, ⟨T50, L50, k50, n50⟩, -, X50, ⟨Lc50, hQ50, l50, y50, z50⟩, st50⟩ := X0.specialBack hx (y := (⟨"java/lang/Record", "<init>", "()V"⟩ : MethodName)) rfl hown (mvT hZ (w_35 hw)) (mvT hZ (w_36 hw)) (mvT hZ (w_39 hw)) (by decide) (backOf (W := 0) (rmRI l Z a0 hw [] b h0 n0 O0 ) hZ (w_39 hw) (w_38 hw) (by decide) (by decide)) (g := (mkF m 1 #[.val (.ref b), .val (.ref sa), .val (.ref fa), .val (.ref sb)] [(.ref b)])) rfl (by rw [hml]; rfl) (Steps.refl _) (a := b) (argsL := []) (rest := []) (lenOf pd_4 rfl) rfl (by show 2 * 0 + _ ≤ _; exact Nat.le_of_eq rfl) (hb hby d6_1) (fun _ _ => ⟨rfl, e0, (by decide : 0 + 0 ≤ _), (by decide : 0 + 0 ≤ _)⟩)
  dsimp only [Pt.U, Pt.locs, Pt.cells, Pt.slots] at X50 l50 y50 z50 st50 hQ50
  subst l50 y50 z50
  obtain ⟨rfl, Nq50, e50⟩ := hQ50
  have N50 := Fr.app N0 Nq50
  refine OWH.tr (B := T50.setTop (mkF m 4 #[.val (.ref b), .val (.ref sa), .val (.ref fa), .val (.ref sb)] [])) (st50) ?_
  refine OWH.st (B := T50.setTop (mkF m 5 #[.val (.ref b), .val (.ref sa), .val (.ref fa), .val (.ref sb)] [(.ref fa)])) (fun _ kk_ => XS.aloadN X50.here hx rfl (hb hby d6_4) rfl rfl kk_) ?_
  obtain ⟨a51, T51, h51, k51, lb51, lk51, X51, e51, E51, hS51, hk51, hZ51, hown51, Ea51, Fc51, Fv51, V51, -, -, Cs51, -, hne51, st51⟩ := ldcCH (s := s) (vm0 := s.vm) X50 hx hZ hown (w_41 hw) (own_wS hw) e50 hS0 hk0 (own_EW hw) (List.mem_of_getElem? (i := 0) rfl) CR0.1 (vs := [(.int (102 : Int32)), (.int (117 : Int32)), (.int (110 : Int32)), (.int (99 : Int32)), (.int (116 : Int32)), (.int (105 : Int32)), (.int (111 : Int32)), (.int (110 : Int32))]) (z := (8 : Int32)) ⟨by decide, by decide⟩ (by decide) (by decide) (g := (mkF m 5 #[.val (.ref b), .val (.ref sa), .val (.ref fa), .val (.ref sb)] [(.ref fa)])) rfl (hb hby d6_5) (n := 32) (by decide) (by decide) (by decide) (by decide)
  have O51 : Old Z n0 h51 := O0.ext E51
  have CS51 : CHr Z consts_1 s.vm h0 T51.vm h51 := Cs51
  have CR51 := CHr.trans CR0 CS51
  have KC51 : Keep h0 h51 [b] := KC0.ext E51
  refine OWH.st (B := T51.setTop (mkF m 7 #[.val (.ref b), .val (.ref sa), .val (.ref fa), .val (.ref sb)] [(.ref a51), (.ref fa)])) (st51) ?_
  obtain ⟨_, _, ⟨T52, L52, k52, n52⟩, -, X52, ⟨Lc52, hQ52, l52, y52, z52⟩, st52⟩ := Jvm.LawKit.callS X51 hx (y := (⟨"java/util/Objects", "requireNonNull", "(Ljava/lang/Object;Ljava/lang/String;)Ljava/lang/Object;"⟩ : MethodName)) hown51 (mvT hZ51 (w_44 hw)) (mvT hZ51 (w_45 hw)) (mvT hZ51 (w_46 hw)) (mvT hZ51 (w_47 hw)) (by decide) (backOf (W := 0) (rmNN l Z a0 hw [] fa a51 h51 n0 O51 ) hZ51 (w_47 hw) (w_46 hw) (by decide) (by decide)) (g := (mkF m 7 #[.val (.ref b), .val (.ref sa), .val (.ref fa), .val (.ref sb)] [(.ref a51), (.ref fa)])) rfl (by rw [hml]; rfl) (argsL := [(.ref fa), (.ref a51)]) (rest := []) (lenOf pd_5 rfl) rfl (by show 2 * 0 + _ ≤ _; exact Nat.le_of_eq rfl) (hb hby d6_7) (fun _ _ => ⟨rfl, e51, (by decide : 2 + 0 ≤ _), (by decide : 36 + 0 ≤ _)⟩)
  dsimp only [Pt.U, Pt.locs, Pt.cells, Pt.slots] at X52 l52 y52 z52 st52 hQ52
  subst l52 y52 z52
  obtain ⟨rfl, Nq52, e52⟩ := hQ52
  have N52 := Fr.app N50 Nq52
  refine OWH.st (B := T52.setTop (mkF m 10 #[.val (.ref b), .val (.ref sa), .val (.ref fa), .val (.ref sb)] [(.ref fa)])) (st52) ?_
  refine OWH.st (B := T52.setTop (mkF m 11 #[.val (.ref b), .val (.ref sa), .val (.ref fa), .val (.ref sb)] [])) (fun _ kk_ => XS.pop X52.here hx rfl (hb hby d6_10) rfl rfl kk_) ?_
  refine OWH.st (B := T52.setTop (mkF m 12 #[.val (.ref b), .val (.ref sa), .val (.ref fa), .val (.ref sb)] [(.ref sa)])) (fun _ kk_ => XS.aloadN X52.here hx rfl (hb hby d6_11) rfl rfl kk_) ?_
  obtain ⟨cq53, kq53, q53a, q53b, q53c⟩ := isOf hZ51 e52 (Es.ext E51)
  obtain ⟨_, _, ⟨T53, L53, k53, n53⟩, -, X53, ⟨Lc53, hQ53, l53, y53, z53⟩, st53⟩ := X52.virtualBack hx (y := (⟨"java/lang/String", "isEmpty", "()Z"⟩ : MethodName)) (z := (⟨"java/lang/String", "isEmpty", "()Z"⟩ : MethodName)) hown51 (mvT hZ51 (w_48 hw)) (mvT hZ51 (w_49 hw)) (notFace_of_selects (args := #[]) (mvT hZ51 (w_51 hw))) (mvT hZ51 (w_51 hw)) (mvT hZ51 (w_50 hw)) (by decide) (backOf (W := 0) (rmIE l Z a0 hw [] sa va ka x1 h51 n0 O51 (Fs1.ext E51) (V1.ext E51)) hZ51 (w_52 hw) (w_5 hw) (by decide) (by decide)) q53a q53c (g := (mkF m 12 #[.val (.ref b), .val (.ref sa), .val (.ref fa), .val (.ref sb)] [(.ref sa)])) rfl (by rw [hml]; rfl) (Steps.refl _) (argsL := []) (rest := []) (lenOf pd_6 rfl) rfl (by show 2 * 0 + _ ≤ _; exact Nat.le_of_eq rfl) (hb hby d6_12) (fun _ _ => ⟨rfl, e52, (by decide : 2 + 0 ≤ _), (by decide : 36 + 0 ≤ _)⟩)
  dsimp only [Pt.U, Pt.locs, Pt.cells, Pt.slots] at X53 l53 y53 z53 st53 hQ53
  subst l53 y53 z53
  obtain ⟨rfl, Nq53, e53⟩ := hQ53
  have N53 := Fr.app N52 Nq53
  refine OWH.tr (B := T53.setTop (mkF m 15 #[.val (.ref b), .val (.ref sa), .val (.ref fa), .val (.ref sb)] [(.int (0 : Int32))])) (st53) ?_
  refine OWH.st (B := T53.setTop (mkF m 28 #[.val (.ref b), .val (.ref sa), .val (.ref fa), .val (.ref sb)] [])) (fun _ kk_ => XS.ifYes X53.here hx rfl (pc0 := 15) (pc' := 28) rfl (hb hby d6_15) rfl ((if0 _ _).trans (teq (by decide)).1) (by decide) (by decide) kk_) ?_
  obtain ⟨a54, T54, h54, k54, lb54, lk54, X54, e54, E54, hS54, hk54, hZ54, hown54, Ea54, Fc54, Fv54, V54, -, -, Cs54, -, hne54, st54⟩ := ldcCH (s := s) (vm0 := T51.vm) X53 hx hZ51 hown51 (w_53 hw) (own_wS hw) e53 hS51 hk51 (own_EW hw) (List.mem_of_getElem? (i := 1) rfl) CR51.1 (vs := []) (z := (0 : Int32)) ⟨by decide, by decide⟩ (by decide) (by decide) (g := (mkF m 28 #[.val (.ref b), .val (.ref sa), .val (.ref fa), .val (.ref sb)] [])) rfl (hb hby d6_28) (n := 0) (by decide) (by decide) (by decide) (by decide)
  have O54 : Old Z n0 h54 := O51.ext E54
  have CS54 : CHr Z consts_1 T51.vm h51 T54.vm h54 := Cs54
  have CR54 := CHr.trans CR51 CS54
  have KC54 : Keep h0 h54 [b] := KC51.ext E54
  refine OWH.st (B := T54.setTop (mkF m 30 #[.val (.ref b), .val (.ref sa), .val (.ref fa), .val (.ref sb)] [(.ref a54)])) (st54) ?_
  refine OWH.st (B := T54.setTop (mkF m 31 #[.val (.ref b), .val (.ref sa), .val (.ref fa), .val (.ref sb)] [(.ref sb), (.ref a54)])) (fun _ kk_ => XS.aloadN X54.here hx rfl (hb hby d6_30) rfl rfl kk_) ?_
  obtain ⟨cq55, kq55, q55a, q55b, q55c⟩ := isOf hZ54 e54 Ea54
  obtain ⟨_, _, ⟨T55, L55, k55, n55⟩, -, X55, ⟨Lc55, hQ55, l55, y55, z55⟩, st55⟩ := X54.virtualBack hx (y := (⟨"java/lang/String", "equals", "(Ljava/lang/Object;)Z"⟩ : MethodName)) (z := (⟨"java/lang/String", "equals", "(Ljava/lang/Object;)Z"⟩ : MethodName)) hown54 (mvT hZ54 (w_54 hw)) (mvT hZ54 (w_55 hw)) (notFace_of_selects (args := #[]) (mvT hZ54 (w_57 hw))) (mvT hZ54 (w_57 hw)) (mvT hZ54 (w_56 hw)) (by decide) (backOf (W := 0) (rmEQ l Z a0 hw [] a54 lb54 lk54 sb vb kb x2 a_COUNT a_MAX a_SUM a_MIN i_COMPACT_STRINGS v_SIOOBE_FORMATTER h54 n0 O54 Ea54 Fv54 Fc54 ((Ec.ext E51).ext E54) ((Fc1.ext E51).ext E54) ((Fc2.ext E51).ext E54) V54 ((V2.ext E51).ext E54) (Fld.ne Fv54 ((Fc1.ext E51).ext E54) (fun q => arv_ne V54 ((V2.ext E51).ext E54) (Or.inl (by decide)) (Value.ref.inj q))) hS) hZ54 (w_58 hw) (w_5 hw) (by decide) (by decide)) q55a q55c (g := (mkF m 31 #[.val (.ref b), .val (.ref sa), .val (.ref fa), .val (.ref sb)] [(.ref sb), (.ref a54)])) rfl (by rw [hml]; rfl) (Steps.refl _) (argsL := [(.ref sb)]) (rest := []) (lenOf pd_7 rfl) rfl (by show 2 * 0 + _ ≤ _; exact Nat.le_of_eq rfl) (hb hby d6_31) (fun _ _ => ⟨rfl, e54, (by decide : 4 + 0 ≤ _), (by decide : 40 + 0 ≤ _)⟩)
  dsimp only [Pt.U, Pt.locs, Pt.cells, Pt.slots] at X55 l55 y55 z55 st55 hQ55
  subst l55 y55 z55
  obtain ⟨rfl, Nq55, e55⟩ := hQ55
  have N55 := Fr.app N53 Nq55
  refine OWH.tr (B := T55.setTop (mkF m 34 #[.val (.ref b), .val (.ref sa), .val (.ref fa), .val (.ref sb)] [(.int (0 : Int32))])) (st55) ?_
  refine OWH.st (B := T55.setTop (mkF m 37 #[.val (.ref b), .val (.ref sa), .val (.ref fa), .val (.ref sb)] [])) (fun _ kk_ => XS.ifNo X55.here hx rfl (hb hby d6_34) rfl ((if0 _ _).trans (teq (by decide)).2) kk_) ?_
  refine OWH.st (B := T55.setTop (mkF m 38 #[.val (.ref b), .val (.ref sa), .val (.ref fa), .val (.ref sb)] [(.ref sb)])) (fun _ kk_ => XS.aloadN X55.here hx rfl (hb hby d6_37) rfl rfl kk_) ?_
  refine OWH.st (B := T55.setTop (mkF m 66 #[.val (.ref b), .val (.ref sa), .val (.ref fa), .val (.ref sb)] [])) (fun _ kk_ => XS.ifnonnullYes X55.here hx rfl (pc0 := 38) (pc' := 66) rfl (hb hby d6_38) rfl (by decide) (by decide) kk_) ?_
  refine OWH.st (B := T55.setTop (mkF m 67 #[.val (.ref b), .val (.ref sa), .val (.ref fa), .val (.ref sb)] [(.ref b)])) (fun _ kk_ => XS.aloadN X55.here hx rfl (hb hby d6_66) rfl rfl kk_) ?_
  refine OWH.st (B := T55.setTop (mkF m 68 #[.val (.ref b), .val (.ref sa), .val (.ref fa), .val (.ref sb)] [(.ref sa), (.ref b)])) (fun _ kk_ => XS.aloadN X55.here hx rfl (hb hby d6_67) rfl rfl kk_) ?_
  obtain ⟨T56, h56, X56, e56, W56, st56⟩ := putF X55 hx hZ54 hown54 (host := "") (Or.inl (w_62 hw)) Via.refl e55 ((F1.ext E51).ext E54) ((E.ext E51).ext E54) (Or.inr ⟨(w_63 hw), rfl, hnm⟩) (w_30 hw) (ty := (.object "java/lang/String")) (by decide) rfl rfl (g := (mkF m 68 #[.val (.ref b), .val (.ref sa), .val (.ref fa), .val (.ref sb)] [(.ref sa), (.ref b)])) rfl rfl (hb hby d6_68)
  have N56 := Fr.snoc X56 N55 g
  have O56 : Old Z n0 h56 := O54.wr W56 g
  have CS56 : CHr Z consts_1 T54.vm h54 T54.vm h56 := CHr.wr W56 (Safe.exa hZ54.alike ((E.ext E51).ext E54) (by decide) (by decide)) CR54.1
  have CR56 := CHr.trans CR54 CS56
  have KC56 : Keep h0 h56 [b] := KC54.wr W56 (Or.inl (List.mem_of_getElem? (i := 0) rfl))
  have F56 : Fld Z h56 b "com/example/latticework/latticework/Measure" "name" "Ljava/lang/String;" (.ref sa) := Fld.same W56 ((F1.ext E51).ext E54)
  refine OWH.st (B := T56.setTop (mkF m 71 #[.val (.ref b), .val (.ref sa), .val (.ref fa), .val (.ref sb)] [])) (st56) ?_
  refine OWH.st (B := T56.setTop (mkF m 72 #[.val (.ref b), .val (.ref sa), .val (.ref fa), .val (.ref sb)] [(.ref b)])) (fun _ kk_ => XS.aloadN X56.here hx rfl (hb hby d6_71) rfl rfl kk_) ?_
  refine OWH.st (B := T56.setTop (mkF m 73 #[.val (.ref b), .val (.ref sa), .val (.ref fa), .val (.ref sb)] [(.ref fa), (.ref b)])) (fun _ kk_ => XS.aloadN X56.here hx rfl (hb hby d6_72) rfl rfl kk_) ?_
  obtain ⟨T57, h57, X57, e57, W57, st57⟩ := putF X56 hx hZ54 hown54 (host := "") (Or.inl (w_64 hw)) Via.refl e56 (((F2.ext E51).ext E54).other W56 (Or.inr (slot_ne (Or.inr (w_65 hw)) (Or.inr (w_63 hw)) (by decide) (t := (.object "com/example/latticework/latticework/Measure$Function")) (t' := (.object "java/lang/String")) (by decide) (by decide)))) (((E.ext E51).ext E54).wr W56) (Or.inr ⟨(w_65 hw), rfl, hnm⟩) (w_30 hw) (ty := (.object "com/example/latticework/latticework/Measure$Function")) (by decide) rfl rfl (g := (mkF m 73 #[.val (.ref b), .val (.ref sa), .val (.ref fa), .val (.ref sb)] [(.ref fa), (.ref b)])) rfl rfl (hb hby d6_73)
  have N57 := Fr.snoc X57 N56 g
  have O57 : Old Z n0 h57 := O56.wr W57 g
  have CS57 : CHr Z consts_1 T54.vm h56 T54.vm h57 := CHr.wr W57 (Safe.exa hZ54.alike (((E.ext E51).ext E54).wr W56) (by decide) (by decide)) CR56.1
  have CR57 := CHr.trans CR56 CS57
  have KC57 : Keep h0 h57 [b] := KC56.wr W57 (Or.inl (List.mem_of_getElem? (i := 0) rfl))
  have F57 : Fld Z h57 b "com/example/latticework/latticework/Measure" "function" "Lcom/example/latticework/latticework/Measure$Function;" (.ref fa) := Fld.same W57 (((F2.ext E51).ext E54).other W56 (Or.inr (slot_ne (Or.inr (w_65 hw)) (Or.inr (w_63 hw)) (by decide) (t := (.object "com/example/latticework/latticework/Measure$Function")) (t' := (.object "java/lang/String")) (by decide) (by decide))))
  refine OWH.st (B := T57.setTop (mkF m 76 #[.val (.ref b), .val (.ref sa), .val (.ref fa), .val (.ref sb)] [])) (st57) ?_
  refine OWH.st (B := T57.setTop (mkF m 77 #[.val (.ref b), .val (.ref sa), .val (.ref fa), .val (.ref sb)] [(.ref b)])) (fun _ kk_ => XS.aloadN X57.here hx rfl (hb hby d6_76) rfl rfl kk_) ?_
  refine OWH.st (B := T57.setTop (mkF m 78 #[.val (.ref b), .val (.ref sa), .val (.ref fa), .val (.ref sb)] [(.ref sb), (.ref b)])) (fun _ kk_ => XS.aloadN X57.here hx rfl (hb hby d6_77) rfl rfl kk_) ?_
  obtain ⟨T58, h58, X58, e58, W58, st58⟩ := putF X57 hx hZ54 hown54 (host := "") (Or.inl (w_66 hw)) Via.refl e57 ((((F3.ext E51).ext E54).other W56 (Or.inr (slot_ne (Or.inr (w_67 hw)) (Or.inr (w_63 hw)) (by decide) (t := (.object "java/lang/String")) (t' := (.object "java/lang/String")) (by decide) (by decide)))).other W57 (Or.inr (slot_ne (Or.inr (w_67 hw)) (Or.inr (w_65 hw)) (by decide) (t := (.object "java/lang/String")) (t' := (.object "com/example/latticework/latticework/Measure$Function")) (by decide) (by decide)))) ((((E.ext E51).ext E54).wr W56).wr W57) (Or.inr ⟨(w_67 hw), rfl, hnm⟩) (w_30 hw) (ty := (.object "java/lang/String")) (by decide) rfl rfl (g := (mkF m 78 #[.val (.ref b), .val (.ref sa), .val (.ref fa), .val (.ref sb)] [(.ref sb), (.ref b)])) rfl rfl (hb hby d6_78)
  have N58 := Fr.snoc X58 N57 g
  have O58 : Old Z n0 h58 := O57.wr W58 g
  have CS58 : CHr Z consts_1 T54.vm h57 T54.vm h58 := CHr.wr W58 (Safe.exa hZ54.alike ((((E.ext E51).ext E54).wr W56).wr W57) (by decide) (by decide)) CR57.1
  have CR58 := CHr.trans CR57 CS58
  have KC58 : Keep h0 h58 [b] := KC57.wr W58 (Or.inl (List.mem_of_getElem? (i := 0) rfl))
  have F58 : Fld Z h58 b "com/example/latticework/latticework/Measure" "column" "Ljava/lang/String;" (.ref sb) := Fld.same W58 ((((F3.ext E51).ext E54).other W56 (Or.inr (slot_ne (Or.inr (w_67 hw)) (Or.inr (w_63 hw)) (by decide) (t := (.object "java/lang/String")) (t' := (.object "java/lang/String")) (by decide) (by decide)))).other W57 (Or.inr (slot_ne (Or.inr (w_67 hw)) (Or.inr (w_65 hw)) (by decide) (t := (.object "java/lang/String")) (t' := (.object "com/example/latticework/latticework/Measure$Function")) (by decide) (by decide))))
  refine OWH.st (B := T58.setTop (mkF m 81 #[.val (.ref b), .val (.ref sa), .val (.ref fa), .val (.ref sb)] [])) (st58) ?_
  exact OWH.retV X58 (s := s) (vm0 := T54.vm) hS54 (Nat.le_trans (Nat.le_trans (Nat.le_trans hk54 (Keep.of_wr W56).1) (Keep.of_wr W57).1) (Keep.of_wr W58).1) hx hlk CR58 hZ54 (own_EW hw) Bd.returns (hb hby d6_81) e58 (by decide) (by decide) ⟨rfl, N58, KC58, (((((E.ext E51).ext E54).wr W56).wr W57).wr W58), (F57.other W58 (Or.inr (slot_ne (Or.inr (w_65 hw)) (Or.inr (w_67 hw)) (by decide) (t := (.object "com/example/latticework/latticework/Measure$Function")) (t' := (.object "java/lang/String")) (by decide) (by decide))))⟩
theorem ef_ADCOUNT (m : MethodId) (x0 : Addr) : entryFrame m #[(.ref x0)] 1 = mkF m 0 #[.val (.ref x0)] [] := by first | (simp [entryFrame, mkF, argsToLocals, Value.category]; done) | rfl
def QADCOUNT (Z : State) (b : Addr) (a_COUNT : Addr) (a_MAX : Addr) (a_SUM : Addr) (a_MIN : Addr) (i_COMPACT_STRINGS : Int32) (v_SIOOBE_FORMATTER : Value) (h0 : Heap) (n0 : Nat) (v : Option Value) (h : Heap) (L : List Loc) : Prop := v = some (.int 1) ∧ Fr n0 L ∧ h = h0
set_option maxRecDepth 65536 in
set_option maxHeartbeats 40000000 in
theorem rmADCOUNT (l : Launch) (Z : State) (a0 : Array Value) (hw : ∀ d ∈ tables_1, d.before a0 Z = true) (ws : List Jvm.Cond) (b : Addr) (a_COUNT : Addr) (a_MAX : Addr) (a_SUM : Addr) (a_MIN : Addr) (i_COMPACT_STRINGS : Int32) (v_SIOOBE_FORMATTER : Value) (h0 : Heap) (n0 : Nat) (O0 : Old Z n0 h0) (F : Fld Z h0 b "com/example/latticework/latticework/Measure" "function" "Lcom/example/latticework/latticework/Measure$Function;" (.ref a_COUNT)) (hS : OwnS Z a_COUNT a_MAX a_SUM a_MIN i_COMPACT_STRINGS v_SIOOBE_FORMATTER) :
    MetFree l (⟨"com/example/latticework/latticework/Measure", "adds", "()Z"⟩ : MethodName) (head1 (Jvm.Cond.code (⟨"com/example/latticework/latticework/Measure", "adds", "()Z"⟩ : MethodName) prog_25_method_6_code 1 (some .boolean) :: ws) ({ frames := 0, cells := 0, slots := 0, locals := 0 } : Room)) (fun aa_ UU_ => aa_ = #[(.ref b)] ∧ Z.Warmed39 UU_.vm ∧ UU_.heap = h0) (fun _ _ _ _ _ => True) (fun _ UU_ oo_ UV_ => ∃ vv_ LL_, oo_ = .returned vv_ ∧ QADCOUNT Z b a_COUNT a_MAX a_SUM a_MIN i_COMPACT_STRINGS v_SIOOBE_FORMATTER h0 n0 vv_ UV_.heap LL_ ∧ FrameEnd UU_ oo_ UV_ LL_ ({ frames := 0, cells := 0, slots := 0, locals := 0 } : Room).cells ({ frames := 0, cells := 0, slots := 0, locals := 0 } : Room).slots) := by
  refine MetFree.of_bodySF (plainFor_of_name pn_4) hisR ?_
  intro p e s m args below meth c s₁ Bd hml0 hP hK
  obtain ⟨rfl, hZ, hh⟩ := hP
  have hx := Bd.exec
  have hby := Bd.bytes
  have hlk := BodyLoose.notSynchronized Bd
  have hml : c.maxLocals = 1 := hml0
  have hown : s.vm.findClass "com/example/latticework/latticework/Measure" = some m.cls := findClass_of_methodNamed Bd.named
  have hnm := (name_of_methodNamed Bd.named Bd.method).1
  have X0 : Stand p l e ({ frames := 0, cells := 0, slots := 0, locals := 0 } : Room) s m #[(.ref b)] below meth c s₁ [] 0 0 := Stand.of_body Bd
  have e0 : s₁.heap = h0 := by rw [← hh, Bd.state]; rfl
  have N0 := Fr.nil n0
  suffices hOW : OW p e below s (QADCOUNT Z b a_COUNT a_MAX a_SUM a_MIN i_COMPACT_STRINGS v_SIOOBE_FORMATTER h0 n0) 0 0 (s₁.setTop (mkF m 0 #[.val (.ref b)] [])) by
    obtain ⟨oq1_, oq2_, oq3_, oq4_⟩ := hOW
    exact ⟨oq1_, oq2_, castTop (ef_ADCOUNT m b) oq3_, oq4_⟩
  have hS' := hS
  obtain ⟨Sa_COUNT, Ea_COUNT, Sa_MAX, Ea_MAX, Sa_SUM, Ea_SUM, Sa_MIN, Ea_MIN, Si_COMPACT_STRINGS, Sv_SIOOBE_FORMATTER, Rv_SIOOBE_FORMATTER, Pi_COMPACT_STRINGS, Fa_MAX_ordinal, Fa_COUNT_ordinal, Fa_SUM_ordinal, Fa_MIN_ordinal⟩ := hS'
  refine OW.st (B := s₁.setTop (mkF m 1 #[.val (.ref b)] [(.ref b)])) (fun _ kk_ => XS.aloadN X0.here hx rfl (hb hby d12_0) rfl rfl kk_) ?_
  obtain ⟨T59, X59, e59, st59⟩ := getF X0 hx hZ hown (host := "") (Or.inl (w_64 hw)) Via.refl e0 F (g := (mkF m 1 #[.val (.ref b)] [(.ref b)])) rfl rfl (hb hby d12_1)
  refine OW.st (B := T59.setTop (mkF m 4 #[.val (.ref b)] [(.ref a_COUNT)])) (st59) ?_
  obtain ⟨T60, X60, e60, st60⟩ := getS2 X59 hx hZ hown (host := "") (Or.inl (w_73 hw)) Via.refl e59 (Sa_COUNT.ext O0.2) (g := (mkF m 4 #[.val (.ref b)] [(.ref a_COUNT)])) rfl (hb hby d12_4)
  refine OW.st (B := T60.setTop (mkF m 7 #[.val (.ref b)] [(.ref a_COUNT), (.ref a_COUNT)])) (st60) ?_
  refine OW.st (B := T60.setTop (mkF m 20 #[.val (.ref b)] [])) (fun _ kk_ => Jvm.RoadKit.acmp (g := (mkF m 7 #[.val (.ref b)] [(.ref a_COUNT), (.ref a_COUNT)])) X60 hx rfl rfl rfl (pc0 := 7) (pc' := 20) (same := true) rfl (hb hby d12_7) rfl (decide_eq_true rfl) (by decide) (by decide) kk_) ?_
  refine OW.st (B := T60.setTop (mkF m 21 #[.val (.ref b)] [(.int (1 : Int32))])) (fun _ kk_ => XS.iconst X60.here hx rfl (hb hby d12_20) kk_) ?_
  refine OW.st (B := T60.setTop (mkF m 25 #[.val (.ref b)] [(.int (1 : Int32))])) (fun _ kk_ => XS.goto X60.here hx rfl (pc0 := 21) (pc' := 25) rfl (hb hby d12_21) (by decide) (by decide) kk_) ?_
  exact OW.ret X60 hx hlk (i := .ireturn) Bd.returns rfl (Or.inl ⟨rfl, Or.inr (Or.inl rfl), _, rfl⟩) (hb hby d12_25) e60 (by decide) (by decide) ⟨rfl, N0, rfl⟩
theorem ef_ADSUM (m : MethodId) (x0 : Addr) : entryFrame m #[(.ref x0)] 1 = mkF m 0 #[.val (.ref x0)] [] := by first | (simp [entryFrame, mkF, argsToLocals, Value.category]; done) | rfl
def QADSUM (Z : State) (b : Addr) (a_COUNT : Addr) (a_MAX : Addr) (a_SUM : Addr) (a_MIN : Addr) (i_COMPACT_STRINGS : Int32) (v_SIOOBE_FORMATTER : Value) (h0 : Heap) (n0 : Nat) (v : Option Value) (h : Heap) (L : List Loc) : Prop := v = some (.int 1) ∧ Fr n0 L ∧ h = h0
set_option maxRecDepth 65536 in
set_option maxHeartbeats 40000000 in
theorem rmADSUM (l : Launch) (Z : State) (a0 : Array Value) (hw : ∀ d ∈ tables_1, d.before a0 Z = true) (ws : List Jvm.Cond) (b : Addr) (a_COUNT : Addr) (a_MAX : Addr) (a_SUM : Addr) (a_MIN : Addr) (i_COMPACT_STRINGS : Int32) (v_SIOOBE_FORMATTER : Value) (h0 : Heap) (n0 : Nat) (O0 : Old Z n0 h0) (F : Fld Z h0 b "com/example/latticework/latticework/Measure" "function" "Lcom/example/latticework/latticework/Measure$Function;" (.ref a_SUM)) (hS : OwnS Z a_COUNT a_MAX a_SUM a_MIN i_COMPACT_STRINGS v_SIOOBE_FORMATTER) :
    MetFree l (⟨"com/example/latticework/latticework/Measure", "adds", "()Z"⟩ : MethodName) (head1 (Jvm.Cond.code (⟨"com/example/latticework/latticework/Measure", "adds", "()Z"⟩ : MethodName) prog_25_method_6_code 1 (some .boolean) :: ws) ({ frames := 0, cells := 0, slots := 0, locals := 0 } : Room)) (fun aa_ UU_ => aa_ = #[(.ref b)] ∧ Z.Warmed39 UU_.vm ∧ UU_.heap = h0) (fun _ _ _ _ _ => True) (fun _ UU_ oo_ UV_ => ∃ vv_ LL_, oo_ = .returned vv_ ∧ QADSUM Z b a_COUNT a_MAX a_SUM a_MIN i_COMPACT_STRINGS v_SIOOBE_FORMATTER h0 n0 vv_ UV_.heap LL_ ∧ FrameEnd UU_ oo_ UV_ LL_ ({ frames := 0, cells := 0, slots := 0, locals := 0 } : Room).cells ({ frames := 0, cells := 0, slots := 0, locals := 0 } : Room).slots) := by
  refine MetFree.of_bodySF (plainFor_of_name pn_4) hisR ?_
  intro p e s m args below meth c s₁ Bd hml0 hP hK
  obtain ⟨rfl, hZ, hh⟩ := hP
  have hx := Bd.exec
  have hby := Bd.bytes
  have hlk := BodyLoose.notSynchronized Bd
  have hml : c.maxLocals = 1 := hml0
  have hown : s.vm.findClass "com/example/latticework/latticework/Measure" = some m.cls := findClass_of_methodNamed Bd.named
  have hnm := (name_of_methodNamed Bd.named Bd.method).1
  have X0 : Stand p l e ({ frames := 0, cells := 0, slots := 0, locals := 0 } : Room) s m #[(.ref b)] below meth c s₁ [] 0 0 := Stand.of_body Bd
  have e0 : s₁.heap = h0 := by rw [← hh, Bd.state]; rfl
  have N0 := Fr.nil n0
  suffices hOW : OW p e below s (QADSUM Z b a_COUNT a_MAX a_SUM a_MIN i_COMPACT_STRINGS v_SIOOBE_FORMATTER h0 n0) 0 0 (s₁.setTop (mkF m 0 #[.val (.ref b)] [])) by
    obtain ⟨oq1_, oq2_, oq3_, oq4_⟩ := hOW
    exact ⟨oq1_, oq2_, castTop (ef_ADSUM m b) oq3_, oq4_⟩
  have hS' := hS
  obtain ⟨Sa_COUNT, Ea_COUNT, Sa_MAX, Ea_MAX, Sa_SUM, Ea_SUM, Sa_MIN, Ea_MIN, Si_COMPACT_STRINGS, Sv_SIOOBE_FORMATTER, Rv_SIOOBE_FORMATTER, Pi_COMPACT_STRINGS, Fa_MAX_ordinal, Fa_COUNT_ordinal, Fa_SUM_ordinal, Fa_MIN_ordinal⟩ := hS'
  refine OW.st (B := s₁.setTop (mkF m 1 #[.val (.ref b)] [(.ref b)])) (fun _ kk_ => XS.aloadN X0.here hx rfl (hb hby d12_0) rfl rfl kk_) ?_
  obtain ⟨T61, X61, e61, st61⟩ := getF X0 hx hZ hown (host := "") (Or.inl (w_64 hw)) Via.refl e0 F (g := (mkF m 1 #[.val (.ref b)] [(.ref b)])) rfl rfl (hb hby d12_1)
  refine OW.st (B := T61.setTop (mkF m 4 #[.val (.ref b)] [(.ref a_SUM)])) (st61) ?_
  obtain ⟨T62, X62, e62, st62⟩ := getS2 X61 hx hZ hown (host := "") (Or.inl (w_73 hw)) Via.refl e61 (Sa_COUNT.ext O0.2) (g := (mkF m 4 #[.val (.ref b)] [(.ref a_SUM)])) rfl (hb hby d12_4)
  refine OW.st (B := T62.setTop (mkF m 7 #[.val (.ref b)] [(.ref a_COUNT), (.ref a_SUM)])) (st62) ?_
  refine OW.st (B := T62.setTop (mkF m 10 #[.val (.ref b)] [])) (fun _ kk_ => Jvm.RoadKit.acmp (g := (mkF m 7 #[.val (.ref b)] [(.ref a_COUNT), (.ref a_SUM)])) X62 hx rfl rfl rfl (pc0 := 7) (pc' := 10) (same := false) rfl (hb hby d12_7) rfl (decide_eq_false fun q => (Ne.symm (Fld.ne Fa_COUNT_ordinal Fa_SUM_ordinal (fun q => absurd (Value.int.inj q) (by decide)))) (Value.ref.inj q)) (by decide) (by decide) kk_) ?_
  refine OW.st (B := T62.setTop (mkF m 11 #[.val (.ref b)] [(.ref b)])) (fun _ kk_ => XS.aloadN X62.here hx rfl (hb hby d12_10) rfl rfl kk_) ?_
  obtain ⟨T63, X63, e63, st63⟩ := getF X62 hx hZ hown (host := "") (Or.inl (w_64 hw)) Via.refl e62 F (g := (mkF m 11 #[.val (.ref b)] [(.ref b)])) rfl rfl (hb hby d12_11)
  refine OW.st (B := T63.setTop (mkF m 14 #[.val (.ref b)] [(.ref a_SUM)])) (st63) ?_
  obtain ⟨T64, X64, e64, st64⟩ := getS2 X63 hx hZ hown (host := "") (Or.inl (w_76 hw)) Via.refl e63 (Sa_SUM.ext O0.2) (g := (mkF m 14 #[.val (.ref b)] [(.ref a_SUM)])) rfl (hb hby d12_14)
  refine OW.st (B := T64.setTop (mkF m 17 #[.val (.ref b)] [(.ref a_SUM), (.ref a_SUM)])) (st64) ?_
  refine OW.st (B := T64.setTop (mkF m 20 #[.val (.ref b)] [])) (fun _ kk_ => Jvm.RoadKit.acmp (g := (mkF m 17 #[.val (.ref b)] [(.ref a_SUM), (.ref a_SUM)])) X64 hx rfl rfl rfl (pc0 := 17) (pc' := 20) (same := true) rfl (hb hby d12_17) rfl (decide_eq_true rfl) (by decide) (by decide) kk_) ?_
  refine OW.st (B := T64.setTop (mkF m 21 #[.val (.ref b)] [(.int (1 : Int32))])) (fun _ kk_ => XS.iconst X64.here hx rfl (hb hby d12_20) kk_) ?_
  refine OW.st (B := T64.setTop (mkF m 25 #[.val (.ref b)] [(.int (1 : Int32))])) (fun _ kk_ => XS.goto X64.here hx rfl (pc0 := 21) (pc' := 25) rfl (hb hby d12_21) (by decide) (by decide) kk_) ?_
  exact OW.ret X64 hx hlk (i := .ireturn) Bd.returns rfl (Or.inl ⟨rfl, Or.inr (Or.inl rfl), _, rfl⟩) (hb hby d12_25) e64 (by decide) (by decide) ⟨rfl, N0, rfl⟩
theorem ef_ADMIN (m : MethodId) (x0 : Addr) : entryFrame m #[(.ref x0)] 1 = mkF m 0 #[.val (.ref x0)] [] := by first | (simp [entryFrame, mkF, argsToLocals, Value.category]; done) | rfl
def QADMIN (Z : State) (b : Addr) (a_COUNT : Addr) (a_MAX : Addr) (a_SUM : Addr) (a_MIN : Addr) (i_COMPACT_STRINGS : Int32) (v_SIOOBE_FORMATTER : Value) (h0 : Heap) (n0 : Nat) (v : Option Value) (h : Heap) (L : List Loc) : Prop := v = some (.int 0) ∧ Fr n0 L ∧ h = h0
set_option maxRecDepth 65536 in
set_option maxHeartbeats 40000000 in
theorem rmADMIN (l : Launch) (Z : State) (a0 : Array Value) (hw : ∀ d ∈ tables_1, d.before a0 Z = true) (ws : List Jvm.Cond) (b : Addr) (a_COUNT : Addr) (a_MAX : Addr) (a_SUM : Addr) (a_MIN : Addr) (i_COMPACT_STRINGS : Int32) (v_SIOOBE_FORMATTER : Value) (h0 : Heap) (n0 : Nat) (O0 : Old Z n0 h0) (F : Fld Z h0 b "com/example/latticework/latticework/Measure" "function" "Lcom/example/latticework/latticework/Measure$Function;" (.ref a_MIN)) (hS : OwnS Z a_COUNT a_MAX a_SUM a_MIN i_COMPACT_STRINGS v_SIOOBE_FORMATTER) :
    MetFree l (⟨"com/example/latticework/latticework/Measure", "adds", "()Z"⟩ : MethodName) (head1 (Jvm.Cond.code (⟨"com/example/latticework/latticework/Measure", "adds", "()Z"⟩ : MethodName) prog_25_method_6_code 1 (some .boolean) :: ws) ({ frames := 0, cells := 0, slots := 0, locals := 0 } : Room)) (fun aa_ UU_ => aa_ = #[(.ref b)] ∧ Z.Warmed39 UU_.vm ∧ UU_.heap = h0) (fun _ _ _ _ _ => True) (fun _ UU_ oo_ UV_ => ∃ vv_ LL_, oo_ = .returned vv_ ∧ QADMIN Z b a_COUNT a_MAX a_SUM a_MIN i_COMPACT_STRINGS v_SIOOBE_FORMATTER h0 n0 vv_ UV_.heap LL_ ∧ FrameEnd UU_ oo_ UV_ LL_ ({ frames := 0, cells := 0, slots := 0, locals := 0 } : Room).cells ({ frames := 0, cells := 0, slots := 0, locals := 0 } : Room).slots) := by
  refine MetFree.of_bodySF (plainFor_of_name pn_4) hisR ?_
  intro p e s m args below meth c s₁ Bd hml0 hP hK
  obtain ⟨rfl, hZ, hh⟩ := hP
  have hx := Bd.exec
  have hby := Bd.bytes
  have hlk := BodyLoose.notSynchronized Bd
  have hml : c.maxLocals = 1 := hml0
  have hown : s.vm.findClass "com/example/latticework/latticework/Measure" = some m.cls := findClass_of_methodNamed Bd.named
  have hnm := (name_of_methodNamed Bd.named Bd.method).1
  have X0 : Stand p l e ({ frames := 0, cells := 0, slots := 0, locals := 0 } : Room) s m #[(.ref b)] below meth c s₁ [] 0 0 := Stand.of_body Bd
  have e0 : s₁.heap = h0 := by rw [← hh, Bd.state]; rfl
  have N0 := Fr.nil n0
  suffices hOW : OW p e below s (QADMIN Z b a_COUNT a_MAX a_SUM a_MIN i_COMPACT_STRINGS v_SIOOBE_FORMATTER h0 n0) 0 0 (s₁.setTop (mkF m 0 #[.val (.ref b)] [])) by
    obtain ⟨oq1_, oq2_, oq3_, oq4_⟩ := hOW
    exact ⟨oq1_, oq2_, castTop (ef_ADMIN m b) oq3_, oq4_⟩
  have hS' := hS
  obtain ⟨Sa_COUNT, Ea_COUNT, Sa_MAX, Ea_MAX, Sa_SUM, Ea_SUM, Sa_MIN, Ea_MIN, Si_COMPACT_STRINGS, Sv_SIOOBE_FORMATTER, Rv_SIOOBE_FORMATTER, Pi_COMPACT_STRINGS, Fa_MAX_ordinal, Fa_COUNT_ordinal, Fa_SUM_ordinal, Fa_MIN_ordinal⟩ := hS'
  refine OW.st (B := s₁.setTop (mkF m 1 #[.val (.ref b)] [(.ref b)])) (fun _ kk_ => XS.aloadN X0.here hx rfl (hb hby d12_0) rfl rfl kk_) ?_
  obtain ⟨T65, X65, e65, st65⟩ := getF X0 hx hZ hown (host := "") (Or.inl (w_64 hw)) Via.refl e0 F (g := (mkF m 1 #[.val (.ref b)] [(.ref b)])) rfl rfl (hb hby d12_1)
  refine OW.st (B := T65.setTop (mkF m 4 #[.val (.ref b)] [(.ref a_MIN)])) (st65) ?_
  obtain ⟨T66, X66, e66, st66⟩ := getS2 X65 hx hZ hown (host := "") (Or.inl (w_73 hw)) Via.refl e65 (Sa_COUNT.ext O0.2) (g := (mkF m 4 #[.val (.ref b)] [(.ref a_MIN)])) rfl (hb hby d12_4)
  refine OW.st (B := T66.setTop (mkF m 7 #[.val (.ref b)] [(.ref a_COUNT), (.ref a_MIN)])) (st66) ?_
  refine OW.st (B := T66.setTop (mkF m 10 #[.val (.ref b)] [])) (fun _ kk_ => Jvm.RoadKit.acmp (g := (mkF m 7 #[.val (.ref b)] [(.ref a_COUNT), (.ref a_MIN)])) X66 hx rfl rfl rfl (pc0 := 7) (pc' := 10) (same := false) rfl (hb hby d12_7) rfl (decide_eq_false fun q => (Ne.symm (Fld.ne Fa_COUNT_ordinal Fa_MIN_ordinal (fun q => absurd (Value.int.inj q) (by decide)))) (Value.ref.inj q)) (by decide) (by decide) kk_) ?_
  refine OW.st (B := T66.setTop (mkF m 11 #[.val (.ref b)] [(.ref b)])) (fun _ kk_ => XS.aloadN X66.here hx rfl (hb hby d12_10) rfl rfl kk_) ?_
  obtain ⟨T67, X67, e67, st67⟩ := getF X66 hx hZ hown (host := "") (Or.inl (w_64 hw)) Via.refl e66 F (g := (mkF m 11 #[.val (.ref b)] [(.ref b)])) rfl rfl (hb hby d12_11)
  refine OW.st (B := T67.setTop (mkF m 14 #[.val (.ref b)] [(.ref a_MIN)])) (st67) ?_
  obtain ⟨T68, X68, e68, st68⟩ := getS2 X67 hx hZ hown (host := "") (Or.inl (w_76 hw)) Via.refl e67 (Sa_SUM.ext O0.2) (g := (mkF m 14 #[.val (.ref b)] [(.ref a_MIN)])) rfl (hb hby d12_14)
  refine OW.st (B := T68.setTop (mkF m 17 #[.val (.ref b)] [(.ref a_SUM), (.ref a_MIN)])) (st68) ?_
  refine OW.st (B := T68.setTop (mkF m 24 #[.val (.ref b)] [])) (fun _ kk_ => Jvm.RoadKit.acmp (g := (mkF m 17 #[.val (.ref b)] [(.ref a_SUM), (.ref a_MIN)])) X68 hx rfl rfl rfl (pc0 := 17) (pc' := 24) (same := false) rfl (hb hby d12_17) rfl (decide_eq_false fun q => (Ne.symm (Fld.ne Fa_SUM_ordinal Fa_MIN_ordinal (fun q => absurd (Value.int.inj q) (by decide)))) (Value.ref.inj q)) (by decide) (by decide) kk_) ?_
  refine OW.st (B := T68.setTop (mkF m 25 #[.val (.ref b)] [(.int (0 : Int32))])) (fun _ kk_ => XS.iconst X68.here hx rfl (hb hby d12_24) kk_) ?_
  exact OW.ret X68 hx hlk (i := .ireturn) Bd.returns rfl (Or.inl ⟨rfl, Or.inr (Or.inl rfl), _, rfl⟩) (hb hby d12_25) e68 (by decide) (by decide) ⟨rfl, N0, rfl⟩
theorem ef_ADMAX (m : MethodId) (x0 : Addr) : entryFrame m #[(.ref x0)] 1 = mkF m 0 #[.val (.ref x0)] [] := by first | (simp [entryFrame, mkF, argsToLocals, Value.category]; done) | rfl
def QADMAX (Z : State) (b : Addr) (a_COUNT : Addr) (a_MAX : Addr) (a_SUM : Addr) (a_MIN : Addr) (i_COMPACT_STRINGS : Int32) (v_SIOOBE_FORMATTER : Value) (h0 : Heap) (n0 : Nat) (v : Option Value) (h : Heap) (L : List Loc) : Prop := v = some (.int 0) ∧ Fr n0 L ∧ h = h0
set_option maxRecDepth 65536 in
set_option maxHeartbeats 40000000 in
theorem rmADMAX (l : Launch) (Z : State) (a0 : Array Value) (hw : ∀ d ∈ tables_1, d.before a0 Z = true) (ws : List Jvm.Cond) (b : Addr) (a_COUNT : Addr) (a_MAX : Addr) (a_SUM : Addr) (a_MIN : Addr) (i_COMPACT_STRINGS : Int32) (v_SIOOBE_FORMATTER : Value) (h0 : Heap) (n0 : Nat) (O0 : Old Z n0 h0) (F : Fld Z h0 b "com/example/latticework/latticework/Measure" "function" "Lcom/example/latticework/latticework/Measure$Function;" (.ref a_MAX)) (hS : OwnS Z a_COUNT a_MAX a_SUM a_MIN i_COMPACT_STRINGS v_SIOOBE_FORMATTER) :
    MetFree l (⟨"com/example/latticework/latticework/Measure", "adds", "()Z"⟩ : MethodName) (head1 (Jvm.Cond.code (⟨"com/example/latticework/latticework/Measure", "adds", "()Z"⟩ : MethodName) prog_25_method_6_code 1 (some .boolean) :: ws) ({ frames := 0, cells := 0, slots := 0, locals := 0 } : Room)) (fun aa_ UU_ => aa_ = #[(.ref b)] ∧ Z.Warmed39 UU_.vm ∧ UU_.heap = h0) (fun _ _ _ _ _ => True) (fun _ UU_ oo_ UV_ => ∃ vv_ LL_, oo_ = .returned vv_ ∧ QADMAX Z b a_COUNT a_MAX a_SUM a_MIN i_COMPACT_STRINGS v_SIOOBE_FORMATTER h0 n0 vv_ UV_.heap LL_ ∧ FrameEnd UU_ oo_ UV_ LL_ ({ frames := 0, cells := 0, slots := 0, locals := 0 } : Room).cells ({ frames := 0, cells := 0, slots := 0, locals := 0 } : Room).slots) := by
  refine MetFree.of_bodySF (plainFor_of_name pn_4) hisR ?_
  intro p e s m args below meth c s₁ Bd hml0 hP hK
  obtain ⟨rfl, hZ, hh⟩ := hP
  have hx := Bd.exec
  have hby := Bd.bytes
  have hlk := BodyLoose.notSynchronized Bd
  have hml : c.maxLocals = 1 := hml0
  have hown : s.vm.findClass "com/example/latticework/latticework/Measure" = some m.cls := findClass_of_methodNamed Bd.named
  have hnm := (name_of_methodNamed Bd.named Bd.method).1
  have X0 : Stand p l e ({ frames := 0, cells := 0, slots := 0, locals := 0 } : Room) s m #[(.ref b)] below meth c s₁ [] 0 0 := Stand.of_body Bd
  have e0 : s₁.heap = h0 := by rw [← hh, Bd.state]; rfl
  have N0 := Fr.nil n0
  suffices hOW : OW p e below s (QADMAX Z b a_COUNT a_MAX a_SUM a_MIN i_COMPACT_STRINGS v_SIOOBE_FORMATTER h0 n0) 0 0 (s₁.setTop (mkF m 0 #[.val (.ref b)] [])) by
    obtain ⟨oq1_, oq2_, oq3_, oq4_⟩ := hOW
    exact ⟨oq1_, oq2_, castTop (ef_ADMAX m b) oq3_, oq4_⟩
  have hS' := hS
  obtain ⟨Sa_COUNT, Ea_COUNT, Sa_MAX, Ea_MAX, Sa_SUM, Ea_SUM, Sa_MIN, Ea_MIN, Si_COMPACT_STRINGS, Sv_SIOOBE_FORMATTER, Rv_SIOOBE_FORMATTER, Pi_COMPACT_STRINGS, Fa_MAX_ordinal, Fa_COUNT_ordinal, Fa_SUM_ordinal, Fa_MIN_ordinal⟩ := hS'
  refine OW.st (B := s₁.setTop (mkF m 1 #[.val (.ref b)] [(.ref b)])) (fun _ kk_ => XS.aloadN X0.here hx rfl (hb hby d12_0) rfl rfl kk_) ?_
  obtain ⟨T69, X69, e69, st69⟩ := getF X0 hx hZ hown (host := "") (Or.inl (w_64 hw)) Via.refl e0 F (g := (mkF m 1 #[.val (.ref b)] [(.ref b)])) rfl rfl (hb hby d12_1)
  refine OW.st (B := T69.setTop (mkF m 4 #[.val (.ref b)] [(.ref a_MAX)])) (st69) ?_
  obtain ⟨T70, X70, e70, st70⟩ := getS2 X69 hx hZ hown (host := "") (Or.inl (w_73 hw)) Via.refl e69 (Sa_COUNT.ext O0.2) (g := (mkF m 4 #[.val (.ref b)] [(.ref a_MAX)])) rfl (hb hby d12_4)
  refine OW.st (B := T70.setTop (mkF m 7 #[.val (.ref b)] [(.ref a_COUNT), (.ref a_MAX)])) (st70) ?_
  refine OW.st (B := T70.setTop (mkF m 10 #[.val (.ref b)] [])) (fun _ kk_ => Jvm.RoadKit.acmp (g := (mkF m 7 #[.val (.ref b)] [(.ref a_COUNT), (.ref a_MAX)])) X70 hx rfl rfl rfl (pc0 := 7) (pc' := 10) (same := false) rfl (hb hby d12_7) rfl (decide_eq_false fun q => (Fld.ne Fa_MAX_ordinal Fa_COUNT_ordinal (fun q => absurd (Value.int.inj q) (by decide))) (Value.ref.inj q)) (by decide) (by decide) kk_) ?_
  refine OW.st (B := T70.setTop (mkF m 11 #[.val (.ref b)] [(.ref b)])) (fun _ kk_ => XS.aloadN X70.here hx rfl (hb hby d12_10) rfl rfl kk_) ?_
  obtain ⟨T71, X71, e71, st71⟩ := getF X70 hx hZ hown (host := "") (Or.inl (w_64 hw)) Via.refl e70 F (g := (mkF m 11 #[.val (.ref b)] [(.ref b)])) rfl rfl (hb hby d12_11)
  refine OW.st (B := T71.setTop (mkF m 14 #[.val (.ref b)] [(.ref a_MAX)])) (st71) ?_
  obtain ⟨T72, X72, e72, st72⟩ := getS2 X71 hx hZ hown (host := "") (Or.inl (w_76 hw)) Via.refl e71 (Sa_SUM.ext O0.2) (g := (mkF m 14 #[.val (.ref b)] [(.ref a_MAX)])) rfl (hb hby d12_14)
  refine OW.st (B := T72.setTop (mkF m 17 #[.val (.ref b)] [(.ref a_SUM), (.ref a_MAX)])) (st72) ?_
  refine OW.st (B := T72.setTop (mkF m 24 #[.val (.ref b)] [])) (fun _ kk_ => Jvm.RoadKit.acmp (g := (mkF m 17 #[.val (.ref b)] [(.ref a_SUM), (.ref a_MAX)])) X72 hx rfl rfl rfl (pc0 := 17) (pc' := 24) (same := false) rfl (hb hby d12_17) rfl (decide_eq_false fun q => (Fld.ne Fa_MAX_ordinal Fa_SUM_ordinal (fun q => absurd (Value.int.inj q) (by decide))) (Value.ref.inj q)) (by decide) (by decide) kk_) ?_
  refine OW.st (B := T72.setTop (mkF m 25 #[.val (.ref b)] [(.int (0 : Int32))])) (fun _ kk_ => XS.iconst X72.here hx rfl (hb hby d12_24) kk_) ?_
  exact OW.ret X72 hx hlk (i := .ireturn) Bd.returns rfl (Or.inl ⟨rfl, Or.inr (Or.inl rfl), _, rfl⟩) (hb hby d12_25) e72 (by decide) (by decide) ⟨rfl, N0, rfl⟩
theorem ef_Mmin (m : MethodId) (x0 : Int64) (x1 : Int64) : entryFrame m #[(.long x0), (.long x1)] 4 = mkF m 0 #[.val (.long x0), .second, .val (.long x1), .second] [] := by first | (simp [entryFrame, mkF, argsToLocals, Value.category]; done) | rfl
def QMmin (Z : State) (x1 : Int64) (y1 : Int64) (h0 : Heap) (n0 : Nat) (v : Option Value) (h : Heap) (L : List Loc) : Prop := ∃ r : Int64, v = some (.long r) ∧ Fr n0 L ∧ h = h0 ∧ (r = x1 ∨ r = y1)
set_option maxRecDepth 65536 in
set_option maxHeartbeats 40000000 in
theorem rmMmin (l : Launch) (Z : State) (a0 : Array Value) (hw : ∀ d ∈ tables_1, d.before a0 Z = true) (ws : List Jvm.Cond) (x1 : Int64) (y1 : Int64) (h0 : Heap) (n0 : Nat) (O0 : Old Z n0 h0) :
    MetFree l (⟨"java/lang/Math", "min", "(JJ)J"⟩ : MethodName) (head1 (Jvm.Cond.code (⟨"java/lang/Math", "min", "(JJ)J"⟩ : MethodName) jdk_29_method_70_code 4 (some .long) :: ws) ({ frames := 0, cells := 0, slots := 0, locals := 0 } : Room)) (fun aa_ UU_ => aa_ = #[(.long x1), (.long y1)] ∧ Z.Warmed39 UU_.vm ∧ UU_.heap = h0) (fun _ _ _ _ _ => True) (fun _ UU_ oo_ UV_ => ∃ vv_ LL_, oo_ = .returned vv_ ∧ QMmin Z x1 y1 h0 n0 vv_ UV_.heap LL_ ∧ FrameEnd UU_ oo_ UV_ LL_ ({ frames := 0, cells := 0, slots := 0, locals := 0 } : Room).cells ({ frames := 0, cells := 0, slots := 0, locals := 0 } : Room).slots) := by
  refine MetFree.of_bodySF (Jvm.Free.JP.mathPlain rfl (by decide +kernel)) hisR ?_
  intro p e s m args below meth c s₁ Bd hml0 hP hK
  obtain ⟨rfl, hZ, hh⟩ := hP
  have hx := Bd.exec
  have hby := Bd.bytes
  have hlk := BodyLoose.notSynchronized Bd
  have hml : c.maxLocals = 4 := hml0
  have hown : s.vm.findClass "java/lang/Math" = some m.cls := findClass_of_methodNamed Bd.named
  have hnm := (name_of_methodNamed Bd.named Bd.method).1
  have X0 : Stand p l e ({ frames := 0, cells := 0, slots := 0, locals := 0 } : Room) s m #[(.long x1), (.long y1)] below meth c s₁ [] 0 0 := Stand.of_body Bd
  have e0 : s₁.heap = h0 := by rw [← hh, Bd.state]; rfl
  have N0 := Fr.nil n0
  suffices hOW : OW p e below s (QMmin Z x1 y1 h0 n0) 0 0 (s₁.setTop (mkF m 0 #[.val (.long x1), .second, .val (.long y1), .second] [])) by
    obtain ⟨oq1_, oq2_, oq3_, oq4_⟩ := hOW
    exact ⟨oq1_, oq2_, castTop (ef_Mmin m x1 y1) oq3_, oq4_⟩
  refine OW.st (B := s₁.setTop (mkF m 1 #[.val (.long x1), .second, .val (.long y1), .second] [(.long x1)])) (fun _ kk_ => XS.lloadN X0.here hx rfl (hb hby d15_0) rfl kk_) ?_
  refine OW.st (B := s₁.setTop (mkF m 2 #[.val (.long x1), .second, .val (.long y1), .second] [(.long y1), (.long x1)])) (fun _ kk_ => XS.lloadN X0.here hx rfl (hb hby d15_1) rfl kk_) ?_
  refine OW.st (B := s₁.setTop (mkF m 3 #[.val (.long x1), .second, .val (.long y1), .second] [(.int (lcmpW x1 y1))])) (fun _ kk_ => XS.lcmp X0.here hx rfl (hb hby d15_2) rfl kk_) ?_
  by_cases hc73 : (0 : Int32) < (lcmpW x1 y1)
  · refine OW.st (B := s₁.setTop (mkF m 10 #[.val (.long x1), .second, .val (.long y1), .second] [])) (fun _ kk_ => XS.ifYes X0.here hx rfl (pc0 := 3) (pc' := 10) rfl (hb hby d15_3) rfl ((if0 _ _).trans (tlt hc73).2.2.1) (by decide) (by decide) kk_) ?_
    refine OW.st (B := s₁.setTop (mkF m 11 #[.val (.long x1), .second, .val (.long y1), .second] [(.long y1)])) (fun _ kk_ => XS.lloadN X0.here hx rfl (hb hby d15_10) rfl kk_) ?_
    exact OW.ret X0 hx hlk (i := .lreturn) Bd.returns rfl (Or.inr (Or.inl ⟨rfl, rfl, _, rfl⟩)) (hb hby d15_11) e0 (by decide) (by decide) ⟨y1, rfl, N0, rfl, Or.inr rfl⟩
  · refine OW.st (B := s₁.setTop (mkF m 6 #[.val (.long x1), .second, .val (.long y1), .second] [])) (fun _ kk_ => XS.ifNo X0.here hx rfl (hb hby d15_3) rfl ((if0 _ _).trans (flt hc73).2.2.1) kk_) ?_
    refine OW.st (B := s₁.setTop (mkF m 7 #[.val (.long x1), .second, .val (.long y1), .second] [(.long x1)])) (fun _ kk_ => XS.lloadN X0.here hx rfl (hb hby d15_6) rfl kk_) ?_
    refine OW.st (B := s₁.setTop (mkF m 11 #[.val (.long x1), .second, .val (.long y1), .second] [(.long x1)])) (fun _ kk_ => XS.goto X0.here hx rfl (pc0 := 7) (pc' := 11) rfl (hb hby d15_7) (by decide) (by decide) kk_) ?_
    exact OW.ret X0 hx hlk (i := .lreturn) Bd.returns rfl (Or.inr (Or.inl ⟨rfl, rfl, _, rfl⟩)) (hb hby d15_11) e0 (by decide) (by decide) ⟨x1, rfl, N0, rfl, Or.inl rfl⟩
theorem ef_Mmax (m : MethodId) (x0 : Int64) (x1 : Int64) : entryFrame m #[(.long x0), (.long x1)] 4 = mkF m 0 #[.val (.long x0), .second, .val (.long x1), .second] [] := by first | (simp [entryFrame, mkF, argsToLocals, Value.category]; done) | rfl
def QMmax (Z : State) (x1 : Int64) (y1 : Int64) (h0 : Heap) (n0 : Nat) (v : Option Value) (h : Heap) (L : List Loc) : Prop := ∃ r : Int64, v = some (.long r) ∧ Fr n0 L ∧ h = h0 ∧ (r = x1 ∨ r = y1)
set_option maxRecDepth 65536 in
set_option maxHeartbeats 40000000 in
theorem rmMmax (l : Launch) (Z : State) (a0 : Array Value) (hw : ∀ d ∈ tables_1, d.before a0 Z = true) (ws : List Jvm.Cond) (x1 : Int64) (y1 : Int64) (h0 : Heap) (n0 : Nat) (O0 : Old Z n0 h0) :
    MetFree l (⟨"java/lang/Math", "max", "(JJ)J"⟩ : MethodName) (head1 (Jvm.Cond.code (⟨"java/lang/Math", "max", "(JJ)J"⟩ : MethodName) jdk_29_method_66_code 4 (some .long) :: ws) ({ frames := 0, cells := 0, slots := 0, locals := 0 } : Room)) (fun aa_ UU_ => aa_ = #[(.long x1), (.long y1)] ∧ Z.Warmed39 UU_.vm ∧ UU_.heap = h0) (fun _ _ _ _ _ => True) (fun _ UU_ oo_ UV_ => ∃ vv_ LL_, oo_ = .returned vv_ ∧ QMmax Z x1 y1 h0 n0 vv_ UV_.heap LL_ ∧ FrameEnd UU_ oo_ UV_ LL_ ({ frames := 0, cells := 0, slots := 0, locals := 0 } : Room).cells ({ frames := 0, cells := 0, slots := 0, locals := 0 } : Room).slots) := by
  refine MetFree.of_bodySF (Jvm.Free.JP.mathPlain rfl (by decide +kernel)) hisR ?_
  intro p e s m args below meth c s₁ Bd hml0 hP hK
  obtain ⟨rfl, hZ, hh⟩ := hP
  have hx := Bd.exec
  have hby := Bd.bytes
  have hlk := BodyLoose.notSynchronized Bd
  have hml : c.maxLocals = 4 := hml0
  have hown : s.vm.findClass "java/lang/Math" = some m.cls := findClass_of_methodNamed Bd.named
  have hnm := (name_of_methodNamed Bd.named Bd.method).1
  have X0 : Stand p l e ({ frames := 0, cells := 0, slots := 0, locals := 0 } : Room) s m #[(.long x1), (.long y1)] below meth c s₁ [] 0 0 := Stand.of_body Bd
  have e0 : s₁.heap = h0 := by rw [← hh, Bd.state]; rfl
  have N0 := Fr.nil n0
  suffices hOW : OW p e below s (QMmax Z x1 y1 h0 n0) 0 0 (s₁.setTop (mkF m 0 #[.val (.long x1), .second, .val (.long y1), .second] [])) by
    obtain ⟨oq1_, oq2_, oq3_, oq4_⟩ := hOW
    exact ⟨oq1_, oq2_, castTop (ef_Mmax m x1 y1) oq3_, oq4_⟩
  refine OW.st (B := s₁.setTop (mkF m 1 #[.val (.long x1), .second, .val (.long y1), .second] [(.long x1)])) (fun _ kk_ => XS.lloadN X0.here hx rfl (hb hby d14_0) rfl kk_) ?_
  refine OW.st (B := s₁.setTop (mkF m 2 #[.val (.long x1), .second, .val (.long y1), .second] [(.long y1), (.long x1)])) (fun _ kk_ => XS.lloadN X0.here hx rfl (hb hby d14_1) rfl kk_) ?_
  refine OW.st (B := s₁.setTop (mkF m 3 #[.val (.long x1), .second, .val (.long y1), .second] [(.int (lcmpW x1 y1))])) (fun _ kk_ => XS.lcmp X0.here hx rfl (hb hby d14_2) rfl kk_) ?_
  by_cases hc74 : (lcmpW x1 y1) < (0 : Int32)
  · refine OW.st (B := s₁.setTop (mkF m 10 #[.val (.long x1), .second, .val (.long y1), .second] [])) (fun _ kk_ => XS.ifYes X0.here hx rfl (pc0 := 3) (pc' := 10) rfl (hb hby d14_3) rfl ((if0 _ _).trans (tlt hc74).1) (by decide) (by decide) kk_) ?_
    refine OW.st (B := s₁.setTop (mkF m 11 #[.val (.long x1), .second, .val (.long y1), .second] [(.long y1)])) (fun _ kk_ => XS.lloadN X0.here hx rfl (hb hby d14_10) rfl kk_) ?_
    exact OW.ret X0 hx hlk (i := .lreturn) Bd.returns rfl (Or.inr (Or.inl ⟨rfl, rfl, _, rfl⟩)) (hb hby d14_11) e0 (by decide) (by decide) ⟨y1, rfl, N0, rfl, Or.inr rfl⟩
  · refine OW.st (B := s₁.setTop (mkF m 6 #[.val (.long x1), .second, .val (.long y1), .second] [])) (fun _ kk_ => XS.ifNo X0.here hx rfl (hb hby d14_3) rfl ((if0 _ _).trans (flt hc74).1) kk_) ?_
    refine OW.st (B := s₁.setTop (mkF m 7 #[.val (.long x1), .second, .val (.long y1), .second] [(.long x1)])) (fun _ kk_ => XS.lloadN X0.here hx rfl (hb hby d14_6) rfl kk_) ?_
    refine OW.st (B := s₁.setTop (mkF m 11 #[.val (.long x1), .second, .val (.long y1), .second] [(.long x1)])) (fun _ kk_ => XS.goto X0.here hx rfl (pc0 := 7) (pc' := 11) rfl (hb hby d14_7) (by decide) (by decide) kk_) ?_
    exact OW.ret X0 hx hlk (i := .lreturn) Bd.returns rfl (Or.inr (Or.inl ⟨rfl, rfl, _, rfl⟩)) (hb hby d14_11) e0 (by decide) (by decide) ⟨x1, rfl, N0, rfl, Or.inl rfl⟩
theorem ef_PKMIN (m : MethodId) (x0 : Addr) (x1 : Int64) (x2 : Int64) : entryFrame m #[(.ref x0), (.long x1), (.long x2)] 5 = mkF m 0 #[.val (.ref x0), .val (.long x1), .second, .val (.long x2), .second] [] := by first | (simp [entryFrame, mkF, argsToLocals, Value.category]; done) | rfl
def QPKMIN (Z : State) (b : Addr) (x1 : Int64) (y1 : Int64) (a_COUNT : Addr) (a_MAX : Addr) (a_SUM : Addr) (a_MIN : Addr) (i_COMPACT_STRINGS : Int32) (v_SIOOBE_FORMATTER : Value) (h0 : Heap) (n0 : Nat) (v : Option Value) (h : Heap) (L : List Loc) : Prop := ∃ r : Int64, v = some (.long r) ∧ Fr n0 L ∧ h = h0 ∧ (r = x1 ∨ r = y1)
set_option maxRecDepth 65536 in
set_option maxHeartbeats 40000000 in
theorem rmPKMIN (l : Launch) (Z : State) (a0 : Array Value) (hw : ∀ d ∈ tables_1, d.before a0 Z = true) (ws : List Jvm.Cond) (b : Addr) (x1 : Int64) (y1 : Int64) (a_COUNT : Addr) (a_MAX : Addr) (a_SUM : Addr) (a_MIN : Addr) (i_COMPACT_STRINGS : Int32) (v_SIOOBE_FORMATTER : Value) (h0 : Heap) (n0 : Nat) (O0 : Old Z n0 h0) (F : Fld Z h0 b "com/example/latticework/latticework/Measure" "function" "Lcom/example/latticework/latticework/Measure$Function;" (.ref a_MIN)) (hS : OwnS Z a_COUNT a_MAX a_SUM a_MIN i_COMPACT_STRINGS v_SIOOBE_FORMATTER) :
    MetFree l (⟨"com/example/latticework/latticework/Measure", "pick", "(JJ)J"⟩ : MethodName) (head1 (Jvm.Cond.code (⟨"com/example/latticework/latticework/Measure", "pick", "(JJ)J"⟩ : MethodName) prog_25_method_7_code 5 (some .long) :: ws) ({ frames := 1, cells := 0, slots := 0, locals := 15 } : Room)) (fun aa_ UU_ => aa_ = #[(.ref b), (.long x1), (.long y1)] ∧ Z.Warmed39 UU_.vm ∧ UU_.heap = h0) (fun _ _ _ _ _ => True) (fun _ UU_ oo_ UV_ => ∃ vv_ LL_, oo_ = .returned vv_ ∧ QPKMIN Z b x1 y1 a_COUNT a_MAX a_SUM a_MIN i_COMPACT_STRINGS v_SIOOBE_FORMATTER h0 n0 vv_ UV_.heap LL_ ∧ FrameEnd UU_ oo_ UV_ LL_ ({ frames := 1, cells := 0, slots := 0, locals := 15 } : Room).cells ({ frames := 1, cells := 0, slots := 0, locals := 15 } : Room).slots) := by
  refine MetFree.of_bodySF (plainFor_of_name pn_4) hisR ?_
  intro p e s m args below meth c s₁ Bd hml0 hP hK
  obtain ⟨rfl, hZ, hh⟩ := hP
  have hx := Bd.exec
  have hby := Bd.bytes
  have hlk := BodyLoose.notSynchronized Bd
  have hml : c.maxLocals = 5 := hml0
  have hown : s.vm.findClass "com/example/latticework/latticework/Measure" = some m.cls := findClass_of_methodNamed Bd.named
  have hnm := (name_of_methodNamed Bd.named Bd.method).1
  have X0 : Stand p l e ({ frames := 1, cells := 0, slots := 0, locals := 15 } : Room) s m #[(.ref b), (.long x1), (.long y1)] below meth c s₁ [] 0 0 := Stand.of_body Bd
  have e0 : s₁.heap = h0 := by rw [← hh, Bd.state]; rfl
  have N0 := Fr.nil n0
  suffices hOW : OW p e below s (QPKMIN Z b x1 y1 a_COUNT a_MAX a_SUM a_MIN i_COMPACT_STRINGS v_SIOOBE_FORMATTER h0 n0) 0 0 (s₁.setTop (mkF m 0 #[.val (.ref b), .val (.long x1), .second, .val (.long y1), .second] [])) by
    obtain ⟨oq1_, oq2_, oq3_, oq4_⟩ := hOW
    exact ⟨oq1_, oq2_, castTop (ef_PKMIN m b x1 y1) oq3_, oq4_⟩
  have hS' := hS
  obtain ⟨Sa_COUNT, Ea_COUNT, Sa_MAX, Ea_MAX, Sa_SUM, Ea_SUM, Sa_MIN, Ea_MIN, Si_COMPACT_STRINGS, Sv_SIOOBE_FORMATTER, Rv_SIOOBE_FORMATTER, Pi_COMPACT_STRINGS, Fa_MAX_ordinal, Fa_COUNT_ordinal, Fa_SUM_ordinal, Fa_MIN_ordinal⟩ := hS'
  refine OW.st (B := s₁.setTop (mkF m 1 #[.val (.ref b), .val (.long x1), .second, .val (.long y1), .second] [(.ref b)])) (fun _ kk_ => XS.aloadN X0.here hx rfl (hb hby d13_0) rfl rfl kk_) ?_
  obtain ⟨T75, X75, e75, st75⟩ := getF X0 hx hZ hown (host := "") (Or.inl (w_64 hw)) Via.refl e0 F (g := (mkF m 1 #[.val (.ref b), .val (.long x1), .second, .val (.long y1), .second] [(.ref b)])) rfl rfl (hb hby d13_1)
  refine OW.st (B := T75.setTop (mkF m 4 #[.val (.ref b), .val (.long x1), .second, .val (.long y1), .second] [(.ref a_MIN)])) (st75) ?_
  obtain ⟨T76, X76, e76, st76⟩ := getS2 X75 hx hZ hown (host := "") (Or.inl (w_83 hw)) Via.refl e75 (Sa_MIN.ext O0.2) (g := (mkF m 4 #[.val (.ref b), .val (.long x1), .second, .val (.long y1), .second] [(.ref a_MIN)])) rfl (hb hby d13_4)
  refine OW.st (B := T76.setTop (mkF m 7 #[.val (.ref b), .val (.long x1), .second, .val (.long y1), .second] [(.ref a_MIN), (.ref a_MIN)])) (st76) ?_
  refine OW.st (B := T76.setTop (mkF m 10 #[.val (.ref b), .val (.long x1), .second, .val (.long y1), .second] [])) (fun _ kk_ => Jvm.RoadKit.acmp (g := (mkF m 7 #[.val (.ref b), .val (.long x1), .second, .val (.long y1), .second] [(.ref a_MIN), (.ref a_MIN)])) X76 hx rfl rfl rfl (pc0 := 7) (pc' := 10) (same := true) rfl (hb hby d13_7) rfl (decide_eq_true rfl) (by decide) (by decide) kk_) ?_
  refine OW.st (B := T76.setTop (mkF m 11 #[.val (.ref b), .val (.long x1), .second, .val (.long y1), .second] [(.long x1)])) (fun _ kk_ => XS.lloadN X76.here hx rfl (hb hby d13_10) rfl kk_) ?_
  refine OW.st (B := T76.setTop (mkF m 12 #[.val (.ref b), .val (.long x1), .second, .val (.long y1), .second] [(.long y1), (.long x1)])) (fun _ kk_ => XS.lloadN X76.here hx rfl (hb hby d13_11) rfl kk_) ?_
  obtain ⟨_, _, ⟨T77, L77, k77, n77⟩, -, X77, ⟨Lc77, hQ77, l77, y77, z77⟩, st77⟩ := Jvm.LawKit.callS X76 hx (y := (⟨"java/lang/Math", "min", "(JJ)J"⟩ : MethodName)) hown (mvT hZ (w_91 hw)) (mvT hZ (w_92 hw)) (mvT hZ (w_87 hw)) (mvT hZ (w_93 hw)) (by decide) (backOf (W := 0) (rmMmin l Z a0 hw [] x1 y1 h0 n0 O0 ) hZ (w_93 hw) (w_87 hw) (by decide) (by decide)) (g := (mkF m 12 #[.val (.ref b), .val (.long x1), .second, .val (.long y1), .second] [(.long y1), (.long x1)])) rfl (by rw [hml]; rfl) (argsL := [(.long x1), (.long y1)]) (rest := []) (lenOf pd_8 rfl) rfl (by show 2 * 0 + _ ≤ _; exact Nat.le_of_eq rfl) (hb hby d13_12) (fun _ _ => ⟨rfl, e76, (by decide : 0 + 0 ≤ _), (by decide : 0 + 0 ≤ _)⟩)
  dsimp only [Pt.U, Pt.locs, Pt.cells, Pt.slots] at X77 l77 y77 z77 st77 hQ77
  subst l77 y77 z77
  obtain ⟨r77, rfl, Nq77, e77, hr77⟩ := hQ77
  have N77 := Fr.app N0 Nq77
  refine OW.st (B := T77.setTop (mkF m 15 #[.val (.ref b), .val (.long x1), .second, .val (.long y1), .second] [(.long r77)])) (st77) ?_
  refine OW.st (B := T77.setTop (mkF m 23 #[.val (.ref b), .val (.long x1), .second, .val (.long y1), .second] [(.long r77)])) (fun _ kk_ => XS.goto X77.here hx rfl (pc0 := 15) (pc' := 23) rfl (hb hby d13_15) (by decide) (by decide) kk_) ?_
  exact OW.ret X77 hx hlk (i := .lreturn) Bd.returns rfl (Or.inr (Or.inl ⟨rfl, rfl, _, rfl⟩)) (hb hby d13_23) e77 (by decide) (by decide) ⟨r77, rfl, N77, rfl, hr77⟩
theorem ef_PKMAX (m : MethodId) (x0 : Addr) (x1 : Int64) (x2 : Int64) : entryFrame m #[(.ref x0), (.long x1), (.long x2)] 5 = mkF m 0 #[.val (.ref x0), .val (.long x1), .second, .val (.long x2), .second] [] := by first | (simp [entryFrame, mkF, argsToLocals, Value.category]; done) | rfl
def QPKMAX (Z : State) (b : Addr) (x1 : Int64) (y1 : Int64) (a_COUNT : Addr) (a_MAX : Addr) (a_SUM : Addr) (a_MIN : Addr) (i_COMPACT_STRINGS : Int32) (v_SIOOBE_FORMATTER : Value) (h0 : Heap) (n0 : Nat) (v : Option Value) (h : Heap) (L : List Loc) : Prop := ∃ r : Int64, v = some (.long r) ∧ Fr n0 L ∧ h = h0 ∧ (r = x1 ∨ r = y1)
set_option maxRecDepth 65536 in
set_option maxHeartbeats 40000000 in
theorem rmPKMAX (l : Launch) (Z : State) (a0 : Array Value) (hw : ∀ d ∈ tables_1, d.before a0 Z = true) (ws : List Jvm.Cond) (b : Addr) (x1 : Int64) (y1 : Int64) (a_COUNT : Addr) (a_MAX : Addr) (a_SUM : Addr) (a_MIN : Addr) (i_COMPACT_STRINGS : Int32) (v_SIOOBE_FORMATTER : Value) (h0 : Heap) (n0 : Nat) (O0 : Old Z n0 h0) (F : Fld Z h0 b "com/example/latticework/latticework/Measure" "function" "Lcom/example/latticework/latticework/Measure$Function;" (.ref a_MAX)) (hS : OwnS Z a_COUNT a_MAX a_SUM a_MIN i_COMPACT_STRINGS v_SIOOBE_FORMATTER) :
    MetFree l (⟨"com/example/latticework/latticework/Measure", "pick", "(JJ)J"⟩ : MethodName) (head1 (Jvm.Cond.code (⟨"com/example/latticework/latticework/Measure", "pick", "(JJ)J"⟩ : MethodName) prog_25_method_7_code 5 (some .long) :: ws) ({ frames := 1, cells := 0, slots := 0, locals := 15 } : Room)) (fun aa_ UU_ => aa_ = #[(.ref b), (.long x1), (.long y1)] ∧ Z.Warmed39 UU_.vm ∧ UU_.heap = h0) (fun _ _ _ _ _ => True) (fun _ UU_ oo_ UV_ => ∃ vv_ LL_, oo_ = .returned vv_ ∧ QPKMAX Z b x1 y1 a_COUNT a_MAX a_SUM a_MIN i_COMPACT_STRINGS v_SIOOBE_FORMATTER h0 n0 vv_ UV_.heap LL_ ∧ FrameEnd UU_ oo_ UV_ LL_ ({ frames := 1, cells := 0, slots := 0, locals := 15 } : Room).cells ({ frames := 1, cells := 0, slots := 0, locals := 15 } : Room).slots) := by
  refine MetFree.of_bodySF (plainFor_of_name pn_4) hisR ?_
  intro p e s m args below meth c s₁ Bd hml0 hP hK
  obtain ⟨rfl, hZ, hh⟩ := hP
  have hx := Bd.exec
  have hby := Bd.bytes
  have hlk := BodyLoose.notSynchronized Bd
  have hml : c.maxLocals = 5 := hml0
  have hown : s.vm.findClass "com/example/latticework/latticework/Measure" = some m.cls := findClass_of_methodNamed Bd.named
  have hnm := (name_of_methodNamed Bd.named Bd.method).1
  have X0 : Stand p l e ({ frames := 1, cells := 0, slots := 0, locals := 15 } : Room) s m #[(.ref b), (.long x1), (.long y1)] below meth c s₁ [] 0 0 := Stand.of_body Bd
  have e0 : s₁.heap = h0 := by rw [← hh, Bd.state]; rfl
  have N0 := Fr.nil n0
  suffices hOW : OW p e below s (QPKMAX Z b x1 y1 a_COUNT a_MAX a_SUM a_MIN i_COMPACT_STRINGS v_SIOOBE_FORMATTER h0 n0) 0 0 (s₁.setTop (mkF m 0 #[.val (.ref b), .val (.long x1), .second, .val (.long y1), .second] [])) by
    obtain ⟨oq1_, oq2_, oq3_, oq4_⟩ := hOW
    exact ⟨oq1_, oq2_, castTop (ef_PKMAX m b x1 y1) oq3_, oq4_⟩
  have hS' := hS
  obtain ⟨Sa_COUNT, Ea_COUNT, Sa_MAX, Ea_MAX, Sa_SUM, Ea_SUM, Sa_MIN, Ea_MIN, Si_COMPACT_STRINGS, Sv_SIOOBE_FORMATTER, Rv_SIOOBE_FORMATTER, Pi_COMPACT_STRINGS, Fa_MAX_ordinal, Fa_COUNT_ordinal, Fa_SUM_ordinal, Fa_MIN_ordinal⟩ := hS'
  refine OW.st (B := s₁.setTop (mkF m 1 #[.val (.ref b), .val (.long x1), .second, .val (.long y1), .second] [(.ref b)])) (fun _ kk_ => XS.aloadN X0.here hx rfl (hb hby d13_0) rfl rfl kk_) ?_
  obtain ⟨T78, X78, e78, st78⟩ := getF X0 hx hZ hown (host := "") (Or.inl (w_64 hw)) Via.refl e0 F (g := (mkF m 1 #[.val (.ref b), .val (.long x1), .second, .val (.long y1), .second] [(.ref b)])) rfl rfl (hb hby d13_1)
  refine OW.st (B := T78.setTop (mkF m 4 #[.val (.ref b), .val (.long x1), .second, .val (.long y1), .second] [(.ref a_MAX)])) (st78) ?_
  obtain ⟨T79, X79, e79, st79⟩ := getS2 X78 hx hZ hown (host := "") (Or.inl (w_83 hw)) Via.refl e78 (Sa_MIN.ext O0.2) (g := (mkF m 4 #[.val (.ref b), .val (.long x1), .second, .val (.long y1), .second] [(.ref a_MAX)])) rfl (hb hby d13_4)
  refine OW.st (B := T79.setTop (mkF m 7 #[.val (.ref b), .val (.long x1), .second, .val (.long y1), .second] [(.ref a_MIN), (.ref a_MAX)])) (st79) ?_
  refine OW.st (B := T79.setTop (mkF m 18 #[.val (.ref b), .val (.long x1), .second, .val (.long y1), .second] [])) (fun _ kk_ => Jvm.RoadKit.acmp (g := (mkF m 7 #[.val (.ref b), .val (.long x1), .second, .val (.long y1), .second] [(.ref a_MIN), (.ref a_MAX)])) X79 hx rfl rfl rfl (pc0 := 7) (pc' := 18) (same := false) rfl (hb hby d13_7) rfl (decide_eq_false fun q => (Fld.ne Fa_MAX_ordinal Fa_MIN_ordinal (fun q => absurd (Value.int.inj q) (by decide))) (Value.ref.inj q)) (by decide) (by decide) kk_) ?_
  refine OW.st (B := T79.setTop (mkF m 19 #[.val (.ref b), .val (.long x1), .second, .val (.long y1), .second] [(.long x1)])) (fun _ kk_ => XS.lloadN X79.here hx rfl (hb hby d13_18) rfl kk_) ?_
  refine OW.st (B := T79.setTop (mkF m 20 #[.val (.ref b), .val (.long x1), .second, .val (.long y1), .second] [(.long y1), (.long x1)])) (fun _ kk_ => XS.lloadN X79.here hx rfl (hb hby d13_19) rfl kk_) ?_
  obtain ⟨_, _, ⟨T80, L80, k80, n80⟩, -, X80, ⟨Lc80, hQ80, l80, y80, z80⟩, st80⟩ := Jvm.LawKit.callS X79 hx (y := (⟨"java/lang/Math", "max", "(JJ)J"⟩ : MethodName)) hown (mvT hZ (w_85 hw)) (mvT hZ (w_86 hw)) (mvT hZ (w_87 hw)) (mvT hZ (w_88 hw)) (by decide) (backOf (W := 0) (rmMmax l Z a0 hw [] x1 y1 h0 n0 O0 ) hZ (w_88 hw) (w_87 hw) (by decide) (by decide)) (g := (mkF m 20 #[.val (.ref b), .val (.long x1), .second, .val (.long y1), .second] [(.long y1), (.long x1)])) rfl (by rw [hml]; rfl) (argsL := [(.long x1), (.long y1)]) (rest := []) (lenOf pd_8 rfl) rfl (by show 2 * 0 + _ ≤ _; exact Nat.le_of_eq rfl) (hb hby d13_20) (fun _ _ => ⟨rfl, e79, (by decide : 0 + 0 ≤ _), (by decide : 0 + 0 ≤ _)⟩)
  dsimp only [Pt.U, Pt.locs, Pt.cells, Pt.slots] at X80 l80 y80 z80 st80 hQ80
  subst l80 y80 z80
  obtain ⟨r80, rfl, Nq80, e80, hr80⟩ := hQ80
  have N80 := Fr.app N0 Nq80
  refine OW.st (B := T80.setTop (mkF m 23 #[.val (.ref b), .val (.long x1), .second, .val (.long y1), .second] [(.long r80)])) (st80) ?_
  exact OW.ret X80 hx hlk (i := .lreturn) Bd.returns rfl (Or.inr (Or.inl ⟨rfl, rfl, _, rfl⟩)) (hb hby d13_23) e80 (by decide) (by decide) ⟨r80, rfl, N80, rfl, hr80⟩
theorem ef_0 (m : MethodId) (x0 : Int32) (x1 : Int32) (x2 : Int32) (x3 : Int64) (x4 : Int64) : entryFrame m #[(.int x0), (.int x1), (.int x2), (.long x3), (.long x4)] maxLocals = mkF m 0 #[.val (.int x0), .val (.int x1), .val (.int x2), .val (.long x3), .second, .val (.long x4), .second, .unset, .unset, .unset, .unset, .unset, .unset, .unset, .unset, .unset] [] := by first | (simp [entryFrame, mkF, argsToLocals, Value.category, maxLocals]; done) | rfl
def Q0 (Z : State) (n1 : Int32) (n2 : Int32) (n3 : Int32) (n4 : Int64) (n5 : Int64) (a_COUNT : Addr) (a_MAX : Addr) (a_SUM : Addr) (a_MIN : Addr) (i_COMPACT_STRINGS : Int32) (v_SIOOBE_FORMATTER : Value) (h0 : Heap) (n0 : Nat) (v : Option Value) (h : Heap) (L : List Loc) : Prop := v = some (.int 1) ∧ Fr n0 L
set_option maxRecDepth 65536 in
set_option maxHeartbeats 40000000 in
theorem rm0 (l : Launch) (Z : State) (a0 : Array Value) (hw : ∀ d ∈ tables_1, d.before a0 Z = true) (ws : List Jvm.Cond) (n1 : Int32) (n2 : Int32) (n3 : Int32) (n4 : Int64) (n5 : Int64) (a_COUNT : Addr) (a_MAX : Addr) (a_SUM : Addr) (a_MIN : Addr) (i_COMPACT_STRINGS : Int32) (v_SIOOBE_FORMATTER : Value) (h0 : Heap) (n0 : Nat) (O0 : Old Z n0 h0) (hS : OwnS Z a_COUNT a_MAX a_SUM a_MIN i_COMPACT_STRINGS v_SIOOBE_FORMATTER) :
    MetFree l x (head1 (Jvm.Cond.code x code maxLocals ret :: ws) room_1) (fun aa_ UU_ => aa_ = #[(.int n1), (.int n2), (.int n3), (.long n4), (.long n5)] ∧ Z.Warmed39 UU_.vm ∧ UU_.heap = h0 ∧ CHv Z consts_1 UU_.vm h0) (fun _ _ _ _ _ => True) (fun _ UU_ oo_ UV_ => ∃ vv_ LL_, oo_ = .returned vv_ ∧ Q0 Z n1 n2 n3 n4 n5 a_COUNT a_MAX a_SUM a_MIN i_COMPACT_STRINGS v_SIOOBE_FORMATTER h0 n0 vv_ UV_.heap LL_ ∧ CHr Z consts_1 UU_.vm UU_.heap UV_.vm UV_.heap ∧ ReturnedEndW UU_ oo_ UV_ LL_ 9 53) := by
  refine MetFree.of_bodySF (plainFor_of_name pn_5) hisR ?_
  intro p e s m args below meth c s₁ Bd hml0 hP hK
  obtain ⟨rfl, hZ, hh, hCH⟩ := hP
  have hx := Bd.exec
  have hby := Bd.bytes
  have hlk := BodyLoose.notSynchronized Bd
  have hml : c.maxLocals = 16 := hml0
  have hown : s.vm.findClass "com/example/latticework/latticework/MeasureAddsPinLaw" = some m.cls := findClass_of_methodNamed Bd.named
  have hnm := (name_of_methodNamed Bd.named Bd.method).1
  have X0 : Stand p l e room_1 s m #[(.int n1), (.int n2), (.int n3), (.long n4), (.long n5)] below meth c s₁ [] 0 0 := Stand.of_body Bd
  have e0 : s₁.heap = h0 := by rw [← hh, Bd.state]; rfl
  have N0 := Fr.nil n0
  have hS0 : s.Since s.vm 0 := (State.WarmedH.refl s).since 0
  have hk0 : 0 ≤ h0.size := Nat.zero_le _
  have CR0 : CHr Z consts_1 s.vm h0 s.vm h0 := CHr.refl hCH
  suffices hOW : OWH Z consts_1 h0 p e below s (Q0 Z n1 n2 n3 n4 n5 a_COUNT a_MAX a_SUM a_MIN i_COMPACT_STRINGS v_SIOOBE_FORMATTER h0 n0) 9 53 (s₁.setTop (mkF m 0 #[.val (.int n1), .val (.int n2), .val (.int n3), .val (.long n4), .second, .val (.long n5), .second, .unset, .unset, .unset, .unset, .unset, .unset, .unset, .unset, .unset] [])) by
    obtain ⟨oq1_, oq2_, oq3_, oq4_⟩ := hOW
    obtain ⟨oq5_, oq6_, oq7_, oq8_, oq9_, or1_, or2_, or3_⟩ := oq4_
    exact ⟨oq1_, oq2_, castTop (ef_0 m n1 n2 n3 n4 n5) oq3_, oq5_, oq6_, oq7_, oq8_, oq9_, or1_, by rw [hh]; exact or2_, or3_⟩
  have hS' := hS
  obtain ⟨Sa_COUNT, Ea_COUNT, Sa_MAX, Ea_MAX, Sa_SUM, Ea_SUM, Sa_MIN, Ea_MIN, Si_COMPACT_STRINGS, Sv_SIOOBE_FORMATTER, Rv_SIOOBE_FORMATTER, Pi_COMPACT_STRINGS, Fa_MAX_ordinal, Fa_COUNT_ordinal, Fa_SUM_ordinal, Fa_MIN_ordinal⟩ := hS'
  refine OWH.st (B := s₁.setTop (mkF m 1 #[.val (.int n1), .val (.int n2), .val (.int n3), .val (.long n4), .second, .val (.long n5), .second, .unset, .unset, .unset, .unset, .unset, .unset, .unset, .unset, .unset] [(.int n1)])) (fun _ kk_ => XS.iloadN X0.here hx rfl (hb hby at_0) rfl kk_) ?_
  refine OWH.st (B := s₁.setTop (mkF m 2 #[.val (.int n1), .val (.int n2), .val (.int n3), .val (.long n4), .second, .val (.long n5), .second, .unset, .unset, .unset, .unset, .unset, .unset, .unset, .unset, .unset] [(.int (3 : Int32)), (.int n1)])) (fun _ kk_ => XS.iconst X0.here hx rfl (hb hby at_1) kk_) ?_
  refine OWH.st (B := s₁.setTop (mkF m 3 #[.val (.int n1), .val (.int n2), .val (.int n3), .val (.long n4), .second, .val (.long n5), .second, .unset, .unset, .unset, .unset, .unset, .unset, .unset, .unset, .unset] [(.int (n1 &&& (3 : Int32)))])) (fun _ kk_ => XS.iand X0.here hx rfl (hb hby at_2) rfl kk_) ?_
  refine OWH.st (B := s₁.setTop (mkF m 5 #[.val (.int n1), .val (.int n2), .val (.int n3), .val (.long n4), .second, .val (.long n5), .second, .val (.int (n1 &&& (3 : Int32))), .unset, .unset, .unset, .unset, .unset, .unset, .unset, .unset] [])) (fun _ kk_ => XS.istore X0.here hx rfl (hb hby at_3) rfl (l' := #[.val (.int n1), .val (.int n2), .val (.int n3), .val (.long n4), .second, .val (.long n5), .second, .val (.int (n1 &&& (3 : Int32))), .unset, .unset, .unset, .unset, .unset, .unset, .unset, .unset]) rfl kk_) ?_
  refine OWH.st (B := s₁.setTop (mkF m 7 #[.val (.int n1), .val (.int n2), .val (.int n3), .val (.long n4), .second, .val (.long n5), .second, .val (.int (n1 &&& (3 : Int32))), .unset, .unset, .unset, .unset, .unset, .unset, .unset, .unset] [(.int (n1 &&& (3 : Int32)))])) (fun _ kk_ => XS.iload X0.here hx rfl (hb hby at_5) rfl kk_) ?_
  by_cases hc81 : (n1 &&& (3 : Int32)) = (0 : Int32)
  · refine OWH.st (B := s₁.setTop (mkF m 10 #[.val (.int n1), .val (.int n2), .val (.int n3), .val (.long n4), .second, .val (.long n5), .second, .val (.int (n1 &&& (3 : Int32))), .unset, .unset, .unset, .unset, .unset, .unset, .unset, .unset] [])) (fun _ kk_ => XS.ifNo X0.here hx rfl (hb hby at_7) rfl ((if0 _ _).trans (teq hc81).2) kk_) ?_
    obtain ⟨T82, X82, e82, st82⟩ := getS2 X0 hx hZ hown (host := "") (Or.inl (w_0 hw)) Via.refl e0 (Sa_COUNT.ext O0.2) (g := (mkF m 10 #[.val (.int n1), .val (.int n2), .val (.int n3), .val (.long n4), .second, .val (.long n5), .second, .val (.int (n1 &&& (3 : Int32))), .unset, .unset, .unset, .unset, .unset, .unset, .unset, .unset] [])) rfl (hb hby at_10)
    refine OWH.st (B := T82.setTop (mkF m 13 #[.val (.int n1), .val (.int n2), .val (.int n3), .val (.long n4), .second, .val (.long n5), .second, .val (.int (n1 &&& (3 : Int32))), .unset, .unset, .unset, .unset, .unset, .unset, .unset, .unset] [(.ref a_COUNT)])) (st82) ?_
    refine OWH.st (B := T82.setTop (mkF m 15 #[.val (.int n1), .val (.int n2), .val (.int n3), .val (.long n4), .second, .val (.long n5), .second, .val (.int (n1 &&& (3 : Int32))), .val (.ref a_COUNT), .unset, .unset, .unset, .unset, .unset, .unset, .unset] [])) (fun _ kk_ => XS.astore X82.here hx rfl (hb hby at_13) rfl rfl (l' := #[.val (.int n1), .val (.int n2), .val (.int n3), .val (.long n4), .second, .val (.long n5), .second, .val (.int (n1 &&& (3 : Int32))), .val (.ref a_COUNT), .unset, .unset, .unset, .unset, .unset, .unset, .unset]) rfl kk_) ?_
    refine OWH.st (B := T82.setTop (mkF m 51 #[.val (.int n1), .val (.int n2), .val (.int n3), .val (.long n4), .second, .val (.long n5), .second, .val (.int (n1 &&& (3 : Int32))), .val (.ref a_COUNT), .unset, .unset, .unset, .unset, .unset, .unset, .unset] [])) (fun _ kk_ => XS.goto X82.here hx rfl (pc0 := 15) (pc' := 51) rfl (hb hby at_15) (by decide) (by decide) kk_) ?_
    refine OWH.st (B := T82.setTop (mkF m 52 #[.val (.int n1), .val (.int n2), .val (.int n3), .val (.long n4), .second, .val (.long n5), .second, .val (.int (n1 &&& (3 : Int32))), .val (.ref a_COUNT), .unset, .unset, .unset, .unset, .unset, .unset, .unset] [(.int n2)])) (fun _ kk_ => XS.iloadN X82.here hx rfl (hb hby at_51) rfl kk_) ?_
    refine OWH.st (B := T82.setTop (mkF m 55 #[.val (.int n1), .val (.int n2), .val (.int n3), .val (.long n4), .second, .val (.long n5), .second, .val (.int (n1 &&& (3 : Int32))), .val (.ref a_COUNT), .unset, .unset, .unset, .unset, .unset, .unset, .unset] [(.int (255 : Int32)), (.int n2)])) (fun _ kk_ => XS.sipush X82.here hx rfl (hb hby at_52) kk_) ?_
    refine OWH.st (B := T82.setTop (mkF m 56 #[.val (.int n1), .val (.int n2), .val (.int n3), .val (.long n4), .second, .val (.long n5), .second, .val (.int (n1 &&& (3 : Int32))), .val (.ref a_COUNT), .unset, .unset, .unset, .unset, .unset, .unset, .unset] [(.int (n2 &&& (255 : Int32)))])) (fun _ kk_ => XS.iand X82.here hx rfl (hb hby at_55) rfl kk_) ?_
    refine OWH.st (B := T82.setTop (mkF m 57 #[.val (.int n1), .val (.int n2), .val (.int n3), .val (.long n4), .second, .val (.long n5), .second, .val (.int (n1 &&& (3 : Int32))), .val (.ref a_COUNT), .unset, .unset, .unset, .unset, .unset, .unset, .unset] [(.int ((n2 &&& (255 : Int32)).toUInt32.toUInt16.toUInt32.toInt32))])) (fun _ kk_ => XS.i2c X82.here hx rfl (hb hby at_56) rfl kk_) ?_
    suffices J : ∀ u1 : Int32, (¬ ((255 : Int32) < u1) ∧ nar .char u1 = u1) → OWH Z consts_1 h0 p e below s (Q0 Z n1 n2 n3 n4 n5 a_COUNT a_MAX a_SUM a_MIN i_COMPACT_STRINGS v_SIOOBE_FORMATTER h0 n0) 9 53 (T82.setTop (mkF m 57 #[.val (.int n1), .val (.int n2), .val (.int n3), .val (.long n4), .second, .val (.long n5), .second, .val (.int (n1 &&& (3 : Int32))), .val (.ref a_COUNT), .unset, .unset, .unset, .unset, .unset, .unset, .unset] [(.int u1)])) from J _ (own_ch255 n2)
    intro u1 hu1
    obtain ⟨hlu1, hnu1⟩ := hu1
    obtain ⟨_, _, ⟨T83, L83, k83, n83⟩, -, X83, ⟨Lc83, hQ83, l83, y83, z83⟩, st83⟩ := Jvm.LawKit.callS X82 hx (y := (⟨"java/lang/String", "valueOf", "(C)Ljava/lang/String;"⟩ : MethodName)) hown (mvT hZ (w_3 hw)) (mvT hZ (w_4 hw)) (mvT hZ (w_5 hw)) (mvT hZ (w_6 hw)) (by decide) (backOf (W := 0) (rmVO l Z a0 hw [] u1 a_COUNT a_MAX a_SUM a_MIN i_COMPACT_STRINGS v_SIOOBE_FORMATTER h0 n0 O0 hS hlu1) hZ (w_6 hw) (w_5 hw) (by decide) (by decide)) (g := (mkF m 57 #[.val (.int n1), .val (.int n2), .val (.int n3), .val (.long n4), .second, .val (.long n5), .second, .val (.int (n1 &&& (3 : Int32))), .val (.ref a_COUNT), .unset, .unset, .unset, .unset, .unset, .unset, .unset] [(.int u1)])) rfl (by rw [hml]; rfl) (argsL := [(.int u1)]) (rest := []) (lenOf pd_9 rfl) rfl (by show 2 * 0 + _ ≤ _; exact Nat.le_of_eq rfl) (hb hby at_57) (fun _ _ => ⟨rfl, e82, (by decide : 0 + 2 ≤ _), (by decide : 0 + 5 ≤ _)⟩)
    dsimp only [Pt.U, Pt.locs, Pt.cells, Pt.slots] at X83 l83 y83 z83 st83 hQ83
    subst l83 y83 z83
    obtain ⟨b83, ba83, kb83, rfl, Nq83, K83, gb83, zb83, Es83, Fv83, Fc83, Vs83⟩ := hQ83
    have N83 := Fr.app N0 Nq83
    have O83 : Old Z n0 T83.heap := O0.keep K83 all0
    have CS83 : CHr Z consts_1 s.vm h0 s.vm T83.heap := CHr.keep K83 all0 CR0.1
    have CR83 := CHr.trans CR0 CS83
    have Sf83_b83 : Safe Z consts_1 s.vm T83.heap b83 := Safe.keep K83 all0 CR0.1 (Safe.new zb83)
    refine OWH.st (B := T83.setTop (mkF m 60 #[.val (.int n1), .val (.int n2), .val (.int n3), .val (.long n4), .second, .val (.long n5), .second, .val (.int (n1 &&& (3 : Int32))), .val (.ref a_COUNT), .unset, .unset, .unset, .unset, .unset, .unset, .unset] [(.ref b83)])) (st83) ?_
    refine OWH.st (B := T83.setTop (mkF m 62 #[.val (.int n1), .val (.int n2), .val (.int n3), .val (.long n4), .second, .val (.long n5), .second, .val (.int (n1 &&& (3 : Int32))), .val (.ref a_COUNT), .val (.ref b83), .unset, .unset, .unset, .unset, .unset, .unset] [])) (fun _ kk_ => XS.astore X83.here hx rfl (hb hby at_60) rfl rfl (l' := #[.val (.int n1), .val (.int n2), .val (.int n3), .val (.long n4), .second, .val (.long n5), .second, .val (.int (n1 &&& (3 : Int32))), .val (.ref a_COUNT), .val (.ref b83), .unset, .unset, .unset, .unset, .unset, .unset]) rfl kk_) ?_
    refine OWH.st (B := T83.setTop (mkF m 64 #[.val (.int n1), .val (.int n2), .val (.int n3), .val (.long n4), .second, .val (.long n5), .second, .val (.int (n1 &&& (3 : Int32))), .val (.ref a_COUNT), .val (.ref b83), .unset, .unset, .unset, .unset, .unset, .unset] [(.int (n1 &&& (3 : Int32)))])) (fun _ kk_ => XS.iload X83.here hx rfl (hb hby at_62) rfl kk_) ?_
    refine OWH.st (B := T83.setTop (mkF m 67 #[.val (.int n1), .val (.int n2), .val (.int n3), .val (.long n4), .second, .val (.long n5), .second, .val (.int (n1 &&& (3 : Int32))), .val (.ref a_COUNT), .val (.ref b83), .unset, .unset, .unset, .unset, .unset, .unset] [])) (fun _ kk_ => XS.ifNo X83.here hx rfl (hb hby at_64) rfl ((if0 _ _).trans (teq hc81).2) kk_) ?_
    refine OWH.st (B := T83.setTop (mkF m 68 #[.val (.int n1), .val (.int n2), .val (.int n3), .val (.long n4), .second, .val (.long n5), .second, .val (.int (n1 &&& (3 : Int32))), .val (.ref a_COUNT), .val (.ref b83), .unset, .unset, .unset, .unset, .unset, .unset] [(.int n1)])) (fun _ kk_ => XS.iloadN X83.here hx rfl (hb hby at_67) rfl kk_) ?_
    refine OWH.st (B := T83.setTop (mkF m 69 #[.val (.int n1), .val (.int n2), .val (.int n3), .val (.long n4), .second, .val (.long n5), .second, .val (.int (n1 &&& (3 : Int32))), .val (.ref a_COUNT), .val (.ref b83), .unset, .unset, .unset, .unset, .unset, .unset] [(.int (2 : Int32)), (.int n1)])) (fun _ kk_ => XS.iconst X83.here hx rfl (hb hby at_68) kk_) ?_
    refine OWH.st (B := T83.setTop (mkF m 70 #[.val (.int n1), .val (.int n2), .val (.int n3), .val (.long n4), .second, .val (.long n5), .second, .val (.int (n1 &&& (3 : Int32))), .val (.ref a_COUNT), .val (.ref b83), .unset, .unset, .unset, .unset, .unset, .unset] [(.int ((n1.toUInt32 >>> ((2 : Int32) &&& 31).toUInt32).toInt32))])) (fun _ kk_ => XS.iushr X83.here hx rfl (hb hby at_69) rfl kk_) ?_
    refine OWH.st (B := T83.setTop (mkF m 71 #[.val (.int n1), .val (.int n2), .val (.int n3), .val (.long n4), .second, .val (.long n5), .second, .val (.int (n1 &&& (3 : Int32))), .val (.ref a_COUNT), .val (.ref b83), .unset, .unset, .unset, .unset, .unset, .unset] [(.int (1 : Int32)), (.int ((n1.toUInt32 >>> ((2 : Int32) &&& 31).toUInt32).toInt32))])) (fun _ kk_ => XS.iconst X83.here hx rfl (hb hby at_70) kk_) ?_
    refine OWH.st (B := T83.setTop (mkF m 72 #[.val (.int n1), .val (.int n2), .val (.int n3), .val (.long n4), .second, .val (.long n5), .second, .val (.int (n1 &&& (3 : Int32))), .val (.ref a_COUNT), .val (.ref b83), .unset, .unset, .unset, .unset, .unset, .unset] [(.int (((n1.toUInt32 >>> ((2 : Int32) &&& 31).toUInt32).toInt32) &&& (1 : Int32)))])) (fun _ kk_ => XS.iand X83.here hx rfl (hb hby at_71) rfl kk_) ?_
    by_cases hc84 : (((n1.toUInt32 >>> ((2 : Int32) &&& 31).toUInt32).toInt32) &&& (1 : Int32)) = (0 : Int32)
    · refine OWH.st (B := T83.setTop (mkF m 81 #[.val (.int n1), .val (.int n2), .val (.int n3), .val (.long n4), .second, .val (.long n5), .second, .val (.int (n1 &&& (3 : Int32))), .val (.ref a_COUNT), .val (.ref b83), .unset, .unset, .unset, .unset, .unset, .unset] [])) (fun _ kk_ => XS.ifYes X83.here hx rfl (pc0 := 72) (pc' := 81) rfl (hb hby at_72) rfl ((if0 _ _).trans (teq hc84).1) (by decide) (by decide) kk_) ?_
      refine OWH.st (B := T83.setTop (mkF m 82 #[.val (.int n1), .val (.int n2), .val (.int n3), .val (.long n4), .second, .val (.long n5), .second, .val (.int (n1 &&& (3 : Int32))), .val (.ref a_COUNT), .val (.ref b83), .unset, .unset, .unset, .unset, .unset, .unset] [(.int n3)])) (fun _ kk_ => XS.iloadN X83.here hx rfl (hb hby at_81) rfl kk_) ?_
      refine OWH.st (B := T83.setTop (mkF m 85 #[.val (.int n1), .val (.int n2), .val (.int n3), .val (.long n4), .second, .val (.long n5), .second, .val (.int (n1 &&& (3 : Int32))), .val (.ref a_COUNT), .val (.ref b83), .unset, .unset, .unset, .unset, .unset, .unset] [(.int (255 : Int32)), (.int n3)])) (fun _ kk_ => XS.sipush X83.here hx rfl (hb hby at_82) kk_) ?_
      refine OWH.st (B := T83.setTop (mkF m 86 #[.val (.int n1), .val (.int n2), .val (.int n3), .val (.long n4), .second, .val (.long n5), .second, .val (.int (n1 &&& (3 : Int32))), .val (.ref a_COUNT), .val (.ref b83), .unset, .unset, .unset, .unset, .unset, .unset] [(.int (n3 &&& (255 : Int32)))])) (fun _ kk_ => XS.iand X83.here hx rfl (hb hby at_85) rfl kk_) ?_
      refine OWH.st (B := T83.setTop (mkF m 87 #[.val (.int n1), .val (.int n2), .val (.int n3), .val (.long n4), .second, .val (.long n5), .second, .val (.int (n1 &&& (3 : Int32))), .val (.ref a_COUNT), .val (.ref b83), .unset, .unset, .unset, .unset, .unset, .unset] [(.int ((n3 &&& (255 : Int32)).toUInt32.toUInt16.toUInt32.toInt32))])) (fun _ kk_ => XS.i2c X83.here hx rfl (hb hby at_86) rfl kk_) ?_
      suffices J : ∀ u2 : Int32, (¬ ((255 : Int32) < u2) ∧ nar .char u2 = u2) → OWH Z consts_1 h0 p e below s (Q0 Z n1 n2 n3 n4 n5 a_COUNT a_MAX a_SUM a_MIN i_COMPACT_STRINGS v_SIOOBE_FORMATTER h0 n0) 9 53 (T83.setTop (mkF m 87 #[.val (.int n1), .val (.int n2), .val (.int n3), .val (.long n4), .second, .val (.long n5), .second, .val (.int (n1 &&& (3 : Int32))), .val (.ref a_COUNT), .val (.ref b83), .unset, .unset, .unset, .unset, .unset, .unset] [(.int u2)])) from J _ (own_ch255 n3)
      intro u2 hu2
      obtain ⟨hlu2, hnu2⟩ := hu2
      obtain ⟨_, _, ⟨T85, L85, k85, n85⟩, -, X85, ⟨Lc85, hQ85, l85, y85, z85⟩, st85⟩ := Jvm.LawKit.callS X83 hx (y := (⟨"java/lang/String", "valueOf", "(C)Ljava/lang/String;"⟩ : MethodName)) hown (mvT hZ (w_3 hw)) (mvT hZ (w_4 hw)) (mvT hZ (w_5 hw)) (mvT hZ (w_6 hw)) (by decide) (backOf (W := 0) (rmVO l Z a0 hw [] u2 a_COUNT a_MAX a_SUM a_MIN i_COMPACT_STRINGS v_SIOOBE_FORMATTER T83.heap n0 O83 hS hlu2) hZ (w_6 hw) (w_5 hw) (by decide) (by decide)) (g := (mkF m 87 #[.val (.int n1), .val (.int n2), .val (.int n3), .val (.long n4), .second, .val (.long n5), .second, .val (.int (n1 &&& (3 : Int32))), .val (.ref a_COUNT), .val (.ref b83), .unset, .unset, .unset, .unset, .unset, .unset] [(.int u2)])) rfl (by rw [hml]; rfl) (argsL := [(.int u2)]) (rest := []) (lenOf pd_9 rfl) rfl (by show 2 * 0 + _ ≤ _; exact Nat.le_of_eq rfl) (hb hby at_87) (fun _ _ => ⟨rfl, rfl, (by decide : 2 + 2 ≤ _), (by decide : 5 + 5 ≤ _)⟩)
      dsimp only [Pt.U, Pt.locs, Pt.cells, Pt.slots] at X85 l85 y85 z85 st85 hQ85
      subst l85 y85 z85
      obtain ⟨b85, ba85, kb85, rfl, Nq85, K85, gb85, zb85, Es85, Fv85, Fc85, Vs85⟩ := hQ85
      have N85 := Fr.app N83 Nq85
      have O85 : Old Z n0 T85.heap := O83.keep K85 all0
      have CS85 : CHr Z consts_1 s.vm T83.heap s.vm T85.heap := CHr.keep K85 all0 CR83.1
      have Sf85_b83 := CHr.safe CS85 Es83.lt Sf83_b83
      have CR85 := CHr.trans CR83 CS85
      have Sf85_b85 : Safe Z consts_1 s.vm T85.heap b85 := Safe.keep K85 all0 CR83.1 (Safe.new zb85)
      refine OWH.st (B := T85.setTop (mkF m 90 #[.val (.int n1), .val (.int n2), .val (.int n3), .val (.long n4), .second, .val (.long n5), .second, .val (.int (n1 &&& (3 : Int32))), .val (.ref a_COUNT), .val (.ref b83), .unset, .unset, .unset, .unset, .unset, .unset] [(.ref b85)])) (st85) ?_
      refine OWH.st (B := T85.setTop (mkF m 92 #[.val (.int n1), .val (.int n2), .val (.int n3), .val (.long n4), .second, .val (.long n5), .second, .val (.int (n1 &&& (3 : Int32))), .val (.ref a_COUNT), .val (.ref b83), .val (.ref b85), .unset, .unset, .unset, .unset, .unset] [])) (fun _ kk_ => XS.astore X85.here hx rfl (hb hby at_90) rfl rfl (l' := #[.val (.int n1), .val (.int n2), .val (.int n3), .val (.long n4), .second, .val (.long n5), .second, .val (.int (n1 &&& (3 : Int32))), .val (.ref a_COUNT), .val (.ref b83), .val (.ref b85), .unset, .unset, .unset, .unset, .unset]) rfl kk_) ?_
      obtain ⟨T86, h86, X86, e86, E86, A86, D86, -, st86⟩ := newO X85 hx hZ hown (w_29 hw) (w_30 hw) (w_31 hw) rfl (g := (mkF m 92 #[.val (.int n1), .val (.int n2), .val (.int n3), .val (.long n4), .second, .val (.long n5), .second, .val (.int (n1 &&& (3 : Int32))), .val (.ref a_COUNT), .val (.ref b83), .val (.ref b85), .unset, .unset, .unset, .unset, .unset] [])) rfl (hb hby at_92) (by decide) (by decide)
      obtain ⟨b86, g86⟩ : ∃ z, z = T85.heap.size := ⟨_, rfl⟩
      rw [← g86] at A86 D86 st86
      have n_b86 : n0 ≤ b86 := Nat.le_trans (own_oldle O85) (Nat.le_of_eq g86.symm)
      have O86 : Old Z n0 h86 := O85.ext E86
      have CS86 : CHr Z consts_1 s.vm T85.heap s.vm h86 := CHr.ext E86 CR85.1
      have Sf86_b83 := CHr.safe CS86 (Es83.keep K85).lt Sf85_b83
      have Sf86_b85 := CHr.safe CS86 Es85.lt Sf85_b85
      have CR86 := CHr.trans CR85 CS86
      have Sf86_b86 : Safe Z consts_1 s.vm h86 b86 := Safe.ext E86 CR85.1 (Safe.new (Nat.le_of_eq g86.symm))
      have F86_63 : Fld Z h86 b86 "com/example/latticework/latticework/Measure" "name" "Ljava/lang/String;" .null := D86 (Or.inr (w_63 hw)) (ty := (.object "java/lang/String")) (by decide)
      have F86_65 : Fld Z h86 b86 "com/example/latticework/latticework/Measure" "function" "Lcom/example/latticework/latticework/Measure$Function;" .null := D86 (Or.inr (w_65 hw)) (ty := (.object "com/example/latticework/latticework/Measure$Function")) (by decide)
      have F86_67 : Fld Z h86 b86 "com/example/latticework/latticework/Measure" "column" "Ljava/lang/String;" .null := D86 (Or.inr (w_67 hw)) (ty := (.object "java/lang/String")) (by decide)
      refine OWH.st (B := T86.setTop (mkF m 95 #[.val (.int n1), .val (.int n2), .val (.int n3), .val (.long n4), .second, .val (.long n5), .second, .val (.int (n1 &&& (3 : Int32))), .val (.ref a_COUNT), .val (.ref b83), .val (.ref b85), .unset, .unset, .unset, .unset, .unset] [(.ref b86)])) (st86) ?_
      refine OWH.st (B := T86.setTop (mkF m 96 #[.val (.int n1), .val (.int n2), .val (.int n3), .val (.long n4), .second, .val (.long n5), .second, .val (.int (n1 &&& (3 : Int32))), .val (.ref a_COUNT), .val (.ref b83), .val (.ref b85), .unset, .unset, .unset, .unset, .unset] [(.ref b86), (.ref b86)])) (fun _ kk_ => XS.dup X86.here hx rfl (hb hby at_95) rfl rfl kk_) ?_
      refine OWH.st (B := T86.setTop (mkF m 98 #[.val (.int n1), .val (.int n2), .val (.int n3), .val (.long n4), .second, .val (.long n5), .second, .val (.int (n1 &&& (3 : Int32))), .val (.ref a_COUNT), .val (.ref b83), .val (.ref b85), .unset, .unset, .unset, .unset, .unset] [(.ref b83), (.ref b86), (.ref b86)])) (fun _ kk_ => XS.aload X86.here hx rfl (hb hby at_96) rfl rfl kk_) ?_
      refine OWH.st (B := T86.setTop (mkF m 100 #[.val (.int n1), .val (.int n2), .val (.int n3), .val (.long n4), .second, .val (.long n5), .second, .val (.int (n1 &&& (3 : Int32))), .val (.ref a_COUNT), .val (.ref b83), .val (.ref b85), .unset, .unset, .unset, .unset, .unset] [(.ref a_COUNT), (.ref b83), (.ref b86), (.ref b86)])) (fun _ kk_ => XS.aload X86.here hx rfl (hb hby at_98) rfl rfl kk_) ?_
      refine OWH.st (B := T86.setTop (mkF m 102 #[.val (.int n1), .val (.int n2), .val (.int n3), .val (.long n4), .second, .val (.long n5), .second, .val (.int (n1 &&& (3 : Int32))), .val (.ref a_COUNT), .val (.ref b83), .val (.ref b85), .unset, .unset, .unset, .unset, .unset] [(.ref b85), (.ref a_COUNT), (.ref b83), (.ref b86), (.ref b86)])) (fun _ kk_ => XS.aload X86.here hx rfl (hb hby at_100) rfl rfl kk_) ?_
      obtain ⟨_, _, ⟨T87, L87, k87, n87⟩, -, X87, hs87, hsz87, ⟨Lc87, hQ87, l87, y87, z87, CQ87⟩, st87⟩ := X86.specialBackS hx (y := (⟨"com/example/latticework/latticework/Measure", "<init>", "(Ljava/lang/String;Lcom/example/latticework/latticework/Measure$Function;Ljava/lang/String;)V"⟩ : MethodName)) rfl hown (mvT hZ (w_32 hw)) (mvT hZ (w_33 hw)) (mvT hZ (w_34 hw)) (by decide) (backOfSH (W := 1) (rmMC l Z a0 hw [] b86 b83 ba83 kb83 (own_by u1) a_COUNT b85 ba85 kb85 (own_by u2) a_COUNT a_MAX a_SUM a_MIN i_COMPACT_STRINGS v_SIOOBE_FORMATTER h86 n0 O86 A86 F86_63 F86_65 F86_67 n_b86 ((Es83.keep K85).ext E86) ((Fv83.keep K85 nin0).ext E86) ((Fc83.keep K85 nin0).ext E86) ((Vs83.keep K85 nin0).ext E86) (Es85.ext E86) (Fv85.ext E86) (Fc85.ext E86) (Vs85.ext E86) hS) hZ (w_34 hw) (w_31 hw) (by decide) (by decide) (own_EW hw) CR86.1) (g := (mkF m 102 #[.val (.int n1), .val (.int n2), .val (.int n3), .val (.long n4), .second, .val (.long n5), .second, .val (.int (n1 &&& (3 : Int32))), .val (.ref a_COUNT), .val (.ref b83), .val (.ref b85), .unset, .unset, .unset, .unset, .unset] [(.ref b85), (.ref a_COUNT), (.ref b83), (.ref b86), (.ref b86)])) rfl (by rw [hml]; rfl) (Steps.refl _) (a := b86) (argsL := [(.ref b83), (.ref a_COUNT), (.ref b85)]) (rest := [(.ref b86)]) (lenOf pd_10 rfl) rfl (by show 2 * 0 + _ ≤ _; exact Nat.le_of_eq rfl) (hb hby at_102) (fun _ _ => ⟨rfl, e86, (by decide : 5 + 4 ≤ _), (by decide : 13 + 40 ≤ _)⟩)
      dsimp only [Pt.U, Pt.locs, Pt.cells, Pt.slots] at hs87 hsz87
      have hS87 := foldS hS0 (show _ ≤ T86.heap.size by rw [e86]; exact (Nat.le_trans (Nat.le_trans (Nat.le_trans hk0 K83.1) K85.1) E86.1)) hs87 hsz87
      have hZ87 : Z.Warmed39 (s.setVm T87.vm).vm := State.Warmed39.trans (t := s) hZ hs87.1
      have hown87 : (s.setVm T87.vm).vm.findClass "com/example/latticework/latticework/MeasureAddsPinLaw" = some m.cls := by rw [show (s.setVm T87.vm).vm = T87.vm from rfl, hs87.1.alike.findClass]; exact hown
      dsimp only [Pt.U, Pt.locs, Pt.cells, Pt.slots] at X87 l87 y87 z87 st87 hQ87 CQ87
      subst l87 y87 z87
      obtain ⟨rfl, Nq87, K87, Em87, Ff87⟩ := hQ87
      have N87 := Fr.app N85 Nq87
      have O87 : Old Z n0 T87.heap := O86.keep K87 (allS n_b86 all0)
      have CS87 : CHr Z consts_1 s.vm h86 T87.vm T87.heap := CQ87
      have Sf87_b83 := CHr.safe CS87 ((Es83.keep K85).ext E86).lt Sf86_b83
      have Sf87_b85 := CHr.safe CS87 (Es85.ext E86).lt Sf86_b85
      have Sf87_b86 := CHr.safe CS87 A86.lt Sf86_b86
      have CR87 := CHr.trans CR86 CS87
      have hk87 : T87.heap.size ≤ T87.heap.size := Nat.le_of_eq (by rfl)
      refine OWH.tr (B := T87.setTop (mkF m 105 #[.val (.int n1), .val (.int n2), .val (.int n3), .val (.long n4), .second, .val (.long n5), .second, .val (.int (n1 &&& (3 : Int32))), .val (.ref a_COUNT), .val (.ref b83), .val (.ref b85), .unset, .unset, .unset, .unset, .unset] [(.ref b86)])) (st87) ?_
      refine OWH.st (B := T87.setTop (mkF m 107 #[.val (.int n1), .val (.int n2), .val (.int n3), .val (.long n4), .second, .val (.long n5), .second, .val (.int (n1 &&& (3 : Int32))), .val (.ref a_COUNT), .val (.ref b83), .val (.ref b85), .val (.ref b86), .unset, .unset, .unset, .unset] [])) (fun _ kk_ => XS.astore X87.here hx rfl (hb hby at_105) rfl rfl (l' := #[.val (.int n1), .val (.int n2), .val (.int n3), .val (.long n4), .second, .val (.long n5), .second, .val (.int (n1 &&& (3 : Int32))), .val (.ref a_COUNT), .val (.ref b83), .val (.ref b85), .val (.ref b86), .unset, .unset, .unset, .unset]) rfl kk_) ?_
      refine OWH.st (B := T87.setTop (mkF m 109 #[.val (.int n1), .val (.int n2), .val (.int n3), .val (.long n4), .second, .val (.long n5), .second, .val (.int (n1 &&& (3 : Int32))), .val (.ref a_COUNT), .val (.ref b83), .val (.ref b85), .val (.ref b86), .unset, .unset, .unset, .unset] [(.int (n1 &&& (3 : Int32)))])) (fun _ kk_ => XS.iload X87.here hx rfl (hb hby at_107) rfl kk_) ?_
      refine OWH.st (B := T87.setTop (mkF m 118 #[.val (.int n1), .val (.int n2), .val (.int n3), .val (.long n4), .second, .val (.long n5), .second, .val (.int (n1 &&& (3 : Int32))), .val (.ref a_COUNT), .val (.ref b83), .val (.ref b85), .val (.ref b86), .unset, .unset, .unset, .unset] [])) (fun _ kk_ => XS.ifYes X87.here hx rfl (pc0 := 109) (pc' := 118) rfl (hb hby at_109) rfl ((if0 _ _).trans (teq hc81).1) (by decide) (by decide) kk_) ?_
      refine OWH.st (B := T87.setTop (mkF m 119 #[.val (.int n1), .val (.int n2), .val (.int n3), .val (.long n4), .second, .val (.long n5), .second, .val (.int (n1 &&& (3 : Int32))), .val (.ref a_COUNT), .val (.ref b83), .val (.ref b85), .val (.ref b86), .unset, .unset, .unset, .unset] [(.int (1 : Int32))])) (fun _ kk_ => XS.iconst X87.here hx rfl (hb hby at_118) kk_) ?_
      refine OWH.st (B := T87.setTop (mkF m 123 #[.val (.int n1), .val (.int n2), .val (.int n3), .val (.long n4), .second, .val (.long n5), .second, .val (.int (n1 &&& (3 : Int32))), .val (.ref a_COUNT), .val (.ref b83), .val (.ref b85), .val (.ref b86), .unset, .unset, .unset, .unset] [(.int (1 : Int32))])) (fun _ kk_ => XS.goto X87.here hx rfl (pc0 := 119) (pc' := 123) rfl (hb hby at_119) (by decide) (by decide) kk_) ?_
      refine OWH.st (B := T87.setTop (mkF m 125 #[.val (.int n1), .val (.int n2), .val (.int n3), .val (.long n4), .second, .val (.long n5), .second, .val (.int (n1 &&& (3 : Int32))), .val (.ref a_COUNT), .val (.ref b83), .val (.ref b85), .val (.ref b86), .val (.int (1 : Int32)), .unset, .unset, .unset] [])) (fun _ kk_ => XS.istore X87.here hx rfl (hb hby at_123) rfl (l' := #[.val (.int n1), .val (.int n2), .val (.int n3), .val (.long n4), .second, .val (.long n5), .second, .val (.int (n1 &&& (3 : Int32))), .val (.ref a_COUNT), .val (.ref b83), .val (.ref b85), .val (.ref b86), .val (.int (1 : Int32)), .unset, .unset, .unset]) rfl kk_) ?_
      refine OWH.st (B := T87.setTop (mkF m 127 #[.val (.int n1), .val (.int n2), .val (.int n3), .val (.long n4), .second, .val (.long n5), .second, .val (.int (n1 &&& (3 : Int32))), .val (.ref a_COUNT), .val (.ref b83), .val (.ref b85), .val (.ref b86), .val (.int (1 : Int32)), .unset, .unset, .unset] [(.ref b86)])) (fun _ kk_ => XS.aload X87.here hx rfl (hb hby at_125) rfl rfl kk_) ?_
      obtain ⟨cq88, kq88, q88a, q88b, q88c⟩ := isOf hZ87 rfl (A86.keep K87)
      obtain ⟨_, _, ⟨T88, L88, k88, n88⟩, -, X88, ⟨Lc88, hQ88, l88, y88, z88⟩, st88⟩ := X87.virtualBack hx (y := (⟨"com/example/latticework/latticework/Measure", "adds", "()Z"⟩ : MethodName)) (z := (⟨"com/example/latticework/latticework/Measure", "adds", "()Z"⟩ : MethodName)) hown87 (mvT hZ87 (w_68 hw)) (mvT hZ87 (w_69 hw)) (notFace_of_selects (args := #[]) (mvT hZ87 (w_71 hw))) (mvT hZ87 (w_71 hw)) (mvT hZ87 (w_70 hw)) (by decide) (backOf (W := 0) (rmADCOUNT l Z a0 hw [] b86 a_COUNT a_MAX a_SUM a_MIN i_COMPACT_STRINGS v_SIOOBE_FORMATTER T87.heap n0 O87 Ff87 hS) hZ87 (w_72 hw) (w_31 hw) (by decide) (by decide)) q88a q88c (g := (mkF m 127 #[.val (.int n1), .val (.int n2), .val (.int n3), .val (.long n4), .second, .val (.long n5), .second, .val (.int (n1 &&& (3 : Int32))), .val (.ref a_COUNT), .val (.ref b83), .val (.ref b85), .val (.ref b86), .val (.int (1 : Int32)), .unset, .unset, .unset] [(.ref b86)])) rfl (by rw [hml]; rfl) (Steps.refl _) (argsL := []) (rest := []) (lenOf pd_6 rfl) rfl (by show 2 * 0 + _ ≤ _; exact Nat.le_of_eq rfl) (hb hby at_127) (fun _ _ => ⟨rfl, rfl, (by decide : 9 + 0 ≤ _), (by decide : 53 + 0 ≤ _)⟩)
      dsimp only [Pt.U, Pt.locs, Pt.cells, Pt.slots] at X88 l88 y88 z88 st88 hQ88
      subst l88 y88 z88
      obtain ⟨rfl, Nq88, e88⟩ := hQ88
      have N88 := Fr.app N87 Nq88
      refine OWH.tr (B := T88.setTop (mkF m 130 #[.val (.int n1), .val (.int n2), .val (.int n3), .val (.long n4), .second, .val (.long n5), .second, .val (.int (n1 &&& (3 : Int32))), .val (.ref a_COUNT), .val (.ref b83), .val (.ref b85), .val (.ref b86), .val (.int (1 : Int32)), .unset, .unset, .unset] [(.int (1 : Int32))])) (st88) ?_
      refine OWH.st (B := T88.setTop (mkF m 132 #[.val (.int n1), .val (.int n2), .val (.int n3), .val (.long n4), .second, .val (.long n5), .second, .val (.int (n1 &&& (3 : Int32))), .val (.ref a_COUNT), .val (.ref b83), .val (.ref b85), .val (.ref b86), .val (.int (1 : Int32)), .val (.int (1 : Int32)), .unset, .unset] [])) (fun _ kk_ => XS.istore X88.here hx rfl (hb hby at_130) rfl (l' := #[.val (.int n1), .val (.int n2), .val (.int n3), .val (.long n4), .second, .val (.long n5), .second, .val (.int (n1 &&& (3 : Int32))), .val (.ref a_COUNT), .val (.ref b83), .val (.ref b85), .val (.ref b86), .val (.int (1 : Int32)), .val (.int (1 : Int32)), .unset, .unset]) rfl kk_) ?_
      refine OWH.st (B := T88.setTop (mkF m 134 #[.val (.int n1), .val (.int n2), .val (.int n3), .val (.long n4), .second, .val (.long n5), .second, .val (.int (n1 &&& (3 : Int32))), .val (.ref a_COUNT), .val (.ref b83), .val (.ref b85), .val (.ref b86), .val (.int (1 : Int32)), .val (.int (1 : Int32)), .unset, .unset] [(.int (1 : Int32))])) (fun _ kk_ => XS.iload X88.here hx rfl (hb hby at_132) rfl kk_) ?_
      refine OWH.st (B := T88.setTop (mkF m 136 #[.val (.int n1), .val (.int n2), .val (.int n3), .val (.long n4), .second, .val (.long n5), .second, .val (.int (n1 &&& (3 : Int32))), .val (.ref a_COUNT), .val (.ref b83), .val (.ref b85), .val (.ref b86), .val (.int (1 : Int32)), .val (.int (1 : Int32)), .unset, .unset] [(.int (1 : Int32)), (.int (1 : Int32))])) (fun _ kk_ => XS.iload X88.here hx rfl (hb hby at_134) rfl kk_) ?_
      refine OWH.st (B := T88.setTop (mkF m 141 #[.val (.int n1), .val (.int n2), .val (.int n3), .val (.long n4), .second, .val (.long n5), .second, .val (.int (n1 &&& (3 : Int32))), .val (.ref a_COUNT), .val (.ref b83), .val (.ref b85), .val (.ref b86), .val (.int (1 : Int32)), .val (.int (1 : Int32)), .unset, .unset] [])) (fun _ kk_ => XS.icmpYes X88.here hx rfl (pc0 := 136) (pc' := 141) rfl (hb hby at_136) rfl (teq (by decide)).1 (by decide) (by decide) kk_) ?_
      refine OWH.st (B := T88.setTop (mkF m 143 #[.val (.int n1), .val (.int n2), .val (.int n3), .val (.long n4), .second, .val (.long n5), .second, .val (.int (n1 &&& (3 : Int32))), .val (.ref a_COUNT), .val (.ref b83), .val (.ref b85), .val (.ref b86), .val (.int (1 : Int32)), .val (.int (1 : Int32)), .unset, .unset] [(.int (1 : Int32))])) (fun _ kk_ => XS.iload X88.here hx rfl (hb hby at_141) rfl kk_) ?_
      refine OWH.st (B := T88.setTop (mkF m 177 #[.val (.int n1), .val (.int n2), .val (.int n3), .val (.long n4), .second, .val (.long n5), .second, .val (.int (n1 &&& (3 : Int32))), .val (.ref a_COUNT), .val (.ref b83), .val (.ref b85), .val (.ref b86), .val (.int (1 : Int32)), .val (.int (1 : Int32)), .unset, .unset] [])) (fun _ kk_ => XS.ifYes X88.here hx rfl (pc0 := 143) (pc' := 177) rfl (hb hby at_143) rfl ((if0 _ _).trans (feq (by decide)).2) (by decide) (by decide) kk_) ?_
      refine OWH.st (B := T88.setTop (mkF m 178 #[.val (.int n1), .val (.int n2), .val (.int n3), .val (.long n4), .second, .val (.long n5), .second, .val (.int (n1 &&& (3 : Int32))), .val (.ref a_COUNT), .val (.ref b83), .val (.ref b85), .val (.ref b86), .val (.int (1 : Int32)), .val (.int (1 : Int32)), .unset, .unset] [(.int (1 : Int32))])) (fun _ kk_ => XS.iconst X88.here hx rfl (hb hby at_177) kk_) ?_
      exact OWH.ret X88 (s := s) (vm0 := T87.vm) hS87 hk87 hx hlk CR87 hZ87 (own_EW hw) (i := .ireturn) Bd.returns rfl (Or.inl ⟨rfl, Or.inr (Or.inl rfl), _, rfl⟩) (hb hby at_178) e88 (by decide) (by decide) ⟨rfl, N88⟩
    · refine OWH.st (B := T83.setTop (mkF m 75 #[.val (.int n1), .val (.int n2), .val (.int n3), .val (.long n4), .second, .val (.long n5), .second, .val (.int (n1 &&& (3 : Int32))), .val (.ref a_COUNT), .val (.ref b83), .unset, .unset, .unset, .unset, .unset, .unset] [])) (fun _ kk_ => XS.ifNo X83.here hx rfl (hb hby at_72) rfl ((if0 _ _).trans (feq hc84).1) kk_) ?_
      refine OWH.st (B := T83.setTop (mkF m 76 #[.val (.int n1), .val (.int n2), .val (.int n3), .val (.long n4), .second, .val (.long n5), .second, .val (.int (n1 &&& (3 : Int32))), .val (.ref a_COUNT), .val (.ref b83), .unset, .unset, .unset, .unset, .unset, .unset] [.null])) (fun _ kk_ => XS.aconstNull X83.here hx rfl (hb hby at_75) kk_) ?_
      refine OWH.st (B := T83.setTop (mkF m 78 #[.val (.int n1), .val (.int n2), .val (.int n3), .val (.long n4), .second, .val (.long n5), .second, .val (.int (n1 &&& (3 : Int32))), .val (.ref a_COUNT), .val (.ref b83), .val .null, .unset, .unset, .unset, .unset, .unset] [])) (fun _ kk_ => XS.astore X83.here hx rfl (hb hby at_76) rfl rfl (l' := #[.val (.int n1), .val (.int n2), .val (.int n3), .val (.long n4), .second, .val (.long n5), .second, .val (.int (n1 &&& (3 : Int32))), .val (.ref a_COUNT), .val (.ref b83), .val .null, .unset, .unset, .unset, .unset, .unset]) rfl kk_) ?_
      refine OWH.st (B := T83.setTop (mkF m 92 #[.val (.int n1), .val (.int n2), .val (.int n3), .val (.long n4), .second, .val (.long n5), .second, .val (.int (n1 &&& (3 : Int32))), .val (.ref a_COUNT), .val (.ref b83), .val .null, .unset, .unset, .unset, .unset, .unset] [])) (fun _ kk_ => XS.goto X83.here hx rfl (pc0 := 78) (pc' := 92) rfl (hb hby at_78) (by decide) (by decide) kk_) ?_
      obtain ⟨T89, h89, X89, e89, E89, A89, D89, -, st89⟩ := newO X83 hx hZ hown (w_29 hw) (w_30 hw) (w_31 hw) rfl (g := (mkF m 92 #[.val (.int n1), .val (.int n2), .val (.int n3), .val (.long n4), .second, .val (.long n5), .second, .val (.int (n1 &&& (3 : Int32))), .val (.ref a_COUNT), .val (.ref b83), .val .null, .unset, .unset, .unset, .unset, .unset] [])) rfl (hb hby at_92) (by decide) (by decide)
      obtain ⟨b89, g89⟩ : ∃ z, z = T83.heap.size := ⟨_, rfl⟩
      rw [← g89] at A89 D89 st89
      have n_b89 : n0 ≤ b89 := Nat.le_trans (own_oldle O83) (Nat.le_of_eq g89.symm)
      have O89 : Old Z n0 h89 := O83.ext E89
      have CS89 : CHr Z consts_1 s.vm T83.heap s.vm h89 := CHr.ext E89 CR83.1
      have Sf89_b83 := CHr.safe CS89 Es83.lt Sf83_b83
      have CR89 := CHr.trans CR83 CS89
      have Sf89_b89 : Safe Z consts_1 s.vm h89 b89 := Safe.ext E89 CR83.1 (Safe.new (Nat.le_of_eq g89.symm))
      have F89_63 : Fld Z h89 b89 "com/example/latticework/latticework/Measure" "name" "Ljava/lang/String;" .null := D89 (Or.inr (w_63 hw)) (ty := (.object "java/lang/String")) (by decide)
      have F89_65 : Fld Z h89 b89 "com/example/latticework/latticework/Measure" "function" "Lcom/example/latticework/latticework/Measure$Function;" .null := D89 (Or.inr (w_65 hw)) (ty := (.object "com/example/latticework/latticework/Measure$Function")) (by decide)
      have F89_67 : Fld Z h89 b89 "com/example/latticework/latticework/Measure" "column" "Ljava/lang/String;" .null := D89 (Or.inr (w_67 hw)) (ty := (.object "java/lang/String")) (by decide)
      refine OWH.st (B := T89.setTop (mkF m 95 #[.val (.int n1), .val (.int n2), .val (.int n3), .val (.long n4), .second, .val (.long n5), .second, .val (.int (n1 &&& (3 : Int32))), .val (.ref a_COUNT), .val (.ref b83), .val .null, .unset, .unset, .unset, .unset, .unset] [(.ref b89)])) (st89) ?_
      refine OWH.st (B := T89.setTop (mkF m 96 #[.val (.int n1), .val (.int n2), .val (.int n3), .val (.long n4), .second, .val (.long n5), .second, .val (.int (n1 &&& (3 : Int32))), .val (.ref a_COUNT), .val (.ref b83), .val .null, .unset, .unset, .unset, .unset, .unset] [(.ref b89), (.ref b89)])) (fun _ kk_ => XS.dup X89.here hx rfl (hb hby at_95) rfl rfl kk_) ?_
      refine OWH.st (B := T89.setTop (mkF m 98 #[.val (.int n1), .val (.int n2), .val (.int n3), .val (.long n4), .second, .val (.long n5), .second, .val (.int (n1 &&& (3 : Int32))), .val (.ref a_COUNT), .val (.ref b83), .val .null, .unset, .unset, .unset, .unset, .unset] [(.ref b83), (.ref b89), (.ref b89)])) (fun _ kk_ => XS.aload X89.here hx rfl (hb hby at_96) rfl rfl kk_) ?_
      refine OWH.st (B := T89.setTop (mkF m 100 #[.val (.int n1), .val (.int n2), .val (.int n3), .val (.long n4), .second, .val (.long n5), .second, .val (.int (n1 &&& (3 : Int32))), .val (.ref a_COUNT), .val (.ref b83), .val .null, .unset, .unset, .unset, .unset, .unset] [(.ref a_COUNT), (.ref b83), (.ref b89), (.ref b89)])) (fun _ kk_ => XS.aload X89.here hx rfl (hb hby at_98) rfl rfl kk_) ?_
      refine OWH.st (B := T89.setTop (mkF m 102 #[.val (.int n1), .val (.int n2), .val (.int n3), .val (.long n4), .second, .val (.long n5), .second, .val (.int (n1 &&& (3 : Int32))), .val (.ref a_COUNT), .val (.ref b83), .val .null, .unset, .unset, .unset, .unset, .unset] [.null, (.ref a_COUNT), (.ref b83), (.ref b89), (.ref b89)])) (fun _ kk_ => XS.aload X89.here hx rfl (hb hby at_100) rfl rfl kk_) ?_
      obtain ⟨_, _, ⟨T90, L90, k90, n90⟩, -, X90, hs90, hsz90, ⟨Lc90, hQ90, l90, y90, z90, CQ90⟩, st90⟩ := X89.specialBackS hx (y := (⟨"com/example/latticework/latticework/Measure", "<init>", "(Ljava/lang/String;Lcom/example/latticework/latticework/Measure$Function;Ljava/lang/String;)V"⟩ : MethodName)) rfl hown (mvT hZ (w_32 hw)) (mvT hZ (w_33 hw)) (mvT hZ (w_34 hw)) (by decide) (backOfSH (W := 1) (rmMN l Z a0 hw [] b89 b83 ba83 kb83 (own_by u1) a_COUNT a_MAX a_SUM a_MIN i_COMPACT_STRINGS v_SIOOBE_FORMATTER h89 n0 O89 A89 F89_63 F89_65 F89_67 n_b89 (Es83.ext E89) (Fv83.ext E89) (Fc83.ext E89) (Vs83.ext E89) hS) hZ (w_34 hw) (w_31 hw) (by decide) (by decide) (own_EW hw) CR89.1) (g := (mkF m 102 #[.val (.int n1), .val (.int n2), .val (.int n3), .val (.long n4), .second, .val (.long n5), .second, .val (.int (n1 &&& (3 : Int32))), .val (.ref a_COUNT), .val (.ref b83), .val .null, .unset, .unset, .unset, .unset, .unset] [.null, (.ref a_COUNT), (.ref b83), (.ref b89), (.ref b89)])) rfl (by rw [hml]; rfl) (Steps.refl _) (a := b89) (argsL := [(.ref b83), (.ref a_COUNT), .null]) (rest := [(.ref b89)]) (lenOf pd_10 rfl) rfl (by show 2 * 0 + _ ≤ _; exact Nat.le_of_eq rfl) (hb hby at_102) (fun _ _ => ⟨rfl, e89, (by decide : 3 + 4 ≤ _), (by decide : 8 + 40 ≤ _)⟩)
      dsimp only [Pt.U, Pt.locs, Pt.cells, Pt.slots] at hs90 hsz90
      have hS90 := foldS hS0 (show _ ≤ T89.heap.size by rw [e89]; exact (Nat.le_trans (Nat.le_trans hk0 K83.1) E89.1)) hs90 hsz90
      have hZ90 : Z.Warmed39 (s.setVm T90.vm).vm := State.Warmed39.trans (t := s) hZ hs90.1
      have hown90 : (s.setVm T90.vm).vm.findClass "com/example/latticework/latticework/MeasureAddsPinLaw" = some m.cls := by rw [show (s.setVm T90.vm).vm = T90.vm from rfl, hs90.1.alike.findClass]; exact hown
      dsimp only [Pt.U, Pt.locs, Pt.cells, Pt.slots] at X90 l90 y90 z90 st90 hQ90 CQ90
      subst l90 y90 z90
      obtain ⟨rfl, Nq90, K90, Em90, Ff90⟩ := hQ90
      have N90 := Fr.app N83 Nq90
      have O90 : Old Z n0 T90.heap := O89.keep K90 (allS n_b89 all0)
      have CS90 : CHr Z consts_1 s.vm h89 T90.vm T90.heap := CQ90
      have Sf90_b83 := CHr.safe CS90 (Es83.ext E89).lt Sf89_b83
      have Sf90_b89 := CHr.safe CS90 A89.lt Sf89_b89
      have CR90 := CHr.trans CR89 CS90
      have hk90 : T90.heap.size ≤ T90.heap.size := Nat.le_of_eq (by rfl)
      refine OWH.tr (B := T90.setTop (mkF m 105 #[.val (.int n1), .val (.int n2), .val (.int n3), .val (.long n4), .second, .val (.long n5), .second, .val (.int (n1 &&& (3 : Int32))), .val (.ref a_COUNT), .val (.ref b83), .val .null, .unset, .unset, .unset, .unset, .unset] [(.ref b89)])) (st90) ?_
      refine OWH.st (B := T90.setTop (mkF m 107 #[.val (.int n1), .val (.int n2), .val (.int n3), .val (.long n4), .second, .val (.long n5), .second, .val (.int (n1 &&& (3 : Int32))), .val (.ref a_COUNT), .val (.ref b83), .val .null, .val (.ref b89), .unset, .unset, .unset, .unset] [])) (fun _ kk_ => XS.astore X90.here hx rfl (hb hby at_105) rfl rfl (l' := #[.val (.int n1), .val (.int n2), .val (.int n3), .val (.long n4), .second, .val (.long n5), .second, .val (.int (n1 &&& (3 : Int32))), .val (.ref a_COUNT), .val (.ref b83), .val .null, .val (.ref b89), .unset, .unset, .unset, .unset]) rfl kk_) ?_
      refine OWH.st (B := T90.setTop (mkF m 109 #[.val (.int n1), .val (.int n2), .val (.int n3), .val (.long n4), .second, .val (.long n5), .second, .val (.int (n1 &&& (3 : Int32))), .val (.ref a_COUNT), .val (.ref b83), .val .null, .val (.ref b89), .unset, .unset, .unset, .unset] [(.int (n1 &&& (3 : Int32)))])) (fun _ kk_ => XS.iload X90.here hx rfl (hb hby at_107) rfl kk_) ?_
      refine OWH.st (B := T90.setTop (mkF m 118 #[.val (.int n1), .val (.int n2), .val (.int n3), .val (.long n4), .second, .val (.long n5), .second, .val (.int (n1 &&& (3 : Int32))), .val (.ref a_COUNT), .val (.ref b83), .val .null, .val (.ref b89), .unset, .unset, .unset, .unset] [])) (fun _ kk_ => XS.ifYes X90.here hx rfl (pc0 := 109) (pc' := 118) rfl (hb hby at_109) rfl ((if0 _ _).trans (teq hc81).1) (by decide) (by decide) kk_) ?_
      refine OWH.st (B := T90.setTop (mkF m 119 #[.val (.int n1), .val (.int n2), .val (.int n3), .val (.long n4), .second, .val (.long n5), .second, .val (.int (n1 &&& (3 : Int32))), .val (.ref a_COUNT), .val (.ref b83), .val .null, .val (.ref b89), .unset, .unset, .unset, .unset] [(.int (1 : Int32))])) (fun _ kk_ => XS.iconst X90.here hx rfl (hb hby at_118) kk_) ?_
      refine OWH.st (B := T90.setTop (mkF m 123 #[.val (.int n1), .val (.int n2), .val (.int n3), .val (.long n4), .second, .val (.long n5), .second, .val (.int (n1 &&& (3 : Int32))), .val (.ref a_COUNT), .val (.ref b83), .val .null, .val (.ref b89), .unset, .unset, .unset, .unset] [(.int (1 : Int32))])) (fun _ kk_ => XS.goto X90.here hx rfl (pc0 := 119) (pc' := 123) rfl (hb hby at_119) (by decide) (by decide) kk_) ?_
      refine OWH.st (B := T90.setTop (mkF m 125 #[.val (.int n1), .val (.int n2), .val (.int n3), .val (.long n4), .second, .val (.long n5), .second, .val (.int (n1 &&& (3 : Int32))), .val (.ref a_COUNT), .val (.ref b83), .val .null, .val (.ref b89), .val (.int (1 : Int32)), .unset, .unset, .unset] [])) (fun _ kk_ => XS.istore X90.here hx rfl (hb hby at_123) rfl (l' := #[.val (.int n1), .val (.int n2), .val (.int n3), .val (.long n4), .second, .val (.long n5), .second, .val (.int (n1 &&& (3 : Int32))), .val (.ref a_COUNT), .val (.ref b83), .val .null, .val (.ref b89), .val (.int (1 : Int32)), .unset, .unset, .unset]) rfl kk_) ?_
      refine OWH.st (B := T90.setTop (mkF m 127 #[.val (.int n1), .val (.int n2), .val (.int n3), .val (.long n4), .second, .val (.long n5), .second, .val (.int (n1 &&& (3 : Int32))), .val (.ref a_COUNT), .val (.ref b83), .val .null, .val (.ref b89), .val (.int (1 : Int32)), .unset, .unset, .unset] [(.ref b89)])) (fun _ kk_ => XS.aload X90.here hx rfl (hb hby at_125) rfl rfl kk_) ?_
      obtain ⟨cq91, kq91, q91a, q91b, q91c⟩ := isOf hZ90 rfl (A89.keep K90)
      obtain ⟨_, _, ⟨T91, L91, k91, n91⟩, -, X91, ⟨Lc91, hQ91, l91, y91, z91⟩, st91⟩ := X90.virtualBack hx (y := (⟨"com/example/latticework/latticework/Measure", "adds", "()Z"⟩ : MethodName)) (z := (⟨"com/example/latticework/latticework/Measure", "adds", "()Z"⟩ : MethodName)) hown90 (mvT hZ90 (w_68 hw)) (mvT hZ90 (w_69 hw)) (notFace_of_selects (args := #[]) (mvT hZ90 (w_71 hw))) (mvT hZ90 (w_71 hw)) (mvT hZ90 (w_70 hw)) (by decide) (backOf (W := 0) (rmADCOUNT l Z a0 hw [] b89 a_COUNT a_MAX a_SUM a_MIN i_COMPACT_STRINGS v_SIOOBE_FORMATTER T90.heap n0 O90 Ff90 hS) hZ90 (w_72 hw) (w_31 hw) (by decide) (by decide)) q91a q91c (g := (mkF m 127 #[.val (.int n1), .val (.int n2), .val (.int n3), .val (.long n4), .second, .val (.long n5), .second, .val (.int (n1 &&& (3 : Int32))), .val (.ref a_COUNT), .val (.ref b83), .val .null, .val (.ref b89), .val (.int (1 : Int32)), .unset, .unset, .unset] [(.ref b89)])) rfl (by rw [hml]; rfl) (Steps.refl _) (argsL := []) (rest := []) (lenOf pd_6 rfl) rfl (by show 2 * 0 + _ ≤ _; exact Nat.le_of_eq rfl) (hb hby at_127) (fun _ _ => ⟨rfl, rfl, (by decide : 7 + 0 ≤ _), (by decide : 48 + 0 ≤ _)⟩)
      dsimp only [Pt.U, Pt.locs, Pt.cells, Pt.slots] at X91 l91 y91 z91 st91 hQ91
      subst l91 y91 z91
      obtain ⟨rfl, Nq91, e91⟩ := hQ91
      have N91 := Fr.app N90 Nq91
      refine OWH.tr (B := T91.setTop (mkF m 130 #[.val (.int n1), .val (.int n2), .val (.int n3), .val (.long n4), .second, .val (.long n5), .second, .val (.int (n1 &&& (3 : Int32))), .val (.ref a_COUNT), .val (.ref b83), .val .null, .val (.ref b89), .val (.int (1 : Int32)), .unset, .unset, .unset] [(.int (1 : Int32))])) (st91) ?_
      refine OWH.st (B := T91.setTop (mkF m 132 #[.val (.int n1), .val (.int n2), .val (.int n3), .val (.long n4), .second, .val (.long n5), .second, .val (.int (n1 &&& (3 : Int32))), .val (.ref a_COUNT), .val (.ref b83), .val .null, .val (.ref b89), .val (.int (1 : Int32)), .val (.int (1 : Int32)), .unset, .unset] [])) (fun _ kk_ => XS.istore X91.here hx rfl (hb hby at_130) rfl (l' := #[.val (.int n1), .val (.int n2), .val (.int n3), .val (.long n4), .second, .val (.long n5), .second, .val (.int (n1 &&& (3 : Int32))), .val (.ref a_COUNT), .val (.ref b83), .val .null, .val (.ref b89), .val (.int (1 : Int32)), .val (.int (1 : Int32)), .unset, .unset]) rfl kk_) ?_
      refine OWH.st (B := T91.setTop (mkF m 134 #[.val (.int n1), .val (.int n2), .val (.int n3), .val (.long n4), .second, .val (.long n5), .second, .val (.int (n1 &&& (3 : Int32))), .val (.ref a_COUNT), .val (.ref b83), .val .null, .val (.ref b89), .val (.int (1 : Int32)), .val (.int (1 : Int32)), .unset, .unset] [(.int (1 : Int32))])) (fun _ kk_ => XS.iload X91.here hx rfl (hb hby at_132) rfl kk_) ?_
      refine OWH.st (B := T91.setTop (mkF m 136 #[.val (.int n1), .val (.int n2), .val (.int n3), .val (.long n4), .second, .val (.long n5), .second, .val (.int (n1 &&& (3 : Int32))), .val (.ref a_COUNT), .val (.ref b83), .val .null, .val (.ref b89), .val (.int (1 : Int32)), .val (.int (1 : Int32)), .unset, .unset] [(.int (1 : Int32)), (.int (1 : Int32))])) (fun _ kk_ => XS.iload X91.here hx rfl (hb hby at_134) rfl kk_) ?_
      refine OWH.st (B := T91.setTop (mkF m 141 #[.val (.int n1), .val (.int n2), .val (.int n3), .val (.long n4), .second, .val (.long n5), .second, .val (.int (n1 &&& (3 : Int32))), .val (.ref a_COUNT), .val (.ref b83), .val .null, .val (.ref b89), .val (.int (1 : Int32)), .val (.int (1 : Int32)), .unset, .unset] [])) (fun _ kk_ => XS.icmpYes X91.here hx rfl (pc0 := 136) (pc' := 141) rfl (hb hby at_136) rfl (teq (by decide)).1 (by decide) (by decide) kk_) ?_
      refine OWH.st (B := T91.setTop (mkF m 143 #[.val (.int n1), .val (.int n2), .val (.int n3), .val (.long n4), .second, .val (.long n5), .second, .val (.int (n1 &&& (3 : Int32))), .val (.ref a_COUNT), .val (.ref b83), .val .null, .val (.ref b89), .val (.int (1 : Int32)), .val (.int (1 : Int32)), .unset, .unset] [(.int (1 : Int32))])) (fun _ kk_ => XS.iload X91.here hx rfl (hb hby at_141) rfl kk_) ?_
      refine OWH.st (B := T91.setTop (mkF m 177 #[.val (.int n1), .val (.int n2), .val (.int n3), .val (.long n4), .second, .val (.long n5), .second, .val (.int (n1 &&& (3 : Int32))), .val (.ref a_COUNT), .val (.ref b83), .val .null, .val (.ref b89), .val (.int (1 : Int32)), .val (.int (1 : Int32)), .unset, .unset] [])) (fun _ kk_ => XS.ifYes X91.here hx rfl (pc0 := 143) (pc' := 177) rfl (hb hby at_143) rfl ((if0 _ _).trans (feq (by decide)).2) (by decide) (by decide) kk_) ?_
      refine OWH.st (B := T91.setTop (mkF m 178 #[.val (.int n1), .val (.int n2), .val (.int n3), .val (.long n4), .second, .val (.long n5), .second, .val (.int (n1 &&& (3 : Int32))), .val (.ref a_COUNT), .val (.ref b83), .val .null, .val (.ref b89), .val (.int (1 : Int32)), .val (.int (1 : Int32)), .unset, .unset] [(.int (1 : Int32))])) (fun _ kk_ => XS.iconst X91.here hx rfl (hb hby at_177) kk_) ?_
      exact OWH.ret X91 (s := s) (vm0 := T90.vm) hS90 hk90 hx hlk CR90 hZ90 (own_EW hw) (i := .ireturn) Bd.returns rfl (Or.inl ⟨rfl, Or.inr (Or.inl rfl), _, rfl⟩) (hb hby at_178) e91 (by decide) (by decide) ⟨rfl, N91⟩
  · refine OWH.st (B := s₁.setTop (mkF m 18 #[.val (.int n1), .val (.int n2), .val (.int n3), .val (.long n4), .second, .val (.long n5), .second, .val (.int (n1 &&& (3 : Int32))), .unset, .unset, .unset, .unset, .unset, .unset, .unset, .unset] [])) (fun _ kk_ => XS.ifYes X0.here hx rfl (pc0 := 7) (pc' := 18) rfl (hb hby at_7) rfl ((if0 _ _).trans (feq hc81).2) (by decide) (by decide) kk_) ?_
    refine OWH.st (B := s₁.setTop (mkF m 20 #[.val (.int n1), .val (.int n2), .val (.int n3), .val (.long n4), .second, .val (.long n5), .second, .val (.int (n1 &&& (3 : Int32))), .unset, .unset, .unset, .unset, .unset, .unset, .unset, .unset] [(.int (n1 &&& (3 : Int32)))])) (fun _ kk_ => XS.iload X0.here hx rfl (hb hby at_18) rfl kk_) ?_
    refine OWH.st (B := s₁.setTop (mkF m 21 #[.val (.int n1), .val (.int n2), .val (.int n3), .val (.long n4), .second, .val (.long n5), .second, .val (.int (n1 &&& (3 : Int32))), .unset, .unset, .unset, .unset, .unset, .unset, .unset, .unset] [(.int (1 : Int32)), (.int (n1 &&& (3 : Int32)))])) (fun _ kk_ => XS.iconst X0.here hx rfl (hb hby at_20) kk_) ?_
    by_cases hc92 : (n1 &&& (3 : Int32)) = (1 : Int32)
    · refine OWH.st (B := s₁.setTop (mkF m 24 #[.val (.int n1), .val (.int n2), .val (.int n3), .val (.long n4), .second, .val (.long n5), .second, .val (.int (n1 &&& (3 : Int32))), .unset, .unset, .unset, .unset, .unset, .unset, .unset, .unset] [])) (fun _ kk_ => XS.icmpNo X0.here hx rfl (hb hby at_21) rfl (teq hc92).2 kk_) ?_
      obtain ⟨T93, X93, e93, st93⟩ := getS2 X0 hx hZ hown (host := "") (Or.inl (w_89 hw)) Via.refl e0 (Sa_SUM.ext O0.2) (g := (mkF m 24 #[.val (.int n1), .val (.int n2), .val (.int n3), .val (.long n4), .second, .val (.long n5), .second, .val (.int (n1 &&& (3 : Int32))), .unset, .unset, .unset, .unset, .unset, .unset, .unset, .unset] [])) rfl (hb hby at_24)
      refine OWH.st (B := T93.setTop (mkF m 27 #[.val (.int n1), .val (.int n2), .val (.int n3), .val (.long n4), .second, .val (.long n5), .second, .val (.int (n1 &&& (3 : Int32))), .unset, .unset, .unset, .unset, .unset, .unset, .unset, .unset] [(.ref a_SUM)])) (st93) ?_
      refine OWH.st (B := T93.setTop (mkF m 29 #[.val (.int n1), .val (.int n2), .val (.int n3), .val (.long n4), .second, .val (.long n5), .second, .val (.int (n1 &&& (3 : Int32))), .val (.ref a_SUM), .unset, .unset, .unset, .unset, .unset, .unset, .unset] [])) (fun _ kk_ => XS.astore X93.here hx rfl (hb hby at_27) rfl rfl (l' := #[.val (.int n1), .val (.int n2), .val (.int n3), .val (.long n4), .second, .val (.long n5), .second, .val (.int (n1 &&& (3 : Int32))), .val (.ref a_SUM), .unset, .unset, .unset, .unset, .unset, .unset, .unset]) rfl kk_) ?_
      refine OWH.st (B := T93.setTop (mkF m 51 #[.val (.int n1), .val (.int n2), .val (.int n3), .val (.long n4), .second, .val (.long n5), .second, .val (.int (n1 &&& (3 : Int32))), .val (.ref a_SUM), .unset, .unset, .unset, .unset, .unset, .unset, .unset] [])) (fun _ kk_ => XS.goto X93.here hx rfl (pc0 := 29) (pc' := 51) rfl (hb hby at_29) (by decide) (by decide) kk_) ?_
      refine OWH.st (B := T93.setTop (mkF m 52 #[.val (.int n1), .val (.int n2), .val (.int n3), .val (.long n4), .second, .val (.long n5), .second, .val (.int (n1 &&& (3 : Int32))), .val (.ref a_SUM), .unset, .unset, .unset, .unset, .unset, .unset, .unset] [(.int n2)])) (fun _ kk_ => XS.iloadN X93.here hx rfl (hb hby at_51) rfl kk_) ?_
      refine OWH.st (B := T93.setTop (mkF m 55 #[.val (.int n1), .val (.int n2), .val (.int n3), .val (.long n4), .second, .val (.long n5), .second, .val (.int (n1 &&& (3 : Int32))), .val (.ref a_SUM), .unset, .unset, .unset, .unset, .unset, .unset, .unset] [(.int (255 : Int32)), (.int n2)])) (fun _ kk_ => XS.sipush X93.here hx rfl (hb hby at_52) kk_) ?_
      refine OWH.st (B := T93.setTop (mkF m 56 #[.val (.int n1), .val (.int n2), .val (.int n3), .val (.long n4), .second, .val (.long n5), .second, .val (.int (n1 &&& (3 : Int32))), .val (.ref a_SUM), .unset, .unset, .unset, .unset, .unset, .unset, .unset] [(.int (n2 &&& (255 : Int32)))])) (fun _ kk_ => XS.iand X93.here hx rfl (hb hby at_55) rfl kk_) ?_
      refine OWH.st (B := T93.setTop (mkF m 57 #[.val (.int n1), .val (.int n2), .val (.int n3), .val (.long n4), .second, .val (.long n5), .second, .val (.int (n1 &&& (3 : Int32))), .val (.ref a_SUM), .unset, .unset, .unset, .unset, .unset, .unset, .unset] [(.int ((n2 &&& (255 : Int32)).toUInt32.toUInt16.toUInt32.toInt32))])) (fun _ kk_ => XS.i2c X93.here hx rfl (hb hby at_56) rfl kk_) ?_
      suffices J : ∀ u1 : Int32, (¬ ((255 : Int32) < u1) ∧ nar .char u1 = u1) → OWH Z consts_1 h0 p e below s (Q0 Z n1 n2 n3 n4 n5 a_COUNT a_MAX a_SUM a_MIN i_COMPACT_STRINGS v_SIOOBE_FORMATTER h0 n0) 9 53 (T93.setTop (mkF m 57 #[.val (.int n1), .val (.int n2), .val (.int n3), .val (.long n4), .second, .val (.long n5), .second, .val (.int (n1 &&& (3 : Int32))), .val (.ref a_SUM), .unset, .unset, .unset, .unset, .unset, .unset, .unset] [(.int u1)])) from J _ (own_ch255 n2)
      intro u1 hu1
      obtain ⟨hlu1, hnu1⟩ := hu1
      obtain ⟨_, _, ⟨T94, L94, k94, n94⟩, -, X94, ⟨Lc94, hQ94, l94, y94, z94⟩, st94⟩ := Jvm.LawKit.callS X93 hx (y := (⟨"java/lang/String", "valueOf", "(C)Ljava/lang/String;"⟩ : MethodName)) hown (mvT hZ (w_3 hw)) (mvT hZ (w_4 hw)) (mvT hZ (w_5 hw)) (mvT hZ (w_6 hw)) (by decide) (backOf (W := 0) (rmVO l Z a0 hw [] u1 a_COUNT a_MAX a_SUM a_MIN i_COMPACT_STRINGS v_SIOOBE_FORMATTER h0 n0 O0 hS hlu1) hZ (w_6 hw) (w_5 hw) (by decide) (by decide)) (g := (mkF m 57 #[.val (.int n1), .val (.int n2), .val (.int n3), .val (.long n4), .second, .val (.long n5), .second, .val (.int (n1 &&& (3 : Int32))), .val (.ref a_SUM), .unset, .unset, .unset, .unset, .unset, .unset, .unset] [(.int u1)])) rfl (by rw [hml]; rfl) (argsL := [(.int u1)]) (rest := []) (lenOf pd_9 rfl) rfl (by show 2 * 0 + _ ≤ _; exact Nat.le_of_eq rfl) (hb hby at_57) (fun _ _ => ⟨rfl, e93, (by decide : 0 + 2 ≤ _), (by decide : 0 + 5 ≤ _)⟩)
      dsimp only [Pt.U, Pt.locs, Pt.cells, Pt.slots] at X94 l94 y94 z94 st94 hQ94
      subst l94 y94 z94
      obtain ⟨b94, ba94, kb94, rfl, Nq94, K94, gb94, zb94, Es94, Fv94, Fc94, Vs94⟩ := hQ94
      have N94 := Fr.app N0 Nq94
      have O94 : Old Z n0 T94.heap := O0.keep K94 all0
      have CS94 : CHr Z consts_1 s.vm h0 s.vm T94.heap := CHr.keep K94 all0 CR0.1
      have CR94 := CHr.trans CR0 CS94
      have Sf94_b94 : Safe Z consts_1 s.vm T94.heap b94 := Safe.keep K94 all0 CR0.1 (Safe.new zb94)
      refine OWH.st (B := T94.setTop (mkF m 60 #[.val (.int n1), .val (.int n2), .val (.int n3), .val (.long n4), .second, .val (.long n5), .second, .val (.int (n1 &&& (3 : Int32))), .val (.ref a_SUM), .unset, .unset, .unset, .unset, .unset, .unset, .unset] [(.ref b94)])) (st94) ?_
      refine OWH.st (B := T94.setTop (mkF m 62 #[.val (.int n1), .val (.int n2), .val (.int n3), .val (.long n4), .second, .val (.long n5), .second, .val (.int (n1 &&& (3 : Int32))), .val (.ref a_SUM), .val (.ref b94), .unset, .unset, .unset, .unset, .unset, .unset] [])) (fun _ kk_ => XS.astore X94.here hx rfl (hb hby at_60) rfl rfl (l' := #[.val (.int n1), .val (.int n2), .val (.int n3), .val (.long n4), .second, .val (.long n5), .second, .val (.int (n1 &&& (3 : Int32))), .val (.ref a_SUM), .val (.ref b94), .unset, .unset, .unset, .unset, .unset, .unset]) rfl kk_) ?_
      refine OWH.st (B := T94.setTop (mkF m 64 #[.val (.int n1), .val (.int n2), .val (.int n3), .val (.long n4), .second, .val (.long n5), .second, .val (.int (n1 &&& (3 : Int32))), .val (.ref a_SUM), .val (.ref b94), .unset, .unset, .unset, .unset, .unset, .unset] [(.int (n1 &&& (3 : Int32)))])) (fun _ kk_ => XS.iload X94.here hx rfl (hb hby at_62) rfl kk_) ?_
      refine OWH.st (B := T94.setTop (mkF m 81 #[.val (.int n1), .val (.int n2), .val (.int n3), .val (.long n4), .second, .val (.long n5), .second, .val (.int (n1 &&& (3 : Int32))), .val (.ref a_SUM), .val (.ref b94), .unset, .unset, .unset, .unset, .unset, .unset] [])) (fun _ kk_ => XS.ifYes X94.here hx rfl (pc0 := 64) (pc' := 81) rfl (hb hby at_64) rfl ((if0 _ _).trans (feq hc81).2) (by decide) (by decide) kk_) ?_
      refine OWH.st (B := T94.setTop (mkF m 82 #[.val (.int n1), .val (.int n2), .val (.int n3), .val (.long n4), .second, .val (.long n5), .second, .val (.int (n1 &&& (3 : Int32))), .val (.ref a_SUM), .val (.ref b94), .unset, .unset, .unset, .unset, .unset, .unset] [(.int n3)])) (fun _ kk_ => XS.iloadN X94.here hx rfl (hb hby at_81) rfl kk_) ?_
      refine OWH.st (B := T94.setTop (mkF m 85 #[.val (.int n1), .val (.int n2), .val (.int n3), .val (.long n4), .second, .val (.long n5), .second, .val (.int (n1 &&& (3 : Int32))), .val (.ref a_SUM), .val (.ref b94), .unset, .unset, .unset, .unset, .unset, .unset] [(.int (255 : Int32)), (.int n3)])) (fun _ kk_ => XS.sipush X94.here hx rfl (hb hby at_82) kk_) ?_
      refine OWH.st (B := T94.setTop (mkF m 86 #[.val (.int n1), .val (.int n2), .val (.int n3), .val (.long n4), .second, .val (.long n5), .second, .val (.int (n1 &&& (3 : Int32))), .val (.ref a_SUM), .val (.ref b94), .unset, .unset, .unset, .unset, .unset, .unset] [(.int (n3 &&& (255 : Int32)))])) (fun _ kk_ => XS.iand X94.here hx rfl (hb hby at_85) rfl kk_) ?_
      refine OWH.st (B := T94.setTop (mkF m 87 #[.val (.int n1), .val (.int n2), .val (.int n3), .val (.long n4), .second, .val (.long n5), .second, .val (.int (n1 &&& (3 : Int32))), .val (.ref a_SUM), .val (.ref b94), .unset, .unset, .unset, .unset, .unset, .unset] [(.int ((n3 &&& (255 : Int32)).toUInt32.toUInt16.toUInt32.toInt32))])) (fun _ kk_ => XS.i2c X94.here hx rfl (hb hby at_86) rfl kk_) ?_
      suffices J : ∀ u2 : Int32, (¬ ((255 : Int32) < u2) ∧ nar .char u2 = u2) → OWH Z consts_1 h0 p e below s (Q0 Z n1 n2 n3 n4 n5 a_COUNT a_MAX a_SUM a_MIN i_COMPACT_STRINGS v_SIOOBE_FORMATTER h0 n0) 9 53 (T94.setTop (mkF m 87 #[.val (.int n1), .val (.int n2), .val (.int n3), .val (.long n4), .second, .val (.long n5), .second, .val (.int (n1 &&& (3 : Int32))), .val (.ref a_SUM), .val (.ref b94), .unset, .unset, .unset, .unset, .unset, .unset] [(.int u2)])) from J _ (own_ch255 n3)
      intro u2 hu2
      obtain ⟨hlu2, hnu2⟩ := hu2
      obtain ⟨_, _, ⟨T95, L95, k95, n95⟩, -, X95, ⟨Lc95, hQ95, l95, y95, z95⟩, st95⟩ := Jvm.LawKit.callS X94 hx (y := (⟨"java/lang/String", "valueOf", "(C)Ljava/lang/String;"⟩ : MethodName)) hown (mvT hZ (w_3 hw)) (mvT hZ (w_4 hw)) (mvT hZ (w_5 hw)) (mvT hZ (w_6 hw)) (by decide) (backOf (W := 0) (rmVO l Z a0 hw [] u2 a_COUNT a_MAX a_SUM a_MIN i_COMPACT_STRINGS v_SIOOBE_FORMATTER T94.heap n0 O94 hS hlu2) hZ (w_6 hw) (w_5 hw) (by decide) (by decide)) (g := (mkF m 87 #[.val (.int n1), .val (.int n2), .val (.int n3), .val (.long n4), .second, .val (.long n5), .second, .val (.int (n1 &&& (3 : Int32))), .val (.ref a_SUM), .val (.ref b94), .unset, .unset, .unset, .unset, .unset, .unset] [(.int u2)])) rfl (by rw [hml]; rfl) (argsL := [(.int u2)]) (rest := []) (lenOf pd_9 rfl) rfl (by show 2 * 0 + _ ≤ _; exact Nat.le_of_eq rfl) (hb hby at_87) (fun _ _ => ⟨rfl, rfl, (by decide : 2 + 2 ≤ _), (by decide : 5 + 5 ≤ _)⟩)
      dsimp only [Pt.U, Pt.locs, Pt.cells, Pt.slots] at X95 l95 y95 z95 st95 hQ95
      subst l95 y95 z95
      obtain ⟨b95, ba95, kb95, rfl, Nq95, K95, gb95, zb95, Es95, Fv95, Fc95, Vs95⟩ := hQ95
      have N95 := Fr.app N94 Nq95
      have O95 : Old Z n0 T95.heap := O94.keep K95 all0
      have CS95 : CHr Z consts_1 s.vm T94.heap s.vm T95.heap := CHr.keep K95 all0 CR94.1
      have Sf95_b94 := CHr.safe CS95 Es94.lt Sf94_b94
      have CR95 := CHr.trans CR94 CS95
      have Sf95_b95 : Safe Z consts_1 s.vm T95.heap b95 := Safe.keep K95 all0 CR94.1 (Safe.new zb95)
      refine OWH.st (B := T95.setTop (mkF m 90 #[.val (.int n1), .val (.int n2), .val (.int n3), .val (.long n4), .second, .val (.long n5), .second, .val (.int (n1 &&& (3 : Int32))), .val (.ref a_SUM), .val (.ref b94), .unset, .unset, .unset, .unset, .unset, .unset] [(.ref b95)])) (st95) ?_
      refine OWH.st (B := T95.setTop (mkF m 92 #[.val (.int n1), .val (.int n2), .val (.int n3), .val (.long n4), .second, .val (.long n5), .second, .val (.int (n1 &&& (3 : Int32))), .val (.ref a_SUM), .val (.ref b94), .val (.ref b95), .unset, .unset, .unset, .unset, .unset] [])) (fun _ kk_ => XS.astore X95.here hx rfl (hb hby at_90) rfl rfl (l' := #[.val (.int n1), .val (.int n2), .val (.int n3), .val (.long n4), .second, .val (.long n5), .second, .val (.int (n1 &&& (3 : Int32))), .val (.ref a_SUM), .val (.ref b94), .val (.ref b95), .unset, .unset, .unset, .unset, .unset]) rfl kk_) ?_
      obtain ⟨T96, h96, X96, e96, E96, A96, D96, -, st96⟩ := newO X95 hx hZ hown (w_29 hw) (w_30 hw) (w_31 hw) rfl (g := (mkF m 92 #[.val (.int n1), .val (.int n2), .val (.int n3), .val (.long n4), .second, .val (.long n5), .second, .val (.int (n1 &&& (3 : Int32))), .val (.ref a_SUM), .val (.ref b94), .val (.ref b95), .unset, .unset, .unset, .unset, .unset] [])) rfl (hb hby at_92) (by decide) (by decide)
      obtain ⟨b96, g96⟩ : ∃ z, z = T95.heap.size := ⟨_, rfl⟩
      rw [← g96] at A96 D96 st96
      have n_b96 : n0 ≤ b96 := Nat.le_trans (own_oldle O95) (Nat.le_of_eq g96.symm)
      have O96 : Old Z n0 h96 := O95.ext E96
      have CS96 : CHr Z consts_1 s.vm T95.heap s.vm h96 := CHr.ext E96 CR95.1
      have Sf96_b94 := CHr.safe CS96 (Es94.keep K95).lt Sf95_b94
      have Sf96_b95 := CHr.safe CS96 Es95.lt Sf95_b95
      have CR96 := CHr.trans CR95 CS96
      have Sf96_b96 : Safe Z consts_1 s.vm h96 b96 := Safe.ext E96 CR95.1 (Safe.new (Nat.le_of_eq g96.symm))
      have F96_63 : Fld Z h96 b96 "com/example/latticework/latticework/Measure" "name" "Ljava/lang/String;" .null := D96 (Or.inr (w_63 hw)) (ty := (.object "java/lang/String")) (by decide)
      have F96_65 : Fld Z h96 b96 "com/example/latticework/latticework/Measure" "function" "Lcom/example/latticework/latticework/Measure$Function;" .null := D96 (Or.inr (w_65 hw)) (ty := (.object "com/example/latticework/latticework/Measure$Function")) (by decide)
      have F96_67 : Fld Z h96 b96 "com/example/latticework/latticework/Measure" "column" "Ljava/lang/String;" .null := D96 (Or.inr (w_67 hw)) (ty := (.object "java/lang/String")) (by decide)
      refine OWH.st (B := T96.setTop (mkF m 95 #[.val (.int n1), .val (.int n2), .val (.int n3), .val (.long n4), .second, .val (.long n5), .second, .val (.int (n1 &&& (3 : Int32))), .val (.ref a_SUM), .val (.ref b94), .val (.ref b95), .unset, .unset, .unset, .unset, .unset] [(.ref b96)])) (st96) ?_
      refine OWH.st (B := T96.setTop (mkF m 96 #[.val (.int n1), .val (.int n2), .val (.int n3), .val (.long n4), .second, .val (.long n5), .second, .val (.int (n1 &&& (3 : Int32))), .val (.ref a_SUM), .val (.ref b94), .val (.ref b95), .unset, .unset, .unset, .unset, .unset] [(.ref b96), (.ref b96)])) (fun _ kk_ => XS.dup X96.here hx rfl (hb hby at_95) rfl rfl kk_) ?_
      refine OWH.st (B := T96.setTop (mkF m 98 #[.val (.int n1), .val (.int n2), .val (.int n3), .val (.long n4), .second, .val (.long n5), .second, .val (.int (n1 &&& (3 : Int32))), .val (.ref a_SUM), .val (.ref b94), .val (.ref b95), .unset, .unset, .unset, .unset, .unset] [(.ref b94), (.ref b96), (.ref b96)])) (fun _ kk_ => XS.aload X96.here hx rfl (hb hby at_96) rfl rfl kk_) ?_
      refine OWH.st (B := T96.setTop (mkF m 100 #[.val (.int n1), .val (.int n2), .val (.int n3), .val (.long n4), .second, .val (.long n5), .second, .val (.int (n1 &&& (3 : Int32))), .val (.ref a_SUM), .val (.ref b94), .val (.ref b95), .unset, .unset, .unset, .unset, .unset] [(.ref a_SUM), (.ref b94), (.ref b96), (.ref b96)])) (fun _ kk_ => XS.aload X96.here hx rfl (hb hby at_98) rfl rfl kk_) ?_
      refine OWH.st (B := T96.setTop (mkF m 102 #[.val (.int n1), .val (.int n2), .val (.int n3), .val (.long n4), .second, .val (.long n5), .second, .val (.int (n1 &&& (3 : Int32))), .val (.ref a_SUM), .val (.ref b94), .val (.ref b95), .unset, .unset, .unset, .unset, .unset] [(.ref b95), (.ref a_SUM), (.ref b94), (.ref b96), (.ref b96)])) (fun _ kk_ => XS.aload X96.here hx rfl (hb hby at_100) rfl rfl kk_) ?_
      obtain ⟨_, _, ⟨T97, L97, k97, n97⟩, -, X97, hs97, hsz97, ⟨Lc97, hQ97, l97, y97, z97, CQ97⟩, st97⟩ := X96.specialBackS hx (y := (⟨"com/example/latticework/latticework/Measure", "<init>", "(Ljava/lang/String;Lcom/example/latticework/latticework/Measure$Function;Ljava/lang/String;)V"⟩ : MethodName)) rfl hown (mvT hZ (w_32 hw)) (mvT hZ (w_33 hw)) (mvT hZ (w_34 hw)) (by decide) (backOfSH (W := 1) (rmMC l Z a0 hw [] b96 b94 ba94 kb94 (own_by u1) a_SUM b95 ba95 kb95 (own_by u2) a_COUNT a_MAX a_SUM a_MIN i_COMPACT_STRINGS v_SIOOBE_FORMATTER h96 n0 O96 A96 F96_63 F96_65 F96_67 n_b96 ((Es94.keep K95).ext E96) ((Fv94.keep K95 nin0).ext E96) ((Fc94.keep K95 nin0).ext E96) ((Vs94.keep K95 nin0).ext E96) (Es95.ext E96) (Fv95.ext E96) (Fc95.ext E96) (Vs95.ext E96) hS) hZ (w_34 hw) (w_31 hw) (by decide) (by decide) (own_EW hw) CR96.1) (g := (mkF m 102 #[.val (.int n1), .val (.int n2), .val (.int n3), .val (.long n4), .second, .val (.long n5), .second, .val (.int (n1 &&& (3 : Int32))), .val (.ref a_SUM), .val (.ref b94), .val (.ref b95), .unset, .unset, .unset, .unset, .unset] [(.ref b95), (.ref a_SUM), (.ref b94), (.ref b96), (.ref b96)])) rfl (by rw [hml]; rfl) (Steps.refl _) (a := b96) (argsL := [(.ref b94), (.ref a_SUM), (.ref b95)]) (rest := [(.ref b96)]) (lenOf pd_10 rfl) rfl (by show 2 * 0 + _ ≤ _; exact Nat.le_of_eq rfl) (hb hby at_102) (fun _ _ => ⟨rfl, e96, (by decide : 5 + 4 ≤ _), (by decide : 13 + 40 ≤ _)⟩)
      dsimp only [Pt.U, Pt.locs, Pt.cells, Pt.slots] at hs97 hsz97
      have hS97 := foldS hS0 (show _ ≤ T96.heap.size by rw [e96]; exact (Nat.le_trans (Nat.le_trans (Nat.le_trans hk0 K94.1) K95.1) E96.1)) hs97 hsz97
      have hZ97 : Z.Warmed39 (s.setVm T97.vm).vm := State.Warmed39.trans (t := s) hZ hs97.1
      have hown97 : (s.setVm T97.vm).vm.findClass "com/example/latticework/latticework/MeasureAddsPinLaw" = some m.cls := by rw [show (s.setVm T97.vm).vm = T97.vm from rfl, hs97.1.alike.findClass]; exact hown
      dsimp only [Pt.U, Pt.locs, Pt.cells, Pt.slots] at X97 l97 y97 z97 st97 hQ97 CQ97
      subst l97 y97 z97
      obtain ⟨rfl, Nq97, K97, Em97, Ff97⟩ := hQ97
      have N97 := Fr.app N95 Nq97
      have O97 : Old Z n0 T97.heap := O96.keep K97 (allS n_b96 all0)
      have CS97 : CHr Z consts_1 s.vm h96 T97.vm T97.heap := CQ97
      have Sf97_b94 := CHr.safe CS97 ((Es94.keep K95).ext E96).lt Sf96_b94
      have Sf97_b95 := CHr.safe CS97 (Es95.ext E96).lt Sf96_b95
      have Sf97_b96 := CHr.safe CS97 A96.lt Sf96_b96
      have CR97 := CHr.trans CR96 CS97
      have hk97 : T97.heap.size ≤ T97.heap.size := Nat.le_of_eq (by rfl)
      refine OWH.tr (B := T97.setTop (mkF m 105 #[.val (.int n1), .val (.int n2), .val (.int n3), .val (.long n4), .second, .val (.long n5), .second, .val (.int (n1 &&& (3 : Int32))), .val (.ref a_SUM), .val (.ref b94), .val (.ref b95), .unset, .unset, .unset, .unset, .unset] [(.ref b96)])) (st97) ?_
      refine OWH.st (B := T97.setTop (mkF m 107 #[.val (.int n1), .val (.int n2), .val (.int n3), .val (.long n4), .second, .val (.long n5), .second, .val (.int (n1 &&& (3 : Int32))), .val (.ref a_SUM), .val (.ref b94), .val (.ref b95), .val (.ref b96), .unset, .unset, .unset, .unset] [])) (fun _ kk_ => XS.astore X97.here hx rfl (hb hby at_105) rfl rfl (l' := #[.val (.int n1), .val (.int n2), .val (.int n3), .val (.long n4), .second, .val (.long n5), .second, .val (.int (n1 &&& (3 : Int32))), .val (.ref a_SUM), .val (.ref b94), .val (.ref b95), .val (.ref b96), .unset, .unset, .unset, .unset]) rfl kk_) ?_
      refine OWH.st (B := T97.setTop (mkF m 109 #[.val (.int n1), .val (.int n2), .val (.int n3), .val (.long n4), .second, .val (.long n5), .second, .val (.int (n1 &&& (3 : Int32))), .val (.ref a_SUM), .val (.ref b94), .val (.ref b95), .val (.ref b96), .unset, .unset, .unset, .unset] [(.int (n1 &&& (3 : Int32)))])) (fun _ kk_ => XS.iload X97.here hx rfl (hb hby at_107) rfl kk_) ?_
      refine OWH.st (B := T97.setTop (mkF m 112 #[.val (.int n1), .val (.int n2), .val (.int n3), .val (.long n4), .second, .val (.long n5), .second, .val (.int (n1 &&& (3 : Int32))), .val (.ref a_SUM), .val (.ref b94), .val (.ref b95), .val (.ref b96), .unset, .unset, .unset, .unset] [])) (fun _ kk_ => XS.ifNo X97.here hx rfl (hb hby at_109) rfl ((if0 _ _).trans (feq hc81).1) kk_) ?_
      refine OWH.st (B := T97.setTop (mkF m 114 #[.val (.int n1), .val (.int n2), .val (.int n3), .val (.long n4), .second, .val (.long n5), .second, .val (.int (n1 &&& (3 : Int32))), .val (.ref a_SUM), .val (.ref b94), .val (.ref b95), .val (.ref b96), .unset, .unset, .unset, .unset] [(.int (n1 &&& (3 : Int32)))])) (fun _ kk_ => XS.iload X97.here hx rfl (hb hby at_112) rfl kk_) ?_
      refine OWH.st (B := T97.setTop (mkF m 115 #[.val (.int n1), .val (.int n2), .val (.int n3), .val (.long n4), .second, .val (.long n5), .second, .val (.int (n1 &&& (3 : Int32))), .val (.ref a_SUM), .val (.ref b94), .val (.ref b95), .val (.ref b96), .unset, .unset, .unset, .unset] [(.int (1 : Int32)), (.int (n1 &&& (3 : Int32)))])) (fun _ kk_ => XS.iconst X97.here hx rfl (hb hby at_114) kk_) ?_
      refine OWH.st (B := T97.setTop (mkF m 118 #[.val (.int n1), .val (.int n2), .val (.int n3), .val (.long n4), .second, .val (.long n5), .second, .val (.int (n1 &&& (3 : Int32))), .val (.ref a_SUM), .val (.ref b94), .val (.ref b95), .val (.ref b96), .unset, .unset, .unset, .unset] [])) (fun _ kk_ => XS.icmpNo X97.here hx rfl (hb hby at_115) rfl (teq hc92).2 kk_) ?_
      refine OWH.st (B := T97.setTop (mkF m 119 #[.val (.int n1), .val (.int n2), .val (.int n3), .val (.long n4), .second, .val (.long n5), .second, .val (.int (n1 &&& (3 : Int32))), .val (.ref a_SUM), .val (.ref b94), .val (.ref b95), .val (.ref b96), .unset, .unset, .unset, .unset] [(.int (1 : Int32))])) (fun _ kk_ => XS.iconst X97.here hx rfl (hb hby at_118) kk_) ?_
      refine OWH.st (B := T97.setTop (mkF m 123 #[.val (.int n1), .val (.int n2), .val (.int n3), .val (.long n4), .second, .val (.long n5), .second, .val (.int (n1 &&& (3 : Int32))), .val (.ref a_SUM), .val (.ref b94), .val (.ref b95), .val (.ref b96), .unset, .unset, .unset, .unset] [(.int (1 : Int32))])) (fun _ kk_ => XS.goto X97.here hx rfl (pc0 := 119) (pc' := 123) rfl (hb hby at_119) (by decide) (by decide) kk_) ?_
      refine OWH.st (B := T97.setTop (mkF m 125 #[.val (.int n1), .val (.int n2), .val (.int n3), .val (.long n4), .second, .val (.long n5), .second, .val (.int (n1 &&& (3 : Int32))), .val (.ref a_SUM), .val (.ref b94), .val (.ref b95), .val (.ref b96), .val (.int (1 : Int32)), .unset, .unset, .unset] [])) (fun _ kk_ => XS.istore X97.here hx rfl (hb hby at_123) rfl (l' := #[.val (.int n1), .val (.int n2), .val (.int n3), .val (.long n4), .second, .val (.long n5), .second, .val (.int (n1 &&& (3 : Int32))), .val (.ref a_SUM), .val (.ref b94), .val (.ref b95), .val (.ref b96), .val (.int (1 : Int32)), .unset, .unset, .unset]) rfl kk_) ?_
      refine OWH.st (B := T97.setTop (mkF m 127 #[.val (.int n1), .val (.int n2), .val (.int n3), .val (.long n4), .second, .val (.long n5), .second, .val (.int (n1 &&& (3 : Int32))), .val (.ref a_SUM), .val (.ref b94), .val (.ref b95), .val (.ref b96), .val (.int (1 : Int32)), .unset, .unset, .unset] [(.ref b96)])) (fun _ kk_ => XS.aload X97.here hx rfl (hb hby at_125) rfl rfl kk_) ?_
      obtain ⟨cq98, kq98, q98a, q98b, q98c⟩ := isOf hZ97 rfl (A96.keep K97)
      obtain ⟨_, _, ⟨T98, L98, k98, n98⟩, -, X98, ⟨Lc98, hQ98, l98, y98, z98⟩, st98⟩ := X97.virtualBack hx (y := (⟨"com/example/latticework/latticework/Measure", "adds", "()Z"⟩ : MethodName)) (z := (⟨"com/example/latticework/latticework/Measure", "adds", "()Z"⟩ : MethodName)) hown97 (mvT hZ97 (w_68 hw)) (mvT hZ97 (w_69 hw)) (notFace_of_selects (args := #[]) (mvT hZ97 (w_71 hw))) (mvT hZ97 (w_71 hw)) (mvT hZ97 (w_70 hw)) (by decide) (backOf (W := 0) (rmADSUM l Z a0 hw [] b96 a_COUNT a_MAX a_SUM a_MIN i_COMPACT_STRINGS v_SIOOBE_FORMATTER T97.heap n0 O97 Ff97 hS) hZ97 (w_72 hw) (w_31 hw) (by decide) (by decide)) q98a q98c (g := (mkF m 127 #[.val (.int n1), .val (.int n2), .val (.int n3), .val (.long n4), .second, .val (.long n5), .second, .val (.int (n1 &&& (3 : Int32))), .val (.ref a_SUM), .val (.ref b94), .val (.ref b95), .val (.ref b96), .val (.int (1 : Int32)), .unset, .unset, .unset] [(.ref b96)])) rfl (by rw [hml]; rfl) (Steps.refl _) (argsL := []) (rest := []) (lenOf pd_6 rfl) rfl (by show 2 * 0 + _ ≤ _; exact Nat.le_of_eq rfl) (hb hby at_127) (fun _ _ => ⟨rfl, rfl, (by decide : 9 + 0 ≤ _), (by decide : 53 + 0 ≤ _)⟩)
      dsimp only [Pt.U, Pt.locs, Pt.cells, Pt.slots] at X98 l98 y98 z98 st98 hQ98
      subst l98 y98 z98
      obtain ⟨rfl, Nq98, e98⟩ := hQ98
      have N98 := Fr.app N97 Nq98
      refine OWH.tr (B := T98.setTop (mkF m 130 #[.val (.int n1), .val (.int n2), .val (.int n3), .val (.long n4), .second, .val (.long n5), .second, .val (.int (n1 &&& (3 : Int32))), .val (.ref a_SUM), .val (.ref b94), .val (.ref b95), .val (.ref b96), .val (.int (1 : Int32)), .unset, .unset, .unset] [(.int (1 : Int32))])) (st98) ?_
      refine OWH.st (B := T98.setTop (mkF m 132 #[.val (.int n1), .val (.int n2), .val (.int n3), .val (.long n4), .second, .val (.long n5), .second, .val (.int (n1 &&& (3 : Int32))), .val (.ref a_SUM), .val (.ref b94), .val (.ref b95), .val (.ref b96), .val (.int (1 : Int32)), .val (.int (1 : Int32)), .unset, .unset] [])) (fun _ kk_ => XS.istore X98.here hx rfl (hb hby at_130) rfl (l' := #[.val (.int n1), .val (.int n2), .val (.int n3), .val (.long n4), .second, .val (.long n5), .second, .val (.int (n1 &&& (3 : Int32))), .val (.ref a_SUM), .val (.ref b94), .val (.ref b95), .val (.ref b96), .val (.int (1 : Int32)), .val (.int (1 : Int32)), .unset, .unset]) rfl kk_) ?_
      refine OWH.st (B := T98.setTop (mkF m 134 #[.val (.int n1), .val (.int n2), .val (.int n3), .val (.long n4), .second, .val (.long n5), .second, .val (.int (n1 &&& (3 : Int32))), .val (.ref a_SUM), .val (.ref b94), .val (.ref b95), .val (.ref b96), .val (.int (1 : Int32)), .val (.int (1 : Int32)), .unset, .unset] [(.int (1 : Int32))])) (fun _ kk_ => XS.iload X98.here hx rfl (hb hby at_132) rfl kk_) ?_
      refine OWH.st (B := T98.setTop (mkF m 136 #[.val (.int n1), .val (.int n2), .val (.int n3), .val (.long n4), .second, .val (.long n5), .second, .val (.int (n1 &&& (3 : Int32))), .val (.ref a_SUM), .val (.ref b94), .val (.ref b95), .val (.ref b96), .val (.int (1 : Int32)), .val (.int (1 : Int32)), .unset, .unset] [(.int (1 : Int32)), (.int (1 : Int32))])) (fun _ kk_ => XS.iload X98.here hx rfl (hb hby at_134) rfl kk_) ?_
      refine OWH.st (B := T98.setTop (mkF m 141 #[.val (.int n1), .val (.int n2), .val (.int n3), .val (.long n4), .second, .val (.long n5), .second, .val (.int (n1 &&& (3 : Int32))), .val (.ref a_SUM), .val (.ref b94), .val (.ref b95), .val (.ref b96), .val (.int (1 : Int32)), .val (.int (1 : Int32)), .unset, .unset] [])) (fun _ kk_ => XS.icmpYes X98.here hx rfl (pc0 := 136) (pc' := 141) rfl (hb hby at_136) rfl (teq (by decide)).1 (by decide) (by decide) kk_) ?_
      refine OWH.st (B := T98.setTop (mkF m 143 #[.val (.int n1), .val (.int n2), .val (.int n3), .val (.long n4), .second, .val (.long n5), .second, .val (.int (n1 &&& (3 : Int32))), .val (.ref a_SUM), .val (.ref b94), .val (.ref b95), .val (.ref b96), .val (.int (1 : Int32)), .val (.int (1 : Int32)), .unset, .unset] [(.int (1 : Int32))])) (fun _ kk_ => XS.iload X98.here hx rfl (hb hby at_141) rfl kk_) ?_
      refine OWH.st (B := T98.setTop (mkF m 177 #[.val (.int n1), .val (.int n2), .val (.int n3), .val (.long n4), .second, .val (.long n5), .second, .val (.int (n1 &&& (3 : Int32))), .val (.ref a_SUM), .val (.ref b94), .val (.ref b95), .val (.ref b96), .val (.int (1 : Int32)), .val (.int (1 : Int32)), .unset, .unset] [])) (fun _ kk_ => XS.ifYes X98.here hx rfl (pc0 := 143) (pc' := 177) rfl (hb hby at_143) rfl ((if0 _ _).trans (feq (by decide)).2) (by decide) (by decide) kk_) ?_
      refine OWH.st (B := T98.setTop (mkF m 178 #[.val (.int n1), .val (.int n2), .val (.int n3), .val (.long n4), .second, .val (.long n5), .second, .val (.int (n1 &&& (3 : Int32))), .val (.ref a_SUM), .val (.ref b94), .val (.ref b95), .val (.ref b96), .val (.int (1 : Int32)), .val (.int (1 : Int32)), .unset, .unset] [(.int (1 : Int32))])) (fun _ kk_ => XS.iconst X98.here hx rfl (hb hby at_177) kk_) ?_
      exact OWH.ret X98 (s := s) (vm0 := T97.vm) hS97 hk97 hx hlk CR97 hZ97 (own_EW hw) (i := .ireturn) Bd.returns rfl (Or.inl ⟨rfl, Or.inr (Or.inl rfl), _, rfl⟩) (hb hby at_178) e98 (by decide) (by decide) ⟨rfl, N98⟩
    · refine OWH.st (B := s₁.setTop (mkF m 32 #[.val (.int n1), .val (.int n2), .val (.int n3), .val (.long n4), .second, .val (.long n5), .second, .val (.int (n1 &&& (3 : Int32))), .unset, .unset, .unset, .unset, .unset, .unset, .unset, .unset] [])) (fun _ kk_ => XS.icmpYes X0.here hx rfl (pc0 := 21) (pc' := 32) rfl (hb hby at_21) rfl (feq hc92).2 (by decide) (by decide) kk_) ?_
      refine OWH.st (B := s₁.setTop (mkF m 34 #[.val (.int n1), .val (.int n2), .val (.int n3), .val (.long n4), .second, .val (.long n5), .second, .val (.int (n1 &&& (3 : Int32))), .unset, .unset, .unset, .unset, .unset, .unset, .unset, .unset] [(.int (n1 &&& (3 : Int32)))])) (fun _ kk_ => XS.iload X0.here hx rfl (hb hby at_32) rfl kk_) ?_
      refine OWH.st (B := s₁.setTop (mkF m 35 #[.val (.int n1), .val (.int n2), .val (.int n3), .val (.long n4), .second, .val (.long n5), .second, .val (.int (n1 &&& (3 : Int32))), .unset, .unset, .unset, .unset, .unset, .unset, .unset, .unset] [(.int (2 : Int32)), (.int (n1 &&& (3 : Int32)))])) (fun _ kk_ => XS.iconst X0.here hx rfl (hb hby at_34) kk_) ?_
      by_cases hc99 : (n1 &&& (3 : Int32)) = (2 : Int32)
      · refine OWH.st (B := s₁.setTop (mkF m 38 #[.val (.int n1), .val (.int n2), .val (.int n3), .val (.long n4), .second, .val (.long n5), .second, .val (.int (n1 &&& (3 : Int32))), .unset, .unset, .unset, .unset, .unset, .unset, .unset, .unset] [])) (fun _ kk_ => XS.icmpNo X0.here hx rfl (hb hby at_35) rfl (teq hc99).2 kk_) ?_
        obtain ⟨T100, X100, e100, st100⟩ := getS2 X0 hx hZ hown (host := "") (Or.inl (w_90 hw)) Via.refl e0 (Sa_MIN.ext O0.2) (g := (mkF m 38 #[.val (.int n1), .val (.int n2), .val (.int n3), .val (.long n4), .second, .val (.long n5), .second, .val (.int (n1 &&& (3 : Int32))), .unset, .unset, .unset, .unset, .unset, .unset, .unset, .unset] [])) rfl (hb hby at_38)
        refine OWH.st (B := T100.setTop (mkF m 41 #[.val (.int n1), .val (.int n2), .val (.int n3), .val (.long n4), .second, .val (.long n5), .second, .val (.int (n1 &&& (3 : Int32))), .unset, .unset, .unset, .unset, .unset, .unset, .unset, .unset] [(.ref a_MIN)])) (st100) ?_
        refine OWH.st (B := T100.setTop (mkF m 43 #[.val (.int n1), .val (.int n2), .val (.int n3), .val (.long n4), .second, .val (.long n5), .second, .val (.int (n1 &&& (3 : Int32))), .val (.ref a_MIN), .unset, .unset, .unset, .unset, .unset, .unset, .unset] [])) (fun _ kk_ => XS.astore X100.here hx rfl (hb hby at_41) rfl rfl (l' := #[.val (.int n1), .val (.int n2), .val (.int n3), .val (.long n4), .second, .val (.long n5), .second, .val (.int (n1 &&& (3 : Int32))), .val (.ref a_MIN), .unset, .unset, .unset, .unset, .unset, .unset, .unset]) rfl kk_) ?_
        refine OWH.st (B := T100.setTop (mkF m 51 #[.val (.int n1), .val (.int n2), .val (.int n3), .val (.long n4), .second, .val (.long n5), .second, .val (.int (n1 &&& (3 : Int32))), .val (.ref a_MIN), .unset, .unset, .unset, .unset, .unset, .unset, .unset] [])) (fun _ kk_ => XS.goto X100.here hx rfl (pc0 := 43) (pc' := 51) rfl (hb hby at_43) (by decide) (by decide) kk_) ?_
        refine OWH.st (B := T100.setTop (mkF m 52 #[.val (.int n1), .val (.int n2), .val (.int n3), .val (.long n4), .second, .val (.long n5), .second, .val (.int (n1 &&& (3 : Int32))), .val (.ref a_MIN), .unset, .unset, .unset, .unset, .unset, .unset, .unset] [(.int n2)])) (fun _ kk_ => XS.iloadN X100.here hx rfl (hb hby at_51) rfl kk_) ?_
        refine OWH.st (B := T100.setTop (mkF m 55 #[.val (.int n1), .val (.int n2), .val (.int n3), .val (.long n4), .second, .val (.long n5), .second, .val (.int (n1 &&& (3 : Int32))), .val (.ref a_MIN), .unset, .unset, .unset, .unset, .unset, .unset, .unset] [(.int (255 : Int32)), (.int n2)])) (fun _ kk_ => XS.sipush X100.here hx rfl (hb hby at_52) kk_) ?_
        refine OWH.st (B := T100.setTop (mkF m 56 #[.val (.int n1), .val (.int n2), .val (.int n3), .val (.long n4), .second, .val (.long n5), .second, .val (.int (n1 &&& (3 : Int32))), .val (.ref a_MIN), .unset, .unset, .unset, .unset, .unset, .unset, .unset] [(.int (n2 &&& (255 : Int32)))])) (fun _ kk_ => XS.iand X100.here hx rfl (hb hby at_55) rfl kk_) ?_
        refine OWH.st (B := T100.setTop (mkF m 57 #[.val (.int n1), .val (.int n2), .val (.int n3), .val (.long n4), .second, .val (.long n5), .second, .val (.int (n1 &&& (3 : Int32))), .val (.ref a_MIN), .unset, .unset, .unset, .unset, .unset, .unset, .unset] [(.int ((n2 &&& (255 : Int32)).toUInt32.toUInt16.toUInt32.toInt32))])) (fun _ kk_ => XS.i2c X100.here hx rfl (hb hby at_56) rfl kk_) ?_
        suffices J : ∀ u1 : Int32, (¬ ((255 : Int32) < u1) ∧ nar .char u1 = u1) → OWH Z consts_1 h0 p e below s (Q0 Z n1 n2 n3 n4 n5 a_COUNT a_MAX a_SUM a_MIN i_COMPACT_STRINGS v_SIOOBE_FORMATTER h0 n0) 9 53 (T100.setTop (mkF m 57 #[.val (.int n1), .val (.int n2), .val (.int n3), .val (.long n4), .second, .val (.long n5), .second, .val (.int (n1 &&& (3 : Int32))), .val (.ref a_MIN), .unset, .unset, .unset, .unset, .unset, .unset, .unset] [(.int u1)])) from J _ (own_ch255 n2)
        intro u1 hu1
        obtain ⟨hlu1, hnu1⟩ := hu1
        obtain ⟨_, _, ⟨T101, L101, k101, n101⟩, -, X101, ⟨Lc101, hQ101, l101, y101, z101⟩, st101⟩ := Jvm.LawKit.callS X100 hx (y := (⟨"java/lang/String", "valueOf", "(C)Ljava/lang/String;"⟩ : MethodName)) hown (mvT hZ (w_3 hw)) (mvT hZ (w_4 hw)) (mvT hZ (w_5 hw)) (mvT hZ (w_6 hw)) (by decide) (backOf (W := 0) (rmVO l Z a0 hw [] u1 a_COUNT a_MAX a_SUM a_MIN i_COMPACT_STRINGS v_SIOOBE_FORMATTER h0 n0 O0 hS hlu1) hZ (w_6 hw) (w_5 hw) (by decide) (by decide)) (g := (mkF m 57 #[.val (.int n1), .val (.int n2), .val (.int n3), .val (.long n4), .second, .val (.long n5), .second, .val (.int (n1 &&& (3 : Int32))), .val (.ref a_MIN), .unset, .unset, .unset, .unset, .unset, .unset, .unset] [(.int u1)])) rfl (by rw [hml]; rfl) (argsL := [(.int u1)]) (rest := []) (lenOf pd_9 rfl) rfl (by show 2 * 0 + _ ≤ _; exact Nat.le_of_eq rfl) (hb hby at_57) (fun _ _ => ⟨rfl, e100, (by decide : 0 + 2 ≤ _), (by decide : 0 + 5 ≤ _)⟩)
        dsimp only [Pt.U, Pt.locs, Pt.cells, Pt.slots] at X101 l101 y101 z101 st101 hQ101
        subst l101 y101 z101
        obtain ⟨b101, ba101, kb101, rfl, Nq101, K101, gb101, zb101, Es101, Fv101, Fc101, Vs101⟩ := hQ101
        have N101 := Fr.app N0 Nq101
        have O101 : Old Z n0 T101.heap := O0.keep K101 all0
        have CS101 : CHr Z consts_1 s.vm h0 s.vm T101.heap := CHr.keep K101 all0 CR0.1
        have CR101 := CHr.trans CR0 CS101
        have Sf101_b101 : Safe Z consts_1 s.vm T101.heap b101 := Safe.keep K101 all0 CR0.1 (Safe.new zb101)
        refine OWH.st (B := T101.setTop (mkF m 60 #[.val (.int n1), .val (.int n2), .val (.int n3), .val (.long n4), .second, .val (.long n5), .second, .val (.int (n1 &&& (3 : Int32))), .val (.ref a_MIN), .unset, .unset, .unset, .unset, .unset, .unset, .unset] [(.ref b101)])) (st101) ?_
        refine OWH.st (B := T101.setTop (mkF m 62 #[.val (.int n1), .val (.int n2), .val (.int n3), .val (.long n4), .second, .val (.long n5), .second, .val (.int (n1 &&& (3 : Int32))), .val (.ref a_MIN), .val (.ref b101), .unset, .unset, .unset, .unset, .unset, .unset] [])) (fun _ kk_ => XS.astore X101.here hx rfl (hb hby at_60) rfl rfl (l' := #[.val (.int n1), .val (.int n2), .val (.int n3), .val (.long n4), .second, .val (.long n5), .second, .val (.int (n1 &&& (3 : Int32))), .val (.ref a_MIN), .val (.ref b101), .unset, .unset, .unset, .unset, .unset, .unset]) rfl kk_) ?_
        refine OWH.st (B := T101.setTop (mkF m 64 #[.val (.int n1), .val (.int n2), .val (.int n3), .val (.long n4), .second, .val (.long n5), .second, .val (.int (n1 &&& (3 : Int32))), .val (.ref a_MIN), .val (.ref b101), .unset, .unset, .unset, .unset, .unset, .unset] [(.int (n1 &&& (3 : Int32)))])) (fun _ kk_ => XS.iload X101.here hx rfl (hb hby at_62) rfl kk_) ?_
        refine OWH.st (B := T101.setTop (mkF m 81 #[.val (.int n1), .val (.int n2), .val (.int n3), .val (.long n4), .second, .val (.long n5), .second, .val (.int (n1 &&& (3 : Int32))), .val (.ref a_MIN), .val (.ref b101), .unset, .unset, .unset, .unset, .unset, .unset] [])) (fun _ kk_ => XS.ifYes X101.here hx rfl (pc0 := 64) (pc' := 81) rfl (hb hby at_64) rfl ((if0 _ _).trans (feq hc81).2) (by decide) (by decide) kk_) ?_
        refine OWH.st (B := T101.setTop (mkF m 82 #[.val (.int n1), .val (.int n2), .val (.int n3), .val (.long n4), .second, .val (.long n5), .second, .val (.int (n1 &&& (3 : Int32))), .val (.ref a_MIN), .val (.ref b101), .unset, .unset, .unset, .unset, .unset, .unset] [(.int n3)])) (fun _ kk_ => XS.iloadN X101.here hx rfl (hb hby at_81) rfl kk_) ?_
        refine OWH.st (B := T101.setTop (mkF m 85 #[.val (.int n1), .val (.int n2), .val (.int n3), .val (.long n4), .second, .val (.long n5), .second, .val (.int (n1 &&& (3 : Int32))), .val (.ref a_MIN), .val (.ref b101), .unset, .unset, .unset, .unset, .unset, .unset] [(.int (255 : Int32)), (.int n3)])) (fun _ kk_ => XS.sipush X101.here hx rfl (hb hby at_82) kk_) ?_
        refine OWH.st (B := T101.setTop (mkF m 86 #[.val (.int n1), .val (.int n2), .val (.int n3), .val (.long n4), .second, .val (.long n5), .second, .val (.int (n1 &&& (3 : Int32))), .val (.ref a_MIN), .val (.ref b101), .unset, .unset, .unset, .unset, .unset, .unset] [(.int (n3 &&& (255 : Int32)))])) (fun _ kk_ => XS.iand X101.here hx rfl (hb hby at_85) rfl kk_) ?_
        refine OWH.st (B := T101.setTop (mkF m 87 #[.val (.int n1), .val (.int n2), .val (.int n3), .val (.long n4), .second, .val (.long n5), .second, .val (.int (n1 &&& (3 : Int32))), .val (.ref a_MIN), .val (.ref b101), .unset, .unset, .unset, .unset, .unset, .unset] [(.int ((n3 &&& (255 : Int32)).toUInt32.toUInt16.toUInt32.toInt32))])) (fun _ kk_ => XS.i2c X101.here hx rfl (hb hby at_86) rfl kk_) ?_
        suffices J : ∀ u2 : Int32, (¬ ((255 : Int32) < u2) ∧ nar .char u2 = u2) → OWH Z consts_1 h0 p e below s (Q0 Z n1 n2 n3 n4 n5 a_COUNT a_MAX a_SUM a_MIN i_COMPACT_STRINGS v_SIOOBE_FORMATTER h0 n0) 9 53 (T101.setTop (mkF m 87 #[.val (.int n1), .val (.int n2), .val (.int n3), .val (.long n4), .second, .val (.long n5), .second, .val (.int (n1 &&& (3 : Int32))), .val (.ref a_MIN), .val (.ref b101), .unset, .unset, .unset, .unset, .unset, .unset] [(.int u2)])) from J _ (own_ch255 n3)
        intro u2 hu2
        obtain ⟨hlu2, hnu2⟩ := hu2
        obtain ⟨_, _, ⟨T102, L102, k102, n102⟩, -, X102, ⟨Lc102, hQ102, l102, y102, z102⟩, st102⟩ := Jvm.LawKit.callS X101 hx (y := (⟨"java/lang/String", "valueOf", "(C)Ljava/lang/String;"⟩ : MethodName)) hown (mvT hZ (w_3 hw)) (mvT hZ (w_4 hw)) (mvT hZ (w_5 hw)) (mvT hZ (w_6 hw)) (by decide) (backOf (W := 0) (rmVO l Z a0 hw [] u2 a_COUNT a_MAX a_SUM a_MIN i_COMPACT_STRINGS v_SIOOBE_FORMATTER T101.heap n0 O101 hS hlu2) hZ (w_6 hw) (w_5 hw) (by decide) (by decide)) (g := (mkF m 87 #[.val (.int n1), .val (.int n2), .val (.int n3), .val (.long n4), .second, .val (.long n5), .second, .val (.int (n1 &&& (3 : Int32))), .val (.ref a_MIN), .val (.ref b101), .unset, .unset, .unset, .unset, .unset, .unset] [(.int u2)])) rfl (by rw [hml]; rfl) (argsL := [(.int u2)]) (rest := []) (lenOf pd_9 rfl) rfl (by show 2 * 0 + _ ≤ _; exact Nat.le_of_eq rfl) (hb hby at_87) (fun _ _ => ⟨rfl, rfl, (by decide : 2 + 2 ≤ _), (by decide : 5 + 5 ≤ _)⟩)
        dsimp only [Pt.U, Pt.locs, Pt.cells, Pt.slots] at X102 l102 y102 z102 st102 hQ102
        subst l102 y102 z102
        obtain ⟨b102, ba102, kb102, rfl, Nq102, K102, gb102, zb102, Es102, Fv102, Fc102, Vs102⟩ := hQ102
        have N102 := Fr.app N101 Nq102
        have O102 : Old Z n0 T102.heap := O101.keep K102 all0
        have CS102 : CHr Z consts_1 s.vm T101.heap s.vm T102.heap := CHr.keep K102 all0 CR101.1
        have Sf102_b101 := CHr.safe CS102 Es101.lt Sf101_b101
        have CR102 := CHr.trans CR101 CS102
        have Sf102_b102 : Safe Z consts_1 s.vm T102.heap b102 := Safe.keep K102 all0 CR101.1 (Safe.new zb102)
        refine OWH.st (B := T102.setTop (mkF m 90 #[.val (.int n1), .val (.int n2), .val (.int n3), .val (.long n4), .second, .val (.long n5), .second, .val (.int (n1 &&& (3 : Int32))), .val (.ref a_MIN), .val (.ref b101), .unset, .unset, .unset, .unset, .unset, .unset] [(.ref b102)])) (st102) ?_
        refine OWH.st (B := T102.setTop (mkF m 92 #[.val (.int n1), .val (.int n2), .val (.int n3), .val (.long n4), .second, .val (.long n5), .second, .val (.int (n1 &&& (3 : Int32))), .val (.ref a_MIN), .val (.ref b101), .val (.ref b102), .unset, .unset, .unset, .unset, .unset] [])) (fun _ kk_ => XS.astore X102.here hx rfl (hb hby at_90) rfl rfl (l' := #[.val (.int n1), .val (.int n2), .val (.int n3), .val (.long n4), .second, .val (.long n5), .second, .val (.int (n1 &&& (3 : Int32))), .val (.ref a_MIN), .val (.ref b101), .val (.ref b102), .unset, .unset, .unset, .unset, .unset]) rfl kk_) ?_
        obtain ⟨T103, h103, X103, e103, E103, A103, D103, -, st103⟩ := newO X102 hx hZ hown (w_29 hw) (w_30 hw) (w_31 hw) rfl (g := (mkF m 92 #[.val (.int n1), .val (.int n2), .val (.int n3), .val (.long n4), .second, .val (.long n5), .second, .val (.int (n1 &&& (3 : Int32))), .val (.ref a_MIN), .val (.ref b101), .val (.ref b102), .unset, .unset, .unset, .unset, .unset] [])) rfl (hb hby at_92) (by decide) (by decide)
        obtain ⟨b103, g103⟩ : ∃ z, z = T102.heap.size := ⟨_, rfl⟩
        rw [← g103] at A103 D103 st103
        have n_b103 : n0 ≤ b103 := Nat.le_trans (own_oldle O102) (Nat.le_of_eq g103.symm)
        have O103 : Old Z n0 h103 := O102.ext E103
        have CS103 : CHr Z consts_1 s.vm T102.heap s.vm h103 := CHr.ext E103 CR102.1
        have Sf103_b101 := CHr.safe CS103 (Es101.keep K102).lt Sf102_b101
        have Sf103_b102 := CHr.safe CS103 Es102.lt Sf102_b102
        have CR103 := CHr.trans CR102 CS103
        have Sf103_b103 : Safe Z consts_1 s.vm h103 b103 := Safe.ext E103 CR102.1 (Safe.new (Nat.le_of_eq g103.symm))
        have F103_63 : Fld Z h103 b103 "com/example/latticework/latticework/Measure" "name" "Ljava/lang/String;" .null := D103 (Or.inr (w_63 hw)) (ty := (.object "java/lang/String")) (by decide)
        have F103_65 : Fld Z h103 b103 "com/example/latticework/latticework/Measure" "function" "Lcom/example/latticework/latticework/Measure$Function;" .null := D103 (Or.inr (w_65 hw)) (ty := (.object "com/example/latticework/latticework/Measure$Function")) (by decide)
        have F103_67 : Fld Z h103 b103 "com/example/latticework/latticework/Measure" "column" "Ljava/lang/String;" .null := D103 (Or.inr (w_67 hw)) (ty := (.object "java/lang/String")) (by decide)
        refine OWH.st (B := T103.setTop (mkF m 95 #[.val (.int n1), .val (.int n2), .val (.int n3), .val (.long n4), .second, .val (.long n5), .second, .val (.int (n1 &&& (3 : Int32))), .val (.ref a_MIN), .val (.ref b101), .val (.ref b102), .unset, .unset, .unset, .unset, .unset] [(.ref b103)])) (st103) ?_
        refine OWH.st (B := T103.setTop (mkF m 96 #[.val (.int n1), .val (.int n2), .val (.int n3), .val (.long n4), .second, .val (.long n5), .second, .val (.int (n1 &&& (3 : Int32))), .val (.ref a_MIN), .val (.ref b101), .val (.ref b102), .unset, .unset, .unset, .unset, .unset] [(.ref b103), (.ref b103)])) (fun _ kk_ => XS.dup X103.here hx rfl (hb hby at_95) rfl rfl kk_) ?_
        refine OWH.st (B := T103.setTop (mkF m 98 #[.val (.int n1), .val (.int n2), .val (.int n3), .val (.long n4), .second, .val (.long n5), .second, .val (.int (n1 &&& (3 : Int32))), .val (.ref a_MIN), .val (.ref b101), .val (.ref b102), .unset, .unset, .unset, .unset, .unset] [(.ref b101), (.ref b103), (.ref b103)])) (fun _ kk_ => XS.aload X103.here hx rfl (hb hby at_96) rfl rfl kk_) ?_
        refine OWH.st (B := T103.setTop (mkF m 100 #[.val (.int n1), .val (.int n2), .val (.int n3), .val (.long n4), .second, .val (.long n5), .second, .val (.int (n1 &&& (3 : Int32))), .val (.ref a_MIN), .val (.ref b101), .val (.ref b102), .unset, .unset, .unset, .unset, .unset] [(.ref a_MIN), (.ref b101), (.ref b103), (.ref b103)])) (fun _ kk_ => XS.aload X103.here hx rfl (hb hby at_98) rfl rfl kk_) ?_
        refine OWH.st (B := T103.setTop (mkF m 102 #[.val (.int n1), .val (.int n2), .val (.int n3), .val (.long n4), .second, .val (.long n5), .second, .val (.int (n1 &&& (3 : Int32))), .val (.ref a_MIN), .val (.ref b101), .val (.ref b102), .unset, .unset, .unset, .unset, .unset] [(.ref b102), (.ref a_MIN), (.ref b101), (.ref b103), (.ref b103)])) (fun _ kk_ => XS.aload X103.here hx rfl (hb hby at_100) rfl rfl kk_) ?_
        obtain ⟨_, _, ⟨T104, L104, k104, n104⟩, -, X104, hs104, hsz104, ⟨Lc104, hQ104, l104, y104, z104, CQ104⟩, st104⟩ := X103.specialBackS hx (y := (⟨"com/example/latticework/latticework/Measure", "<init>", "(Ljava/lang/String;Lcom/example/latticework/latticework/Measure$Function;Ljava/lang/String;)V"⟩ : MethodName)) rfl hown (mvT hZ (w_32 hw)) (mvT hZ (w_33 hw)) (mvT hZ (w_34 hw)) (by decide) (backOfSH (W := 1) (rmMC l Z a0 hw [] b103 b101 ba101 kb101 (own_by u1) a_MIN b102 ba102 kb102 (own_by u2) a_COUNT a_MAX a_SUM a_MIN i_COMPACT_STRINGS v_SIOOBE_FORMATTER h103 n0 O103 A103 F103_63 F103_65 F103_67 n_b103 ((Es101.keep K102).ext E103) ((Fv101.keep K102 nin0).ext E103) ((Fc101.keep K102 nin0).ext E103) ((Vs101.keep K102 nin0).ext E103) (Es102.ext E103) (Fv102.ext E103) (Fc102.ext E103) (Vs102.ext E103) hS) hZ (w_34 hw) (w_31 hw) (by decide) (by decide) (own_EW hw) CR103.1) (g := (mkF m 102 #[.val (.int n1), .val (.int n2), .val (.int n3), .val (.long n4), .second, .val (.long n5), .second, .val (.int (n1 &&& (3 : Int32))), .val (.ref a_MIN), .val (.ref b101), .val (.ref b102), .unset, .unset, .unset, .unset, .unset] [(.ref b102), (.ref a_MIN), (.ref b101), (.ref b103), (.ref b103)])) rfl (by rw [hml]; rfl) (Steps.refl _) (a := b103) (argsL := [(.ref b101), (.ref a_MIN), (.ref b102)]) (rest := [(.ref b103)]) (lenOf pd_10 rfl) rfl (by show 2 * 0 + _ ≤ _; exact Nat.le_of_eq rfl) (hb hby at_102) (fun _ _ => ⟨rfl, e103, (by decide : 5 + 4 ≤ _), (by decide : 13 + 40 ≤ _)⟩)
        dsimp only [Pt.U, Pt.locs, Pt.cells, Pt.slots] at hs104 hsz104
        have hS104 := foldS hS0 (show _ ≤ T103.heap.size by rw [e103]; exact (Nat.le_trans (Nat.le_trans (Nat.le_trans hk0 K101.1) K102.1) E103.1)) hs104 hsz104
        have hZ104 : Z.Warmed39 (s.setVm T104.vm).vm := State.Warmed39.trans (t := s) hZ hs104.1
        have hown104 : (s.setVm T104.vm).vm.findClass "com/example/latticework/latticework/MeasureAddsPinLaw" = some m.cls := by rw [show (s.setVm T104.vm).vm = T104.vm from rfl, hs104.1.alike.findClass]; exact hown
        dsimp only [Pt.U, Pt.locs, Pt.cells, Pt.slots] at X104 l104 y104 z104 st104 hQ104 CQ104
        subst l104 y104 z104
        obtain ⟨rfl, Nq104, K104, Em104, Ff104⟩ := hQ104
        have N104 := Fr.app N102 Nq104
        have O104 : Old Z n0 T104.heap := O103.keep K104 (allS n_b103 all0)
        have CS104 : CHr Z consts_1 s.vm h103 T104.vm T104.heap := CQ104
        have Sf104_b101 := CHr.safe CS104 ((Es101.keep K102).ext E103).lt Sf103_b101
        have Sf104_b102 := CHr.safe CS104 (Es102.ext E103).lt Sf103_b102
        have Sf104_b103 := CHr.safe CS104 A103.lt Sf103_b103
        have CR104 := CHr.trans CR103 CS104
        have hk104 : T104.heap.size ≤ T104.heap.size := Nat.le_of_eq (by rfl)
        refine OWH.tr (B := T104.setTop (mkF m 105 #[.val (.int n1), .val (.int n2), .val (.int n3), .val (.long n4), .second, .val (.long n5), .second, .val (.int (n1 &&& (3 : Int32))), .val (.ref a_MIN), .val (.ref b101), .val (.ref b102), .unset, .unset, .unset, .unset, .unset] [(.ref b103)])) (st104) ?_
        refine OWH.st (B := T104.setTop (mkF m 107 #[.val (.int n1), .val (.int n2), .val (.int n3), .val (.long n4), .second, .val (.long n5), .second, .val (.int (n1 &&& (3 : Int32))), .val (.ref a_MIN), .val (.ref b101), .val (.ref b102), .val (.ref b103), .unset, .unset, .unset, .unset] [])) (fun _ kk_ => XS.astore X104.here hx rfl (hb hby at_105) rfl rfl (l' := #[.val (.int n1), .val (.int n2), .val (.int n3), .val (.long n4), .second, .val (.long n5), .second, .val (.int (n1 &&& (3 : Int32))), .val (.ref a_MIN), .val (.ref b101), .val (.ref b102), .val (.ref b103), .unset, .unset, .unset, .unset]) rfl kk_) ?_
        refine OWH.st (B := T104.setTop (mkF m 109 #[.val (.int n1), .val (.int n2), .val (.int n3), .val (.long n4), .second, .val (.long n5), .second, .val (.int (n1 &&& (3 : Int32))), .val (.ref a_MIN), .val (.ref b101), .val (.ref b102), .val (.ref b103), .unset, .unset, .unset, .unset] [(.int (n1 &&& (3 : Int32)))])) (fun _ kk_ => XS.iload X104.here hx rfl (hb hby at_107) rfl kk_) ?_
        refine OWH.st (B := T104.setTop (mkF m 112 #[.val (.int n1), .val (.int n2), .val (.int n3), .val (.long n4), .second, .val (.long n5), .second, .val (.int (n1 &&& (3 : Int32))), .val (.ref a_MIN), .val (.ref b101), .val (.ref b102), .val (.ref b103), .unset, .unset, .unset, .unset] [])) (fun _ kk_ => XS.ifNo X104.here hx rfl (hb hby at_109) rfl ((if0 _ _).trans (feq hc81).1) kk_) ?_
        refine OWH.st (B := T104.setTop (mkF m 114 #[.val (.int n1), .val (.int n2), .val (.int n3), .val (.long n4), .second, .val (.long n5), .second, .val (.int (n1 &&& (3 : Int32))), .val (.ref a_MIN), .val (.ref b101), .val (.ref b102), .val (.ref b103), .unset, .unset, .unset, .unset] [(.int (n1 &&& (3 : Int32)))])) (fun _ kk_ => XS.iload X104.here hx rfl (hb hby at_112) rfl kk_) ?_
        refine OWH.st (B := T104.setTop (mkF m 115 #[.val (.int n1), .val (.int n2), .val (.int n3), .val (.long n4), .second, .val (.long n5), .second, .val (.int (n1 &&& (3 : Int32))), .val (.ref a_MIN), .val (.ref b101), .val (.ref b102), .val (.ref b103), .unset, .unset, .unset, .unset] [(.int (1 : Int32)), (.int (n1 &&& (3 : Int32)))])) (fun _ kk_ => XS.iconst X104.here hx rfl (hb hby at_114) kk_) ?_
        refine OWH.st (B := T104.setTop (mkF m 122 #[.val (.int n1), .val (.int n2), .val (.int n3), .val (.long n4), .second, .val (.long n5), .second, .val (.int (n1 &&& (3 : Int32))), .val (.ref a_MIN), .val (.ref b101), .val (.ref b102), .val (.ref b103), .unset, .unset, .unset, .unset] [])) (fun _ kk_ => XS.icmpYes X104.here hx rfl (pc0 := 115) (pc' := 122) rfl (hb hby at_115) rfl (feq hc92).2 (by decide) (by decide) kk_) ?_
        refine OWH.st (B := T104.setTop (mkF m 123 #[.val (.int n1), .val (.int n2), .val (.int n3), .val (.long n4), .second, .val (.long n5), .second, .val (.int (n1 &&& (3 : Int32))), .val (.ref a_MIN), .val (.ref b101), .val (.ref b102), .val (.ref b103), .unset, .unset, .unset, .unset] [(.int (0 : Int32))])) (fun _ kk_ => XS.iconst X104.here hx rfl (hb hby at_122) kk_) ?_
        refine OWH.st (B := T104.setTop (mkF m 125 #[.val (.int n1), .val (.int n2), .val (.int n3), .val (.long n4), .second, .val (.long n5), .second, .val (.int (n1 &&& (3 : Int32))), .val (.ref a_MIN), .val (.ref b101), .val (.ref b102), .val (.ref b103), .val (.int (0 : Int32)), .unset, .unset, .unset] [])) (fun _ kk_ => XS.istore X104.here hx rfl (hb hby at_123) rfl (l' := #[.val (.int n1), .val (.int n2), .val (.int n3), .val (.long n4), .second, .val (.long n5), .second, .val (.int (n1 &&& (3 : Int32))), .val (.ref a_MIN), .val (.ref b101), .val (.ref b102), .val (.ref b103), .val (.int (0 : Int32)), .unset, .unset, .unset]) rfl kk_) ?_
        refine OWH.st (B := T104.setTop (mkF m 127 #[.val (.int n1), .val (.int n2), .val (.int n3), .val (.long n4), .second, .val (.long n5), .second, .val (.int (n1 &&& (3 : Int32))), .val (.ref a_MIN), .val (.ref b101), .val (.ref b102), .val (.ref b103), .val (.int (0 : Int32)), .unset, .unset, .unset] [(.ref b103)])) (fun _ kk_ => XS.aload X104.here hx rfl (hb hby at_125) rfl rfl kk_) ?_
        obtain ⟨cq105, kq105, q105a, q105b, q105c⟩ := isOf hZ104 rfl (A103.keep K104)
        obtain ⟨_, _, ⟨T105, L105, k105, n105⟩, -, X105, ⟨Lc105, hQ105, l105, y105, z105⟩, st105⟩ := X104.virtualBack hx (y := (⟨"com/example/latticework/latticework/Measure", "adds", "()Z"⟩ : MethodName)) (z := (⟨"com/example/latticework/latticework/Measure", "adds", "()Z"⟩ : MethodName)) hown104 (mvT hZ104 (w_68 hw)) (mvT hZ104 (w_69 hw)) (notFace_of_selects (args := #[]) (mvT hZ104 (w_71 hw))) (mvT hZ104 (w_71 hw)) (mvT hZ104 (w_70 hw)) (by decide) (backOf (W := 0) (rmADMIN l Z a0 hw [] b103 a_COUNT a_MAX a_SUM a_MIN i_COMPACT_STRINGS v_SIOOBE_FORMATTER T104.heap n0 O104 Ff104 hS) hZ104 (w_72 hw) (w_31 hw) (by decide) (by decide)) q105a q105c (g := (mkF m 127 #[.val (.int n1), .val (.int n2), .val (.int n3), .val (.long n4), .second, .val (.long n5), .second, .val (.int (n1 &&& (3 : Int32))), .val (.ref a_MIN), .val (.ref b101), .val (.ref b102), .val (.ref b103), .val (.int (0 : Int32)), .unset, .unset, .unset] [(.ref b103)])) rfl (by rw [hml]; rfl) (Steps.refl _) (argsL := []) (rest := []) (lenOf pd_6 rfl) rfl (by show 2 * 0 + _ ≤ _; exact Nat.le_of_eq rfl) (hb hby at_127) (fun _ _ => ⟨rfl, rfl, (by decide : 9 + 0 ≤ _), (by decide : 53 + 0 ≤ _)⟩)
        dsimp only [Pt.U, Pt.locs, Pt.cells, Pt.slots] at X105 l105 y105 z105 st105 hQ105
        subst l105 y105 z105
        obtain ⟨rfl, Nq105, e105⟩ := hQ105
        have N105 := Fr.app N104 Nq105
        refine OWH.tr (B := T105.setTop (mkF m 130 #[.val (.int n1), .val (.int n2), .val (.int n3), .val (.long n4), .second, .val (.long n5), .second, .val (.int (n1 &&& (3 : Int32))), .val (.ref a_MIN), .val (.ref b101), .val (.ref b102), .val (.ref b103), .val (.int (0 : Int32)), .unset, .unset, .unset] [(.int (0 : Int32))])) (st105) ?_
        refine OWH.st (B := T105.setTop (mkF m 132 #[.val (.int n1), .val (.int n2), .val (.int n3), .val (.long n4), .second, .val (.long n5), .second, .val (.int (n1 &&& (3 : Int32))), .val (.ref a_MIN), .val (.ref b101), .val (.ref b102), .val (.ref b103), .val (.int (0 : Int32)), .val (.int (0 : Int32)), .unset, .unset] [])) (fun _ kk_ => XS.istore X105.here hx rfl (hb hby at_130) rfl (l' := #[.val (.int n1), .val (.int n2), .val (.int n3), .val (.long n4), .second, .val (.long n5), .second, .val (.int (n1 &&& (3 : Int32))), .val (.ref a_MIN), .val (.ref b101), .val (.ref b102), .val (.ref b103), .val (.int (0 : Int32)), .val (.int (0 : Int32)), .unset, .unset]) rfl kk_) ?_
        refine OWH.st (B := T105.setTop (mkF m 134 #[.val (.int n1), .val (.int n2), .val (.int n3), .val (.long n4), .second, .val (.long n5), .second, .val (.int (n1 &&& (3 : Int32))), .val (.ref a_MIN), .val (.ref b101), .val (.ref b102), .val (.ref b103), .val (.int (0 : Int32)), .val (.int (0 : Int32)), .unset, .unset] [(.int (0 : Int32))])) (fun _ kk_ => XS.iload X105.here hx rfl (hb hby at_132) rfl kk_) ?_
        refine OWH.st (B := T105.setTop (mkF m 136 #[.val (.int n1), .val (.int n2), .val (.int n3), .val (.long n4), .second, .val (.long n5), .second, .val (.int (n1 &&& (3 : Int32))), .val (.ref a_MIN), .val (.ref b101), .val (.ref b102), .val (.ref b103), .val (.int (0 : Int32)), .val (.int (0 : Int32)), .unset, .unset] [(.int (0 : Int32)), (.int (0 : Int32))])) (fun _ kk_ => XS.iload X105.here hx rfl (hb hby at_134) rfl kk_) ?_
        refine OWH.st (B := T105.setTop (mkF m 141 #[.val (.int n1), .val (.int n2), .val (.int n3), .val (.long n4), .second, .val (.long n5), .second, .val (.int (n1 &&& (3 : Int32))), .val (.ref a_MIN), .val (.ref b101), .val (.ref b102), .val (.ref b103), .val (.int (0 : Int32)), .val (.int (0 : Int32)), .unset, .unset] [])) (fun _ kk_ => XS.icmpYes X105.here hx rfl (pc0 := 136) (pc' := 141) rfl (hb hby at_136) rfl (teq (by decide)).1 (by decide) (by decide) kk_) ?_
        refine OWH.st (B := T105.setTop (mkF m 143 #[.val (.int n1), .val (.int n2), .val (.int n3), .val (.long n4), .second, .val (.long n5), .second, .val (.int (n1 &&& (3 : Int32))), .val (.ref a_MIN), .val (.ref b101), .val (.ref b102), .val (.ref b103), .val (.int (0 : Int32)), .val (.int (0 : Int32)), .unset, .unset] [(.int (0 : Int32))])) (fun _ kk_ => XS.iload X105.here hx rfl (hb hby at_141) rfl kk_) ?_
        refine OWH.st (B := T105.setTop (mkF m 146 #[.val (.int n1), .val (.int n2), .val (.int n3), .val (.long n4), .second, .val (.long n5), .second, .val (.int (n1 &&& (3 : Int32))), .val (.ref a_MIN), .val (.ref b101), .val (.ref b102), .val (.ref b103), .val (.int (0 : Int32)), .val (.int (0 : Int32)), .unset, .unset] [])) (fun _ kk_ => XS.ifNo X105.here hx rfl (hb hby at_143) rfl ((if0 _ _).trans (teq (by decide)).2) kk_) ?_
        refine OWH.st (B := T105.setTop (mkF m 148 #[.val (.int n1), .val (.int n2), .val (.int n3), .val (.long n4), .second, .val (.long n5), .second, .val (.int (n1 &&& (3 : Int32))), .val (.ref a_MIN), .val (.ref b101), .val (.ref b102), .val (.ref b103), .val (.int (0 : Int32)), .val (.int (0 : Int32)), .unset, .unset] [(.ref b103)])) (fun _ kk_ => XS.aload X105.here hx rfl (hb hby at_146) rfl rfl kk_) ?_
        refine OWH.st (B := T105.setTop (mkF m 149 #[.val (.int n1), .val (.int n2), .val (.int n3), .val (.long n4), .second, .val (.long n5), .second, .val (.int (n1 &&& (3 : Int32))), .val (.ref a_MIN), .val (.ref b101), .val (.ref b102), .val (.ref b103), .val (.int (0 : Int32)), .val (.int (0 : Int32)), .unset, .unset] [(.long n4), (.ref b103)])) (fun _ kk_ => XS.lloadN X105.here hx rfl (hb hby at_148) rfl kk_) ?_
        refine OWH.st (B := T105.setTop (mkF m 151 #[.val (.int n1), .val (.int n2), .val (.int n3), .val (.long n4), .second, .val (.long n5), .second, .val (.int (n1 &&& (3 : Int32))), .val (.ref a_MIN), .val (.ref b101), .val (.ref b102), .val (.ref b103), .val (.int (0 : Int32)), .val (.int (0 : Int32)), .unset, .unset] [(.long n5), (.long n4), (.ref b103)])) (fun _ kk_ => XS.lload X105.here hx rfl (hb hby at_149) rfl kk_) ?_
        obtain ⟨cq106, kq106, q106a, q106b, q106c⟩ := isOf hZ104 e105 (A103.keep K104)
        obtain ⟨_, _, ⟨T106, L106, k106, n106⟩, -, X106, ⟨Lc106, hQ106, l106, y106, z106⟩, st106⟩ := X105.virtualBack hx (y := (⟨"com/example/latticework/latticework/Measure", "pick", "(JJ)J"⟩ : MethodName)) (z := (⟨"com/example/latticework/latticework/Measure", "pick", "(JJ)J"⟩ : MethodName)) hown104 (mvT hZ104 (w_78 hw)) (mvT hZ104 (w_79 hw)) (notFace_of_selects (args := #[]) (mvT hZ104 (w_81 hw))) (mvT hZ104 (w_81 hw)) (mvT hZ104 (w_80 hw)) (by decide) (backOf (W := 0) (rmPKMIN l Z a0 hw [] b103 n4 n5 a_COUNT a_MAX a_SUM a_MIN i_COMPACT_STRINGS v_SIOOBE_FORMATTER T104.heap n0 O104 Ff104 hS) hZ104 (w_82 hw) (w_31 hw) (by decide) (by decide)) q106a q106c (g := (mkF m 151 #[.val (.int n1), .val (.int n2), .val (.int n3), .val (.long n4), .second, .val (.long n5), .second, .val (.int (n1 &&& (3 : Int32))), .val (.ref a_MIN), .val (.ref b101), .val (.ref b102), .val (.ref b103), .val (.int (0 : Int32)), .val (.int (0 : Int32)), .unset, .unset] [(.long n5), (.long n4), (.ref b103)])) rfl (by rw [hml]; rfl) (Steps.refl _) (argsL := [(.long n4), (.long n5)]) (rest := []) (lenOf pd_8 rfl) rfl (by show 2 * 0 + _ ≤ _; exact Nat.le_of_eq rfl) (hb hby at_151) (fun _ _ => ⟨rfl, e105, (by decide : 9 + 0 ≤ _), (by decide : 53 + 0 ≤ _)⟩)
        dsimp only [Pt.U, Pt.locs, Pt.cells, Pt.slots] at X106 l106 y106 z106 st106 hQ106
        subst l106 y106 z106
        obtain ⟨r106, rfl, Nq106, e106, hr106⟩ := hQ106
        have N106 := Fr.app N105 Nq106
        refine OWH.tr (B := T106.setTop (mkF m 154 #[.val (.int n1), .val (.int n2), .val (.int n3), .val (.long n4), .second, .val (.long n5), .second, .val (.int (n1 &&& (3 : Int32))), .val (.ref a_MIN), .val (.ref b101), .val (.ref b102), .val (.ref b103), .val (.int (0 : Int32)), .val (.int (0 : Int32)), .unset, .unset] [(.long r106)])) (st106) ?_
        rcases (hr106.imp Eq.symm Eq.symm) with rfl | rfl
        · refine OWH.st (B := T106.setTop (mkF m 156 #[.val (.int n1), .val (.int n2), .val (.int n3), .val (.long n4), .second, .val (.long n5), .second, .val (.int (n1 &&& (3 : Int32))), .val (.ref a_MIN), .val (.ref b101), .val (.ref b102), .val (.ref b103), .val (.int (0 : Int32)), .val (.int (0 : Int32)), .val (.long n4), .second] [])) (fun _ kk_ => XS.lstore X106.here hx rfl (hb hby at_154) rfl (l' := #[.val (.int n1), .val (.int n2), .val (.int n3), .val (.long n4), .second, .val (.long n5), .second, .val (.int (n1 &&& (3 : Int32))), .val (.ref a_MIN), .val (.ref b101), .val (.ref b102), .val (.ref b103), .val (.int (0 : Int32)), .val (.int (0 : Int32)), .val (.long n4), .second]) rfl kk_) ?_
          refine OWH.st (B := T106.setTop (mkF m 158 #[.val (.int n1), .val (.int n2), .val (.int n3), .val (.long n4), .second, .val (.long n5), .second, .val (.int (n1 &&& (3 : Int32))), .val (.ref a_MIN), .val (.ref b101), .val (.ref b102), .val (.ref b103), .val (.int (0 : Int32)), .val (.int (0 : Int32)), .val (.long n4), .second] [(.long n4)])) (fun _ kk_ => XS.lload X106.here hx rfl (hb hby at_156) rfl kk_) ?_
          refine OWH.st (B := T106.setTop (mkF m 159 #[.val (.int n1), .val (.int n2), .val (.int n3), .val (.long n4), .second, .val (.long n5), .second, .val (.int (n1 &&& (3 : Int32))), .val (.ref a_MIN), .val (.ref b101), .val (.ref b102), .val (.ref b103), .val (.int (0 : Int32)), .val (.int (0 : Int32)), .val (.long n4), .second] [(.long n4), (.long n4)])) (fun _ kk_ => XS.lloadN X106.here hx rfl (hb hby at_158) rfl kk_) ?_
          refine OWH.st (B := T106.setTop (mkF m 160 #[.val (.int n1), .val (.int n2), .val (.int n3), .val (.long n4), .second, .val (.long n5), .second, .val (.int (n1 &&& (3 : Int32))), .val (.ref a_MIN), .val (.ref b101), .val (.ref b102), .val (.ref b103), .val (.int (0 : Int32)), .val (.int (0 : Int32)), .val (.long n4), .second] [(.int (lcmpW n4 n4))])) (fun _ kk_ => XS.lcmp X106.here hx rfl (hb hby at_159) rfl kk_) ?_
          refine OWH.st (B := T106.setTop (mkF m 171 #[.val (.int n1), .val (.int n2), .val (.int n3), .val (.long n4), .second, .val (.long n5), .second, .val (.int (n1 &&& (3 : Int32))), .val (.ref a_MIN), .val (.ref b101), .val (.ref b102), .val (.ref b103), .val (.int (0 : Int32)), .val (.int (0 : Int32)), .val (.long n4), .second] [])) (fun _ kk_ => XS.ifYes X106.here hx rfl (pc0 := 160) (pc' := 171) rfl (hb hby at_160) rfl ((if0 _ _).trans (teq (own_lself _)).1) (by decide) (by decide) kk_) ?_
          refine OWH.st (B := T106.setTop (mkF m 172 #[.val (.int n1), .val (.int n2), .val (.int n3), .val (.long n4), .second, .val (.long n5), .second, .val (.int (n1 &&& (3 : Int32))), .val (.ref a_MIN), .val (.ref b101), .val (.ref b102), .val (.ref b103), .val (.int (0 : Int32)), .val (.int (0 : Int32)), .val (.long n4), .second] [(.int (1 : Int32))])) (fun _ kk_ => XS.iconst X106.here hx rfl (hb hby at_171) kk_) ?_
          refine OWH.st (B := T106.setTop (mkF m 176 #[.val (.int n1), .val (.int n2), .val (.int n3), .val (.long n4), .second, .val (.long n5), .second, .val (.int (n1 &&& (3 : Int32))), .val (.ref a_MIN), .val (.ref b101), .val (.ref b102), .val (.ref b103), .val (.int (0 : Int32)), .val (.int (0 : Int32)), .val (.long n4), .second] [(.int (1 : Int32))])) (fun _ kk_ => XS.goto X106.here hx rfl (pc0 := 172) (pc' := 176) rfl (hb hby at_172) (by decide) (by decide) kk_) ?_
          exact OWH.ret X106 (s := s) (vm0 := T104.vm) hS104 hk104 hx hlk CR104 hZ104 (own_EW hw) (i := .ireturn) Bd.returns rfl (Or.inl ⟨rfl, Or.inr (Or.inl rfl), _, rfl⟩) (hb hby at_176) e106 (by decide) (by decide) ⟨rfl, N106⟩
        · refine OWH.st (B := T106.setTop (mkF m 156 #[.val (.int n1), .val (.int n2), .val (.int n3), .val (.long n4), .second, .val (.long n5), .second, .val (.int (n1 &&& (3 : Int32))), .val (.ref a_MIN), .val (.ref b101), .val (.ref b102), .val (.ref b103), .val (.int (0 : Int32)), .val (.int (0 : Int32)), .val (.long n5), .second] [])) (fun _ kk_ => XS.lstore X106.here hx rfl (hb hby at_154) rfl (l' := #[.val (.int n1), .val (.int n2), .val (.int n3), .val (.long n4), .second, .val (.long n5), .second, .val (.int (n1 &&& (3 : Int32))), .val (.ref a_MIN), .val (.ref b101), .val (.ref b102), .val (.ref b103), .val (.int (0 : Int32)), .val (.int (0 : Int32)), .val (.long n5), .second]) rfl kk_) ?_
          refine OWH.st (B := T106.setTop (mkF m 158 #[.val (.int n1), .val (.int n2), .val (.int n3), .val (.long n4), .second, .val (.long n5), .second, .val (.int (n1 &&& (3 : Int32))), .val (.ref a_MIN), .val (.ref b101), .val (.ref b102), .val (.ref b103), .val (.int (0 : Int32)), .val (.int (0 : Int32)), .val (.long n5), .second] [(.long n5)])) (fun _ kk_ => XS.lload X106.here hx rfl (hb hby at_156) rfl kk_) ?_
          refine OWH.st (B := T106.setTop (mkF m 159 #[.val (.int n1), .val (.int n2), .val (.int n3), .val (.long n4), .second, .val (.long n5), .second, .val (.int (n1 &&& (3 : Int32))), .val (.ref a_MIN), .val (.ref b101), .val (.ref b102), .val (.ref b103), .val (.int (0 : Int32)), .val (.int (0 : Int32)), .val (.long n5), .second] [(.long n4), (.long n5)])) (fun _ kk_ => XS.lloadN X106.here hx rfl (hb hby at_158) rfl kk_) ?_
          refine OWH.st (B := T106.setTop (mkF m 160 #[.val (.int n1), .val (.int n2), .val (.int n3), .val (.long n4), .second, .val (.long n5), .second, .val (.int (n1 &&& (3 : Int32))), .val (.ref a_MIN), .val (.ref b101), .val (.ref b102), .val (.ref b103), .val (.int (0 : Int32)), .val (.int (0 : Int32)), .val (.long n5), .second] [(.int (lcmpW n5 n4))])) (fun _ kk_ => XS.lcmp X106.here hx rfl (hb hby at_159) rfl kk_) ?_
          by_cases hc107 : (lcmpW n5 n4) = (0 : Int32)
          · refine OWH.st (B := T106.setTop (mkF m 171 #[.val (.int n1), .val (.int n2), .val (.int n3), .val (.long n4), .second, .val (.long n5), .second, .val (.int (n1 &&& (3 : Int32))), .val (.ref a_MIN), .val (.ref b101), .val (.ref b102), .val (.ref b103), .val (.int (0 : Int32)), .val (.int (0 : Int32)), .val (.long n5), .second] [])) (fun _ kk_ => XS.ifYes X106.here hx rfl (pc0 := 160) (pc' := 171) rfl (hb hby at_160) rfl ((if0 _ _).trans (teq hc107).1) (by decide) (by decide) kk_) ?_
            refine OWH.st (B := T106.setTop (mkF m 172 #[.val (.int n1), .val (.int n2), .val (.int n3), .val (.long n4), .second, .val (.long n5), .second, .val (.int (n1 &&& (3 : Int32))), .val (.ref a_MIN), .val (.ref b101), .val (.ref b102), .val (.ref b103), .val (.int (0 : Int32)), .val (.int (0 : Int32)), .val (.long n5), .second] [(.int (1 : Int32))])) (fun _ kk_ => XS.iconst X106.here hx rfl (hb hby at_171) kk_) ?_
            refine OWH.st (B := T106.setTop (mkF m 176 #[.val (.int n1), .val (.int n2), .val (.int n3), .val (.long n4), .second, .val (.long n5), .second, .val (.int (n1 &&& (3 : Int32))), .val (.ref a_MIN), .val (.ref b101), .val (.ref b102), .val (.ref b103), .val (.int (0 : Int32)), .val (.int (0 : Int32)), .val (.long n5), .second] [(.int (1 : Int32))])) (fun _ kk_ => XS.goto X106.here hx rfl (pc0 := 172) (pc' := 176) rfl (hb hby at_172) (by decide) (by decide) kk_) ?_
            exact OWH.ret X106 (s := s) (vm0 := T104.vm) hS104 hk104 hx hlk CR104 hZ104 (own_EW hw) (i := .ireturn) Bd.returns rfl (Or.inl ⟨rfl, Or.inr (Or.inl rfl), _, rfl⟩) (hb hby at_176) e106 (by decide) (by decide) ⟨rfl, N106⟩
          · refine OWH.st (B := T106.setTop (mkF m 163 #[.val (.int n1), .val (.int n2), .val (.int n3), .val (.long n4), .second, .val (.long n5), .second, .val (.int (n1 &&& (3 : Int32))), .val (.ref a_MIN), .val (.ref b101), .val (.ref b102), .val (.ref b103), .val (.int (0 : Int32)), .val (.int (0 : Int32)), .val (.long n5), .second] [])) (fun _ kk_ => XS.ifNo X106.here hx rfl (hb hby at_160) rfl ((if0 _ _).trans (feq hc107).1) kk_) ?_
            refine OWH.st (B := T106.setTop (mkF m 165 #[.val (.int n1), .val (.int n2), .val (.int n3), .val (.long n4), .second, .val (.long n5), .second, .val (.int (n1 &&& (3 : Int32))), .val (.ref a_MIN), .val (.ref b101), .val (.ref b102), .val (.ref b103), .val (.int (0 : Int32)), .val (.int (0 : Int32)), .val (.long n5), .second] [(.long n5)])) (fun _ kk_ => XS.lload X106.here hx rfl (hb hby at_163) rfl kk_) ?_
            refine OWH.st (B := T106.setTop (mkF m 167 #[.val (.int n1), .val (.int n2), .val (.int n3), .val (.long n4), .second, .val (.long n5), .second, .val (.int (n1 &&& (3 : Int32))), .val (.ref a_MIN), .val (.ref b101), .val (.ref b102), .val (.ref b103), .val (.int (0 : Int32)), .val (.int (0 : Int32)), .val (.long n5), .second] [(.long n5), (.long n5)])) (fun _ kk_ => XS.lload X106.here hx rfl (hb hby at_165) rfl kk_) ?_
            refine OWH.st (B := T106.setTop (mkF m 168 #[.val (.int n1), .val (.int n2), .val (.int n3), .val (.long n4), .second, .val (.long n5), .second, .val (.int (n1 &&& (3 : Int32))), .val (.ref a_MIN), .val (.ref b101), .val (.ref b102), .val (.ref b103), .val (.int (0 : Int32)), .val (.int (0 : Int32)), .val (.long n5), .second] [(.int (lcmpW n5 n5))])) (fun _ kk_ => XS.lcmp X106.here hx rfl (hb hby at_167) rfl kk_) ?_
            refine OWH.st (B := T106.setTop (mkF m 171 #[.val (.int n1), .val (.int n2), .val (.int n3), .val (.long n4), .second, .val (.long n5), .second, .val (.int (n1 &&& (3 : Int32))), .val (.ref a_MIN), .val (.ref b101), .val (.ref b102), .val (.ref b103), .val (.int (0 : Int32)), .val (.int (0 : Int32)), .val (.long n5), .second] [])) (fun _ kk_ => XS.ifNo X106.here hx rfl (hb hby at_168) rfl ((if0 _ _).trans (teq (own_lself _)).2) kk_) ?_
            refine OWH.st (B := T106.setTop (mkF m 172 #[.val (.int n1), .val (.int n2), .val (.int n3), .val (.long n4), .second, .val (.long n5), .second, .val (.int (n1 &&& (3 : Int32))), .val (.ref a_MIN), .val (.ref b101), .val (.ref b102), .val (.ref b103), .val (.int (0 : Int32)), .val (.int (0 : Int32)), .val (.long n5), .second] [(.int (1 : Int32))])) (fun _ kk_ => XS.iconst X106.here hx rfl (hb hby at_171) kk_) ?_
            refine OWH.st (B := T106.setTop (mkF m 176 #[.val (.int n1), .val (.int n2), .val (.int n3), .val (.long n4), .second, .val (.long n5), .second, .val (.int (n1 &&& (3 : Int32))), .val (.ref a_MIN), .val (.ref b101), .val (.ref b102), .val (.ref b103), .val (.int (0 : Int32)), .val (.int (0 : Int32)), .val (.long n5), .second] [(.int (1 : Int32))])) (fun _ kk_ => XS.goto X106.here hx rfl (pc0 := 172) (pc' := 176) rfl (hb hby at_172) (by decide) (by decide) kk_) ?_
            exact OWH.ret X106 (s := s) (vm0 := T104.vm) hS104 hk104 hx hlk CR104 hZ104 (own_EW hw) (i := .ireturn) Bd.returns rfl (Or.inl ⟨rfl, Or.inr (Or.inl rfl), _, rfl⟩) (hb hby at_176) e106 (by decide) (by decide) ⟨rfl, N106⟩
      · refine OWH.st (B := s₁.setTop (mkF m 46 #[.val (.int n1), .val (.int n2), .val (.int n3), .val (.long n4), .second, .val (.long n5), .second, .val (.int (n1 &&& (3 : Int32))), .unset, .unset, .unset, .unset, .unset, .unset, .unset, .unset] [])) (fun _ kk_ => XS.icmpYes X0.here hx rfl (pc0 := 35) (pc' := 46) rfl (hb hby at_35) rfl (feq hc99).2 (by decide) (by decide) kk_) ?_
        obtain ⟨T108, X108, e108, st108⟩ := getS2 X0 hx hZ hown (host := "") (Or.inl (w_74 hw)) Via.refl e0 (Sa_MAX.ext O0.2) (g := (mkF m 46 #[.val (.int n1), .val (.int n2), .val (.int n3), .val (.long n4), .second, .val (.long n5), .second, .val (.int (n1 &&& (3 : Int32))), .unset, .unset, .unset, .unset, .unset, .unset, .unset, .unset] [])) rfl (hb hby at_46)
        refine OWH.st (B := T108.setTop (mkF m 49 #[.val (.int n1), .val (.int n2), .val (.int n3), .val (.long n4), .second, .val (.long n5), .second, .val (.int (n1 &&& (3 : Int32))), .unset, .unset, .unset, .unset, .unset, .unset, .unset, .unset] [(.ref a_MAX)])) (st108) ?_
        refine OWH.st (B := T108.setTop (mkF m 51 #[.val (.int n1), .val (.int n2), .val (.int n3), .val (.long n4), .second, .val (.long n5), .second, .val (.int (n1 &&& (3 : Int32))), .val (.ref a_MAX), .unset, .unset, .unset, .unset, .unset, .unset, .unset] [])) (fun _ kk_ => XS.astore X108.here hx rfl (hb hby at_49) rfl rfl (l' := #[.val (.int n1), .val (.int n2), .val (.int n3), .val (.long n4), .second, .val (.long n5), .second, .val (.int (n1 &&& (3 : Int32))), .val (.ref a_MAX), .unset, .unset, .unset, .unset, .unset, .unset, .unset]) rfl kk_) ?_
        refine OWH.st (B := T108.setTop (mkF m 52 #[.val (.int n1), .val (.int n2), .val (.int n3), .val (.long n4), .second, .val (.long n5), .second, .val (.int (n1 &&& (3 : Int32))), .val (.ref a_MAX), .unset, .unset, .unset, .unset, .unset, .unset, .unset] [(.int n2)])) (fun _ kk_ => XS.iloadN X108.here hx rfl (hb hby at_51) rfl kk_) ?_
        refine OWH.st (B := T108.setTop (mkF m 55 #[.val (.int n1), .val (.int n2), .val (.int n3), .val (.long n4), .second, .val (.long n5), .second, .val (.int (n1 &&& (3 : Int32))), .val (.ref a_MAX), .unset, .unset, .unset, .unset, .unset, .unset, .unset] [(.int (255 : Int32)), (.int n2)])) (fun _ kk_ => XS.sipush X108.here hx rfl (hb hby at_52) kk_) ?_
        refine OWH.st (B := T108.setTop (mkF m 56 #[.val (.int n1), .val (.int n2), .val (.int n3), .val (.long n4), .second, .val (.long n5), .second, .val (.int (n1 &&& (3 : Int32))), .val (.ref a_MAX), .unset, .unset, .unset, .unset, .unset, .unset, .unset] [(.int (n2 &&& (255 : Int32)))])) (fun _ kk_ => XS.iand X108.here hx rfl (hb hby at_55) rfl kk_) ?_
        refine OWH.st (B := T108.setTop (mkF m 57 #[.val (.int n1), .val (.int n2), .val (.int n3), .val (.long n4), .second, .val (.long n5), .second, .val (.int (n1 &&& (3 : Int32))), .val (.ref a_MAX), .unset, .unset, .unset, .unset, .unset, .unset, .unset] [(.int ((n2 &&& (255 : Int32)).toUInt32.toUInt16.toUInt32.toInt32))])) (fun _ kk_ => XS.i2c X108.here hx rfl (hb hby at_56) rfl kk_) ?_
        suffices J : ∀ u1 : Int32, (¬ ((255 : Int32) < u1) ∧ nar .char u1 = u1) → OWH Z consts_1 h0 p e below s (Q0 Z n1 n2 n3 n4 n5 a_COUNT a_MAX a_SUM a_MIN i_COMPACT_STRINGS v_SIOOBE_FORMATTER h0 n0) 9 53 (T108.setTop (mkF m 57 #[.val (.int n1), .val (.int n2), .val (.int n3), .val (.long n4), .second, .val (.long n5), .second, .val (.int (n1 &&& (3 : Int32))), .val (.ref a_MAX), .unset, .unset, .unset, .unset, .unset, .unset, .unset] [(.int u1)])) from J _ (own_ch255 n2)
        intro u1 hu1
        obtain ⟨hlu1, hnu1⟩ := hu1
        obtain ⟨_, _, ⟨T109, L109, k109, n109⟩, -, X109, ⟨Lc109, hQ109, l109, y109, z109⟩, st109⟩ := Jvm.LawKit.callS X108 hx (y := (⟨"java/lang/String", "valueOf", "(C)Ljava/lang/String;"⟩ : MethodName)) hown (mvT hZ (w_3 hw)) (mvT hZ (w_4 hw)) (mvT hZ (w_5 hw)) (mvT hZ (w_6 hw)) (by decide) (backOf (W := 0) (rmVO l Z a0 hw [] u1 a_COUNT a_MAX a_SUM a_MIN i_COMPACT_STRINGS v_SIOOBE_FORMATTER h0 n0 O0 hS hlu1) hZ (w_6 hw) (w_5 hw) (by decide) (by decide)) (g := (mkF m 57 #[.val (.int n1), .val (.int n2), .val (.int n3), .val (.long n4), .second, .val (.long n5), .second, .val (.int (n1 &&& (3 : Int32))), .val (.ref a_MAX), .unset, .unset, .unset, .unset, .unset, .unset, .unset] [(.int u1)])) rfl (by rw [hml]; rfl) (argsL := [(.int u1)]) (rest := []) (lenOf pd_9 rfl) rfl (by show 2 * 0 + _ ≤ _; exact Nat.le_of_eq rfl) (hb hby at_57) (fun _ _ => ⟨rfl, e108, (by decide : 0 + 2 ≤ _), (by decide : 0 + 5 ≤ _)⟩)
        dsimp only [Pt.U, Pt.locs, Pt.cells, Pt.slots] at X109 l109 y109 z109 st109 hQ109
        subst l109 y109 z109
        obtain ⟨b109, ba109, kb109, rfl, Nq109, K109, gb109, zb109, Es109, Fv109, Fc109, Vs109⟩ := hQ109
        have N109 := Fr.app N0 Nq109
        have O109 : Old Z n0 T109.heap := O0.keep K109 all0
        have CS109 : CHr Z consts_1 s.vm h0 s.vm T109.heap := CHr.keep K109 all0 CR0.1
        have CR109 := CHr.trans CR0 CS109
        have Sf109_b109 : Safe Z consts_1 s.vm T109.heap b109 := Safe.keep K109 all0 CR0.1 (Safe.new zb109)
        refine OWH.st (B := T109.setTop (mkF m 60 #[.val (.int n1), .val (.int n2), .val (.int n3), .val (.long n4), .second, .val (.long n5), .second, .val (.int (n1 &&& (3 : Int32))), .val (.ref a_MAX), .unset, .unset, .unset, .unset, .unset, .unset, .unset] [(.ref b109)])) (st109) ?_
        refine OWH.st (B := T109.setTop (mkF m 62 #[.val (.int n1), .val (.int n2), .val (.int n3), .val (.long n4), .second, .val (.long n5), .second, .val (.int (n1 &&& (3 : Int32))), .val (.ref a_MAX), .val (.ref b109), .unset, .unset, .unset, .unset, .unset, .unset] [])) (fun _ kk_ => XS.astore X109.here hx rfl (hb hby at_60) rfl rfl (l' := #[.val (.int n1), .val (.int n2), .val (.int n3), .val (.long n4), .second, .val (.long n5), .second, .val (.int (n1 &&& (3 : Int32))), .val (.ref a_MAX), .val (.ref b109), .unset, .unset, .unset, .unset, .unset, .unset]) rfl kk_) ?_
        refine OWH.st (B := T109.setTop (mkF m 64 #[.val (.int n1), .val (.int n2), .val (.int n3), .val (.long n4), .second, .val (.long n5), .second, .val (.int (n1 &&& (3 : Int32))), .val (.ref a_MAX), .val (.ref b109), .unset, .unset, .unset, .unset, .unset, .unset] [(.int (n1 &&& (3 : Int32)))])) (fun _ kk_ => XS.iload X109.here hx rfl (hb hby at_62) rfl kk_) ?_
        refine OWH.st (B := T109.setTop (mkF m 81 #[.val (.int n1), .val (.int n2), .val (.int n3), .val (.long n4), .second, .val (.long n5), .second, .val (.int (n1 &&& (3 : Int32))), .val (.ref a_MAX), .val (.ref b109), .unset, .unset, .unset, .unset, .unset, .unset] [])) (fun _ kk_ => XS.ifYes X109.here hx rfl (pc0 := 64) (pc' := 81) rfl (hb hby at_64) rfl ((if0 _ _).trans (feq hc81).2) (by decide) (by decide) kk_) ?_
        refine OWH.st (B := T109.setTop (mkF m 82 #[.val (.int n1), .val (.int n2), .val (.int n3), .val (.long n4), .second, .val (.long n5), .second, .val (.int (n1 &&& (3 : Int32))), .val (.ref a_MAX), .val (.ref b109), .unset, .unset, .unset, .unset, .unset, .unset] [(.int n3)])) (fun _ kk_ => XS.iloadN X109.here hx rfl (hb hby at_81) rfl kk_) ?_
        refine OWH.st (B := T109.setTop (mkF m 85 #[.val (.int n1), .val (.int n2), .val (.int n3), .val (.long n4), .second, .val (.long n5), .second, .val (.int (n1 &&& (3 : Int32))), .val (.ref a_MAX), .val (.ref b109), .unset, .unset, .unset, .unset, .unset, .unset] [(.int (255 : Int32)), (.int n3)])) (fun _ kk_ => XS.sipush X109.here hx rfl (hb hby at_82) kk_) ?_
        refine OWH.st (B := T109.setTop (mkF m 86 #[.val (.int n1), .val (.int n2), .val (.int n3), .val (.long n4), .second, .val (.long n5), .second, .val (.int (n1 &&& (3 : Int32))), .val (.ref a_MAX), .val (.ref b109), .unset, .unset, .unset, .unset, .unset, .unset] [(.int (n3 &&& (255 : Int32)))])) (fun _ kk_ => XS.iand X109.here hx rfl (hb hby at_85) rfl kk_) ?_
        refine OWH.st (B := T109.setTop (mkF m 87 #[.val (.int n1), .val (.int n2), .val (.int n3), .val (.long n4), .second, .val (.long n5), .second, .val (.int (n1 &&& (3 : Int32))), .val (.ref a_MAX), .val (.ref b109), .unset, .unset, .unset, .unset, .unset, .unset] [(.int ((n3 &&& (255 : Int32)).toUInt32.toUInt16.toUInt32.toInt32))])) (fun _ kk_ => XS.i2c X109.here hx rfl (hb hby at_86) rfl kk_) ?_
        suffices J : ∀ u2 : Int32, (¬ ((255 : Int32) < u2) ∧ nar .char u2 = u2) → OWH Z consts_1 h0 p e below s (Q0 Z n1 n2 n3 n4 n5 a_COUNT a_MAX a_SUM a_MIN i_COMPACT_STRINGS v_SIOOBE_FORMATTER h0 n0) 9 53 (T109.setTop (mkF m 87 #[.val (.int n1), .val (.int n2), .val (.int n3), .val (.long n4), .second, .val (.long n5), .second, .val (.int (n1 &&& (3 : Int32))), .val (.ref a_MAX), .val (.ref b109), .unset, .unset, .unset, .unset, .unset, .unset] [(.int u2)])) from J _ (own_ch255 n3)
        intro u2 hu2
        obtain ⟨hlu2, hnu2⟩ := hu2
        obtain ⟨_, _, ⟨T110, L110, k110, n110⟩, -, X110, ⟨Lc110, hQ110, l110, y110, z110⟩, st110⟩ := Jvm.LawKit.callS X109 hx (y := (⟨"java/lang/String", "valueOf", "(C)Ljava/lang/String;"⟩ : MethodName)) hown (mvT hZ (w_3 hw)) (mvT hZ (w_4 hw)) (mvT hZ (w_5 hw)) (mvT hZ (w_6 hw)) (by decide) (backOf (W := 0) (rmVO l Z a0 hw [] u2 a_COUNT a_MAX a_SUM a_MIN i_COMPACT_STRINGS v_SIOOBE_FORMATTER T109.heap n0 O109 hS hlu2) hZ (w_6 hw) (w_5 hw) (by decide) (by decide)) (g := (mkF m 87 #[.val (.int n1), .val (.int n2), .val (.int n3), .val (.long n4), .second, .val (.long n5), .second, .val (.int (n1 &&& (3 : Int32))), .val (.ref a_MAX), .val (.ref b109), .unset, .unset, .unset, .unset, .unset, .unset] [(.int u2)])) rfl (by rw [hml]; rfl) (argsL := [(.int u2)]) (rest := []) (lenOf pd_9 rfl) rfl (by show 2 * 0 + _ ≤ _; exact Nat.le_of_eq rfl) (hb hby at_87) (fun _ _ => ⟨rfl, rfl, (by decide : 2 + 2 ≤ _), (by decide : 5 + 5 ≤ _)⟩)
        dsimp only [Pt.U, Pt.locs, Pt.cells, Pt.slots] at X110 l110 y110 z110 st110 hQ110
        subst l110 y110 z110
        obtain ⟨b110, ba110, kb110, rfl, Nq110, K110, gb110, zb110, Es110, Fv110, Fc110, Vs110⟩ := hQ110
        have N110 := Fr.app N109 Nq110
        have O110 : Old Z n0 T110.heap := O109.keep K110 all0
        have CS110 : CHr Z consts_1 s.vm T109.heap s.vm T110.heap := CHr.keep K110 all0 CR109.1
        have Sf110_b109 := CHr.safe CS110 Es109.lt Sf109_b109
        have CR110 := CHr.trans CR109 CS110
        have Sf110_b110 : Safe Z consts_1 s.vm T110.heap b110 := Safe.keep K110 all0 CR109.1 (Safe.new zb110)
        refine OWH.st (B := T110.setTop (mkF m 90 #[.val (.int n1), .val (.int n2), .val (.int n3), .val (.long n4), .second, .val (.long n5), .second, .val (.int (n1 &&& (3 : Int32))), .val (.ref a_MAX), .val (.ref b109), .unset, .unset, .unset, .unset, .unset, .unset] [(.ref b110)])) (st110) ?_
        refine OWH.st (B := T110.setTop (mkF m 92 #[.val (.int n1), .val (.int n2), .val (.int n3), .val (.long n4), .second, .val (.long n5), .second, .val (.int (n1 &&& (3 : Int32))), .val (.ref a_MAX), .val (.ref b109), .val (.ref b110), .unset, .unset, .unset, .unset, .unset] [])) (fun _ kk_ => XS.astore X110.here hx rfl (hb hby at_90) rfl rfl (l' := #[.val (.int n1), .val (.int n2), .val (.int n3), .val (.long n4), .second, .val (.long n5), .second, .val (.int (n1 &&& (3 : Int32))), .val (.ref a_MAX), .val (.ref b109), .val (.ref b110), .unset, .unset, .unset, .unset, .unset]) rfl kk_) ?_
        obtain ⟨T111, h111, X111, e111, E111, A111, D111, -, st111⟩ := newO X110 hx hZ hown (w_29 hw) (w_30 hw) (w_31 hw) rfl (g := (mkF m 92 #[.val (.int n1), .val (.int n2), .val (.int n3), .val (.long n4), .second, .val (.long n5), .second, .val (.int (n1 &&& (3 : Int32))), .val (.ref a_MAX), .val (.ref b109), .val (.ref b110), .unset, .unset, .unset, .unset, .unset] [])) rfl (hb hby at_92) (by decide) (by decide)
        obtain ⟨b111, g111⟩ : ∃ z, z = T110.heap.size := ⟨_, rfl⟩
        rw [← g111] at A111 D111 st111
        have n_b111 : n0 ≤ b111 := Nat.le_trans (own_oldle O110) (Nat.le_of_eq g111.symm)
        have O111 : Old Z n0 h111 := O110.ext E111
        have CS111 : CHr Z consts_1 s.vm T110.heap s.vm h111 := CHr.ext E111 CR110.1
        have Sf111_b109 := CHr.safe CS111 (Es109.keep K110).lt Sf110_b109
        have Sf111_b110 := CHr.safe CS111 Es110.lt Sf110_b110
        have CR111 := CHr.trans CR110 CS111
        have Sf111_b111 : Safe Z consts_1 s.vm h111 b111 := Safe.ext E111 CR110.1 (Safe.new (Nat.le_of_eq g111.symm))
        have F111_63 : Fld Z h111 b111 "com/example/latticework/latticework/Measure" "name" "Ljava/lang/String;" .null := D111 (Or.inr (w_63 hw)) (ty := (.object "java/lang/String")) (by decide)
        have F111_65 : Fld Z h111 b111 "com/example/latticework/latticework/Measure" "function" "Lcom/example/latticework/latticework/Measure$Function;" .null := D111 (Or.inr (w_65 hw)) (ty := (.object "com/example/latticework/latticework/Measure$Function")) (by decide)
        have F111_67 : Fld Z h111 b111 "com/example/latticework/latticework/Measure" "column" "Ljava/lang/String;" .null := D111 (Or.inr (w_67 hw)) (ty := (.object "java/lang/String")) (by decide)
        refine OWH.st (B := T111.setTop (mkF m 95 #[.val (.int n1), .val (.int n2), .val (.int n3), .val (.long n4), .second, .val (.long n5), .second, .val (.int (n1 &&& (3 : Int32))), .val (.ref a_MAX), .val (.ref b109), .val (.ref b110), .unset, .unset, .unset, .unset, .unset] [(.ref b111)])) (st111) ?_
        refine OWH.st (B := T111.setTop (mkF m 96 #[.val (.int n1), .val (.int n2), .val (.int n3), .val (.long n4), .second, .val (.long n5), .second, .val (.int (n1 &&& (3 : Int32))), .val (.ref a_MAX), .val (.ref b109), .val (.ref b110), .unset, .unset, .unset, .unset, .unset] [(.ref b111), (.ref b111)])) (fun _ kk_ => XS.dup X111.here hx rfl (hb hby at_95) rfl rfl kk_) ?_
        refine OWH.st (B := T111.setTop (mkF m 98 #[.val (.int n1), .val (.int n2), .val (.int n3), .val (.long n4), .second, .val (.long n5), .second, .val (.int (n1 &&& (3 : Int32))), .val (.ref a_MAX), .val (.ref b109), .val (.ref b110), .unset, .unset, .unset, .unset, .unset] [(.ref b109), (.ref b111), (.ref b111)])) (fun _ kk_ => XS.aload X111.here hx rfl (hb hby at_96) rfl rfl kk_) ?_
        refine OWH.st (B := T111.setTop (mkF m 100 #[.val (.int n1), .val (.int n2), .val (.int n3), .val (.long n4), .second, .val (.long n5), .second, .val (.int (n1 &&& (3 : Int32))), .val (.ref a_MAX), .val (.ref b109), .val (.ref b110), .unset, .unset, .unset, .unset, .unset] [(.ref a_MAX), (.ref b109), (.ref b111), (.ref b111)])) (fun _ kk_ => XS.aload X111.here hx rfl (hb hby at_98) rfl rfl kk_) ?_
        refine OWH.st (B := T111.setTop (mkF m 102 #[.val (.int n1), .val (.int n2), .val (.int n3), .val (.long n4), .second, .val (.long n5), .second, .val (.int (n1 &&& (3 : Int32))), .val (.ref a_MAX), .val (.ref b109), .val (.ref b110), .unset, .unset, .unset, .unset, .unset] [(.ref b110), (.ref a_MAX), (.ref b109), (.ref b111), (.ref b111)])) (fun _ kk_ => XS.aload X111.here hx rfl (hb hby at_100) rfl rfl kk_) ?_
        obtain ⟨_, _, ⟨T112, L112, k112, n112⟩, -, X112, hs112, hsz112, ⟨Lc112, hQ112, l112, y112, z112, CQ112⟩, st112⟩ := X111.specialBackS hx (y := (⟨"com/example/latticework/latticework/Measure", "<init>", "(Ljava/lang/String;Lcom/example/latticework/latticework/Measure$Function;Ljava/lang/String;)V"⟩ : MethodName)) rfl hown (mvT hZ (w_32 hw)) (mvT hZ (w_33 hw)) (mvT hZ (w_34 hw)) (by decide) (backOfSH (W := 1) (rmMC l Z a0 hw [] b111 b109 ba109 kb109 (own_by u1) a_MAX b110 ba110 kb110 (own_by u2) a_COUNT a_MAX a_SUM a_MIN i_COMPACT_STRINGS v_SIOOBE_FORMATTER h111 n0 O111 A111 F111_63 F111_65 F111_67 n_b111 ((Es109.keep K110).ext E111) ((Fv109.keep K110 nin0).ext E111) ((Fc109.keep K110 nin0).ext E111) ((Vs109.keep K110 nin0).ext E111) (Es110.ext E111) (Fv110.ext E111) (Fc110.ext E111) (Vs110.ext E111) hS) hZ (w_34 hw) (w_31 hw) (by decide) (by decide) (own_EW hw) CR111.1) (g := (mkF m 102 #[.val (.int n1), .val (.int n2), .val (.int n3), .val (.long n4), .second, .val (.long n5), .second, .val (.int (n1 &&& (3 : Int32))), .val (.ref a_MAX), .val (.ref b109), .val (.ref b110), .unset, .unset, .unset, .unset, .unset] [(.ref b110), (.ref a_MAX), (.ref b109), (.ref b111), (.ref b111)])) rfl (by rw [hml]; rfl) (Steps.refl _) (a := b111) (argsL := [(.ref b109), (.ref a_MAX), (.ref b110)]) (rest := [(.ref b111)]) (lenOf pd_10 rfl) rfl (by show 2 * 0 + _ ≤ _; exact Nat.le_of_eq rfl) (hb hby at_102) (fun _ _ => ⟨rfl, e111, (by decide : 5 + 4 ≤ _), (by decide : 13 + 40 ≤ _)⟩)
        dsimp only [Pt.U, Pt.locs, Pt.cells, Pt.slots] at hs112 hsz112
        have hS112 := foldS hS0 (show _ ≤ T111.heap.size by rw [e111]; exact (Nat.le_trans (Nat.le_trans (Nat.le_trans hk0 K109.1) K110.1) E111.1)) hs112 hsz112
        have hZ112 : Z.Warmed39 (s.setVm T112.vm).vm := State.Warmed39.trans (t := s) hZ hs112.1
        have hown112 : (s.setVm T112.vm).vm.findClass "com/example/latticework/latticework/MeasureAddsPinLaw" = some m.cls := by rw [show (s.setVm T112.vm).vm = T112.vm from rfl, hs112.1.alike.findClass]; exact hown
        dsimp only [Pt.U, Pt.locs, Pt.cells, Pt.slots] at X112 l112 y112 z112 st112 hQ112 CQ112
        subst l112 y112 z112
        obtain ⟨rfl, Nq112, K112, Em112, Ff112⟩ := hQ112
        have N112 := Fr.app N110 Nq112
        have O112 : Old Z n0 T112.heap := O111.keep K112 (allS n_b111 all0)
        have CS112 : CHr Z consts_1 s.vm h111 T112.vm T112.heap := CQ112
        have Sf112_b109 := CHr.safe CS112 ((Es109.keep K110).ext E111).lt Sf111_b109
        have Sf112_b110 := CHr.safe CS112 (Es110.ext E111).lt Sf111_b110
        have Sf112_b111 := CHr.safe CS112 A111.lt Sf111_b111
        have CR112 := CHr.trans CR111 CS112
        have hk112 : T112.heap.size ≤ T112.heap.size := Nat.le_of_eq (by rfl)
        refine OWH.tr (B := T112.setTop (mkF m 105 #[.val (.int n1), .val (.int n2), .val (.int n3), .val (.long n4), .second, .val (.long n5), .second, .val (.int (n1 &&& (3 : Int32))), .val (.ref a_MAX), .val (.ref b109), .val (.ref b110), .unset, .unset, .unset, .unset, .unset] [(.ref b111)])) (st112) ?_
        refine OWH.st (B := T112.setTop (mkF m 107 #[.val (.int n1), .val (.int n2), .val (.int n3), .val (.long n4), .second, .val (.long n5), .second, .val (.int (n1 &&& (3 : Int32))), .val (.ref a_MAX), .val (.ref b109), .val (.ref b110), .val (.ref b111), .unset, .unset, .unset, .unset] [])) (fun _ kk_ => XS.astore X112.here hx rfl (hb hby at_105) rfl rfl (l' := #[.val (.int n1), .val (.int n2), .val (.int n3), .val (.long n4), .second, .val (.long n5), .second, .val (.int (n1 &&& (3 : Int32))), .val (.ref a_MAX), .val (.ref b109), .val (.ref b110), .val (.ref b111), .unset, .unset, .unset, .unset]) rfl kk_) ?_
        refine OWH.st (B := T112.setTop (mkF m 109 #[.val (.int n1), .val (.int n2), .val (.int n3), .val (.long n4), .second, .val (.long n5), .second, .val (.int (n1 &&& (3 : Int32))), .val (.ref a_MAX), .val (.ref b109), .val (.ref b110), .val (.ref b111), .unset, .unset, .unset, .unset] [(.int (n1 &&& (3 : Int32)))])) (fun _ kk_ => XS.iload X112.here hx rfl (hb hby at_107) rfl kk_) ?_
        refine OWH.st (B := T112.setTop (mkF m 112 #[.val (.int n1), .val (.int n2), .val (.int n3), .val (.long n4), .second, .val (.long n5), .second, .val (.int (n1 &&& (3 : Int32))), .val (.ref a_MAX), .val (.ref b109), .val (.ref b110), .val (.ref b111), .unset, .unset, .unset, .unset] [])) (fun _ kk_ => XS.ifNo X112.here hx rfl (hb hby at_109) rfl ((if0 _ _).trans (feq hc81).1) kk_) ?_
        refine OWH.st (B := T112.setTop (mkF m 114 #[.val (.int n1), .val (.int n2), .val (.int n3), .val (.long n4), .second, .val (.long n5), .second, .val (.int (n1 &&& (3 : Int32))), .val (.ref a_MAX), .val (.ref b109), .val (.ref b110), .val (.ref b111), .unset, .unset, .unset, .unset] [(.int (n1 &&& (3 : Int32)))])) (fun _ kk_ => XS.iload X112.here hx rfl (hb hby at_112) rfl kk_) ?_
        refine OWH.st (B := T112.setTop (mkF m 115 #[.val (.int n1), .val (.int n2), .val (.int n3), .val (.long n4), .second, .val (.long n5), .second, .val (.int (n1 &&& (3 : Int32))), .val (.ref a_MAX), .val (.ref b109), .val (.ref b110), .val (.ref b111), .unset, .unset, .unset, .unset] [(.int (1 : Int32)), (.int (n1 &&& (3 : Int32)))])) (fun _ kk_ => XS.iconst X112.here hx rfl (hb hby at_114) kk_) ?_
        refine OWH.st (B := T112.setTop (mkF m 122 #[.val (.int n1), .val (.int n2), .val (.int n3), .val (.long n4), .second, .val (.long n5), .second, .val (.int (n1 &&& (3 : Int32))), .val (.ref a_MAX), .val (.ref b109), .val (.ref b110), .val (.ref b111), .unset, .unset, .unset, .unset] [])) (fun _ kk_ => XS.icmpYes X112.here hx rfl (pc0 := 115) (pc' := 122) rfl (hb hby at_115) rfl (feq hc92).2 (by decide) (by decide) kk_) ?_
        refine OWH.st (B := T112.setTop (mkF m 123 #[.val (.int n1), .val (.int n2), .val (.int n3), .val (.long n4), .second, .val (.long n5), .second, .val (.int (n1 &&& (3 : Int32))), .val (.ref a_MAX), .val (.ref b109), .val (.ref b110), .val (.ref b111), .unset, .unset, .unset, .unset] [(.int (0 : Int32))])) (fun _ kk_ => XS.iconst X112.here hx rfl (hb hby at_122) kk_) ?_
        refine OWH.st (B := T112.setTop (mkF m 125 #[.val (.int n1), .val (.int n2), .val (.int n3), .val (.long n4), .second, .val (.long n5), .second, .val (.int (n1 &&& (3 : Int32))), .val (.ref a_MAX), .val (.ref b109), .val (.ref b110), .val (.ref b111), .val (.int (0 : Int32)), .unset, .unset, .unset] [])) (fun _ kk_ => XS.istore X112.here hx rfl (hb hby at_123) rfl (l' := #[.val (.int n1), .val (.int n2), .val (.int n3), .val (.long n4), .second, .val (.long n5), .second, .val (.int (n1 &&& (3 : Int32))), .val (.ref a_MAX), .val (.ref b109), .val (.ref b110), .val (.ref b111), .val (.int (0 : Int32)), .unset, .unset, .unset]) rfl kk_) ?_
        refine OWH.st (B := T112.setTop (mkF m 127 #[.val (.int n1), .val (.int n2), .val (.int n3), .val (.long n4), .second, .val (.long n5), .second, .val (.int (n1 &&& (3 : Int32))), .val (.ref a_MAX), .val (.ref b109), .val (.ref b110), .val (.ref b111), .val (.int (0 : Int32)), .unset, .unset, .unset] [(.ref b111)])) (fun _ kk_ => XS.aload X112.here hx rfl (hb hby at_125) rfl rfl kk_) ?_
        obtain ⟨cq113, kq113, q113a, q113b, q113c⟩ := isOf hZ112 rfl (A111.keep K112)
        obtain ⟨_, _, ⟨T113, L113, k113, n113⟩, -, X113, ⟨Lc113, hQ113, l113, y113, z113⟩, st113⟩ := X112.virtualBack hx (y := (⟨"com/example/latticework/latticework/Measure", "adds", "()Z"⟩ : MethodName)) (z := (⟨"com/example/latticework/latticework/Measure", "adds", "()Z"⟩ : MethodName)) hown112 (mvT hZ112 (w_68 hw)) (mvT hZ112 (w_69 hw)) (notFace_of_selects (args := #[]) (mvT hZ112 (w_71 hw))) (mvT hZ112 (w_71 hw)) (mvT hZ112 (w_70 hw)) (by decide) (backOf (W := 0) (rmADMAX l Z a0 hw [] b111 a_COUNT a_MAX a_SUM a_MIN i_COMPACT_STRINGS v_SIOOBE_FORMATTER T112.heap n0 O112 Ff112 hS) hZ112 (w_72 hw) (w_31 hw) (by decide) (by decide)) q113a q113c (g := (mkF m 127 #[.val (.int n1), .val (.int n2), .val (.int n3), .val (.long n4), .second, .val (.long n5), .second, .val (.int (n1 &&& (3 : Int32))), .val (.ref a_MAX), .val (.ref b109), .val (.ref b110), .val (.ref b111), .val (.int (0 : Int32)), .unset, .unset, .unset] [(.ref b111)])) rfl (by rw [hml]; rfl) (Steps.refl _) (argsL := []) (rest := []) (lenOf pd_6 rfl) rfl (by show 2 * 0 + _ ≤ _; exact Nat.le_of_eq rfl) (hb hby at_127) (fun _ _ => ⟨rfl, rfl, (by decide : 9 + 0 ≤ _), (by decide : 53 + 0 ≤ _)⟩)
        dsimp only [Pt.U, Pt.locs, Pt.cells, Pt.slots] at X113 l113 y113 z113 st113 hQ113
        subst l113 y113 z113
        obtain ⟨rfl, Nq113, e113⟩ := hQ113
        have N113 := Fr.app N112 Nq113
        refine OWH.tr (B := T113.setTop (mkF m 130 #[.val (.int n1), .val (.int n2), .val (.int n3), .val (.long n4), .second, .val (.long n5), .second, .val (.int (n1 &&& (3 : Int32))), .val (.ref a_MAX), .val (.ref b109), .val (.ref b110), .val (.ref b111), .val (.int (0 : Int32)), .unset, .unset, .unset] [(.int (0 : Int32))])) (st113) ?_
        refine OWH.st (B := T113.setTop (mkF m 132 #[.val (.int n1), .val (.int n2), .val (.int n3), .val (.long n4), .second, .val (.long n5), .second, .val (.int (n1 &&& (3 : Int32))), .val (.ref a_MAX), .val (.ref b109), .val (.ref b110), .val (.ref b111), .val (.int (0 : Int32)), .val (.int (0 : Int32)), .unset, .unset] [])) (fun _ kk_ => XS.istore X113.here hx rfl (hb hby at_130) rfl (l' := #[.val (.int n1), .val (.int n2), .val (.int n3), .val (.long n4), .second, .val (.long n5), .second, .val (.int (n1 &&& (3 : Int32))), .val (.ref a_MAX), .val (.ref b109), .val (.ref b110), .val (.ref b111), .val (.int (0 : Int32)), .val (.int (0 : Int32)), .unset, .unset]) rfl kk_) ?_
        refine OWH.st (B := T113.setTop (mkF m 134 #[.val (.int n1), .val (.int n2), .val (.int n3), .val (.long n4), .second, .val (.long n5), .second, .val (.int (n1 &&& (3 : Int32))), .val (.ref a_MAX), .val (.ref b109), .val (.ref b110), .val (.ref b111), .val (.int (0 : Int32)), .val (.int (0 : Int32)), .unset, .unset] [(.int (0 : Int32))])) (fun _ kk_ => XS.iload X113.here hx rfl (hb hby at_132) rfl kk_) ?_
        refine OWH.st (B := T113.setTop (mkF m 136 #[.val (.int n1), .val (.int n2), .val (.int n3), .val (.long n4), .second, .val (.long n5), .second, .val (.int (n1 &&& (3 : Int32))), .val (.ref a_MAX), .val (.ref b109), .val (.ref b110), .val (.ref b111), .val (.int (0 : Int32)), .val (.int (0 : Int32)), .unset, .unset] [(.int (0 : Int32)), (.int (0 : Int32))])) (fun _ kk_ => XS.iload X113.here hx rfl (hb hby at_134) rfl kk_) ?_
        refine OWH.st (B := T113.setTop (mkF m 141 #[.val (.int n1), .val (.int n2), .val (.int n3), .val (.long n4), .second, .val (.long n5), .second, .val (.int (n1 &&& (3 : Int32))), .val (.ref a_MAX), .val (.ref b109), .val (.ref b110), .val (.ref b111), .val (.int (0 : Int32)), .val (.int (0 : Int32)), .unset, .unset] [])) (fun _ kk_ => XS.icmpYes X113.here hx rfl (pc0 := 136) (pc' := 141) rfl (hb hby at_136) rfl (teq (by decide)).1 (by decide) (by decide) kk_) ?_
        refine OWH.st (B := T113.setTop (mkF m 143 #[.val (.int n1), .val (.int n2), .val (.int n3), .val (.long n4), .second, .val (.long n5), .second, .val (.int (n1 &&& (3 : Int32))), .val (.ref a_MAX), .val (.ref b109), .val (.ref b110), .val (.ref b111), .val (.int (0 : Int32)), .val (.int (0 : Int32)), .unset, .unset] [(.int (0 : Int32))])) (fun _ kk_ => XS.iload X113.here hx rfl (hb hby at_141) rfl kk_) ?_
        refine OWH.st (B := T113.setTop (mkF m 146 #[.val (.int n1), .val (.int n2), .val (.int n3), .val (.long n4), .second, .val (.long n5), .second, .val (.int (n1 &&& (3 : Int32))), .val (.ref a_MAX), .val (.ref b109), .val (.ref b110), .val (.ref b111), .val (.int (0 : Int32)), .val (.int (0 : Int32)), .unset, .unset] [])) (fun _ kk_ => XS.ifNo X113.here hx rfl (hb hby at_143) rfl ((if0 _ _).trans (teq (by decide)).2) kk_) ?_
        refine OWH.st (B := T113.setTop (mkF m 148 #[.val (.int n1), .val (.int n2), .val (.int n3), .val (.long n4), .second, .val (.long n5), .second, .val (.int (n1 &&& (3 : Int32))), .val (.ref a_MAX), .val (.ref b109), .val (.ref b110), .val (.ref b111), .val (.int (0 : Int32)), .val (.int (0 : Int32)), .unset, .unset] [(.ref b111)])) (fun _ kk_ => XS.aload X113.here hx rfl (hb hby at_146) rfl rfl kk_) ?_
        refine OWH.st (B := T113.setTop (mkF m 149 #[.val (.int n1), .val (.int n2), .val (.int n3), .val (.long n4), .second, .val (.long n5), .second, .val (.int (n1 &&& (3 : Int32))), .val (.ref a_MAX), .val (.ref b109), .val (.ref b110), .val (.ref b111), .val (.int (0 : Int32)), .val (.int (0 : Int32)), .unset, .unset] [(.long n4), (.ref b111)])) (fun _ kk_ => XS.lloadN X113.here hx rfl (hb hby at_148) rfl kk_) ?_
        refine OWH.st (B := T113.setTop (mkF m 151 #[.val (.int n1), .val (.int n2), .val (.int n3), .val (.long n4), .second, .val (.long n5), .second, .val (.int (n1 &&& (3 : Int32))), .val (.ref a_MAX), .val (.ref b109), .val (.ref b110), .val (.ref b111), .val (.int (0 : Int32)), .val (.int (0 : Int32)), .unset, .unset] [(.long n5), (.long n4), (.ref b111)])) (fun _ kk_ => XS.lload X113.here hx rfl (hb hby at_149) rfl kk_) ?_
        obtain ⟨cq114, kq114, q114a, q114b, q114c⟩ := isOf hZ112 e113 (A111.keep K112)
        obtain ⟨_, _, ⟨T114, L114, k114, n114⟩, -, X114, ⟨Lc114, hQ114, l114, y114, z114⟩, st114⟩ := X113.virtualBack hx (y := (⟨"com/example/latticework/latticework/Measure", "pick", "(JJ)J"⟩ : MethodName)) (z := (⟨"com/example/latticework/latticework/Measure", "pick", "(JJ)J"⟩ : MethodName)) hown112 (mvT hZ112 (w_78 hw)) (mvT hZ112 (w_79 hw)) (notFace_of_selects (args := #[]) (mvT hZ112 (w_81 hw))) (mvT hZ112 (w_81 hw)) (mvT hZ112 (w_80 hw)) (by decide) (backOf (W := 0) (rmPKMAX l Z a0 hw [] b111 n4 n5 a_COUNT a_MAX a_SUM a_MIN i_COMPACT_STRINGS v_SIOOBE_FORMATTER T112.heap n0 O112 Ff112 hS) hZ112 (w_82 hw) (w_31 hw) (by decide) (by decide)) q114a q114c (g := (mkF m 151 #[.val (.int n1), .val (.int n2), .val (.int n3), .val (.long n4), .second, .val (.long n5), .second, .val (.int (n1 &&& (3 : Int32))), .val (.ref a_MAX), .val (.ref b109), .val (.ref b110), .val (.ref b111), .val (.int (0 : Int32)), .val (.int (0 : Int32)), .unset, .unset] [(.long n5), (.long n4), (.ref b111)])) rfl (by rw [hml]; rfl) (Steps.refl _) (argsL := [(.long n4), (.long n5)]) (rest := []) (lenOf pd_8 rfl) rfl (by show 2 * 0 + _ ≤ _; exact Nat.le_of_eq rfl) (hb hby at_151) (fun _ _ => ⟨rfl, e113, (by decide : 9 + 0 ≤ _), (by decide : 53 + 0 ≤ _)⟩)
        dsimp only [Pt.U, Pt.locs, Pt.cells, Pt.slots] at X114 l114 y114 z114 st114 hQ114
        subst l114 y114 z114
        obtain ⟨r114, rfl, Nq114, e114, hr114⟩ := hQ114
        have N114 := Fr.app N113 Nq114
        refine OWH.tr (B := T114.setTop (mkF m 154 #[.val (.int n1), .val (.int n2), .val (.int n3), .val (.long n4), .second, .val (.long n5), .second, .val (.int (n1 &&& (3 : Int32))), .val (.ref a_MAX), .val (.ref b109), .val (.ref b110), .val (.ref b111), .val (.int (0 : Int32)), .val (.int (0 : Int32)), .unset, .unset] [(.long r114)])) (st114) ?_
        rcases (hr114.imp Eq.symm Eq.symm) with rfl | rfl
        · refine OWH.st (B := T114.setTop (mkF m 156 #[.val (.int n1), .val (.int n2), .val (.int n3), .val (.long n4), .second, .val (.long n5), .second, .val (.int (n1 &&& (3 : Int32))), .val (.ref a_MAX), .val (.ref b109), .val (.ref b110), .val (.ref b111), .val (.int (0 : Int32)), .val (.int (0 : Int32)), .val (.long n4), .second] [])) (fun _ kk_ => XS.lstore X114.here hx rfl (hb hby at_154) rfl (l' := #[.val (.int n1), .val (.int n2), .val (.int n3), .val (.long n4), .second, .val (.long n5), .second, .val (.int (n1 &&& (3 : Int32))), .val (.ref a_MAX), .val (.ref b109), .val (.ref b110), .val (.ref b111), .val (.int (0 : Int32)), .val (.int (0 : Int32)), .val (.long n4), .second]) rfl kk_) ?_
          refine OWH.st (B := T114.setTop (mkF m 158 #[.val (.int n1), .val (.int n2), .val (.int n3), .val (.long n4), .second, .val (.long n5), .second, .val (.int (n1 &&& (3 : Int32))), .val (.ref a_MAX), .val (.ref b109), .val (.ref b110), .val (.ref b111), .val (.int (0 : Int32)), .val (.int (0 : Int32)), .val (.long n4), .second] [(.long n4)])) (fun _ kk_ => XS.lload X114.here hx rfl (hb hby at_156) rfl kk_) ?_
          refine OWH.st (B := T114.setTop (mkF m 159 #[.val (.int n1), .val (.int n2), .val (.int n3), .val (.long n4), .second, .val (.long n5), .second, .val (.int (n1 &&& (3 : Int32))), .val (.ref a_MAX), .val (.ref b109), .val (.ref b110), .val (.ref b111), .val (.int (0 : Int32)), .val (.int (0 : Int32)), .val (.long n4), .second] [(.long n4), (.long n4)])) (fun _ kk_ => XS.lloadN X114.here hx rfl (hb hby at_158) rfl kk_) ?_
          refine OWH.st (B := T114.setTop (mkF m 160 #[.val (.int n1), .val (.int n2), .val (.int n3), .val (.long n4), .second, .val (.long n5), .second, .val (.int (n1 &&& (3 : Int32))), .val (.ref a_MAX), .val (.ref b109), .val (.ref b110), .val (.ref b111), .val (.int (0 : Int32)), .val (.int (0 : Int32)), .val (.long n4), .second] [(.int (lcmpW n4 n4))])) (fun _ kk_ => XS.lcmp X114.here hx rfl (hb hby at_159) rfl kk_) ?_
          refine OWH.st (B := T114.setTop (mkF m 171 #[.val (.int n1), .val (.int n2), .val (.int n3), .val (.long n4), .second, .val (.long n5), .second, .val (.int (n1 &&& (3 : Int32))), .val (.ref a_MAX), .val (.ref b109), .val (.ref b110), .val (.ref b111), .val (.int (0 : Int32)), .val (.int (0 : Int32)), .val (.long n4), .second] [])) (fun _ kk_ => XS.ifYes X114.here hx rfl (pc0 := 160) (pc' := 171) rfl (hb hby at_160) rfl ((if0 _ _).trans (teq (own_lself _)).1) (by decide) (by decide) kk_) ?_
          refine OWH.st (B := T114.setTop (mkF m 172 #[.val (.int n1), .val (.int n2), .val (.int n3), .val (.long n4), .second, .val (.long n5), .second, .val (.int (n1 &&& (3 : Int32))), .val (.ref a_MAX), .val (.ref b109), .val (.ref b110), .val (.ref b111), .val (.int (0 : Int32)), .val (.int (0 : Int32)), .val (.long n4), .second] [(.int (1 : Int32))])) (fun _ kk_ => XS.iconst X114.here hx rfl (hb hby at_171) kk_) ?_
          refine OWH.st (B := T114.setTop (mkF m 176 #[.val (.int n1), .val (.int n2), .val (.int n3), .val (.long n4), .second, .val (.long n5), .second, .val (.int (n1 &&& (3 : Int32))), .val (.ref a_MAX), .val (.ref b109), .val (.ref b110), .val (.ref b111), .val (.int (0 : Int32)), .val (.int (0 : Int32)), .val (.long n4), .second] [(.int (1 : Int32))])) (fun _ kk_ => XS.goto X114.here hx rfl (pc0 := 172) (pc' := 176) rfl (hb hby at_172) (by decide) (by decide) kk_) ?_
          exact OWH.ret X114 (s := s) (vm0 := T112.vm) hS112 hk112 hx hlk CR112 hZ112 (own_EW hw) (i := .ireturn) Bd.returns rfl (Or.inl ⟨rfl, Or.inr (Or.inl rfl), _, rfl⟩) (hb hby at_176) e114 (by decide) (by decide) ⟨rfl, N114⟩
        · refine OWH.st (B := T114.setTop (mkF m 156 #[.val (.int n1), .val (.int n2), .val (.int n3), .val (.long n4), .second, .val (.long n5), .second, .val (.int (n1 &&& (3 : Int32))), .val (.ref a_MAX), .val (.ref b109), .val (.ref b110), .val (.ref b111), .val (.int (0 : Int32)), .val (.int (0 : Int32)), .val (.long n5), .second] [])) (fun _ kk_ => XS.lstore X114.here hx rfl (hb hby at_154) rfl (l' := #[.val (.int n1), .val (.int n2), .val (.int n3), .val (.long n4), .second, .val (.long n5), .second, .val (.int (n1 &&& (3 : Int32))), .val (.ref a_MAX), .val (.ref b109), .val (.ref b110), .val (.ref b111), .val (.int (0 : Int32)), .val (.int (0 : Int32)), .val (.long n5), .second]) rfl kk_) ?_
          refine OWH.st (B := T114.setTop (mkF m 158 #[.val (.int n1), .val (.int n2), .val (.int n3), .val (.long n4), .second, .val (.long n5), .second, .val (.int (n1 &&& (3 : Int32))), .val (.ref a_MAX), .val (.ref b109), .val (.ref b110), .val (.ref b111), .val (.int (0 : Int32)), .val (.int (0 : Int32)), .val (.long n5), .second] [(.long n5)])) (fun _ kk_ => XS.lload X114.here hx rfl (hb hby at_156) rfl kk_) ?_
          refine OWH.st (B := T114.setTop (mkF m 159 #[.val (.int n1), .val (.int n2), .val (.int n3), .val (.long n4), .second, .val (.long n5), .second, .val (.int (n1 &&& (3 : Int32))), .val (.ref a_MAX), .val (.ref b109), .val (.ref b110), .val (.ref b111), .val (.int (0 : Int32)), .val (.int (0 : Int32)), .val (.long n5), .second] [(.long n4), (.long n5)])) (fun _ kk_ => XS.lloadN X114.here hx rfl (hb hby at_158) rfl kk_) ?_
          refine OWH.st (B := T114.setTop (mkF m 160 #[.val (.int n1), .val (.int n2), .val (.int n3), .val (.long n4), .second, .val (.long n5), .second, .val (.int (n1 &&& (3 : Int32))), .val (.ref a_MAX), .val (.ref b109), .val (.ref b110), .val (.ref b111), .val (.int (0 : Int32)), .val (.int (0 : Int32)), .val (.long n5), .second] [(.int (lcmpW n5 n4))])) (fun _ kk_ => XS.lcmp X114.here hx rfl (hb hby at_159) rfl kk_) ?_
          by_cases hc115 : (lcmpW n5 n4) = (0 : Int32)
          · refine OWH.st (B := T114.setTop (mkF m 171 #[.val (.int n1), .val (.int n2), .val (.int n3), .val (.long n4), .second, .val (.long n5), .second, .val (.int (n1 &&& (3 : Int32))), .val (.ref a_MAX), .val (.ref b109), .val (.ref b110), .val (.ref b111), .val (.int (0 : Int32)), .val (.int (0 : Int32)), .val (.long n5), .second] [])) (fun _ kk_ => XS.ifYes X114.here hx rfl (pc0 := 160) (pc' := 171) rfl (hb hby at_160) rfl ((if0 _ _).trans (teq hc115).1) (by decide) (by decide) kk_) ?_
            refine OWH.st (B := T114.setTop (mkF m 172 #[.val (.int n1), .val (.int n2), .val (.int n3), .val (.long n4), .second, .val (.long n5), .second, .val (.int (n1 &&& (3 : Int32))), .val (.ref a_MAX), .val (.ref b109), .val (.ref b110), .val (.ref b111), .val (.int (0 : Int32)), .val (.int (0 : Int32)), .val (.long n5), .second] [(.int (1 : Int32))])) (fun _ kk_ => XS.iconst X114.here hx rfl (hb hby at_171) kk_) ?_
            refine OWH.st (B := T114.setTop (mkF m 176 #[.val (.int n1), .val (.int n2), .val (.int n3), .val (.long n4), .second, .val (.long n5), .second, .val (.int (n1 &&& (3 : Int32))), .val (.ref a_MAX), .val (.ref b109), .val (.ref b110), .val (.ref b111), .val (.int (0 : Int32)), .val (.int (0 : Int32)), .val (.long n5), .second] [(.int (1 : Int32))])) (fun _ kk_ => XS.goto X114.here hx rfl (pc0 := 172) (pc' := 176) rfl (hb hby at_172) (by decide) (by decide) kk_) ?_
            exact OWH.ret X114 (s := s) (vm0 := T112.vm) hS112 hk112 hx hlk CR112 hZ112 (own_EW hw) (i := .ireturn) Bd.returns rfl (Or.inl ⟨rfl, Or.inr (Or.inl rfl), _, rfl⟩) (hb hby at_176) e114 (by decide) (by decide) ⟨rfl, N114⟩
          · refine OWH.st (B := T114.setTop (mkF m 163 #[.val (.int n1), .val (.int n2), .val (.int n3), .val (.long n4), .second, .val (.long n5), .second, .val (.int (n1 &&& (3 : Int32))), .val (.ref a_MAX), .val (.ref b109), .val (.ref b110), .val (.ref b111), .val (.int (0 : Int32)), .val (.int (0 : Int32)), .val (.long n5), .second] [])) (fun _ kk_ => XS.ifNo X114.here hx rfl (hb hby at_160) rfl ((if0 _ _).trans (feq hc115).1) kk_) ?_
            refine OWH.st (B := T114.setTop (mkF m 165 #[.val (.int n1), .val (.int n2), .val (.int n3), .val (.long n4), .second, .val (.long n5), .second, .val (.int (n1 &&& (3 : Int32))), .val (.ref a_MAX), .val (.ref b109), .val (.ref b110), .val (.ref b111), .val (.int (0 : Int32)), .val (.int (0 : Int32)), .val (.long n5), .second] [(.long n5)])) (fun _ kk_ => XS.lload X114.here hx rfl (hb hby at_163) rfl kk_) ?_
            refine OWH.st (B := T114.setTop (mkF m 167 #[.val (.int n1), .val (.int n2), .val (.int n3), .val (.long n4), .second, .val (.long n5), .second, .val (.int (n1 &&& (3 : Int32))), .val (.ref a_MAX), .val (.ref b109), .val (.ref b110), .val (.ref b111), .val (.int (0 : Int32)), .val (.int (0 : Int32)), .val (.long n5), .second] [(.long n5), (.long n5)])) (fun _ kk_ => XS.lload X114.here hx rfl (hb hby at_165) rfl kk_) ?_
            refine OWH.st (B := T114.setTop (mkF m 168 #[.val (.int n1), .val (.int n2), .val (.int n3), .val (.long n4), .second, .val (.long n5), .second, .val (.int (n1 &&& (3 : Int32))), .val (.ref a_MAX), .val (.ref b109), .val (.ref b110), .val (.ref b111), .val (.int (0 : Int32)), .val (.int (0 : Int32)), .val (.long n5), .second] [(.int (lcmpW n5 n5))])) (fun _ kk_ => XS.lcmp X114.here hx rfl (hb hby at_167) rfl kk_) ?_
            refine OWH.st (B := T114.setTop (mkF m 171 #[.val (.int n1), .val (.int n2), .val (.int n3), .val (.long n4), .second, .val (.long n5), .second, .val (.int (n1 &&& (3 : Int32))), .val (.ref a_MAX), .val (.ref b109), .val (.ref b110), .val (.ref b111), .val (.int (0 : Int32)), .val (.int (0 : Int32)), .val (.long n5), .second] [])) (fun _ kk_ => XS.ifNo X114.here hx rfl (hb hby at_168) rfl ((if0 _ _).trans (teq (own_lself _)).2) kk_) ?_
            refine OWH.st (B := T114.setTop (mkF m 172 #[.val (.int n1), .val (.int n2), .val (.int n3), .val (.long n4), .second, .val (.long n5), .second, .val (.int (n1 &&& (3 : Int32))), .val (.ref a_MAX), .val (.ref b109), .val (.ref b110), .val (.ref b111), .val (.int (0 : Int32)), .val (.int (0 : Int32)), .val (.long n5), .second] [(.int (1 : Int32))])) (fun _ kk_ => XS.iconst X114.here hx rfl (hb hby at_171) kk_) ?_
            refine OWH.st (B := T114.setTop (mkF m 176 #[.val (.int n1), .val (.int n2), .val (.int n3), .val (.long n4), .second, .val (.long n5), .second, .val (.int (n1 &&& (3 : Int32))), .val (.ref a_MAX), .val (.ref b109), .val (.ref b110), .val (.ref b111), .val (.int (0 : Int32)), .val (.int (0 : Int32)), .val (.long n5), .second] [(.int (1 : Int32))])) (fun _ kk_ => XS.goto X114.here hx rfl (pc0 := 172) (pc' := 176) rfl (hb hby at_172) (by decide) (by decide) kk_) ?_
            exact OWH.ret X114 (s := s) (vm0 := T112.vm) hS112 hk112 hx hlk CR112 hZ112 (own_EW hw) (i := .ireturn) Bd.returns rfl (Or.inl ⟨rfl, Or.inr (Or.inl rfl), _, rfl⟩) (hb hby at_176) e114 (by decide) (by decide) ⟨rfl, N114⟩
set_option maxRecDepth 65536 in
set_option maxHeartbeats 40000000 in
theorem comes_1 {Post : Tables → Env → Array Value → State → Outcome → State → Prop} (hpost : ∀ tb e args s v u, (limb_1_1.after args s (.returned v) u = true ∧ limb_1_2.after args s (.returned v) u = true ∧ True) → ReturnedEndW s (.returned v) u (Jvm.fieldLocs frame_1_writes args s ++ Jvm.arrayLocs frame_1_arrays args s ++ Jvm.staticLocs frame_1_statics s) 24 2176 → Post tb e args s (.returned v) u) :
    ArmFor flags0 classFile x code maxLocals ret World_1 tables_1 room_1 Calls_1 rest_1 Pre_1 Post := by
  intro l hfl _ _ p e ha hc hk s m args below hf hA hF happ hP
  obtain ⟨hcalls, hrest, hpre⟩ := hP
  obtain ⟨-, -, -, hnamed, -, -, -, hat⟩ := (Spec.applies_iff hf).mp happ
  obtain ⟨hg, hn⟩ := and_e (Cond.before_iff.mp (show (Jvm.Cond.and given_1 narrow_1).before args s = true from hpre))
  obtain ⟨k116, k117⟩ := and_e hg
  obtain ⟨k118, k119⟩ := and_e k117
  obtain ⟨k120, k121⟩ := and_e k119
  obtain ⟨k122, k123⟩ := and_e k121
  obtain ⟨k124, k125⟩ := and_e k123
  obtain ⟨w0, w1, w2, w3, w4, rfl⟩ : ∃ w0 w1 w2 w3 w4 : Value, args = #[w0, w1, w2, w3, w4] := by
    have hs : args.size = 5 := by simpa [Cond.value, given_1] using k116
    obtain ⟨L⟩ := args
    match L, hs with
    | [w0, w1, w2, w3, w4], _ => exact ⟨w0, w1, w2, w3, w4, rfl⟩
  have hw := fun d (hd : d ∈ tables_1) => atoms_spec (ws := Jvm.Cond.code x code maxLocals ret :: tables_1) hat d (List.mem_cons_of_mem _ hd)
  have hfit : Fit s := fun {y c} hc i hi => by
    obtain ⟨ha, rfl⟩ := Array.getElem?_eq_some_iff.mp hc
    have q := List.all_eq_true.mp ((Array.all_eq_true_iff_forall_mem.mp hF) _ (Array.getElem_mem ha)) i (List.mem_range.mpr hi)
    simpa [Array.getElem?_eq_getElem hi] using q
  obtain ⟨i0, ei0⟩ := is_v k118
  obtain rfl : w0 = (.int i0) := Option.some.inj ei0
  obtain ⟨i1, ei1⟩ := is_v k120
  obtain rfl : w1 = (.int i1) := Option.some.inj ei1
  obtain ⟨i2, ei2⟩ := is_v k122
  obtain rfl : w2 = (.int i2) := Option.some.inj ei2
  obtain ⟨i3, ei3⟩ := isL_v k124
  obtain rfl : w3 = (.long i3) := Option.some.inj ei3
  obtain ⟨i4, ei4⟩ := isL_v k125
  obtain rfl : w4 = (.long i4) := Option.some.inj ei4
  obtain ⟨hsets, hown0⟩ := atoms_of _ (rest_1_c_eq ▸ (show rest_1_c.before _ s = true from hrest))
  have hr0 := Cond.before_iff.mp hown0
  obtain ⟨k1, k2⟩ := and_e hn
  obtain ⟨k3, k4⟩ := and_e k2
  obtain ⟨k5, k6⟩ := and_e k4
  obtain ⟨k7, k8⟩ := and_e k6
  obtain ⟨k9, k10⟩ := and_e k8
  obtain ⟨k11, k12⟩ := and_e k10
  obtain ⟨k13, k14⟩ := and_e k12
  obtain ⟨a_COUNT, eva_COUNT⟩ := exa_v k1
  obtain ⟨a_MAX, eva_MAX⟩ := exa_v k3
  obtain ⟨a_SUM, eva_SUM⟩ := exa_v k9
  obtain ⟨a_MIN, eva_MIN⟩ := exa_v k13
  obtain ⟨i_COMPACT_STRINGS, evi_COMPACT_STRINGS⟩ := is_v (Cond.before_iff.mp (hsets _ (List.mem_of_getElem? (i := 1) rfl)))
  obtain ⟨v_SIOOBE_FORMATTER, evv_SIOOBE_FORMATTER, rvv_SIOOBE_FORMATTER⟩ := isR_v (Cond.before_iff.mp (hsets _ (List.mem_of_getElem? (i := 8) rfl)))
  have hS : OwnS s a_COUNT a_MAX a_SUM a_MIN i_COMPACT_STRINGS v_SIOOBE_FORMATTER := ⟨Sta.start eva_COUNT (Or.inr ⟨(w_1 hw), (w_2 hw)⟩), Exa.start eva_COUNT k1, Sta.start eva_MAX (Or.inr ⟨(w_1 hw), (w_75 hw)⟩), Exa.start eva_MAX k3, Sta.start eva_SUM (Or.inr ⟨(w_1 hw), (w_77 hw)⟩), Exa.start eva_SUM k9, Sta.start eva_MIN (Or.inr ⟨(w_1 hw), (w_84 hw)⟩), Exa.start eva_MIN k13, Sta.start evi_COMPACT_STRINGS (Or.inl (hsets _ (List.mem_of_getElem? (i := 0) rfl))), Sta.start evv_SIOOBE_FORMATTER (Or.inl (hsets _ (List.mem_of_getElem? (i := 7) rfl))), rvv_SIOOBE_FORMATTER, gotF (Cond.eq_ints evi_COMPACT_STRINGS (Term.int_eval (0 : Int32))) (not_v (Cond.before_iff.mp (hsets _ (List.mem_of_getElem? (i := 2) rfl)))), Fld.start ((fld_at eva_MAX).symm.trans (own_eq_int k5)), Fld.start ((fld_at eva_COUNT).symm.trans (own_eq_int k7)), Fld.start ((fld_at eva_SUM).symm.trans (own_eq_int k11)), Fld.start ((fld_at eva_MIN).symm.trans (own_eq_int k14))⟩
  have hCH : CHv s consts_1 s.vm s.heap := CHv.start (own_EW hw) (fun q hq => hcalls.1 q hq) (show Jvm.Lit.compactW.before _ s = true from (hsets _ (List.mem_of_getElem? (i := 2) rfl))) (w_17 hw) (w_13 hw)
  obtain ⟨n, o, h1, h2, h3, _, L, rfl, ⟨rfl, N⟩, -, hq⟩ := rm0 l s _ hw tables_1 i0 i1 i2 i3 i4 a_COUNT a_MAX a_SUM a_MIN i_COMPACT_STRINGS v_SIOOBE_FORMATTER s.heap s.heap.size (Old.start s) hS p e ha hc hk s m _ below hf ((Spec.applies_iff_loose hf).mp happ).1 ⟨rfl, State.Warmed39.refl s, rfl, hCH⟩ trivial
  refine ⟨n, _, h1, h2, h3, hpost _ _ _ _ _ _ ⟨Cond.after_iff.mpr rfl, Cond.after_iff.mpr (eq_i res_at (Term.int_eval (1)) rfl), trivial⟩ ⟨hq.1, hq.2.1, hq.2.2.1, (hq.2.2.2.sift fun y hy => Or.inr (N y hy)).mono (by decide) (by decide)⟩⟩
theorem main_1_1 : Claimed_1_1 := comes_1 fun _ _ _ _ _ _ h hF => ⟨h.1, hF⟩
theorem main_1_2 : Claimed_1_2 := comes_1 fun _ _ _ _ _ _ h hF => ⟨h.2.1, hF⟩
end Jvm.Pilot.@@N@@
namespace Jvm.Pilot.@@N@@
open Jvm Jvm.ClassFile Sem Op Lib Jvm.Free Jvm.Stand Jvm.Pilot.@@N@@.Jvm.D
/-! MADE BY PROGRAM (witnessworld.py) out of the Statement's table words and the real class files: 22 classes; the members and pool entries that the words name. The judged class is class 1, her method 1. -/
namespace start1
open Jvm.ClassFile
def u (s : String) : CpInfo := .utf8 (stringToUtf16 s)
/-- a pool by its gaps: so many unusable entries, then the entry; so many at the end -/
def gap : Nat → List CpInfo → List CpInfo
  | 0, r => r
  | n + 1, r => .unusable :: gap n r
def poolList (es : List (Nat × CpInfo)) (last : Nat) : List CpInfo := es.foldr (fun e r => gap e.1 (e.2 :: r)) (gap last [])
def pool (es : List (Nat × CpInfo)) (last : Nat) : Array CpInfo := ⟨poolList es last⟩
def fileOf (pool : Array CpInfo) (this : Nat) (attrs : Array Attribute := #[]) (ms : Array MethodInfo := #[]) (fl : Nat := 33) (sup : Nat := 0) (ifs : Array Nat := #[]) (fds : Array FieldInfo := #[]) : ClassFile where
  minorVersion := 0
  majorVersion := 65
  constantPool := pool
  accessFlags := fl
  thisClass := this
  superClass := sup
  interfaces := ifs
  fields := fds
  methods := ms
  attributes := attrs
def plain (name : String) (sup : Option ClassId) : Class where
  name := name
  kind := .ordinary
  loader := none
  accessFlags := 33
  super := sup
  interfaces := #[]
  cf := none
  fields := #[]
  methods := #[]
  instanceTypes := #[]
  staticTypes := #[]
  resolved := #[]
  callSites := []
  init := .initialized
  statics := none
  mirror := none

def pool0 : Array CpInfo := pool [(5, u "<init>"), (0, u "()V"), (1, .class_ 10), (1, u "java/lang/Object")] 113

def k0c0 : Code := { maxStack := 0, maxLocals := 1, code := object_method_1_code, exceptionTable := #[], attributes := #[] }
def k0m0 : Method := { name := "<init>", desc := "()V", sig := { parameters := [], returnType := none }, accessFlags := 1, code := some k0c0 }
/-- java/lang/Object -/
def k0 : Class := { plain "java/lang/Object" none with
  accessFlags := 33
  interfaces := #[]
  cf := some (fileOf pool0 8 #[] #[{ accessFlags := 1, nameIndex := 5, descriptorIndex := 6, attributes := #[] }] 33 0 #[] #[])
  fields := #[]
  methods := #[k0m0]
  instanceTypes := #[]
  staticTypes := #[]
  resolved := Array.replicate 124 none
  statics := none }

def pool1 : Array CpInfo := pool [(2, .class_ 4), (1, u "java/lang/Object"), (0, u "<init>"), (0, u "()V"), (0, .fieldref 8 9), (0, .class_ 10), (0, .nameAndType 11 12), (0, u "com/example/latticework/latticework/Measure$Function"), (0, u "COUNT"), (0, u "Lcom/example/latticework/latticework/Measure$Function;"), (0, .fieldref 8 14), (0, .nameAndType 15 12), (0, u "SUM"), (0, .fieldref 8 17), (0, .nameAndType 18 12), (0, u "MIN"), (0, .fieldref 8 20), (0, .nameAndType 21 12), (0, u "MAX"), (0, .methodref 23 24), (0, .class_ 25), (0, .nameAndType 26 27), (0, u "java/lang/String"), (0, u "valueOf"), (0, u "(C)Ljava/lang/String;"), (0, .class_ 29), (0, u "com/example/latticework/latticework/Measure"), (0, .methodref 28 31), (0, .nameAndType 5 32), (0, u "(Ljava/lang/String;Lcom/example/latticework/latticework/Measure$Function;Ljava/lang/String;)V"), (0, .methodref 28 34), (0, .nameAndType 35 36), (0, u "adds"), (0, u "()Z"), (0, .methodref 28 38), (0, .nameAndType 39 40), (0, u "pick"), (0, u "(JJ)J"), (0, .class_ 42), (0, u "com/example/latticework/latticework/MeasureAddsPinLaw"), (2, u "law"), (0, u "(IIIJJ)Z")] 5

def k1m0 : Method := { name := "<init>", desc := "()V", sig := { parameters := [], returnType := none }, accessFlags := 1, code := none }
def k1c1 : Code := { maxStack := 5, maxLocals := 16, code := code, exceptionTable := #[], attributes := #[] }
def k1m1 : Method := { name := "law", desc := "(IIIJJ)Z", sig := { parameters := [.int, .int, .int, .long, .long], returnType := some .boolean }, accessFlags := 9, code := some k1c1 }
/-- com/example/latticework/latticework/MeasureAddsPinLaw -/
def k1 : Class := { plain "com/example/latticework/latticework/MeasureAddsPinLaw" (some 0) with
  accessFlags := 49
  interfaces := #[]
  cf := some (fileOf pool1 41 #[] #[{ accessFlags := 1, nameIndex := 5, descriptorIndex := 6, attributes := #[] }, { accessFlags := 9, nameIndex := 45, descriptorIndex := 46, attributes := #[] }] 49 2 #[] #[])
  fields := #[]
  methods := #[k1m0, k1m1]
  instanceTypes := #[]
  staticTypes := #[]
  resolved := Array.replicate 52 none
  statics := none }

def pool2 : Array CpInfo := pool [(1, .class_ 2), (0, u "java/lang/constant/Constable"), (0, .class_ 4), (0, u "java/lang/Object")] 6

/-- java/lang/constant/Constable -/
def k2 : Class := { plain "java/lang/constant/Constable" (some 0) with
  accessFlags := 1537
  interfaces := #[]
  cf := some (fileOf pool2 1 #[] #[] 1537 3 #[] #[])
  fields := #[]
  methods := #[]
  instanceTypes := #[]
  staticTypes := #[]
  resolved := Array.replicate 11 none
  statics := none }

def pool3 : Array CpInfo := pool [(1, .class_ 2), (0, u "java/lang/Comparable"), (0, .class_ 4), (0, u "java/lang/Object")] 7

/-- java/lang/Comparable -/
def k3 : Class := { plain "java/lang/Comparable" (some 0) with
  accessFlags := 1537
  interfaces := #[]
  cf := some (fileOf pool3 1 #[] #[] 1537 3 #[] #[])
  fields := #[]
  methods := #[]
  instanceTypes := #[]
  staticTypes := #[]
  resolved := Array.replicate 12 none
  statics := none }

def pool4 : Array CpInfo := pool [(1, .class_ 2), (0, u "java/io/Serializable"), (0, .class_ 4), (0, u "java/lang/Object")] 2

/-- java/io/Serializable -/
def k4 : Class := { plain "java/io/Serializable" (some 0) with
  accessFlags := 1537
  interfaces := #[]
  cf := some (fileOf pool4 1 #[] #[] 1537 3 #[] #[])
  fields := #[]
  methods := #[]
  instanceTypes := #[]
  staticTypes := #[]
  resolved := Array.replicate 7 none
  statics := none }

def pool5 : Array CpInfo := pool [(2, .class_ 4), (1, u "java/lang/Enum"), (0, u "name"), (0, u "Ljava/lang/String;"), (2, u "ordinal"), (0, u "I"), (1, .class_ 14), (1, u "java/lang/Object"), (4, u "hash"), (86, .class_ 108), (1, u "java/lang/Enum$EnumDesc"), (2, .class_ 112), (0, u "java/lang/constant/Constable"), (0, .class_ 114), (0, u "java/lang/Comparable"), (0, .class_ 116), (0, u "java/io/Serializable")] 87

/-- java/lang/Enum -/
def k5 : Class := { plain "java/lang/Enum" (some 0) with
  accessFlags := 1057
  interfaces := #[2, 3, 4]
  cf := some (fileOf pool5 2 #[.nestMembers #[106]] #[] 1057 12 #[111, 113, 115] #[{ accessFlags := 18, nameIndex := 5, descriptorIndex := 6, attributes := #[] }, { accessFlags := 18, nameIndex := 9, descriptorIndex := 10, attributes := #[] }, { accessFlags := 2, nameIndex := 19, descriptorIndex := 10, attributes := #[] }])
  fields := #[{ name := "name", type := (.object "java/lang/String"), accessFlags := 18, slot := 0, constantValue := 0 }, { name := "ordinal", type := .int, accessFlags := 18, slot := 1, constantValue := 0 }, { name := "hash", type := .int, accessFlags := 2, slot := 2, constantValue := 0 }]
  methods := #[]
  instanceTypes := #[(.object "java/lang/String"), .int, .int]
  staticTypes := #[]
  resolved := Array.replicate 204 none
  statics := none }

def pool6 : Array CpInfo := pool [(1, .class_ 2), (0, u "com/example/latticework/latticework/Measure$Function"), (2, u "COUNT"), (0, u "Lcom/example/latticework/latticework/Measure$Function;"), (2, u "SUM"), (2, u "MIN"), (2, u "MAX"), (2, u "$VALUES"), (0, u "[Lcom/example/latticework/latticework/Measure$Function;"), (6, .class_ 28), (1, u "java/lang/Enum"), (44, .class_ 74), (0, u "com/example/latticework/latticework/Measure")] 2

/-- com/example/latticework/latticework/Measure$Function -/
def k6 : Class := { plain "com/example/latticework/latticework/Measure$Function" (some 5) with
  accessFlags := 16433
  interfaces := #[]
  cf := some (fileOf pool6 1 #[.nestHost 73] #[] 16433 26 #[] #[{ accessFlags := 16409, nameIndex := 5, descriptorIndex := 6, attributes := #[] }, { accessFlags := 16409, nameIndex := 9, descriptorIndex := 6, attributes := #[] }, { accessFlags := 16409, nameIndex := 12, descriptorIndex := 6, attributes := #[] }, { accessFlags := 16409, nameIndex := 15, descriptorIndex := 6, attributes := #[] }, { accessFlags := 4122, nameIndex := 18, descriptorIndex := 19, attributes := #[] }])
  fields := #[{ name := "COUNT", type := (.object "com/example/latticework/latticework/Measure$Function"), accessFlags := 16409, slot := 0, constantValue := 0 }, { name := "SUM", type := (.object "com/example/latticework/latticework/Measure$Function"), accessFlags := 16409, slot := 1, constantValue := 0 }, { name := "MIN", type := (.object "com/example/latticework/latticework/Measure$Function"), accessFlags := 16409, slot := 2, constantValue := 0 }, { name := "MAX", type := (.object "com/example/latticework/latticework/Measure$Function"), accessFlags := 16409, slot := 3, constantValue := 0 }, { name := "$VALUES", type := (.array (.object "com/example/latticework/latticework/Measure$Function")), accessFlags := 4122, slot := 4, constantValue := 0 }]
  methods := #[]
  instanceTypes := #[(.object "java/lang/String"), .int, .int]
  staticTypes := #[(.object "com/example/latticework/latticework/Measure$Function"), (.object "com/example/latticework/latticework/Measure$Function"), (.object "com/example/latticework/latticework/Measure$Function"), (.object "com/example/latticework/latticework/Measure$Function"), (.array (.object "com/example/latticework/latticework/Measure$Function"))]
  resolved := Array.replicate 77 none
  statics := some 0 }

def pool7 : Array CpInfo := pool [(2, .class_ 4), (1, u "java/lang/CharSequence"), (42, .class_ 48), (0, u "java/lang/CharSequence$1CodePointIterator"), (10, .class_ 60), (0, u "java/lang/CharSequence$1CharIterator"), (5, .class_ 67), (0, u "java/lang/Object")] 63

/-- java/lang/CharSequence -/
def k7 : Class := { plain "java/lang/CharSequence" (some 0) with
  accessFlags := 1537
  interfaces := #[]
  cf := some (fileOf pool7 2 #[.nestMembers #[47, 59]] #[] 1537 66 #[] #[])
  fields := #[]
  methods := #[]
  instanceTypes := #[]
  staticTypes := #[]
  resolved := Array.replicate 131 none
  statics := none }

def pool8 : Array CpInfo := pool [(1, .class_ 2), (0, u "java/lang/constant/ConstantDesc"), (0, .class_ 4), (0, u "java/lang/Object")] 32

/-- java/lang/constant/ConstantDesc -/
def k8 : Class := { plain "java/lang/constant/ConstantDesc" (some 0) with
  accessFlags := 1537
  interfaces := #[]
  cf := some (fileOf pool8 1 #[] #[] 1537 3 #[] #[])
  fields := #[]
  methods := #[]
  instanceTypes := #[]
  staticTypes := #[]
  resolved := Array.replicate 37 none
  statics := none }

def pool9 : Array CpInfo := pool [(1, .methodref 2 3), (0, .class_ 4), (0, .nameAndType 5 6), (0, u "java/lang/Object"), (0, u "<init>"), (0, u "()V"), (2, .fieldref 10 11), (0, .class_ 12), (0, .nameAndType 13 14), (0, u "java/lang/String"), (0, u "value"), (0, u "[B"), (0, .fieldref 10 16), (0, .nameAndType 17 18), (0, u "coder"), (0, u "B"), (2, u "hash"), (0, u "I"), (2, u "hashIsZero"), (0, u "Z"), (11, .fieldref 10 39), (0, .nameAndType 40 26), (0, u "COMPACT_STRINGS"), (12, u "toBytes"), (53, .class_ 109), (1, u "java/lang/StringLatin1"), (32, u "()Z"), (66, .methodref 10 210), (0, .nameAndType 5 211), (0, u "([BB)V"), (157, u "(C)Z"), (171, .methodref 107 542), (0, .nameAndType 543 544), (0, u "equals"), (0, u "([B[B)Z"), (28, u "(Ljava/lang/Object;)Z"), (1, .class_ 576), (0, u "java/lang/CharSequence"), (22, u "CASE_INSENSITIVE_ORDER"), (0, u "Ljava/util/Comparator;"), (91, u "isEmpty"), (89, u "valueOf"), (0, u "(C)Ljava/lang/String;"), (231, .methodref 107 1016), (0, .nameAndType 1017 369), (0, u "canEncode"), (0, .methodref 107 1019), (0, .nameAndType 53 1020), (0, u "(C)[B"), (80, u "serialPersistentFields"), (0, u "[Ljava/io/ObjectStreamField;"), (0, .class_ 1104), (0, u "java/lang/String$CaseInsensitiveComparator"), (1, .class_ 1107), (0, u "java/io/Serializable"), (0, .class_ 1109), (0, u "java/lang/Comparable"), (0, .class_ 1111), (0, u "java/lang/constant/Constable"), (0, .class_ 1113), (0, u "java/lang/constant/ConstantDesc"), (2, u "serialVersionUID"), (0, u "J"), (3, u "REPL"), (0, u "C"), (2, u "LATIN1"), (1, u "UTF16")] 323

def k9m0 : Method := { name := "<init>", desc := "()V", sig := { parameters := [], returnType := none }, accessFlags := 1, code := none }
def k9c1 : Code := { maxStack := 1, maxLocals := 1, code := jdk_42_method_55_code, exceptionTable := #[], attributes := #[] }
def k9m1 : Method := { name := "isEmpty", desc := "()Z", sig := { parameters := [], returnType := some .boolean }, accessFlags := 1, code := some k9c1 }
def k9c2 : Code := { maxStack := 2, maxLocals := 3, code := jdk_42_method_66_code, exceptionTable := #[], attributes := #[] }
def k9m2 : Method := { name := "equals", desc := "(Ljava/lang/Object;)Z", sig := { parameters := [(.object "java/lang/Object")], returnType := some .boolean }, accessFlags := 1, code := some k9c2 }
def k9c3 : Code := { maxStack := 4, maxLocals := 1, code := jdk_42_method_139_code, exceptionTable := #[], attributes := #[] }
def k9m3 : Method := { name := "valueOf", desc := "(C)Ljava/lang/String;", sig := { parameters := [.char], returnType := some (.object "java/lang/String") }, accessFlags := 9, code := some k9c3 }
def k9c4 : Code := { maxStack := 2, maxLocals := 3, code := jdk_42_method_151_code, exceptionTable := #[], attributes := #[] }
def k9m4 : Method := { name := "<init>", desc := "([BB)V", sig := { parameters := [(.array .byte), .byte], returnType := none }, accessFlags := 0, code := some k9c4 }
/-- java/lang/String -/
def k9 : Class := { plain "java/lang/String" (some 0) with
  accessFlags := 49
  interfaces := #[4, 3, 7, 2, 8]
  cf := some (fileOf pool9 10 #[.nestMembers #[1103]] #[{ accessFlags := 1, nameIndex := 5, descriptorIndex := 6, attributes := #[] }, { accessFlags := 1, nameIndex := 692, descriptorIndex := 142, attributes := #[] }, { accessFlags := 1, nameIndex := 543, descriptorIndex := 573, attributes := #[] }, { accessFlags := 9, nameIndex := 782, descriptorIndex := 783, attributes := #[] }, { accessFlags := 0, nameIndex := 5, descriptorIndex := 211, attributes := #[] }] 49 2 #[1106, 1108, 575, 1110, 1112] #[{ accessFlags := 18, nameIndex := 13, descriptorIndex := 14, attributes := #[] }, { accessFlags := 18, nameIndex := 17, descriptorIndex := 18, attributes := #[] }, { accessFlags := 2, nameIndex := 21, descriptorIndex := 22, attributes := #[] }, { accessFlags := 2, nameIndex := 25, descriptorIndex := 26, attributes := #[] }, { accessFlags := 26, nameIndex := 1116, descriptorIndex := 1117, attributes := #[] }, { accessFlags := 24, nameIndex := 40, descriptorIndex := 26, attributes := #[] }, { accessFlags := 26, nameIndex := 1101, descriptorIndex := 1102, attributes := #[] }, { accessFlags := 26, nameIndex := 1121, descriptorIndex := 1122, attributes := #[] }, { accessFlags := 25, nameIndex := 599, descriptorIndex := 600, attributes := #[] }, { accessFlags := 24, nameIndex := 1125, descriptorIndex := 18, attributes := #[] }, { accessFlags := 24, nameIndex := 1127, descriptorIndex := 18, attributes := #[] }])
  fields := #[{ name := "value", type := (.array .byte), accessFlags := 18, slot := 0, constantValue := 0 }, { name := "coder", type := .byte, accessFlags := 18, slot := 1, constantValue := 0 }, { name := "hash", type := .int, accessFlags := 2, slot := 2, constantValue := 0 }, { name := "hashIsZero", type := .boolean, accessFlags := 2, slot := 3, constantValue := 0 }, { name := "serialVersionUID", type := .long, accessFlags := 26, slot := 0, constantValue := 0 }, { name := "COMPACT_STRINGS", type := .boolean, accessFlags := 24, slot := 1, constantValue := 0 }, { name := "serialPersistentFields", type := (.array (.object "java/io/ObjectStreamField")), accessFlags := 26, slot := 2, constantValue := 0 }, { name := "REPL", type := .char, accessFlags := 26, slot := 3, constantValue := 0 }, { name := "CASE_INSENSITIVE_ORDER", type := (.object "java/util/Comparator"), accessFlags := 25, slot := 4, constantValue := 0 }, { name := "LATIN1", type := .byte, accessFlags := 24, slot := 5, constantValue := 0 }, { name := "UTF16", type := .byte, accessFlags := 24, slot := 6, constantValue := 0 }]
  methods := #[k9m0, k9m1, k9m2, k9m3, k9m4]
  instanceTypes := #[(.array .byte), .byte, .int, .boolean]
  staticTypes := #[.long, .boolean, (.array (.object "java/io/ObjectStreamField")), .char, (.object "java/util/Comparator"), .byte, .byte]
  resolved := Array.replicate 1451 none
  statics := some 1 }

def pool10 : Array CpInfo := pool [(4, .class_ 6), (1, u "java/lang/Object"), (0, u "<init>"), (0, u "()V"), (5, .class_ 16), (1, u "java/lang/StringLatin1"), (73, u "canEncode"), (14, u "(C)Z"), (15, u "$assertionsDisabled"), (0, u "Z"), (98, .class_ 223), (1, u "java/lang/StringLatin1$LinesSpliterator"), (57, u "equals"), (0, u "([B[B)Z"), (97, u "toBytes"), (1, u "(C)[B"), (7, .class_ 391), (0, u "java/lang/StringLatin1$CharsSpliterator")] 3

def k10m0 : Method := { name := "<init>", desc := "()V", sig := { parameters := [], returnType := none }, accessFlags := 0, code := none }
def k10c1 : Code := { maxStack := 2, maxLocals := 1, code := jdk_43_method_3_code, exceptionTable := #[], attributes := #[] }
def k10m1 : Method := { name := "canEncode", desc := "(C)Z", sig := { parameters := [.char], returnType := some .boolean }, accessFlags := 9, code := some k10c1 }
def k10c2 : Code := { maxStack := 3, maxLocals := 3, code := jdk_43_method_13_code, exceptionTable := #[], attributes := #[] }
def k10m2 : Method := { name := "equals", desc := "([B[B)Z", sig := { parameters := [(.array .byte), (.array .byte)], returnType := some .boolean }, accessFlags := 9, code := some k10c2 }
def k10c3 : Code := { maxStack := 4, maxLocals := 1, code := jdk_43_method_46_code, exceptionTable := #[], attributes := #[] }
def k10m3 : Method := { name := "toBytes", desc := "(C)[B", sig := { parameters := [.char], returnType := some (.array .byte) }, accessFlags := 9, code := some k10c3 }
/-- java/lang/StringLatin1 -/
def k10 : Class := { plain "java/lang/StringLatin1" (some 0) with
  accessFlags := 48
  interfaces := #[]
  cf := some (fileOf pool10 14 #[.nestMembers #[390, 221]] #[{ accessFlags := 0, nameIndex := 7, descriptorIndex := 8, attributes := #[] }, { accessFlags := 9, nameIndex := 90, descriptorIndex := 105, attributes := #[] }, { accessFlags := 9, nameIndex := 281, descriptorIndex := 282, attributes := #[] }, { accessFlags := 9, nameIndex := 380, descriptorIndex := 382, attributes := #[] }] 48 4 #[] #[{ accessFlags := 4120, nameIndex := 121, descriptorIndex := 122, attributes := #[] }])
  fields := #[{ name := "$assertionsDisabled", type := .boolean, accessFlags := 4120, slot := 0, constantValue := 0 }]
  methods := #[k10m0, k10m1, k10m2, k10m3]
  instanceTypes := #[]
  staticTypes := #[.boolean]
  resolved := Array.replicate 395 none
  statics := none }

def pool11 : Array CpInfo := pool [(1, .methodref 2 3), (0, .class_ 4), (0, .nameAndType 5 6), (0, u "java/lang/Object"), (0, u "<init>"), (0, u "()V"), (0, .class_ 8), (0, u "java/lang/Record")] 13

def k11c0 : Code := { maxStack := 1, maxLocals := 1, code := jdk_30_method_1_code, exceptionTable := #[], attributes := #[] }
def k11m0 : Method := { name := "<init>", desc := "()V", sig := { parameters := [], returnType := none }, accessFlags := 4, code := some k11c0 }
/-- java/lang/Record -/
def k11 : Class := { plain "java/lang/Record" (some 0) with
  accessFlags := 1057
  interfaces := #[]
  cf := some (fileOf pool11 7 #[] #[{ accessFlags := 4, nameIndex := 5, descriptorIndex := 6, attributes := #[] }] 1057 2 #[] #[])
  fields := #[]
  methods := #[k11m0]
  instanceTypes := #[]
  staticTypes := #[]
  resolved := Array.replicate 22 none
  statics := none }

def pool12 : Array CpInfo := pool [(1, .methodref 2 3), (0, .class_ 4), (0, .nameAndType 5 6), (0, u "java/lang/Record"), (0, u "<init>"), (0, u "()V"), (0, .string 8), (0, u "function"), (0, .methodref 10 11), (0, .class_ 12), (0, .nameAndType 13 14), (0, u "java/util/Objects"), (0, u "requireNonNull"), (0, u "(Ljava/lang/Object;Ljava/lang/String;)Ljava/lang/Object;"), (0, .methodref 16 17), (0, .class_ 18), (0, .nameAndType 19 20), (0, u "java/lang/String"), (0, u "isEmpty"), (0, u "()Z"), (7, .string 29), (0, u ""), (0, .methodref 16 31), (0, .nameAndType 32 33), (0, u "equals"), (0, u "(Ljava/lang/Object;)Z"), (0, .fieldref 35 36), (0, .class_ 37), (0, .nameAndType 38 39), (0, u "com/example/latticework/latticework/Measure$Function"), (0, u "COUNT"), (0, u "Lcom/example/latticework/latticework/Measure$Function;"), (8, .fieldref 49 50), (0, .class_ 51), (0, .nameAndType 52 53), (0, u "com/example/latticework/latticework/Measure"), (0, u "name"), (0, u "Ljava/lang/String;"), (0, .fieldref 49 55), (0, .nameAndType 8 39), (0, .fieldref 49 57), (0, .nameAndType 58 53), (0, u "column"), (36, u "(Ljava/lang/String;Lcom/example/latticework/latticework/Measure$Function;Ljava/lang/String;)V"), (6, .fieldref 35 103), (0, .nameAndType 104 39), (0, u "SUM"), (0, .fieldref 35 106), (0, .nameAndType 107 39), (0, u "MIN"), (0, .methodref 109 110), (0, .class_ 111), (0, .nameAndType 112 113), (0, u "java/lang/Math"), (0, u "min"), (0, u "(JJ)J"), (0, .methodref 109 115), (0, .nameAndType 116 113), (0, u "max"), (71, u "adds"), (0, u "pick")] 48

def k12c0 : Code := { maxStack := 4, maxLocals := 4, code := prog_25_method_1_code, exceptionTable := #[], attributes := #[] }
def k12m0 : Method := { name := "<init>", desc := "(Ljava/lang/String;Lcom/example/latticework/latticework/Measure$Function;Ljava/lang/String;)V", sig := { parameters := [(.object "java/lang/String"), (.object "com/example/latticework/latticework/Measure$Function"), (.object "java/lang/String")], returnType := none }, accessFlags := 1, code := some k12c0 }
def k12c1 : Code := { maxStack := 2, maxLocals := 1, code := prog_25_method_6_code, exceptionTable := #[], attributes := #[] }
def k12m1 : Method := { name := "adds", desc := "()Z", sig := { parameters := [], returnType := some .boolean }, accessFlags := 0, code := some k12c1 }
def k12c2 : Code := { maxStack := 4, maxLocals := 5, code := prog_25_method_7_code, exceptionTable := #[], attributes := #[] }
def k12m2 : Method := { name := "pick", desc := "(JJ)J", sig := { parameters := [.long, .long], returnType := some .long }, accessFlags := 0, code := some k12c2 }
/-- com/example/latticework/latticework/Measure -/
def k12 : Class := { plain "com/example/latticework/latticework/Measure" (some 11) with
  accessFlags := 49
  interfaces := #[]
  cf := some (fileOf pool12 49 #[.nestMembers #[35]] #[{ accessFlags := 1, nameIndex := 5, descriptorIndex := 95, attributes := #[] }, { accessFlags := 0, nameIndex := 188, descriptorIndex := 20, attributes := #[] }, { accessFlags := 0, nameIndex := 189, descriptorIndex := 113, attributes := #[] }] 49 2 #[] #[{ accessFlags := 18, nameIndex := 52, descriptorIndex := 53, attributes := #[] }, { accessFlags := 18, nameIndex := 8, descriptorIndex := 39, attributes := #[] }, { accessFlags := 18, nameIndex := 58, descriptorIndex := 53, attributes := #[] }])
  fields := #[{ name := "name", type := (.object "java/lang/String"), accessFlags := 18, slot := 0, constantValue := 0 }, { name := "function", type := (.object "com/example/latticework/latticework/Measure$Function"), accessFlags := 18, slot := 1, constantValue := 0 }, { name := "column", type := (.object "java/lang/String"), accessFlags := 18, slot := 2, constantValue := 0 }]
  methods := #[k12m0, k12m1, k12m2]
  instanceTypes := #[(.object "java/lang/String"), (.object "com/example/latticework/latticework/Measure$Function"), (.object "java/lang/String")]
  staticTypes := #[]
  resolved := Array.replicate 238 none
  statics := none }

def pool13 : Array CpInfo := pool [(2, .class_ 4), (1, u "java/lang/Object"), (0, u "<init>"), (0, u "()V"), (35, .class_ 44), (1, u "java/util/Objects"), (0, u "requireNonNull"), (48, u "(Ljava/lang/Object;Ljava/lang/String;)Ljava/lang/Object;")] 89

def k13m0 : Method := { name := "<init>", desc := "()V", sig := { parameters := [], returnType := none }, accessFlags := 2, code := none }
def k13c1 : Code := { maxStack := 3, maxLocals := 2, code := jdk_31_method_11_code, exceptionTable := #[], attributes := #[] }
def k13m1 : Method := { name := "requireNonNull", desc := "(Ljava/lang/Object;Ljava/lang/String;)Ljava/lang/Object;", sig := { parameters := [(.object "java/lang/Object"), (.object "java/lang/String")], returnType := some (.object "java/lang/Object") }, accessFlags := 9, code := some k13c1 }
/-- java/util/Objects -/
def k13 : Class := { plain "java/util/Objects" (some 0) with
  accessFlags := 49
  interfaces := #[]
  cf := some (fileOf pool13 42 #[] #[{ accessFlags := 2, nameIndex := 5, descriptorIndex := 6, attributes := #[] }, { accessFlags := 9, nameIndex := 45, descriptorIndex := 94, attributes := #[] }] 49 2 #[] #[])
  fields := #[]
  methods := #[k13m0, k13m1]
  instanceTypes := #[]
  staticTypes := #[]
  resolved := Array.replicate 184 none
  statics := none }

def pool14 : Array CpInfo := pool [(1, .class_ 2), (0, u "java/lang/Math"), (1, .class_ 6), (1, u "java/lang/Object"), (0, u "<init>"), (0, u "()V"), (89, .class_ 100), (1, u "java/lang/Math$RandomNumberGeneratorHolder"), (20, u "(JJ)J"), (50, u "negativeZeroFloatBits"), (0, u "J"), (2, u "negativeZeroDoubleBits"), (21, u "max"), (2, u "min"), (43, u "$assertionsDisabled"), (0, u "Z"), (91, u "twoToTheDoubleScaleDown"), (0, u "D"), (4, u "twoToTheDoubleScaleUp"), (9, u "E"), (3, u "PI"), (2, u "TAU"), (2, u "DEGREES_TO_RADIANS"), (0, u "RADIANS_TO_DEGREES")] 94

def k14m0 : Method := { name := "<init>", desc := "()V", sig := { parameters := [], returnType := none }, accessFlags := 2, code := none }
def k14c1 : Code := { maxStack := 4, maxLocals := 4, code := jdk_29_method_66_code, exceptionTable := #[], attributes := #[] }
def k14m1 : Method := { name := "max", desc := "(JJ)J", sig := { parameters := [.long, .long], returnType := some .long }, accessFlags := 9, code := some k14c1 }
def k14c2 : Code := { maxStack := 4, maxLocals := 4, code := jdk_29_method_70_code, exceptionTable := #[], attributes := #[] }
def k14m2 : Method := { name := "min", desc := "(JJ)J", sig := { parameters := [.long, .long], returnType := some .long }, accessFlags := 9, code := some k14c2 }
/-- java/lang/Math -/
def k14 : Class := { plain "java/lang/Math" (some 0) with
  accessFlags := 49
  interfaces := #[]
  cf := some (fileOf pool14 1 #[.nestMembers #[98]] #[{ accessFlags := 2, nameIndex := 7, descriptorIndex := 8, attributes := #[] }, { accessFlags := 9, nameIndex := 198, descriptorIndex := 121, attributes := #[] }, { accessFlags := 9, nameIndex := 201, descriptorIndex := 121, attributes := #[] }] 49 4 #[] #[{ accessFlags := 25, nameIndex := 354, descriptorIndex := 339, attributes := #[] }, { accessFlags := 25, nameIndex := 358, descriptorIndex := 339, attributes := #[] }, { accessFlags := 25, nameIndex := 361, descriptorIndex := 339, attributes := #[] }, { accessFlags := 26, nameIndex := 364, descriptorIndex := 339, attributes := #[] }, { accessFlags := 26, nameIndex := 365, descriptorIndex := 339, attributes := #[] }, { accessFlags := 26, nameIndex := 172, descriptorIndex := 173, attributes := #[] }, { accessFlags := 26, nameIndex := 176, descriptorIndex := 173, attributes := #[] }, { accessFlags := 8, nameIndex := 344, descriptorIndex := 339, attributes := #[] }, { accessFlags := 8, nameIndex := 338, descriptorIndex := 339, attributes := #[] }, { accessFlags := 4120, nameIndex := 245, descriptorIndex := 246, attributes := #[] }])
  fields := #[{ name := "E", type := .double, accessFlags := 25, slot := 0, constantValue := 0 }, { name := "PI", type := .double, accessFlags := 25, slot := 1, constantValue := 0 }, { name := "TAU", type := .double, accessFlags := 25, slot := 2, constantValue := 0 }, { name := "DEGREES_TO_RADIANS", type := .double, accessFlags := 26, slot := 3, constantValue := 0 }, { name := "RADIANS_TO_DEGREES", type := .double, accessFlags := 26, slot := 4, constantValue := 0 }, { name := "negativeZeroFloatBits", type := .long, accessFlags := 26, slot := 5, constantValue := 0 }, { name := "negativeZeroDoubleBits", type := .long, accessFlags := 26, slot := 6, constantValue := 0 }, { name := "twoToTheDoubleScaleUp", type := .double, accessFlags := 8, slot := 7, constantValue := 0 }, { name := "twoToTheDoubleScaleDown", type := .double, accessFlags := 8, slot := 8, constantValue := 0 }, { name := "$assertionsDisabled", type := .boolean, accessFlags := 4120, slot := 9, constantValue := 0 }]
  methods := #[k14m0, k14m1, k14m2]
  instanceTypes := #[]
  staticTypes := #[.double, .double, .double, .double, .double, .long, .long, .double, .double, .boolean]
  resolved := Array.replicate 460 none
  statics := none }

def pool15 : Array CpInfo := pool [(2, .class_ 4), (1, u "java/lang/Object"), (0, u "<init>"), (0, u "()V"), (17, .class_ 26), (1, u "jdk/internal/util/Preconditions"), (28, .class_ 56), (0, u "jdk/internal/util/Preconditions$4"), (57, .class_ 115), (0, u "jdk/internal/util/Preconditions$1"), (7, u "SIOOBE_FORMATTER"), (0, u "Ljava/util/function/BiFunction;"), (0, .class_ 126), (0, u "jdk/internal/util/Preconditions$2"), (3, u "AIOOBE_FORMATTER"), (0, .class_ 132), (0, u "jdk/internal/util/Preconditions$3"), (3, u "IOOBE_FORMATTER")] 57

def k15m0 : Method := { name := "<init>", desc := "()V", sig := { parameters := [], returnType := none }, accessFlags := 1, code := none }
/-- jdk/internal/util/Preconditions -/
def k15 : Class := { plain "jdk/internal/util/Preconditions" (some 0) with
  accessFlags := 33
  interfaces := #[]
  cf := some (fileOf pool15 24 #[.nestMembers #[55, 131, 125, 114]] #[{ accessFlags := 1, nameIndex := 5, descriptorIndex := 6, attributes := #[] }] 33 2 #[] #[{ accessFlags := 25, nameIndex := 123, descriptorIndex := 124, attributes := #[] }, { accessFlags := 25, nameIndex := 130, descriptorIndex := 124, attributes := #[] }, { accessFlags := 25, nameIndex := 136, descriptorIndex := 124, attributes := #[] }])
  fields := #[{ name := "SIOOBE_FORMATTER", type := (.object "java/util/function/BiFunction"), accessFlags := 25, slot := 0, constantValue := 0 }, { name := "AIOOBE_FORMATTER", type := (.object "java/util/function/BiFunction"), accessFlags := 25, slot := 1, constantValue := 0 }, { name := "IOOBE_FORMATTER", type := (.object "java/util/function/BiFunction"), accessFlags := 25, slot := 2, constantValue := 0 }]
  methods := #[k15m0]
  instanceTypes := #[]
  staticTypes := #[(.object "java/util/function/BiFunction"), (.object "java/util/function/BiFunction"), (.object "java/util/function/BiFunction")]
  resolved := Array.replicate 194 none
  statics := some 2 }

def pool16 : Array CpInfo := pool [(9, u "<init>"), (6, .class_ 18), (1, u "java/lang/Object"), (0, u "()V"), (1, .class_ 23), (1, u "jdk/internal/util/ArraysSupport"), (0, u "LOG2_ARRAY_LONG_INDEX_SCALE"), (0, u "I"), (2, u "U"), (0, u "Ljdk/internal/misc/Unsafe;"), (8, u "BIG_ENDIAN"), (0, u "Z"), (8, u "LOG2_BYTE_BIT_SIZE"), (4, u "LOG2_ARRAY_INT_INDEX_SCALE"), (54, u "JLA"), (0, u "Ljdk/internal/access/JavaLangAccess;"), (11, u "LOG2_ARRAY_BOOLEAN_INDEX_SCALE"), (9, u "LOG2_ARRAY_BYTE_INDEX_SCALE"), (5, u "LOG2_ARRAY_CHAR_INDEX_SCALE"), (5, u "LOG2_ARRAY_SHORT_INDEX_SCALE"), (18, u "LOG2_ARRAY_FLOAT_INDEX_SCALE"), (24, u "LOG2_ARRAY_DOUBLE_INDEX_SCALE"), (89, u "T_BOOLEAN"), (2, u "T_CHAR"), (1, u "T_FLOAT"), (1, u "T_DOUBLE"), (1, u "T_BYTE"), (1, u "T_SHORT"), (1, u "T_INT"), (1, u "T_LONG"), (1, u "SOFT_MAX_ARRAY_LENGTH")] 83

def k16m0 : Method := { name := "<init>", desc := "()V", sig := { parameters := [], returnType := none }, accessFlags := 2, code := none }
/-- jdk/internal/util/ArraysSupport -/
def k16 : Class := { plain "jdk/internal/util/ArraysSupport" (some 0) with
  accessFlags := 33
  interfaces := #[]
  cf := some (fileOf pool16 21 #[] #[{ accessFlags := 2, nameIndex := 9, descriptorIndex := 19, attributes := #[] }] 33 16 #[] #[{ accessFlags := 24, nameIndex := 28, descriptorIndex := 29, attributes := #[] }, { accessFlags := 26, nameIndex := 38, descriptorIndex := 39, attributes := #[] }, { accessFlags := 25, nameIndex := 121, descriptorIndex := 25, attributes := #[] }, { accessFlags := 25, nameIndex := 131, descriptorIndex := 25, attributes := #[] }, { accessFlags := 25, nameIndex := 137, descriptorIndex := 25, attributes := #[] }, { accessFlags := 25, nameIndex := 143, descriptorIndex := 25, attributes := #[] }, { accessFlags := 25, nameIndex := 53, descriptorIndex := 25, attributes := #[] }, { accessFlags := 25, nameIndex := 24, descriptorIndex := 25, attributes := #[] }, { accessFlags := 25, nameIndex := 162, descriptorIndex := 25, attributes := #[] }, { accessFlags := 25, nameIndex := 187, descriptorIndex := 25, attributes := #[] }, { accessFlags := 26, nameIndex := 48, descriptorIndex := 25, attributes := #[] }, { accessFlags := 25, nameIndex := 277, descriptorIndex := 25, attributes := #[] }, { accessFlags := 25, nameIndex := 280, descriptorIndex := 25, attributes := #[] }, { accessFlags := 25, nameIndex := 282, descriptorIndex := 25, attributes := #[] }, { accessFlags := 25, nameIndex := 284, descriptorIndex := 25, attributes := #[] }, { accessFlags := 25, nameIndex := 286, descriptorIndex := 25, attributes := #[] }, { accessFlags := 25, nameIndex := 288, descriptorIndex := 25, attributes := #[] }, { accessFlags := 25, nameIndex := 290, descriptorIndex := 25, attributes := #[] }, { accessFlags := 25, nameIndex := 292, descriptorIndex := 25, attributes := #[] }, { accessFlags := 26, nameIndex := 108, descriptorIndex := 109, attributes := #[] }, { accessFlags := 25, nameIndex := 294, descriptorIndex := 25, attributes := #[] }])
  fields := #[{ name := "U", type := (.object "jdk/internal/misc/Unsafe"), accessFlags := 24, slot := 0, constantValue := 0 }, { name := "BIG_ENDIAN", type := .boolean, accessFlags := 26, slot := 1, constantValue := 0 }, { name := "LOG2_ARRAY_BOOLEAN_INDEX_SCALE", type := .int, accessFlags := 25, slot := 2, constantValue := 0 }, { name := "LOG2_ARRAY_BYTE_INDEX_SCALE", type := .int, accessFlags := 25, slot := 3, constantValue := 0 }, { name := "LOG2_ARRAY_CHAR_INDEX_SCALE", type := .int, accessFlags := 25, slot := 4, constantValue := 0 }, { name := "LOG2_ARRAY_SHORT_INDEX_SCALE", type := .int, accessFlags := 25, slot := 5, constantValue := 0 }, { name := "LOG2_ARRAY_INT_INDEX_SCALE", type := .int, accessFlags := 25, slot := 6, constantValue := 0 }, { name := "LOG2_ARRAY_LONG_INDEX_SCALE", type := .int, accessFlags := 25, slot := 7, constantValue := 0 }, { name := "LOG2_ARRAY_FLOAT_INDEX_SCALE", type := .int, accessFlags := 25, slot := 8, constantValue := 0 }, { name := "LOG2_ARRAY_DOUBLE_INDEX_SCALE", type := .int, accessFlags := 25, slot := 9, constantValue := 0 }, { name := "LOG2_BYTE_BIT_SIZE", type := .int, accessFlags := 26, slot := 10, constantValue := 0 }, { name := "T_BOOLEAN", type := .int, accessFlags := 25, slot := 11, constantValue := 0 }, { name := "T_CHAR", type := .int, accessFlags := 25, slot := 12, constantValue := 0 }, { name := "T_FLOAT", type := .int, accessFlags := 25, slot := 13, constantValue := 0 }, { name := "T_DOUBLE", type := .int, accessFlags := 25, slot := 14, constantValue := 0 }, { name := "T_BYTE", type := .int, accessFlags := 25, slot := 15, constantValue := 0 }, { name := "T_SHORT", type := .int, accessFlags := 25, slot := 16, constantValue := 0 }, { name := "T_INT", type := .int, accessFlags := 25, slot := 17, constantValue := 0 }, { name := "T_LONG", type := .int, accessFlags := 25, slot := 18, constantValue := 0 }, { name := "JLA", type := (.object "jdk/internal/access/JavaLangAccess"), accessFlags := 26, slot := 19, constantValue := 0 }, { name := "SOFT_MAX_ARRAY_LENGTH", type := .int, accessFlags := 25, slot := 20, constantValue := 0 }]
  methods := #[k16m0]
  instanceTypes := #[]
  staticTypes := #[(.object "jdk/internal/misc/Unsafe"), .boolean, .int, .int, .int, .int, .int, .int, .int, .int, .int, .int, .int, .int, .int, .int, .int, .int, .int, (.object "jdk/internal/access/JavaLangAccess"), .int]
  resolved := Array.replicate 378 none
  statics := none }

def pool17 : Array CpInfo := pool [(1, u "java/lang/Cloneable"), (0, .class_ 1), (0, u "java/lang/Object"), (0, .class_ 3)] 3

/-- java/lang/Cloneable -/
def k17 : Class := { plain "java/lang/Cloneable" (some 0) with
  accessFlags := 1537
  interfaces := #[]
  cf := some (fileOf pool17 2 #[] #[] 1537 4 #[] #[])
  fields := #[]
  methods := #[]
  instanceTypes := #[]
  staticTypes := #[]
  resolved := Array.replicate 8 none
  statics := none }

/-- the primitive byte -/
def k18 : Class := { plain "byte" none with kind := .primitive 'B', accessFlags := 0x411 }
/-- [B -/
def k19 : Class := { plain "[B" (some 0) with kind := .array 18 .byte, interfaces := #[17, 4], accessFlags := 1041 }

/-- the primitive int -/
def k20 : Class := { plain "int" none with kind := .primitive 'I', accessFlags := 0x411 }
/-- [I -/
def k21 : Class := { plain "[I" (some 0) with kind := .array 20 .int, interfaces := #[17, 4], accessFlags := 1041 }

def heap : Heap := #[{ cls := 6, slots := #[.ref 3, .ref 5, .ref 6, .ref 4, .null], vm := .statics 6 },
  { cls := 9, slots := #[.long 0, .int 1, .null, .int 0, .null, .int 0, .int 0], vm := .statics 9 },
  { cls := 15, slots := #[.null, .null, .null], vm := .statics 15 },
  { cls := 6, slots := #[.null, .int 0, .int 0], vm := .none },
  { cls := 6, slots := #[.null, .int 3, .int 0], vm := .none },
  { cls := 6, slots := #[.null, .int 1, .int 0], vm := .none },
  { cls := 6, slots := #[.null, .int 2, .int 0], vm := .none }]
def classes : Array Class := #[k0, k1, k2, k3, k4, k5, k6, k7, k8, k9, k10, k11, k12, k13, k14, k15, k16, k17, k18, k19, k20, k21]
def interned : List (Array UInt16 × Addr) := []
def slotsUsed : Nat := 27
def theMethod : MethodId := ⟨1, 1⟩
def args0 : Array Value := #[.int 5, .int 7, .int 1, .long 2, .long 3]
def aboutOver (below : List Frame) : State where
  vm := { classes := classes, interned := interned.toArray }
  heap := heap
  slotsUsed := slotsUsed
  threads := #[{ frames := .invoking theMethod args0 :: below }]
def below0 : List Frame := [.native { method := ⟨0, 0⟩, args := #[] }]
def about1 : State := aboutOver below0
def p0 : Program := .bare "" "" ""
def e0 : Env := launch0.env 0 0 0
theorem w_frames : about1.frames = Frame.invoking theMethod args0 :: below0 := rfl
set_option maxRecDepth 65536 in
theorem w_args : argsFit about1.vm theMethod args0 = true := by decide +kernel
set_option maxRecDepth 65536 in
theorem w_heap : heapFits about1 = true := by decide +kernel
set_option maxRecDepth 65536 in
theorem w_runnable : about1.curStatus? = some .runnable := by decide +kernel
set_option maxRecDepth 65536 in
theorem w_alone : about1.alone = true := by decide +kernel
set_option maxRecDepth 65536 in
theorem w_named : about1.methodNamed? x = some theMethod := by decide +kernel
set_option maxRecDepth 65536 in
theorem w_hears : about1.hears theMethod below0 = true := by decide +kernel
set_option maxRecDepth 65536 in
theorem w_ripe : about1.ripe theMethod args0 below0 = true := by decide +kernel
theorem w_running : about1.status = .running := rfl
set_option maxRecDepth 65536 in
theorem w_room : about1.hasRoom e0.platform room_1 = true :=
  launch0.hasRoom_least _ room_1 (by decide +kernel) (by decide +kernel) (by decide +kernel) (by decide +kernel) (by decide +kernel) (by decide +kernel)
theorem allAtoms_all (ts : List Jvm.Cond) (a : Array Jvm.Value) (st : Jvm.State) : (allAtoms ts).before a st = ts.all (fun c => c.before a st) := by
  induction ts with
  | nil => rfl
  | cons c t ih =>
    show (Jvm.Cond.and c (allAtoms t)).before a st = _
    rw [Jvm.Cond.before_and, ih, List.all_cons]
def words1 : List Jvm.Cond := Jvm.Cond.code x code maxLocals ret :: tables_1
/-- a 'code' word, met by the world's own term for the bytes: nothing is compared byte by byte -/
theorem code_word {y : MethodName} {bytes : ByteArray} {mx : Nat} {rt : Option FieldType} {a : Array Value} {s : State} {m : MethodId} {meth : Method} {c : Code} (h1 : s.methodNamed? y = some m) (h2 : s.vm.method? m = some meth) (h3 : meth.code = some c) (h4 : c.code = bytes)
    (h5 : (c.maxLocals == mx && c.exceptionTable.isEmpty && decide (c.maxStack ≤ mostOperands) && decide (meth.sig.returnType = rt) && !meth.locks && decide (parseMethodDescriptor y.desc = some meth.sig)) = true) : (Jvm.Cond.code y bytes mx rt).before a s = true := by
  simp only [Bool.and_eq_true, beq_iff_eq, Bool.not_eq_true', decide_eq_true_eq] at h5
  obtain ⟨⟨⟨⟨⟨g1, g2⟩, g3⟩, g4⟩, g5⟩, g6⟩ := h5
  simp [Cond.before, Cond.holds, Cond.value, h1, h2, h3, h4, g1, g2, g3, g4, g5, g6]
def isCode : Jvm.Cond → Bool
  | .code _ _ _ _ => true
  | _ => false
theorem all_split {L : List Jvm.Cond} {P : Jvm.Cond → Bool} (h1 : L.all (fun c => isCode c || P c) = true) (h2 : ∀ c ∈ L.filter isCode, P c = true) : L.all P = true := by
  refine List.all_eq_true.mpr fun c hc => ?_
  have h := List.all_eq_true.mp h1 c hc
  rcases Bool.eq_false_or_eq_true (isCode c) with hi | hi
  · exact h2 c (List.mem_filter.mpr ⟨hc, hi⟩)
  · simpa [hi] using h
set_option maxRecDepth 65536 in
theorem w_c0 : (Jvm.Cond.code x code maxLocals ret).before args0 about1 = true := code_word (m := ⟨1, 1⟩) (meth := k1m1) (c := k1c1) (by decide +kernel) rfl rfl rfl (by decide +kernel)
set_option maxRecDepth 65536 in
theorem w_c1 : (Jvm.Cond.code ({ cls := "java/lang/String", name := "valueOf", desc := "(C)Ljava/lang/String;" } : Jvm.MethodName) jdk_42_method_139_code (1 : Nat) (Option.some (Jvm.ClassFile.FieldType.object "java/lang/String"))).before args0 about1 = true := code_word (m := ⟨9, 3⟩) (meth := k9m3) (c := k9c3) (by decide +kernel) rfl rfl rfl (by decide +kernel)
set_option maxRecDepth 65536 in
theorem w_c2 : (Jvm.Cond.code ({ cls := "java/lang/StringLatin1", name := "canEncode", desc := "(C)Z" } : Jvm.MethodName) jdk_43_method_3_code (1 : Nat) (Option.some Jvm.ClassFile.FieldType.boolean)).before args0 about1 = true := code_word (m := ⟨10, 1⟩) (meth := k10m1) (c := k10c1) (by decide +kernel) rfl rfl rfl (by decide +kernel)
set_option maxRecDepth 65536 in
theorem w_c3 : (Jvm.Cond.code ({ cls := "java/lang/StringLatin1", name := "toBytes", desc := "(C)[B" } : Jvm.MethodName) jdk_43_method_46_code (1 : Nat) (Option.some (Jvm.ClassFile.FieldType.array Jvm.ClassFile.FieldType.byte))).before args0 about1 = true := code_word (m := ⟨10, 3⟩) (meth := k10m3) (c := k10c3) (by decide +kernel) rfl rfl rfl (by decide +kernel)
set_option maxRecDepth 65536 in
theorem w_c4 : (Jvm.Cond.code ({ cls := "java/lang/String", name := "<init>", desc := "([BB)V" } : Jvm.MethodName) jdk_42_method_151_code (3 : Nat) (Option.none : Option Jvm.ClassFile.FieldType)).before args0 about1 = true := code_word (m := ⟨9, 4⟩) (meth := k9m4) (c := k9c4) (by decide +kernel) rfl rfl rfl (by decide +kernel)
set_option maxRecDepth 65536 in
theorem w_c5 : (Jvm.Cond.code ({ cls := "java/lang/Object", name := "<init>", desc := "()V" } : Jvm.MethodName) object_method_1_code (1 : Nat) (Option.none : Option Jvm.ClassFile.FieldType)).before args0 about1 = true := code_word (m := ⟨0, 0⟩) (meth := k0m0) (c := k0c0) (by decide +kernel) rfl rfl rfl (by decide +kernel)
set_option maxRecDepth 65536 in
theorem w_c6 : (Jvm.Cond.code ({ cls := "com/example/latticework/latticework/Measure", name := "<init>", desc := "(Ljava/lang/String;Lcom/example/latticework/latticework/Measure$Function;Ljava/lang/String;)V" } : Jvm.MethodName) prog_25_method_1_code (4 : Nat) (Option.none : Option Jvm.ClassFile.FieldType)).before args0 about1 = true := code_word (m := ⟨12, 0⟩) (meth := k12m0) (c := k12c0) (by decide +kernel) rfl rfl rfl (by decide +kernel)
set_option maxRecDepth 65536 in
theorem w_c7 : (Jvm.Cond.code ({ cls := "java/lang/Record", name := "<init>", desc := "()V" } : Jvm.MethodName) jdk_30_method_1_code (1 : Nat) (Option.none : Option Jvm.ClassFile.FieldType)).before args0 about1 = true := code_word (m := ⟨11, 0⟩) (meth := k11m0) (c := k11c0) (by decide +kernel) rfl rfl rfl (by decide +kernel)
set_option maxRecDepth 65536 in
theorem w_c8 : (Jvm.Cond.code ({ cls := "java/util/Objects", name := "requireNonNull", desc := "(Ljava/lang/Object;Ljava/lang/String;)Ljava/lang/Object;" } : Jvm.MethodName) jdk_31_method_11_code (2 : Nat) (Option.some (Jvm.ClassFile.FieldType.object "java/lang/Object"))).before args0 about1 = true := code_word (m := ⟨13, 1⟩) (meth := k13m1) (c := k13c1) (by decide +kernel) rfl rfl rfl (by decide +kernel)
set_option maxRecDepth 65536 in
theorem w_c9 : (Jvm.Cond.code ({ cls := "java/lang/String", name := "isEmpty", desc := "()Z" } : Jvm.MethodName) jdk_42_method_55_code (1 : Nat) (Option.some Jvm.ClassFile.FieldType.boolean)).before args0 about1 = true := code_word (m := ⟨9, 1⟩) (meth := k9m1) (c := k9c1) (by decide +kernel) rfl rfl rfl (by decide +kernel)
set_option maxRecDepth 65536 in
theorem w_c10 : (Jvm.Cond.code ({ cls := "java/lang/String", name := "equals", desc := "(Ljava/lang/Object;)Z" } : Jvm.MethodName) jdk_42_method_66_code (3 : Nat) (Option.some Jvm.ClassFile.FieldType.boolean)).before args0 about1 = true := code_word (m := ⟨9, 2⟩) (meth := k9m2) (c := k9c2) (by decide +kernel) rfl rfl rfl (by decide +kernel)
set_option maxRecDepth 65536 in
theorem w_c11 : (Jvm.Cond.code ({ cls := "java/lang/StringLatin1", name := "equals", desc := "([B[B)Z" } : Jvm.MethodName) jdk_43_method_13_code (3 : Nat) (Option.some Jvm.ClassFile.FieldType.boolean)).before args0 about1 = true := code_word (m := ⟨10, 2⟩) (meth := k10m2) (c := k10c2) (by decide +kernel) rfl rfl rfl (by decide +kernel)
set_option maxRecDepth 65536 in
theorem w_c12 : (Jvm.Cond.code ({ cls := "com/example/latticework/latticework/Measure", name := "adds", desc := "()Z" } : Jvm.MethodName) prog_25_method_6_code (1 : Nat) (Option.some Jvm.ClassFile.FieldType.boolean)).before args0 about1 = true := code_word (m := ⟨12, 1⟩) (meth := k12m1) (c := k12c1) (by decide +kernel) rfl rfl rfl (by decide +kernel)
set_option maxRecDepth 65536 in
theorem w_c13 : (Jvm.Cond.code ({ cls := "com/example/latticework/latticework/Measure", name := "pick", desc := "(JJ)J" } : Jvm.MethodName) prog_25_method_7_code (5 : Nat) (Option.some Jvm.ClassFile.FieldType.long)).before args0 about1 = true := code_word (m := ⟨12, 2⟩) (meth := k12m2) (c := k12c2) (by decide +kernel) rfl rfl rfl (by decide +kernel)
set_option maxRecDepth 65536 in
theorem w_c14 : (Jvm.Cond.code ({ cls := "java/lang/Math", name := "max", desc := "(JJ)J" } : Jvm.MethodName) jdk_29_method_66_code (4 : Nat) (Option.some Jvm.ClassFile.FieldType.long)).before args0 about1 = true := code_word (m := ⟨14, 1⟩) (meth := k14m1) (c := k14c1) (by decide +kernel) rfl rfl rfl (by decide +kernel)
set_option maxRecDepth 65536 in
theorem w_c15 : (Jvm.Cond.code ({ cls := "java/lang/Math", name := "min", desc := "(JJ)J" } : Jvm.MethodName) jdk_29_method_70_code (4 : Nat) (Option.some Jvm.ClassFile.FieldType.long)).before args0 about1 = true := code_word (m := ⟨14, 2⟩) (meth := k14m2) (c := k14c2) (by decide +kernel) rfl rfl rfl (by decide +kernel)
def codes1 : List Jvm.Cond := [Jvm.Cond.code x code maxLocals ret, Jvm.Cond.code ({ cls := "java/lang/String", name := "valueOf", desc := "(C)Ljava/lang/String;" } : Jvm.MethodName) jdk_42_method_139_code (1 : Nat) (Option.some (Jvm.ClassFile.FieldType.object "java/lang/String")), Jvm.Cond.code ({ cls := "java/lang/StringLatin1", name := "canEncode", desc := "(C)Z" } : Jvm.MethodName) jdk_43_method_3_code (1 : Nat) (Option.some Jvm.ClassFile.FieldType.boolean), Jvm.Cond.code ({ cls := "java/lang/StringLatin1", name := "toBytes", desc := "(C)[B" } : Jvm.MethodName) jdk_43_method_46_code (1 : Nat) (Option.some (Jvm.ClassFile.FieldType.array Jvm.ClassFile.FieldType.byte)), Jvm.Cond.code ({ cls := "java/lang/String", name := "<init>", desc := "([BB)V" } : Jvm.MethodName) jdk_42_method_151_code (3 : Nat) (Option.none : Option Jvm.ClassFile.FieldType), Jvm.Cond.code ({ cls := "java/lang/Object", name := "<init>", desc := "()V" } : Jvm.MethodName) object_method_1_code (1 : Nat) (Option.none : Option Jvm.ClassFile.FieldType), Jvm.Cond.code ({ cls := "com/example/latticework/latticework/Measure", name := "<init>", desc := "(Ljava/lang/String;Lcom/example/latticework/latticework/Measure$Function;Ljava/lang/String;)V" } : Jvm.MethodName) prog_25_method_1_code (4 : Nat) (Option.none : Option Jvm.ClassFile.FieldType), Jvm.Cond.code ({ cls := "java/lang/Record", name := "<init>", desc := "()V" } : Jvm.MethodName) jdk_30_method_1_code (1 : Nat) (Option.none : Option Jvm.ClassFile.FieldType), Jvm.Cond.code ({ cls := "java/util/Objects", name := "requireNonNull", desc := "(Ljava/lang/Object;Ljava/lang/String;)Ljava/lang/Object;" } : Jvm.MethodName) jdk_31_method_11_code (2 : Nat) (Option.some (Jvm.ClassFile.FieldType.object "java/lang/Object")), Jvm.Cond.code ({ cls := "java/lang/String", name := "isEmpty", desc := "()Z" } : Jvm.MethodName) jdk_42_method_55_code (1 : Nat) (Option.some Jvm.ClassFile.FieldType.boolean), Jvm.Cond.code ({ cls := "java/lang/String", name := "equals", desc := "(Ljava/lang/Object;)Z" } : Jvm.MethodName) jdk_42_method_66_code (3 : Nat) (Option.some Jvm.ClassFile.FieldType.boolean), Jvm.Cond.code ({ cls := "java/lang/StringLatin1", name := "equals", desc := "([B[B)Z" } : Jvm.MethodName) jdk_43_method_13_code (3 : Nat) (Option.some Jvm.ClassFile.FieldType.boolean), Jvm.Cond.code ({ cls := "com/example/latticework/latticework/Measure", name := "adds", desc := "()Z" } : Jvm.MethodName) prog_25_method_6_code (1 : Nat) (Option.some Jvm.ClassFile.FieldType.boolean), Jvm.Cond.code ({ cls := "com/example/latticework/latticework/Measure", name := "pick", desc := "(JJ)J" } : Jvm.MethodName) prog_25_method_7_code (5 : Nat) (Option.some Jvm.ClassFile.FieldType.long), Jvm.Cond.code ({ cls := "java/lang/Math", name := "max", desc := "(JJ)J" } : Jvm.MethodName) jdk_29_method_66_code (4 : Nat) (Option.some Jvm.ClassFile.FieldType.long), Jvm.Cond.code ({ cls := "java/lang/Math", name := "min", desc := "(JJ)J" } : Jvm.MethodName) jdk_29_method_70_code (4 : Nat) (Option.some Jvm.ClassFile.FieldType.long)]
set_option maxRecDepth 65536 in
theorem codes_eq : words1.filter isCode = codes1 := rfl
theorem w_codes : ∀ c ∈ words1.filter isCode, c.before args0 about1 = true := by
  rw [codes_eq]
  intro c hc
  simp only [codes1, List.mem_cons, List.not_mem_nil, or_false] at hc
  rcases hc with rfl | rfl | rfl | rfl | rfl | rfl | rfl | rfl | rfl | rfl | rfl | rfl | rfl | rfl | rfl | rfl
  · exact w_c0
  · exact w_c1
  · exact w_c2
  · exact w_c3
  · exact w_c4
  · exact w_c5
  · exact w_c6
  · exact w_c7
  · exact w_c8
  · exact w_c9
  · exact w_c10
  · exact w_c11
  · exact w_c12
  · exact w_c13
  · exact w_c14
  · exact w_c15
set_option maxRecDepth 65536 in
theorem w_t1 : (words1.take 24).all (fun c => isCode c || c.before args0 about1) = true := by decide +kernel
set_option maxRecDepth 65536 in
theorem w_t2 : ((words1.drop 24).take 24).all (fun c => isCode c || c.before args0 about1) = true := by decide +kernel
set_option maxRecDepth 65536 in
theorem w_t3 : (((words1.drop 24).drop 24).take 24).all (fun c => isCode c || c.before args0 about1) = true := by decide +kernel
set_option maxRecDepth 65536 in
theorem w_t4 : (((words1.drop 24).drop 24).drop 24).all (fun c => isCode c || c.before args0 about1) = true := by decide +kernel
theorem w_tables : (allAtoms (Jvm.Cond.code x code maxLocals ret :: tables_1)).before args0 about1 = true := by
  rw [allAtoms_all]
  show words1.all (fun c => c.before args0 about1) = true
  refine all_split ?_ w_codes
  rw [← List.take_append_drop 24 words1, List.all_append, w_t1, ← List.take_append_drop 24 (words1.drop 24), List.all_append, w_t2, ← List.take_append_drop 24 ((words1.drop 24).drop 24), List.all_append, w_t3, w_t4]
  rfl
set_option maxRecDepth 65536 in
theorem w_rest : rest_1_c.before args0 about1 = true := by decide +kernel
set_option maxRecDepth 65536 in
theorem w_case : (Jvm.Cond.and given_1 narrow_1).before args0 about1 = true := by decide +kernel
set_option maxRecDepth 65536 in
theorem w_consts : constsHeld consts_1 about1 := Jvm.Lit.constsHeldB_iff.mp (by decide +kernel)
theorem w_applies : (headSpec (Jvm.Cond.code x code maxLocals ret :: tables_1) room_1).applies x e0.platform about1 = true :=
  (Spec.applies_iff w_frames).mpr ⟨w_running, w_runnable, w_alone, w_named, w_hears, w_ripe, w_room, w_tables⟩
theorem atStart : AtStart classFile x code maxLocals ret World_1 tables_1 room_1 Calls_1 rest_1 Pre_1 launch0 p0 e0 about1 theMethod args0 below0 :=
  ⟨lists_1, trivial, launch0.admits_env _ _ _, launch0.least_env, fairChoices_fair.cas, fairChoices_fair.clock, w_frames, w_args, w_heap, w_applies, ⟨w_consts, trivial⟩, w_rest, w_case⟩
end start1
theorem witness_1 : WitnessClaimed_1 := ⟨start1.p0, start1.e0, start1.about1, start1.theMethod, start1.args0, start1.below0, start1.atStart⟩
end Jvm.Pilot.@@N@@
