import JvmDerived
import JvmDerived.Pilot.@@N@@Statement
import JvmDerived.Pilot.@@N@@Code
set_option linter.unusedVariables false
set_option linter.unusedSimpArgs false
namespace Jvm.Pilot.@@N@@
open Jvm Jvm.ClassFile Sem Op Lib Jvm.Free Jvm.Stand Jvm.LawKit Jvm.RoadKit Bundle Jvm.Pilot.@@N@@.Jvm.D
section OwnKit
variable {p : Program} {l : Launch} {e : Env} {R : Room} {s : State} {m : MethodId} {args : Array Value} {below : List Frame} {meth : Method} {c : Code} {T : State} {locs : List Loc} {cells slots kc ks : Nat} {Q : Option Value → Heap → List Loc → Prop} {A B : State}
/-- the rest of a walk: from the state A the run comes to a return that Q describes -/
def OW (p : Program) (e : Env) (below : List Frame) (s : State) (Q : Option Value → Heap → List Loc → Prop) (kc ks : Nat) (A : State) : Prop :=
  ∃ s₂ o, Steps p.tables e below A s₂ ∧ s₂.status = .running ∧ Ended s₂ below o ∧ ∃ v L, o = .returned v ∧ Q v s₂.heap L ∧ FrameEnd s o s₂ L kc ks
theorem OW.st (h : ∀ t, Steps p.tables e below B t → Steps p.tables e below A t) (k : OW p e below s Q kc ks B) : OW p e below s Q kc ks A := by
  obtain ⟨a, o, h1, h2⟩ := k; exact ⟨a, o, h _ h1, h2⟩
theorem OW.tr (h : Steps p.tables e below A B) (k : OW p e below s Q kc ks B) : OW p e below s Q kc ks A := by
  obtain ⟨a, o, h1, h2⟩ := k; exact ⟨a, o, h.trans h1, h2⟩
theorem OW.ret (X : Stand p l e R s m args below meth c T locs cells slots) (hx : p.tables.exec = Jvm.exec) (hlk : meth.locks = false) {pc : Nat} {Ls : Array Slot} {w : Value} {t : FieldType} {i : Instr} {rest : List Value} (hret : meth.sig.returnType = some t) (hn : narrow t w = w)
    (hi : (i = .ireturn ∧ (t = .int ∨ t = .boolean ∨ t = .byte ∨ t = .char ∨ t = .short) ∧ ∃ z, w = .int z) ∨ (i = .lreturn ∧ t = .long ∧ ∃ z, w = .long z) ∨ (i = .dreturn ∧ t = .double ∧ ∃ z, w = .double z) ∨ (i = .freturn ∧ t = .float ∧ ∃ z, w = .float z) ∨ (i = .areturn ∧ t.isReference = true ∧ w.isRef = true))
    (hd : decode c.code pc = .ok (i, 1)) {h : Heap} (eT : T.heap = h) (hc : cells ≤ kc) (hs : slots ≤ ks) (q : Q (some w) h locs) : OW p e below s Q kc ks (T.setTop (mkF m pc Ls (w :: rest))) := by
  obtain ⟨fs, hr, hrun, hended, hW, hsame⟩ := X.leave (v := some w) (fun h => by rw [hret] at h; cases h) hlk
  subst eT
  exact ⟨_, _, retOut X hx hret hn hi hd hr, hrun, hended, _, _, rfl, q, ⟨_, rfl⟩, hW, hsame.mono hc hs⟩
theorem OW.retV (X : Stand p l e R s m args below meth c T locs cells slots) (hx : p.tables.exec = Jvm.exec) (hlk : meth.locks = false) {pc : Nat} {Ls : Array Slot} (hret : meth.sig.returnType = none)
    (hd : decode c.code pc = .ok (.return_, 1)) {h : Heap} (eT : T.heap = h) (hc : cells ≤ kc) (hs : slots ≤ ks) (q : Q none h locs) : OW p e below s Q kc ks (T.setTop (mkF m pc Ls [])) := by
  obtain ⟨fs, hr, hrun, hended, hW, hsame⟩ := X.leave (v := none) (fun _ => rfl) hlk
  subst eT
  exact ⟨_, _, X.returnOut hx hret hd hr, hrun, hended, _, _, rfl, q, ⟨_, rfl⟩, hW, hsame.mono hc hs⟩
/-- the same for a walk that may intern: its Stand is over 's.setVm vm0' -/
def OWW (p : Program) (e : Env) (below : List Frame) (s : State) (Q : Option Value → Heap → List Loc → Prop) (kc ks : Nat) (A : State) : Prop :=
  ∃ s₂ o, Steps p.tables e below A s₂ ∧ s₂.status = .running ∧ Ended s₂ below o ∧ ∃ v L, o = .returned v ∧ Q v s₂.heap L ∧ ReturnedEndW s o s₂ L kc ks
theorem OWW.st (h : ∀ t, Steps p.tables e below B t → Steps p.tables e below A t) (k : OWW p e below s Q kc ks B) : OWW p e below s Q kc ks A := by
  obtain ⟨a, o, h1, h2⟩ := k; exact ⟨a, o, h _ h1, h2⟩
theorem OWW.tr (h : Steps p.tables e below A B) (k : OWW p e below s Q kc ks B) : OWW p e below s Q kc ks A := by
  obtain ⟨a, o, h1, h2⟩ := k; exact ⟨a, o, h.trans h1, h2⟩
theorem OWW.ret {vm0 : Vm} {k0 : Nat} (X : Stand p l e R (s.setVm vm0) m args below meth c T locs cells slots) {h : Heap} (hS : s.Since vm0 k0) (hk : k0 ≤ h.size) (hx : p.tables.exec = Jvm.exec) (hlk : meth.locks = false) {pc : Nat} {Ls : Array Slot} {w : Value} {t : FieldType} {i : Instr} {rest : List Value} (hret : meth.sig.returnType = some t) (hn : narrow t w = w)
    (hi : (i = .ireturn ∧ (t = .int ∨ t = .boolean ∨ t = .byte ∨ t = .char ∨ t = .short) ∧ ∃ z, w = .int z) ∨ (i = .lreturn ∧ t = .long ∧ ∃ z, w = .long z) ∨ (i = .dreturn ∧ t = .double ∧ ∃ z, w = .double z) ∨ (i = .freturn ∧ t = .float ∧ ∃ z, w = .float z) ∨ (i = .areturn ∧ t.isReference = true ∧ w.isRef = true))
    (hd : decode c.code pc = .ok (i, 1)) (eT : T.heap = h) (hc : cells ≤ kc) (hs : slots ≤ ks) (q : Q (some w) h locs) : OWW p e below s Q kc ks (T.setTop (mkF m pc Ls (w :: rest))) := by
  obtain ⟨fs, hr, hrun, hended, hW, hsame⟩ := X.leave (v := some w) (fun h => by rw [hret] at h; cases h) hlk
  subst eT
  obtain ⟨g1, g2, g3⟩ := hS.ended (U := T.setFrames fs) hW hk hsame
  exact ⟨_, _, retOut X hx hret hn hi hd hr, hrun, hended, _, _, rfl, q, ⟨_, rfl⟩, g1, g2, g3.mono hc hs⟩
theorem OWW.retV {vm0 : Vm} {k0 : Nat} (X : Stand p l e R (s.setVm vm0) m args below meth c T locs cells slots) {h : Heap} (hS : s.Since vm0 k0) (hk : k0 ≤ h.size) (hx : p.tables.exec = Jvm.exec) (hlk : meth.locks = false) {pc : Nat} {Ls : Array Slot} (hret : meth.sig.returnType = none)
    (hd : decode c.code pc = .ok (.return_, 1)) (eT : T.heap = h) (hc : cells ≤ kc) (hs : slots ≤ ks) (q : Q none h locs) : OWW p e below s Q kc ks (T.setTop (mkF m pc Ls [])) := by
  obtain ⟨fs, hr, hrun, hended, hW, hsame⟩ := X.leave (v := none) (fun _ => rfl) hlk
  subst eT
  obtain ⟨g1, g2, g3⟩ := hS.ended (U := T.setFrames fs) hW hk hsame
  exact ⟨_, _, X.returnOut hx hret hd hr, hrun, hended, _, _, rfl, q, ⟨_, rfl⟩, g1, g2, g3.mono hc hs⟩
end OwnKit
section OwnWords
variable {args : Array Value} {first s : State} {o : Option Outcome} {idx : List Nat} {t : Term}
theorem own_eq_int {k : Int32} (h : (Jvm.Cond.eq t (.int k)).value args first o s idx = some true) : t.eval args first o idx s = some (.int k) := by
  obtain ⟨x, y, h1, h2, k1, k2⟩ := cmp_v (Or.inl h)
  rw [Term.int_eval] at h2
  cases h2
  obtain ⟨z, rfl⟩ := k2
  rw [h1, gotT (Cond.eq_ints h1 (Term.int_eval k)) h]
theorem own_eq_ref {u : Term} {a : Addr} (h : (Jvm.Cond.eq t u).value args first o s idx = some true) (hu : u.eval args first o idx s = some (.ref a)) : t.eval args first o idx s = some (.ref a) := by
  obtain ⟨x, y, h1, h2, k1, k2⟩ := cmp_v (Or.inl h)
  cases hu.symm.trans h2
  have q := gotT (eq_R h1 hu k2.2 rfl) h
  rw [h1, q]
theorem own_eq_dbl {n : Int64} {b : UInt64} (hb : Jvm.Unary.bitsD.apply (.long n) = some (.double b)) (h : (Jvm.Cond.eq t (.op1 .bitsD (.long n))).value args first o s idx = some true) : t.eval args first o idx s = some (.double b) := by
  obtain ⟨x, y, h1, h2, k1, k2⟩ := cmp_v (Or.inl h)
  rw [op1_f (long_at n), hb] at h2
  cases h2
  obtain ⟨z, rfl⟩ := k2
  have h3 : (Term.op1 Jvm.Unary.bitsD (.long n)).eval args first o idx s = some (.double b) := by rw [op1_f (long_at n), hb]
  simp only [Cond.value, h1, h3, Option.some.injEq, decide_eq_true_eq] at h
  rw [h1, h]
theorem own_arr {ty : FieldType} {a : Addr} {z : Int32} (ev : t.eval args s none [] s = some (.ref a)) (ha : (Jvm.Cond.arrayOf t ty).value args s none s [] = some true) (hl : (Term.length t).eval args s none [] s = some (.int z)) :
    ∃ cl : Cell, Arr s s.heap a cl ty ∧ cl.slots.size < 2 ^ 31 ∧ cl.slots.size.toInt32 = z ∧ ∀ j : Int32, ¬ j < 0 → ∀ v, (Term.elem t (.int j)).eval args s none [] s = some v → cl.slots[j.toNatClampNeg]? = some v := by
  obtain ⟨cl, A⟩ := Arr.start ev ha
  have hat := A.fin (Vm.Alike.refl _)
  have hlt : cl.slots.size < 2 ^ 31 := by
    refine Decidable.byContradiction fun q => ?_
    simp [Term.eval, ev, hat, q] at hl
  refine ⟨cl, A, hlt, ?_, fun j hj v hv => ?_⟩
  · rw [len_f ev hat hlt] at hl; exact Value.int.inj (Option.some.inj hl)
  · rw [elem_f ev (Term.int_eval j) hat hj] at hv; exact hv
end OwnWords
theorem own_oldle {Z : State} {n0 : Nat} {h : Heap} (X : Old Z n0 h) : n0 ≤ h.size := X.1 ▸ X.2.1
theorem own_cat {v : Value} (h : v.isRef = true) : v.category = 1 := by cases v <;> first | rfl | simp [Value.isRef] at h
theorem own_nar {v : Value} {t : FieldType} (h : v.isRef = true) (ht : t.isReference = true) : narrow t v = v := by cases t <;> first | (cases ht; done) | (cases v <;> first | rfl | simp [Value.isRef] at h)
theorem own_fit {v : Value} {t : FieldType} (h : v.isRef = true) (ht : t.isReference = true) : fits t v = true := by cases t <;> first | (cases ht; done) | (cases v <;> first | rfl | simp [Value.isRef] at h)

theorem own_nz {r : Int32} (h : r = 0 ∨ r = 1) : narrow .boolean (.int r) = .int r := by rcases h with rfl | rfl <;> rfl
theorem own_fz {r : Int32} (h : r = 0 ∨ r = 1) : fits .boolean (.int r) = true := by rcases h with rfl | rfl <;> rfl
theorem own_catI (z : Int32) : (Value.int z).category = 1 := rfl
theorem own_catJ (z : Int64) : (Value.long z).category = 2 := rfl
theorem own_catD (z : UInt64) : (Value.double z).category = 2 := rfl
theorem own_catR (z : Addr) : (Value.ref z).category = 1 := rfl
theorem own_catN : (Value.null).category = 1 := rfl
section OwnHeld
open Jvm.Free.SB Jvm.Free.SBG
variable {p : Program} {l : Launch} {e : Env} {R : Room} {s : State} {m : MethodId} {args : Array Value} {below : List Frame} {meth : Method} {c : Code} {T : State} {locs : List Loc} {cells slots kc ks : Nat} {Q : Option Value → Heap → List Loc → Prop} {A B : State} {Z : State} {EL : List (String × Nat)} {h0 : Heap} {a0 : Array Value}
/-- the rest of a walk that may intern, and keeps what is held of the String constants EL -/
def OWH (Z : State) (EL : List (String × Nat)) (h0 : Heap) (p : Program) (e : Env) (below : List Frame) (s : State) (Q : Option Value → Heap → List Loc → Prop) (kc ks : Nat) (A : State) : Prop :=
  ∃ s₂ o, Steps p.tables e below A s₂ ∧ s₂.status = .running ∧ Ended s₂ below o ∧ ∃ v L, o = .returned v ∧ Q v s₂.heap L ∧ CHr Z EL s.vm h0 s₂.vm s₂.heap ∧ ReturnedEndW s o s₂ L kc ks
theorem OWH.st (h : ∀ t, Steps p.tables e below B t → Steps p.tables e below A t) (k : OWH Z EL h0 p e below s Q kc ks B) : OWH Z EL h0 p e below s Q kc ks A := by
  obtain ⟨a, o, h1, h2⟩ := k; exact ⟨a, o, h _ h1, h2⟩
theorem OWH.tr (h : Steps p.tables e below A B) (k : OWH Z EL h0 p e below s Q kc ks B) : OWH Z EL h0 p e below s Q kc ks A := by
  obtain ⟨a, o, h1, h2⟩ := k; exact ⟨a, o, h.trans h1, h2⟩
theorem OWH.ret {vm0 : Vm} {k0 : Nat} (X : Stand p l e R (s.setVm vm0) m args below meth c T locs cells slots) {h : Heap} (hS : s.Since vm0 k0) (hk : k0 ≤ h.size) (hx : p.tables.exec = Jvm.exec) (hlk : meth.locks = false) (CR : CHr Z EL s.vm h0 vm0 h) (hZ : Z.Warmed39 vm0) (hEL : EW Z a0 EL) {pc : Nat} {Ls : Array Slot} {w : Value} {t : FieldType} {i : Instr} {rest : List Value} (hret : meth.sig.returnType = some t) (hn : narrow t w = w)
    (hi : (i = .ireturn ∧ (t = .int ∨ t = .boolean ∨ t = .byte ∨ t = .char ∨ t = .short) ∧ ∃ z, w = .int z) ∨ (i = .lreturn ∧ t = .long ∧ ∃ z, w = .long z) ∨ (i = .dreturn ∧ t = .double ∧ ∃ z, w = .double z) ∨ (i = .freturn ∧ t = .float ∧ ∃ z, w = .float z) ∨ (i = .areturn ∧ t.isReference = true ∧ w.isRef = true))
    (hd : decode c.code pc = .ok (i, 1)) (eT : T.heap = h) (hc : cells ≤ kc) (hs : slots ≤ ks) (q : Q (some w) h locs) : OWH Z EL h0 p e below s Q kc ks (T.setTop (mkF m pc Ls (w :: rest))) := by
  obtain ⟨fs, hr, hrun, hended, hW, hsame⟩ := X.leave (v := some w) (fun h => by rw [hret] at h; cases h) hlk
  subst eT
  have CA := CHv.at X hZ hEL CR.1
  obtain ⟨g1, g2, g3⟩ := hS.ended (U := T.setFrames fs) hW hk hsame
  exact ⟨_, _, retOut X hx hret hn hi hd hr, hrun, hended, _, _, rfl, q, CR.trans CA, ⟨_, rfl⟩, g1, g2, g3.mono hc hs⟩
theorem OWH.retV {vm0 : Vm} {k0 : Nat} (X : Stand p l e R (s.setVm vm0) m args below meth c T locs cells slots) {h : Heap} (hS : s.Since vm0 k0) (hk : k0 ≤ h.size) (hx : p.tables.exec = Jvm.exec) (hlk : meth.locks = false) (CR : CHr Z EL s.vm h0 vm0 h) (hZ : Z.Warmed39 vm0) (hEL : EW Z a0 EL) {pc : Nat} {Ls : Array Slot} (hret : meth.sig.returnType = none)
    (hd : decode c.code pc = .ok (.return_, 1)) (eT : T.heap = h) (hc : cells ≤ kc) (hs : slots ≤ ks) (q : Q none h locs) : OWH Z EL h0 p e below s Q kc ks (T.setTop (mkF m pc Ls [])) := by
  obtain ⟨fs, hr, hrun, hended, hW, hsame⟩ := X.leave (v := none) (fun _ => rfl) hlk
  subst eT
  have CA := CHv.at X hZ hEL CR.1
  obtain ⟨g1, g2, g3⟩ := hS.ended (U := T.setFrames fs) hW hk hsame
  exact ⟨_, _, X.returnOut hx hret hd hr, hrun, hended, _, _, rfl, q, CR.trans CA, ⟨_, rfl⟩, g1, g2, g3.mono hc hs⟩
/-- a String whose value isn't set yet is none of the booked ones -/
theorem own_safeS {vm : Vm} {h : Heap} {x : Addr} (hal : Z.vm.Alike vm) (E : Exa Z h x "java/lang/String") (F : Fld Z h x "java/lang/String" "value" "[B" .null) : Safe Z EL vm h x := fun Bx => by
  obtain ⟨q0, -, u, a, -, q, -, S, rfl | rfl⟩ := Bx
  · obtain ⟨cS, ⟨⟨s1, s2, s3, ⟨cv, kv, iv, s4, s4'⟩, -, s6, -, s8, -⟩, -⟩, -⟩ := S
    obtain ⟨cell, cf, k, i, f, e1, e2, e3, e4, e5, e6, e7⟩ := F
    cases (show h[q.sa]? = some q.sC from s1).symm.trans e1
    obtain ⟨kv', z4⟩ := ff_back (U := Wst Z vm h) hal s4
    have z5 := z4.symm.trans e2
    simp only [Option.some.injEq, Prod.mk.injEq] at z5
    rw [← z5.2.2.2, s8] at e7
    cases e7
  · obtain ⟨cell, k, e1, e2, e3, -, -⟩ := E
    cases (show h[q.sd]? = some q.SA from S.hd).symm.trans e1
    obtain ⟨cS, -, -, f, -⟩ := S
    have f' : vm.findClass "[B" = some q.SA.cls := f
    rw [hal.findClass] at f'
    obtain ⟨k1, q1, q2⟩ := Vm.findClass_spec f'
    obtain ⟨k2, q3, q4⟩ := Vm.findClass_spec e2
    cases q1.symm.trans q3
    exact absurd (q2.symm.trans q4) (by decide)
theorem own_neTy {h : Heap} {a b : Addr} {k1 k2 : ClassId} {t1 t2 : FieldType} {z1 z2 : Int32} {v1 v2 : List Value} {d1 d2 : Value} (A : Arv Z h a k1 t1 z1 v1 d1) (B : Arv Z h b k2 t2 z2 v2 d2) (ht : t1 ≠ t2) : a ≠ b := fun q => by
  subst q
  obtain ⟨c1, ⟨e1, ⟨-, ka, ha, ca, na⟩, -⟩, -⟩ := A
  obtain ⟨c2, ⟨e2, ⟨-, kb, hb, cb, nb⟩, -⟩, -⟩ := B
  cases e1.symm.trans e2
  cases ha.symm.trans hb
  have := na.symm.trans nb
  injection this with _ e
  exact ht e
end OwnHeld
theorem w_0 {a0 : Array Value} {Z : State} (hw : ∀ d ∈ tables_1, d.before a0 Z = true) : (Jvm.Cond.constant "com/example/cartulary/cartulary/entity/FootprintOfPinLaw" (8 : Nat) (2147483647 : Int32)).before a0 Z = true := hw _ (List.mem_of_getElem? (i := 0) rfl)
theorem w_1 {a0 : Array Value} {Z : State} (hw : ∀ d ∈ tables_1, d.before a0 Z = true) : (Jvm.Cond.methodLink "com/example/cartulary/cartulary/entity/FootprintOfPinLaw" (9 : Nat) ({ cls := "com/example/cartulary/cartulary/entity/FootprintOfPinLaw", name := "ch", desc := "(I)C" } : Jvm.MethodName)).before a0 Z = true := hw _ (List.mem_of_getElem? (i := 1) rfl)
theorem w_2 {a0 : Array Value} {Z : State} (hw : ∀ d ∈ tables_1, d.before a0 Z = true) : (Jvm.Cond.static ({ cls := "com/example/cartulary/cartulary/entity/FootprintOfPinLaw", name := "ch", desc := "(I)C" } : Jvm.MethodName)).before a0 Z = true := hw _ (List.mem_of_getElem? (i := 2) rfl)
theorem w_3 {a0 : Array Value} {Z : State} (hw : ∀ d ∈ tables_1, d.before a0 Z = true) : (Jvm.Cond.initialized "com/example/cartulary/cartulary/entity/FootprintOfPinLaw").before a0 Z = true := hw _ (List.mem_of_getElem? (i := 3) rfl)
theorem w_4 {a0 : Array Value} {Z : State} (hw : ∀ d ∈ tables_1, d.before a0 Z = true) : (Jvm.Cond.code ({ cls := "com/example/cartulary/cartulary/entity/FootprintOfPinLaw", name := "ch", desc := "(I)C" } : Jvm.MethodName) method_2_code (1 : Nat) (Option.some Jvm.ClassFile.FieldType.char)).before a0 Z = true := hw _ (List.mem_of_getElem? (i := 4) rfl)
theorem w_5 {a0 : Array Value} {Z : State} (hw : ∀ d ∈ tables_1, d.before a0 Z = true) : (Jvm.Cond.constant "com/example/cartulary/cartulary/entity/FootprintOfPinLaw" (7 : Nat) (65535 : Int32)).before a0 Z = true := hw _ (List.mem_of_getElem? (i := 5) rfl)
theorem w_6 {a0 : Array Value} {Z : State} (hw : ∀ d ∈ tables_1, d.before a0 Z = true) : (Jvm.Cond.classLink "com/example/cartulary/cartulary/entity/FootprintOfPinLaw" (15 : Nat) "java/lang/String").before a0 Z = true := hw _ (List.mem_of_getElem? (i := 6) rfl)
theorem w_7 {a0 : Array Value} {Z : State} (hw : ∀ d ∈ tables_1, d.before a0 Z = true) : (Jvm.Cond.instantiable "java/lang/String" (4 : Nat)).before a0 Z = true := hw _ (List.mem_of_getElem? (i := 7) rfl)
theorem w_8 {a0 : Array Value} {Z : State} (hw : ∀ d ∈ tables_1, d.before a0 Z = true) : (Jvm.Cond.initialized "java/lang/String").before a0 Z = true := hw _ (List.mem_of_getElem? (i := 8) rfl)
theorem w_9 {a0 : Array Value} {Z : State} (hw : ∀ d ∈ tables_1, d.before a0 Z = true) : (Jvm.Cond.methodLink "com/example/cartulary/cartulary/entity/FootprintOfPinLaw" (17 : Nat) ({ cls := "com/example/cartulary/cartulary/entity/FootprintOfPinLaw", name := "chars", desc := "(ICCCCC)[C" } : Jvm.MethodName)).before a0 Z = true := hw _ (List.mem_of_getElem? (i := 9) rfl)
theorem w_10 {a0 : Array Value} {Z : State} (hw : ∀ d ∈ tables_1, d.before a0 Z = true) : (Jvm.Cond.static ({ cls := "com/example/cartulary/cartulary/entity/FootprintOfPinLaw", name := "chars", desc := "(ICCCCC)[C" } : Jvm.MethodName)).before a0 Z = true := hw _ (List.mem_of_getElem? (i := 10) rfl)
theorem w_11 {a0 : Array Value} {Z : State} (hw : ∀ d ∈ tables_1, d.before a0 Z = true) : (Jvm.Cond.code ({ cls := "com/example/cartulary/cartulary/entity/FootprintOfPinLaw", name := "chars", desc := "(ICCCCC)[C" } : Jvm.MethodName) method_3_code (6 : Nat) (Option.some (Jvm.ClassFile.FieldType.array Jvm.ClassFile.FieldType.char))).before a0 Z = true := hw _ (List.mem_of_getElem? (i := 11) rfl)
theorem w_12 {a0 : Array Value} {Z : State} (hw : ∀ d ∈ tables_1, d.before a0 Z = true) : (Jvm.Cond.arrayClass Jvm.ClassFile.FieldType.char).before a0 Z = true := hw _ (List.mem_of_getElem? (i := 12) rfl)
theorem w_13 {a0 : Array Value} {Z : State} (hw : ∀ d ∈ tables_1, d.before a0 Z = true) : (Jvm.Cond.methodLink "com/example/cartulary/cartulary/entity/FootprintOfPinLaw" (21 : Nat) ({ cls := "java/lang/String", name := "<init>", desc := "([C)V" } : Jvm.MethodName)).before a0 Z = true := hw _ (List.mem_of_getElem? (i := 13) rfl)
theorem w_14 {a0 : Array Value} {Z : State} (hw : ∀ d ∈ tables_1, d.before a0 Z = true) : (Jvm.Cond.instanceMethod ({ cls := "java/lang/String", name := "<init>", desc := "([C)V" } : Jvm.MethodName)).before a0 Z = true := hw _ (List.mem_of_getElem? (i := 14) rfl)
theorem w_15 {a0 : Array Value} {Z : State} (hw : ∀ d ∈ tables_1, d.before a0 Z = true) : (Jvm.Cond.code ({ cls := "java/lang/String", name := "<init>", desc := "([C)V" } : Jvm.MethodName) jdk_42_method_3_code (2 : Nat) (Option.none : Option Jvm.ClassFile.FieldType)).before a0 Z = true := hw _ (List.mem_of_getElem? (i := 15) rfl)
theorem w_16 {a0 : Array Value} {Z : State} (hw : ∀ d ∈ tables_1, d.before a0 Z = true) : (Jvm.Cond.methodLink "java/lang/String" (27 : Nat) ({ cls := "java/lang/String", name := "<init>", desc := "([CIILjava/lang/Void;)V" } : Jvm.MethodName)).before a0 Z = true := hw _ (List.mem_of_getElem? (i := 16) rfl)
theorem w_17 {a0 : Array Value} {Z : State} (hw : ∀ d ∈ tables_1, d.before a0 Z = true) : (Jvm.Cond.instanceMethod ({ cls := "java/lang/String", name := "<init>", desc := "([CIILjava/lang/Void;)V" } : Jvm.MethodName)).before a0 Z = true := hw _ (List.mem_of_getElem? (i := 17) rfl)
theorem w_19 {a0 : Array Value} {Z : State} (hw : ∀ d ∈ tables_1, d.before a0 Z = true) : (Jvm.Cond.code ({ cls := "java/lang/String", name := "<init>", desc := "([CIILjava/lang/Void;)V" } : Jvm.MethodName) jdk_42_method_149_code (6 : Nat) (Option.none : Option Jvm.ClassFile.FieldType)).before a0 Z = true := hw _ (List.mem_of_getElem? (i := 19) rfl)
theorem w_20 {a0 : Array Value} {Z : State} (hw : ∀ d ∈ tables_1, d.before a0 Z = true) : (Jvm.Cond.methodLink "java/lang/String" (1 : Nat) ({ cls := "java/lang/Object", name := "<init>", desc := "()V" } : Jvm.MethodName)).before a0 Z = true := hw _ (List.mem_of_getElem? (i := 20) rfl)
theorem w_21 {a0 : Array Value} {Z : State} (hw : ∀ d ∈ tables_1, d.before a0 Z = true) : (Jvm.Cond.instanceMethod ({ cls := "java/lang/Object", name := "<init>", desc := "()V" } : Jvm.MethodName)).before a0 Z = true := hw _ (List.mem_of_getElem? (i := 21) rfl)
theorem w_22 {a0 : Array Value} {Z : State} (hw : ∀ d ∈ tables_1, d.before a0 Z = true) : (Jvm.Cond.code ({ cls := "java/lang/Object", name := "<init>", desc := "()V" } : Jvm.MethodName) object_method_1_code (1 : Nat) (Option.none : Option Jvm.ClassFile.FieldType)).before a0 Z = true := hw _ (List.mem_of_getElem? (i := 22) rfl)
theorem w_23 {a0 : Array Value} {Z : State} (hw : ∀ d ∈ tables_1, d.before a0 Z = true) : (Jvm.Cond.stringLink "java/lang/String" (7 : Nat) "").before a0 Z = true := hw _ (List.mem_of_getElem? (i := 23) rfl)
theorem w_24 {a0 : Array Value} {Z : State} (hw : ∀ d ∈ tables_1, d.before a0 Z = true) : (Jvm.Cond.arrayClass Jvm.ClassFile.FieldType.byte).before a0 Z = true := hw _ (List.mem_of_getElem? (i := 24) rfl)
theorem w_25 {a0 : Array Value} {Z : State} (hw : ∀ d ∈ tables_1, d.before a0 Z = true) : (Jvm.Cond.laysFinal "java/lang/String" "java/lang/String" "value" "[B").before a0 Z = true := hw _ (List.mem_of_getElem? (i := 25) rfl)
theorem w_26 {a0 : Array Value} {Z : State} (hw : ∀ d ∈ tables_1, d.before a0 Z = true) : (Jvm.Cond.laysFinal "java/lang/String" "java/lang/String" "coder" "B").before a0 Z = true := hw _ (List.mem_of_getElem? (i := 26) rfl)
theorem w_27 {a0 : Array Value} {Z : State} (hw : ∀ d ∈ tables_1, d.before a0 Z = true) : (Jvm.Cond.soleField "java/lang/String" "value").before a0 Z = true := hw _ (List.mem_of_getElem? (i := 27) rfl)
theorem w_28 {a0 : Array Value} {Z : State} (hw : ∀ d ∈ tables_1, d.before a0 Z = true) : (Jvm.Cond.soleField "java/lang/String" "coder").before a0 Z = true := hw _ (List.mem_of_getElem? (i := 28) rfl)
theorem w_29 {a0 : Array Value} {Z : State} (hw : ∀ d ∈ tables_1, d.before a0 Z = true) : (Jvm.Cond.fieldLink "java/lang/String" (9 : Nat) "java/lang/String" "value" "[B").before a0 Z = true := hw _ (List.mem_of_getElem? (i := 29) rfl)
theorem w_30 {a0 : Array Value} {Z : State} (hw : ∀ d ∈ tables_1, d.before a0 Z = true) : (Jvm.Cond.fieldLink "java/lang/String" (15 : Nat) "java/lang/String" "coder" "B").before a0 Z = true := hw _ (List.mem_of_getElem? (i := 30) rfl)
theorem w_31 {a0 : Array Value} {Z : State} (hw : ∀ d ∈ tables_1, d.before a0 Z = true) : (Jvm.Cond.methodLink "com/example/cartulary/cartulary/entity/FootprintOfPinLaw" (24 : Nat) ({ cls := "com/example/cartulary/cartulary/entity/Footprint", name := "of", desc := "(Ljava/lang/String;)J" } : Jvm.MethodName)).before a0 Z = true := hw _ (List.mem_of_getElem? (i := 31) rfl)
theorem w_32 {a0 : Array Value} {Z : State} (hw : ∀ d ∈ tables_1, d.before a0 Z = true) : (Jvm.Cond.static ({ cls := "com/example/cartulary/cartulary/entity/Footprint", name := "of", desc := "(Ljava/lang/String;)J" } : Jvm.MethodName)).before a0 Z = true := hw _ (List.mem_of_getElem? (i := 32) rfl)
theorem w_33 {a0 : Array Value} {Z : State} (hw : ∀ d ∈ tables_1, d.before a0 Z = true) : (Jvm.Cond.initialized "com/example/cartulary/cartulary/entity/Footprint").before a0 Z = true := hw _ (List.mem_of_getElem? (i := 33) rfl)
theorem w_34 {a0 : Array Value} {Z : State} (hw : ∀ d ∈ tables_1, d.before a0 Z = true) : (Jvm.Cond.code ({ cls := "com/example/cartulary/cartulary/entity/Footprint", name := "of", desc := "(Ljava/lang/String;)J" } : Jvm.MethodName) prog_25_method_3_code (3 : Nat) (Option.some Jvm.ClassFile.FieldType.long)).before a0 Z = true := hw _ (List.mem_of_getElem? (i := 34) rfl)
theorem w_35 {a0 : Array Value} {Z : State} (hw : ∀ d ∈ tables_1, d.before a0 Z = true) : (Jvm.Cond.methodLink "com/example/cartulary/cartulary/entity/Footprint" (19 : Nat) ({ cls := "java/lang/String", name := "length", desc := "()I" } : Jvm.MethodName)).before a0 Z = true := hw _ (List.mem_of_getElem? (i := 35) rfl)
theorem w_36 {a0 : Array Value} {Z : State} (hw : ∀ d ∈ tables_1, d.before a0 Z = true) : (Jvm.Cond.declares ({ cls := "java/lang/String", name := "length", desc := "()I" } : Jvm.MethodName)).before a0 Z = true := hw _ (List.mem_of_getElem? (i := 36) rfl)
theorem w_37 {a0 : Array Value} {Z : State} (hw : ∀ d ∈ tables_1, d.before a0 Z = true) : (Jvm.Cond.instanceMethod ({ cls := "java/lang/String", name := "length", desc := "()I" } : Jvm.MethodName)).before a0 Z = true := hw _ (List.mem_of_getElem? (i := 37) rfl)
theorem w_38 {a0 : Array Value} {Z : State} (hw : ∀ d ∈ tables_1, d.before a0 Z = true) : (Jvm.Cond.selects "java/lang/String" ({ cls := "java/lang/String", name := "length", desc := "()I" } : Jvm.MethodName) ({ cls := "java/lang/String", name := "length", desc := "()I" } : Jvm.MethodName)).before a0 Z = true := hw _ (List.mem_of_getElem? (i := 38) rfl)
theorem w_39 {a0 : Array Value} {Z : State} (hw : ∀ d ∈ tables_1, d.before a0 Z = true) : (Jvm.Cond.code ({ cls := "java/lang/String", name := "length", desc := "()I" } : Jvm.MethodName) jdk_42_method_54_code (1 : Nat) (Option.some Jvm.ClassFile.FieldType.int)).before a0 Z = true := hw _ (List.mem_of_getElem? (i := 39) rfl)
theorem w_40 {a0 : Array Value} {Z : State} (hw : ∀ d ∈ tables_1, d.before a0 Z = true) : (Jvm.Cond.methodLink "java/lang/String" (335 : Nat) ({ cls := "java/lang/String", name := "coder", desc := "()B" } : Jvm.MethodName)).before a0 Z = true := hw _ (List.mem_of_getElem? (i := 40) rfl)
theorem w_41 {a0 : Array Value} {Z : State} (hw : ∀ d ∈ tables_1, d.before a0 Z = true) : (Jvm.Cond.declares ({ cls := "java/lang/String", name := "coder", desc := "()B" } : Jvm.MethodName)).before a0 Z = true := hw _ (List.mem_of_getElem? (i := 41) rfl)
theorem w_42 {a0 : Array Value} {Z : State} (hw : ∀ d ∈ tables_1, d.before a0 Z = true) : (Jvm.Cond.instanceMethod ({ cls := "java/lang/String", name := "coder", desc := "()B" } : Jvm.MethodName)).before a0 Z = true := hw _ (List.mem_of_getElem? (i := 42) rfl)
theorem w_43 {a0 : Array Value} {Z : State} (hw : ∀ d ∈ tables_1, d.before a0 Z = true) : (Jvm.Cond.selects "java/lang/String" ({ cls := "java/lang/String", name := "coder", desc := "()B" } : Jvm.MethodName) ({ cls := "java/lang/String", name := "coder", desc := "()B" } : Jvm.MethodName)).before a0 Z = true := hw _ (List.mem_of_getElem? (i := 43) rfl)
theorem w_44 {a0 : Array Value} {Z : State} (hw : ∀ d ∈ tables_1, d.before a0 Z = true) : (Jvm.Cond.code ({ cls := "java/lang/String", name := "coder", desc := "()B" } : Jvm.MethodName) jdk_42_method_152_code (1 : Nat) (Option.some Jvm.ClassFile.FieldType.byte)).before a0 Z = true := hw _ (List.mem_of_getElem? (i := 44) rfl)
theorem w_45 {a0 : Array Value} {Z : State} (hw : ∀ d ∈ tables_1, d.before a0 Z = true) : (Jvm.Cond.fieldLink "java/lang/String" (38 : Nat) "java/lang/String" "COMPACT_STRINGS" "Z").before a0 Z = true := hw _ (List.mem_of_getElem? (i := 45) rfl)
theorem w_46 {a0 : Array Value} {Z : State} (hw : ∀ d ∈ tables_1, d.before a0 Z = true) : (Jvm.Cond.constantLong "com/example/cartulary/cartulary/entity/Footprint" (31 : Nat) (40 : Int64)).before a0 Z = true := hw _ (List.mem_of_getElem? (i := 46) rfl)
theorem w_47 {a0 : Array Value} {Z : State} (hw : ∀ d ∈ tables_1, d.before a0 Z = true) : (Jvm.Cond.constantLong "com/example/cartulary/cartulary/entity/FootprintOfPinLaw" (30 : Nat) (40 : Int64)).before a0 Z = true := hw _ (List.mem_of_getElem? (i := 47) rfl)
theorem w_48 {a0 : Array Value} {Z : State} (hw : ∀ d ∈ tables_1, d.before a0 Z = true) : (Jvm.Cond.methodLink "java/lang/String" (177 : Nat) ({ cls := "java/lang/StringUTF16", name := "compress", desc := "([CII)[B" } : Jvm.MethodName)).before a0 Z = true := hw _ (List.mem_of_getElem? (i := 48) rfl)
theorem w_49 {a0 : Array Value} {Z : State} (hw : ∀ d ∈ tables_1, d.before a0 Z = true) : (Jvm.Cond.static ({ cls := "java/lang/StringUTF16", name := "compress", desc := "([CII)[B" } : Jvm.MethodName)).before a0 Z = true := hw _ (List.mem_of_getElem? (i := 49) rfl)
theorem w_50 {a0 : Array Value} {Z : State} (hw : ∀ d ∈ tables_1, d.before a0 Z = true) : (Jvm.Cond.initialized "java/lang/StringUTF16").before a0 Z = true := hw _ (List.mem_of_getElem? (i := 50) rfl)
theorem w_51 {a0 : Array Value} {Z : State} (hw : ∀ d ∈ tables_1, d.before a0 Z = true) : (Jvm.Cond.code ({ cls := "java/lang/StringUTF16", name := "compress", desc := "([CII)[B" } : Jvm.MethodName) jdk_52_method_16_code (6 : Nat) (Option.some (Jvm.ClassFile.FieldType.array Jvm.ClassFile.FieldType.byte))).before a0 Z = true := hw _ (List.mem_of_getElem? (i := 51) rfl)
theorem w_52 {a0 : Array Value} {Z : State} (hw : ∀ d ∈ tables_1, d.before a0 Z = true) : (Jvm.Cond.methodLink "java/lang/StringUTF16" (115 : Nat) ({ cls := "java/lang/StringUTF16", name := "compress", desc := "([CI[BII)I" } : Jvm.MethodName)).before a0 Z = true := hw _ (List.mem_of_getElem? (i := 52) rfl)
theorem w_53 {a0 : Array Value} {Z : State} (hw : ∀ d ∈ tables_1, d.before a0 Z = true) : (Jvm.Cond.static ({ cls := "java/lang/StringUTF16", name := "compress", desc := "([CI[BII)I" } : Jvm.MethodName)).before a0 Z = true := hw _ (List.mem_of_getElem? (i := 53) rfl)
theorem w_54 {a0 : Array Value} {Z : State} (hw : ∀ d ∈ tables_1, d.before a0 Z = true) : (Jvm.Cond.code ({ cls := "java/lang/StringUTF16", name := "compress", desc := "([CI[BII)I" } : Jvm.MethodName) jdk_52_method_21_code (7 : Nat) (Option.some Jvm.ClassFile.FieldType.int)).before a0 Z = true := hw _ (List.mem_of_getElem? (i := 54) rfl)
theorem w_55 {a0 : Array Value} {Z : State} (hw : ∀ d ∈ tables_1, d.before a0 Z = true) : (Jvm.Cond.methodLink "java/lang/String" (47 : Nat) ({ cls := "java/lang/StringUTF16", name := "coderFromArrayLen", desc := "([BI)B" } : Jvm.MethodName)).before a0 Z = true := hw _ (List.mem_of_getElem? (i := 55) rfl)
theorem w_56 {a0 : Array Value} {Z : State} (hw : ∀ d ∈ tables_1, d.before a0 Z = true) : (Jvm.Cond.static ({ cls := "java/lang/StringUTF16", name := "coderFromArrayLen", desc := "([BI)B" } : Jvm.MethodName)).before a0 Z = true := hw _ (List.mem_of_getElem? (i := 56) rfl)
theorem w_57 {a0 : Array Value} {Z : State} (hw : ∀ d ∈ tables_1, d.before a0 Z = true) : (Jvm.Cond.code ({ cls := "java/lang/StringUTF16", name := "coderFromArrayLen", desc := "([BI)B" } : Jvm.MethodName) jdk_52_method_15_code (2 : Nat) (Option.some Jvm.ClassFile.FieldType.byte)).before a0 Z = true := hw _ (List.mem_of_getElem? (i := 57) rfl)
theorem w_58 {a0 : Array Value} {Z : State} (hw : ∀ d ∈ tables_1, d.before a0 Z = true) : (Jvm.Cond.methodLink "com/example/cartulary/cartulary/entity/Footprint" (25 : Nat) ({ cls := "java/lang/String", name := "charAt", desc := "(I)C" } : Jvm.MethodName)).before a0 Z = true := hw _ (List.mem_of_getElem? (i := 58) rfl)
theorem w_59 {a0 : Array Value} {Z : State} (hw : ∀ d ∈ tables_1, d.before a0 Z = true) : (Jvm.Cond.declares ({ cls := "java/lang/String", name := "charAt", desc := "(I)C" } : Jvm.MethodName)).before a0 Z = true := hw _ (List.mem_of_getElem? (i := 59) rfl)
theorem w_60 {a0 : Array Value} {Z : State} (hw : ∀ d ∈ tables_1, d.before a0 Z = true) : (Jvm.Cond.instanceMethod ({ cls := "java/lang/String", name := "charAt", desc := "(I)C" } : Jvm.MethodName)).before a0 Z = true := hw _ (List.mem_of_getElem? (i := 60) rfl)
theorem w_61 {a0 : Array Value} {Z : State} (hw : ∀ d ∈ tables_1, d.before a0 Z = true) : (Jvm.Cond.selects "java/lang/String" ({ cls := "java/lang/String", name := "charAt", desc := "(I)C" } : Jvm.MethodName) ({ cls := "java/lang/String", name := "charAt", desc := "(I)C" } : Jvm.MethodName)).before a0 Z = true := hw _ (List.mem_of_getElem? (i := 61) rfl)
theorem w_62 {a0 : Array Value} {Z : State} (hw : ∀ d ∈ tables_1, d.before a0 Z = true) : (Jvm.Cond.code ({ cls := "java/lang/String", name := "charAt", desc := "(I)C" } : Jvm.MethodName) jdk_42_method_56_code (2 : Nat) (Option.some Jvm.ClassFile.FieldType.char)).before a0 Z = true := hw _ (List.mem_of_getElem? (i := 62) rfl)
theorem w_63 {a0 : Array Value} {Z : State} (hw : ∀ d ∈ tables_1, d.before a0 Z = true) : (Jvm.Cond.methodLink "java/lang/String" (492 : Nat) ({ cls := "java/lang/String", name := "isLatin1", desc := "()Z" } : Jvm.MethodName)).before a0 Z = true := hw _ (List.mem_of_getElem? (i := 63) rfl)
theorem w_64 {a0 : Array Value} {Z : State} (hw : ∀ d ∈ tables_1, d.before a0 Z = true) : (Jvm.Cond.declares ({ cls := "java/lang/String", name := "isLatin1", desc := "()Z" } : Jvm.MethodName)).before a0 Z = true := hw _ (List.mem_of_getElem? (i := 64) rfl)
theorem w_65 {a0 : Array Value} {Z : State} (hw : ∀ d ∈ tables_1, d.before a0 Z = true) : (Jvm.Cond.instanceMethod ({ cls := "java/lang/String", name := "isLatin1", desc := "()Z" } : Jvm.MethodName)).before a0 Z = true := hw _ (List.mem_of_getElem? (i := 65) rfl)
theorem w_66 {a0 : Array Value} {Z : State} (hw : ∀ d ∈ tables_1, d.before a0 Z = true) : (Jvm.Cond.selects "java/lang/String" ({ cls := "java/lang/String", name := "isLatin1", desc := "()Z" } : Jvm.MethodName) ({ cls := "java/lang/String", name := "isLatin1", desc := "()Z" } : Jvm.MethodName)).before a0 Z = true := hw _ (List.mem_of_getElem? (i := 66) rfl)
theorem w_67 {a0 : Array Value} {Z : State} (hw : ∀ d ∈ tables_1, d.before a0 Z = true) : (Jvm.Cond.code ({ cls := "java/lang/String", name := "isLatin1", desc := "()Z" } : Jvm.MethodName) jdk_42_method_154_code (1 : Nat) (Option.some Jvm.ClassFile.FieldType.boolean)).before a0 Z = true := hw _ (List.mem_of_getElem? (i := 67) rfl)
theorem w_68 {a0 : Array Value} {Z : State} (hw : ∀ d ∈ tables_1, d.before a0 Z = true) : (Jvm.Cond.methodLink "java/lang/String" (495 : Nat) ({ cls := "java/lang/StringLatin1", name := "charAt", desc := "([BI)C" } : Jvm.MethodName)).before a0 Z = true := hw _ (List.mem_of_getElem? (i := 68) rfl)
theorem w_69 {a0 : Array Value} {Z : State} (hw : ∀ d ∈ tables_1, d.before a0 Z = true) : (Jvm.Cond.static ({ cls := "java/lang/StringLatin1", name := "charAt", desc := "([BI)C" } : Jvm.MethodName)).before a0 Z = true := hw _ (List.mem_of_getElem? (i := 69) rfl)
theorem w_70 {a0 : Array Value} {Z : State} (hw : ∀ d ∈ tables_1, d.before a0 Z = true) : (Jvm.Cond.initialized "java/lang/StringLatin1").before a0 Z = true := hw _ (List.mem_of_getElem? (i := 70) rfl)
theorem w_71 {a0 : Array Value} {Z : State} (hw : ∀ d ∈ tables_1, d.before a0 Z = true) : (Jvm.Cond.code ({ cls := "java/lang/StringLatin1", name := "charAt", desc := "([BI)C" } : Jvm.MethodName) jdk_43_method_2_code (2 : Nat) (Option.some Jvm.ClassFile.FieldType.char)).before a0 Z = true := hw _ (List.mem_of_getElem? (i := 71) rfl)
theorem w_72 {a0 : Array Value} {Z : State} (hw : ∀ d ∈ tables_1, d.before a0 Z = true) : (Jvm.Cond.methodLink "java/lang/StringLatin1" (9 : Nat) ({ cls := "java/lang/String", name := "checkIndex", desc := "(II)V" } : Jvm.MethodName)).before a0 Z = true := hw _ (List.mem_of_getElem? (i := 72) rfl)
theorem w_73 {a0 : Array Value} {Z : State} (hw : ∀ d ∈ tables_1, d.before a0 Z = true) : (Jvm.Cond.static ({ cls := "java/lang/String", name := "checkIndex", desc := "(II)V" } : Jvm.MethodName)).before a0 Z = true := hw _ (List.mem_of_getElem? (i := 73) rfl)
theorem w_74 {a0 : Array Value} {Z : State} (hw : ∀ d ∈ tables_1, d.before a0 Z = true) : (Jvm.Cond.code ({ cls := "java/lang/String", name := "checkIndex", desc := "(II)V" } : Jvm.MethodName) jdk_42_method_155_code (2 : Nat) (Option.none : Option Jvm.ClassFile.FieldType)).before a0 Z = true := hw _ (List.mem_of_getElem? (i := 74) rfl)
theorem w_75 {a0 : Array Value} {Z : State} (hw : ∀ d ∈ tables_1, d.before a0 Z = true) : (Jvm.Cond.fieldLink "java/lang/String" (1053 : Nat) "jdk/internal/util/Preconditions" "SIOOBE_FORMATTER" "Ljava/util/function/BiFunction;").before a0 Z = true := hw _ (List.mem_of_getElem? (i := 75) rfl)
theorem w_76 {a0 : Array Value} {Z : State} (hw : ∀ d ∈ tables_1, d.before a0 Z = true) : (Jvm.Cond.initialized "jdk/internal/util/Preconditions").before a0 Z = true := hw _ (List.mem_of_getElem? (i := 76) rfl)
theorem w_77 {a0 : Array Value} {Z : State} (hw : ∀ d ∈ tables_1, d.before a0 Z = true) : (Jvm.Cond.methodLink "java/lang/String" (1059 : Nat) ({ cls := "jdk/internal/util/Preconditions", name := "checkIndex", desc := "(IILjava/util/function/BiFunction;)I" } : Jvm.MethodName)).before a0 Z = true := hw _ (List.mem_of_getElem? (i := 77) rfl)
theorem w_78 {a0 : Array Value} {Z : State} (hw : ∀ d ∈ tables_1, d.before a0 Z = true) : (Jvm.Cond.static ({ cls := "jdk/internal/util/Preconditions", name := "checkIndex", desc := "(IILjava/util/function/BiFunction;)I" } : Jvm.MethodName)).before a0 Z = true := hw _ (List.mem_of_getElem? (i := 78) rfl)
theorem w_79 {a0 : Array Value} {Z : State} (hw : ∀ d ∈ tables_1, d.before a0 Z = true) : (Jvm.Cond.code ({ cls := "jdk/internal/util/Preconditions", name := "checkIndex", desc := "(IILjava/util/function/BiFunction;)I" } : Jvm.MethodName) jdk_41_method_11_code (3 : Nat) (Option.some Jvm.ClassFile.FieldType.int)).before a0 Z = true := hw _ (List.mem_of_getElem? (i := 79) rfl)
theorem w_80 {a0 : Array Value} {Z : State} (hw : ∀ d ∈ tables_1, d.before a0 Z = true) : (Jvm.Cond.methodLink "java/lang/StringUTF16" (119 : Nat) ({ cls := "java/lang/StringUTF16", name := "toBytes", desc := "([CII)[B" } : Jvm.MethodName)).before a0 Z = true := hw _ (List.mem_of_getElem? (i := 80) rfl)
theorem w_81 {a0 : Array Value} {Z : State} (hw : ∀ d ∈ tables_1, d.before a0 Z = true) : (Jvm.Cond.static ({ cls := "java/lang/StringUTF16", name := "toBytes", desc := "([CII)[B" } : Jvm.MethodName)).before a0 Z = true := hw _ (List.mem_of_getElem? (i := 81) rfl)
theorem w_82 {a0 : Array Value} {Z : State} (hw : ∀ d ∈ tables_1, d.before a0 Z = true) : (Jvm.Cond.code ({ cls := "java/lang/StringUTF16", name := "toBytes", desc := "([CII)[B" } : Jvm.MethodName) jdk_52_method_14_code (5 : Nat) (Option.some (Jvm.ClassFile.FieldType.array Jvm.ClassFile.FieldType.byte))).before a0 Z = true := hw _ (List.mem_of_getElem? (i := 82) rfl)
theorem w_83 {a0 : Array Value} {Z : State} (hw : ∀ d ∈ tables_1, d.before a0 Z = true) : (Jvm.Cond.methodLink "java/lang/StringUTF16" (107 : Nat) ({ cls := "java/lang/StringUTF16", name := "newBytesFor", desc := "(I)[B" } : Jvm.MethodName)).before a0 Z = true := hw _ (List.mem_of_getElem? (i := 83) rfl)
theorem w_84 {a0 : Array Value} {Z : State} (hw : ∀ d ∈ tables_1, d.before a0 Z = true) : (Jvm.Cond.static ({ cls := "java/lang/StringUTF16", name := "newBytesFor", desc := "(I)[B" } : Jvm.MethodName)).before a0 Z = true := hw _ (List.mem_of_getElem? (i := 84) rfl)
theorem w_85 {a0 : Array Value} {Z : State} (hw : ∀ d ∈ tables_1, d.before a0 Z = true) : (Jvm.Cond.code ({ cls := "java/lang/StringUTF16", name := "newBytesFor", desc := "(I)[B" } : Jvm.MethodName) jdk_52_method_2_code (1 : Nat) (Option.some (Jvm.ClassFile.FieldType.array Jvm.ClassFile.FieldType.byte))).before a0 Z = true := hw _ (List.mem_of_getElem? (i := 85) rfl)
theorem w_86 {a0 : Array Value} {Z : State} (hw : ∀ d ∈ tables_1, d.before a0 Z = true) : (Jvm.Cond.methodLink "java/lang/StringUTF16" (11 : Nat) ({ cls := "java/lang/StringUTF16", name := "newBytesLength", desc := "(I)I" } : Jvm.MethodName)).before a0 Z = true := hw _ (List.mem_of_getElem? (i := 86) rfl)
theorem w_87 {a0 : Array Value} {Z : State} (hw : ∀ d ∈ tables_1, d.before a0 Z = true) : (Jvm.Cond.static ({ cls := "java/lang/StringUTF16", name := "newBytesLength", desc := "(I)I" } : Jvm.MethodName)).before a0 Z = true := hw _ (List.mem_of_getElem? (i := 87) rfl)
theorem w_88 {a0 : Array Value} {Z : State} (hw : ∀ d ∈ tables_1, d.before a0 Z = true) : (Jvm.Cond.code ({ cls := "java/lang/StringUTF16", name := "newBytesLength", desc := "(I)I" } : Jvm.MethodName) jdk_52_method_3_code (1 : Nat) (Option.some Jvm.ClassFile.FieldType.int)).before a0 Z = true := hw _ (List.mem_of_getElem? (i := 88) rfl)
theorem w_89 {a0 : Array Value} {Z : State} (hw : ∀ d ∈ tables_1, d.before a0 Z = true) : (Jvm.Cond.constant "java/lang/StringUTF16" (20 : Nat) (1073741823 : Int32)).before a0 Z = true := hw _ (List.mem_of_getElem? (i := 89) rfl)
theorem w_90 {a0 : Array Value} {Z : State} (hw : ∀ d ∈ tables_1, d.before a0 Z = true) : (Jvm.Cond.methodLink "java/lang/StringUTF16" (111 : Nat) ({ cls := "java/lang/StringUTF16", name := "putChar", desc := "([BII)V" } : Jvm.MethodName)).before a0 Z = true := hw _ (List.mem_of_getElem? (i := 90) rfl)
theorem w_91 {a0 : Array Value} {Z : State} (hw : ∀ d ∈ tables_1, d.before a0 Z = true) : (Jvm.Cond.static ({ cls := "java/lang/StringUTF16", name := "putChar", desc := "([BII)V" } : Jvm.MethodName)).before a0 Z = true := hw _ (List.mem_of_getElem? (i := 91) rfl)
theorem w_92 {a0 : Array Value} {Z : State} (hw : ∀ d ∈ tables_1, d.before a0 Z = true) : (Jvm.Cond.code ({ cls := "java/lang/StringUTF16", name := "putChar", desc := "([BII)V" } : Jvm.MethodName) jdk_52_method_4_code (3 : Nat) (Option.none : Option Jvm.ClassFile.FieldType)).before a0 Z = true := hw _ (List.mem_of_getElem? (i := 92) rfl)
theorem w_93 {a0 : Array Value} {Z : State} (hw : ∀ d ∈ tables_1, d.before a0 Z = true) : (Jvm.Cond.fieldLink "java/lang/StringUTF16" (44 : Nat) "java/lang/StringUTF16" "$assertionsDisabled" "Z").before a0 Z = true := hw _ (List.mem_of_getElem? (i := 93) rfl)
theorem w_94 {a0 : Array Value} {Z : State} (hw : ∀ d ∈ tables_1, d.before a0 Z = true) : (Jvm.Cond.fieldLink "java/lang/StringUTF16" (59 : Nat) "java/lang/StringUTF16" "HI_BYTE_SHIFT" "I").before a0 Z = true := hw _ (List.mem_of_getElem? (i := 94) rfl)
theorem w_95 {a0 : Array Value} {Z : State} (hw : ∀ d ∈ tables_1, d.before a0 Z = true) : (Jvm.Cond.fieldLink "java/lang/StringUTF16" (63 : Nat) "java/lang/StringUTF16" "LO_BYTE_SHIFT" "I").before a0 Z = true := hw _ (List.mem_of_getElem? (i := 95) rfl)
theorem w_96 {a0 : Array Value} {Z : State} (hw : ∀ d ∈ tables_1, d.before a0 Z = true) : (Jvm.Cond.methodLink "java/lang/StringUTF16" (71 : Nat) ({ cls := "java/lang/StringUTF16", name := "getChar", desc := "([BI)C" } : Jvm.MethodName)).before a0 Z = true := hw _ (List.mem_of_getElem? (i := 96) rfl)
theorem w_97 {a0 : Array Value} {Z : State} (hw : ∀ d ∈ tables_1, d.before a0 Z = true) : (Jvm.Cond.static ({ cls := "java/lang/StringUTF16", name := "getChar", desc := "([BI)C" } : Jvm.MethodName)).before a0 Z = true := hw _ (List.mem_of_getElem? (i := 97) rfl)
theorem w_98 {a0 : Array Value} {Z : State} (hw : ∀ d ∈ tables_1, d.before a0 Z = true) : (Jvm.Cond.code ({ cls := "java/lang/StringUTF16", name := "getChar", desc := "([BI)C" } : Jvm.MethodName) jdk_52_method_5_code (2 : Nat) (Option.some Jvm.ClassFile.FieldType.char)).before a0 Z = true := hw _ (List.mem_of_getElem? (i := 98) rfl)
theorem w_99 {a0 : Array Value} {Z : State} (hw : ∀ d ∈ tables_1, d.before a0 Z = true) : (Jvm.Cond.methodLink "java/lang/String" (498 : Nat) ({ cls := "java/lang/StringUTF16", name := "charAt", desc := "([BI)C" } : Jvm.MethodName)).before a0 Z = true := hw _ (List.mem_of_getElem? (i := 99) rfl)
theorem w_100 {a0 : Array Value} {Z : State} (hw : ∀ d ∈ tables_1, d.before a0 Z = true) : (Jvm.Cond.static ({ cls := "java/lang/StringUTF16", name := "charAt", desc := "([BI)C" } : Jvm.MethodName)).before a0 Z = true := hw _ (List.mem_of_getElem? (i := 100) rfl)
theorem w_101 {a0 : Array Value} {Z : State} (hw : ∀ d ∈ tables_1, d.before a0 Z = true) : (Jvm.Cond.code ({ cls := "java/lang/StringUTF16", name := "charAt", desc := "([BI)C" } : Jvm.MethodName) jdk_52_method_83_code (2 : Nat) (Option.some Jvm.ClassFile.FieldType.char)).before a0 Z = true := hw _ (List.mem_of_getElem? (i := 101) rfl)
theorem w_102 {a0 : Array Value} {Z : State} (hw : ∀ d ∈ tables_1, d.before a0 Z = true) : (Jvm.Cond.methodLink "java/lang/StringUTF16" (67 : Nat) ({ cls := "java/lang/StringUTF16", name := "checkIndex", desc := "(I[B)V" } : Jvm.MethodName)).before a0 Z = true := hw _ (List.mem_of_getElem? (i := 102) rfl)
theorem w_103 {a0 : Array Value} {Z : State} (hw : ∀ d ∈ tables_1, d.before a0 Z = true) : (Jvm.Cond.static ({ cls := "java/lang/StringUTF16", name := "checkIndex", desc := "(I[B)V" } : Jvm.MethodName)).before a0 Z = true := hw _ (List.mem_of_getElem? (i := 103) rfl)
theorem w_104 {a0 : Array Value} {Z : State} (hw : ∀ d ∈ tables_1, d.before a0 Z = true) : (Jvm.Cond.code ({ cls := "java/lang/StringUTF16", name := "checkIndex", desc := "(I[B)V" } : Jvm.MethodName) jdk_52_method_91_code (2 : Nat) (Option.none : Option Jvm.ClassFile.FieldType)).before a0 Z = true := hw _ (List.mem_of_getElem? (i := 104) rfl)
theorem w_105 {a0 : Array Value} {Z : State} (hw : ∀ d ∈ tables_1, d.before a0 Z = true) : (Jvm.Cond.methodLink "java/lang/StringUTF16" (48 : Nat) ({ cls := "java/lang/StringUTF16", name := "length", desc := "([B)I" } : Jvm.MethodName)).before a0 Z = true := hw _ (List.mem_of_getElem? (i := 105) rfl)
theorem w_106 {a0 : Array Value} {Z : State} (hw : ∀ d ∈ tables_1, d.before a0 Z = true) : (Jvm.Cond.static ({ cls := "java/lang/StringUTF16", name := "length", desc := "([B)I" } : Jvm.MethodName)).before a0 Z = true := hw _ (List.mem_of_getElem? (i := 106) rfl)
theorem w_107 {a0 : Array Value} {Z : State} (hw : ∀ d ∈ tables_1, d.before a0 Z = true) : (Jvm.Cond.code ({ cls := "java/lang/StringUTF16", name := "length", desc := "([B)I" } : Jvm.MethodName) jdk_52_method_6_code (1 : Nat) (Option.some Jvm.ClassFile.FieldType.int)).before a0 Z = true := hw _ (List.mem_of_getElem? (i := 107) rfl)
theorem w_108 {a0 : Array Value} {Z : State} (hw : ∀ d ∈ tables_1, d.before a0 Z = true) : (Jvm.Cond.methodLink "java/lang/StringUTF16" (414 : Nat) ({ cls := "java/lang/String", name := "checkIndex", desc := "(II)V" } : Jvm.MethodName)).before a0 Z = true := hw _ (List.mem_of_getElem? (i := 108) rfl)
theorem w_109 {a0 : Array Value} {Z : State} (hw : ∀ d ∈ tables_1, d.before a0 Z = true) : (Jvm.Cond.constantLong "com/example/cartulary/cartulary/entity/Footprint" (33 : Nat) (2 : Int64)).before a0 Z = true := hw _ (List.mem_of_getElem? (i := 109) rfl)
theorem w_110 {a0 : Array Value} {Z : State} (hw : ∀ d ∈ tables_1, d.before a0 Z = true) : (Jvm.Cond.constantLong "com/example/cartulary/cartulary/entity/FootprintOfPinLaw" (32 : Nat) (2 : Int64)).before a0 Z = true := hw _ (List.mem_of_getElem? (i := 110) rfl)
theorem d1_0 : decode method_2_code 0 = .ok (.iload_n 0, 1) := by decide +kernel
theorem d1_1 : decode method_2_code 1 = .ok (.bipush 16, 2) := by decide +kernel
theorem d1_3 : decode method_2_code 3 = .ok (.iushr, 1) := by decide +kernel
theorem d1_4 : decode method_2_code 4 = .ok (.iconst 1, 1) := by decide +kernel
theorem d1_5 : decode method_2_code 5 = .ok (.iand, 1) := by decide +kernel
theorem d1_6 : decode method_2_code 6 = .ok (.ifCond .eq 11, 3) := by decide +kernel
theorem d1_9 : decode method_2_code 9 = .ok (.iload_n 0, 1) := by decide +kernel
theorem d1_10 : decode method_2_code 10 = .ok (.sipush 255, 3) := by decide +kernel
theorem d1_13 : decode method_2_code 13 = .ok (.iand, 1) := by decide +kernel
theorem d1_14 : decode method_2_code 14 = .ok (.goto 7, 3) := by decide +kernel
theorem d1_17 : decode method_2_code 17 = .ok (.iload_n 0, 1) := by decide +kernel
theorem d1_18 : decode method_2_code 18 = .ok (.ldc 7, 2) := by decide +kernel
theorem d1_20 : decode method_2_code 20 = .ok (.iand, 1) := by decide +kernel
theorem d1_21 : decode method_2_code 21 = .ok (.i2c, 1) := by decide +kernel
theorem d1_22 : decode method_2_code 22 = .ok (.ireturn, 1) := by decide +kernel
theorem d2_0 : decode method_3_code 0 = .ok (.iload_n 0, 1) := by decide +kernel
theorem d2_1 : decode method_3_code 1 = .ok (.ifCond .ne 7, 3) := by decide +kernel
theorem d2_4 : decode method_3_code 4 = .ok (.iconst 0, 1) := by decide +kernel
theorem d2_5 : decode method_3_code 5 = .ok (.newarray .char, 2) := by decide +kernel
theorem d2_7 : decode method_3_code 7 = .ok (.areturn, 1) := by decide +kernel
theorem d2_8 : decode method_3_code 8 = .ok (.iload_n 0, 1) := by decide +kernel
theorem d2_9 : decode method_3_code 9 = .ok (.iconst 1, 1) := by decide +kernel
theorem d2_10 : decode method_3_code 10 = .ok (.if_icmp .ne 11, 3) := by decide +kernel
theorem d2_13 : decode method_3_code 13 = .ok (.iconst 1, 1) := by decide +kernel
theorem d2_14 : decode method_3_code 14 = .ok (.newarray .char, 2) := by decide +kernel
theorem d2_16 : decode method_3_code 16 = .ok (.dup, 1) := by decide +kernel
theorem d2_17 : decode method_3_code 17 = .ok (.iconst 0, 1) := by decide +kernel
theorem d2_18 : decode method_3_code 18 = .ok (.iload_n 1, 1) := by decide +kernel
theorem d2_19 : decode method_3_code 19 = .ok (.castore, 1) := by decide +kernel
theorem d2_20 : decode method_3_code 20 = .ok (.areturn, 1) := by decide +kernel
theorem d2_21 : decode method_3_code 21 = .ok (.iload_n 0, 1) := by decide +kernel
theorem d2_22 : decode method_3_code 22 = .ok (.iconst 2, 1) := by decide +kernel
theorem d2_23 : decode method_3_code 23 = .ok (.if_icmp .ne 15, 3) := by decide +kernel
theorem d2_26 : decode method_3_code 26 = .ok (.iconst 2, 1) := by decide +kernel
theorem d2_27 : decode method_3_code 27 = .ok (.newarray .char, 2) := by decide +kernel
theorem d2_29 : decode method_3_code 29 = .ok (.dup, 1) := by decide +kernel
theorem d2_30 : decode method_3_code 30 = .ok (.iconst 0, 1) := by decide +kernel
theorem d2_31 : decode method_3_code 31 = .ok (.iload_n 1, 1) := by decide +kernel
theorem d2_32 : decode method_3_code 32 = .ok (.castore, 1) := by decide +kernel
theorem d2_33 : decode method_3_code 33 = .ok (.dup, 1) := by decide +kernel
theorem d2_34 : decode method_3_code 34 = .ok (.iconst 1, 1) := by decide +kernel
theorem d2_35 : decode method_3_code 35 = .ok (.iload_n 2, 1) := by decide +kernel
theorem d2_36 : decode method_3_code 36 = .ok (.castore, 1) := by decide +kernel
theorem d2_37 : decode method_3_code 37 = .ok (.areturn, 1) := by decide +kernel
theorem d2_38 : decode method_3_code 38 = .ok (.iload_n 0, 1) := by decide +kernel
theorem d2_39 : decode method_3_code 39 = .ok (.iconst 3, 1) := by decide +kernel
theorem d2_40 : decode method_3_code 40 = .ok (.if_icmp .ne 19, 3) := by decide +kernel
theorem d2_43 : decode method_3_code 43 = .ok (.iconst 3, 1) := by decide +kernel
theorem d2_44 : decode method_3_code 44 = .ok (.newarray .char, 2) := by decide +kernel
theorem d2_46 : decode method_3_code 46 = .ok (.dup, 1) := by decide +kernel
theorem d2_47 : decode method_3_code 47 = .ok (.iconst 0, 1) := by decide +kernel
theorem d2_48 : decode method_3_code 48 = .ok (.iload_n 1, 1) := by decide +kernel
theorem d2_49 : decode method_3_code 49 = .ok (.castore, 1) := by decide +kernel
theorem d2_50 : decode method_3_code 50 = .ok (.dup, 1) := by decide +kernel
theorem d2_51 : decode method_3_code 51 = .ok (.iconst 1, 1) := by decide +kernel
theorem d2_52 : decode method_3_code 52 = .ok (.iload_n 2, 1) := by decide +kernel
theorem d2_53 : decode method_3_code 53 = .ok (.castore, 1) := by decide +kernel
theorem d2_54 : decode method_3_code 54 = .ok (.dup, 1) := by decide +kernel
theorem d2_55 : decode method_3_code 55 = .ok (.iconst 2, 1) := by decide +kernel
theorem d2_56 : decode method_3_code 56 = .ok (.iload_n 3, 1) := by decide +kernel
theorem d2_57 : decode method_3_code 57 = .ok (.castore, 1) := by decide +kernel
theorem d2_58 : decode method_3_code 58 = .ok (.areturn, 1) := by decide +kernel
theorem d2_59 : decode method_3_code 59 = .ok (.iload_n 0, 1) := by decide +kernel
theorem d2_60 : decode method_3_code 60 = .ok (.iconst 4, 1) := by decide +kernel
theorem d2_61 : decode method_3_code 61 = .ok (.if_icmp .ne 24, 3) := by decide +kernel
theorem d2_64 : decode method_3_code 64 = .ok (.iconst 4, 1) := by decide +kernel
theorem d2_65 : decode method_3_code 65 = .ok (.newarray .char, 2) := by decide +kernel
theorem d2_67 : decode method_3_code 67 = .ok (.dup, 1) := by decide +kernel
theorem d2_68 : decode method_3_code 68 = .ok (.iconst 0, 1) := by decide +kernel
theorem d2_69 : decode method_3_code 69 = .ok (.iload_n 1, 1) := by decide +kernel
theorem d2_70 : decode method_3_code 70 = .ok (.castore, 1) := by decide +kernel
theorem d2_71 : decode method_3_code 71 = .ok (.dup, 1) := by decide +kernel
theorem d2_72 : decode method_3_code 72 = .ok (.iconst 1, 1) := by decide +kernel
theorem d2_73 : decode method_3_code 73 = .ok (.iload_n 2, 1) := by decide +kernel
theorem d2_74 : decode method_3_code 74 = .ok (.castore, 1) := by decide +kernel
theorem d2_75 : decode method_3_code 75 = .ok (.dup, 1) := by decide +kernel
theorem d2_76 : decode method_3_code 76 = .ok (.iconst 2, 1) := by decide +kernel
theorem d2_77 : decode method_3_code 77 = .ok (.iload_n 3, 1) := by decide +kernel
theorem d2_78 : decode method_3_code 78 = .ok (.castore, 1) := by decide +kernel
theorem d2_79 : decode method_3_code 79 = .ok (.dup, 1) := by decide +kernel
theorem d2_80 : decode method_3_code 80 = .ok (.iconst 3, 1) := by decide +kernel
theorem d2_81 : decode method_3_code 81 = .ok (.iload 4, 2) := by decide +kernel
theorem d2_83 : decode method_3_code 83 = .ok (.castore, 1) := by decide +kernel
theorem d2_84 : decode method_3_code 84 = .ok (.areturn, 1) := by decide +kernel
theorem d2_85 : decode method_3_code 85 = .ok (.iconst 5, 1) := by decide +kernel
theorem d2_86 : decode method_3_code 86 = .ok (.newarray .char, 2) := by decide +kernel
theorem d2_88 : decode method_3_code 88 = .ok (.dup, 1) := by decide +kernel
theorem d2_89 : decode method_3_code 89 = .ok (.iconst 0, 1) := by decide +kernel
theorem d2_90 : decode method_3_code 90 = .ok (.iload_n 1, 1) := by decide +kernel
theorem d2_91 : decode method_3_code 91 = .ok (.castore, 1) := by decide +kernel
theorem d2_92 : decode method_3_code 92 = .ok (.dup, 1) := by decide +kernel
theorem d2_93 : decode method_3_code 93 = .ok (.iconst 1, 1) := by decide +kernel
theorem d2_94 : decode method_3_code 94 = .ok (.iload_n 2, 1) := by decide +kernel
theorem d2_95 : decode method_3_code 95 = .ok (.castore, 1) := by decide +kernel
theorem d2_96 : decode method_3_code 96 = .ok (.dup, 1) := by decide +kernel
theorem d2_97 : decode method_3_code 97 = .ok (.iconst 2, 1) := by decide +kernel
theorem d2_98 : decode method_3_code 98 = .ok (.iload_n 3, 1) := by decide +kernel
theorem d2_99 : decode method_3_code 99 = .ok (.castore, 1) := by decide +kernel
theorem d2_100 : decode method_3_code 100 = .ok (.dup, 1) := by decide +kernel
theorem d2_101 : decode method_3_code 101 = .ok (.iconst 3, 1) := by decide +kernel
theorem d2_102 : decode method_3_code 102 = .ok (.iload 4, 2) := by decide +kernel
theorem d2_104 : decode method_3_code 104 = .ok (.castore, 1) := by decide +kernel
theorem d2_105 : decode method_3_code 105 = .ok (.dup, 1) := by decide +kernel
theorem d2_106 : decode method_3_code 106 = .ok (.iconst 4, 1) := by decide +kernel
theorem d2_107 : decode method_3_code 107 = .ok (.iload 5, 2) := by decide +kernel
theorem d2_109 : decode method_3_code 109 = .ok (.castore, 1) := by decide +kernel
theorem d2_110 : decode method_3_code 110 = .ok (.areturn, 1) := by decide +kernel
theorem d3_0 : decode jdk_42_method_3_code 0 = .ok (.aload_n 0, 1) := by decide +kernel
theorem d3_1 : decode jdk_42_method_3_code 1 = .ok (.aload_n 1, 1) := by decide +kernel
theorem d3_2 : decode jdk_42_method_3_code 2 = .ok (.iconst 0, 1) := by decide +kernel
theorem d3_3 : decode jdk_42_method_3_code 3 = .ok (.aload_n 1, 1) := by decide +kernel
theorem d3_4 : decode jdk_42_method_3_code 4 = .ok (.arraylength, 1) := by decide +kernel
theorem d3_5 : decode jdk_42_method_3_code 5 = .ok (.aconst_null, 1) := by decide +kernel
theorem d3_6 : decode jdk_42_method_3_code 6 = .ok (.invokespecial 27, 3) := by decide +kernel
theorem d3_9 : decode jdk_42_method_3_code 9 = .ok (.return_, 1) := by decide +kernel
theorem d4_0 : decode jdk_42_method_149_code 0 = .ok (.aload_n 0, 1) := by decide +kernel
theorem d4_1 : decode jdk_42_method_149_code 1 = .ok (.invokespecial 1, 3) := by decide +kernel
theorem d4_4 : decode jdk_42_method_149_code 4 = .ok (.iload_n 3, 1) := by decide +kernel
theorem d4_5 : decode jdk_42_method_149_code 5 = .ok (.ifCond .ne 22, 3) := by decide +kernel
theorem d4_8 : decode jdk_42_method_149_code 8 = .ok (.aload_n 0, 1) := by decide +kernel
theorem d4_9 : decode jdk_42_method_149_code 9 = .ok (.ldc 7, 2) := by decide +kernel
theorem d4_11 : decode jdk_42_method_149_code 11 = .ok (.getfield 9, 3) := by decide +kernel
theorem d4_14 : decode jdk_42_method_149_code 14 = .ok (.putfield 9, 3) := by decide +kernel
theorem d4_17 : decode jdk_42_method_149_code 17 = .ok (.aload_n 0, 1) := by decide +kernel
theorem d4_18 : decode jdk_42_method_149_code 18 = .ok (.ldc 7, 2) := by decide +kernel
theorem d4_20 : decode jdk_42_method_149_code 20 = .ok (.getfield 15, 3) := by decide +kernel
theorem d4_23 : decode jdk_42_method_149_code 23 = .ok (.putfield 15, 3) := by decide +kernel
theorem d4_26 : decode jdk_42_method_149_code 26 = .ok (.return_, 1) := by decide +kernel
theorem d4_27 : decode jdk_42_method_149_code 27 = .ok (.getstatic 38, 3) := by decide +kernel
theorem d4_30 : decode jdk_42_method_149_code 30 = .ok (.ifCond .eq 28, 3) := by decide +kernel
theorem d4_33 : decode jdk_42_method_149_code 33 = .ok (.aload_n 1, 1) := by decide +kernel
theorem d4_34 : decode jdk_42_method_149_code 34 = .ok (.iload_n 2, 1) := by decide +kernel
theorem d4_35 : decode jdk_42_method_149_code 35 = .ok (.iload_n 3, 1) := by decide +kernel
theorem d4_36 : decode jdk_42_method_149_code 36 = .ok (.invokestatic 177, 3) := by decide +kernel
theorem d4_39 : decode jdk_42_method_149_code 39 = .ok (.astore 5, 2) := by decide +kernel
theorem d4_41 : decode jdk_42_method_149_code 41 = .ok (.aload_n 0, 1) := by decide +kernel
theorem d4_42 : decode jdk_42_method_149_code 42 = .ok (.aload 5, 2) := by decide +kernel
theorem d4_44 : decode jdk_42_method_149_code 44 = .ok (.iload_n 3, 1) := by decide +kernel
theorem d4_45 : decode jdk_42_method_149_code 45 = .ok (.invokestatic 47, 3) := by decide +kernel
theorem d4_48 : decode jdk_42_method_149_code 48 = .ok (.putfield 15, 3) := by decide +kernel
theorem d4_51 : decode jdk_42_method_149_code 51 = .ok (.aload_n 0, 1) := by decide +kernel
theorem d4_52 : decode jdk_42_method_149_code 52 = .ok (.aload 5, 2) := by decide +kernel
theorem d4_54 : decode jdk_42_method_149_code 54 = .ok (.putfield 9, 3) := by decide +kernel
theorem d4_57 : decode jdk_42_method_149_code 57 = .ok (.return_, 1) := by decide +kernel
theorem d6_0 : decode prog_25_method_3_code 0 = .ok (.iconst 1, 1) := by decide +kernel
theorem d6_1 : decode prog_25_method_3_code 1 = .ok (.istore_n 1, 1) := by decide +kernel
theorem d6_2 : decode prog_25_method_3_code 2 = .ok (.iconst 0, 1) := by decide +kernel
theorem d6_3 : decode prog_25_method_3_code 3 = .ok (.istore_n 2, 1) := by decide +kernel
theorem d6_4 : decode prog_25_method_3_code 4 = .ok (.iload_n 2, 1) := by decide +kernel
theorem d6_5 : decode prog_25_method_3_code 5 = .ok (.aload_n 0, 1) := by decide +kernel
theorem d6_6 : decode prog_25_method_3_code 6 = .ok (.invokevirtual 19, 3) := by decide +kernel
theorem d6_9 : decode prog_25_method_3_code 9 = .ok (.if_icmp .ge 30, 3) := by decide +kernel
theorem d6_12 : decode prog_25_method_3_code 12 = .ok (.iload_n 1, 1) := by decide +kernel
theorem d6_13 : decode prog_25_method_3_code 13 = .ok (.ifCond .eq 26, 3) := by decide +kernel
theorem d6_16 : decode prog_25_method_3_code 16 = .ok (.aload_n 0, 1) := by decide +kernel
theorem d6_17 : decode prog_25_method_3_code 17 = .ok (.iload_n 2, 1) := by decide +kernel
theorem d6_18 : decode prog_25_method_3_code 18 = .ok (.invokevirtual 25, 3) := by decide +kernel
theorem d6_21 : decode prog_25_method_3_code 21 = .ok (.sipush 255, 3) := by decide +kernel
theorem d6_24 : decode prog_25_method_3_code 24 = .ok (.if_icmp .gt 7, 3) := by decide +kernel
theorem d6_27 : decode prog_25_method_3_code 27 = .ok (.iconst 1, 1) := by decide +kernel
theorem d6_28 : decode prog_25_method_3_code 28 = .ok (.goto 4, 3) := by decide +kernel
theorem d6_31 : decode prog_25_method_3_code 31 = .ok (.iconst 0, 1) := by decide +kernel
theorem d6_32 : decode prog_25_method_3_code 32 = .ok (.istore_n 1, 1) := by decide +kernel
theorem d6_33 : decode prog_25_method_3_code 33 = .ok (.iinc 2 1, 3) := by decide +kernel
theorem d6_36 : decode prog_25_method_3_code 36 = .ok (.goto (-32), 3) := by decide +kernel
theorem d6_39 : decode prog_25_method_3_code 39 = .ok (.ldc2_w 31, 3) := by decide +kernel
theorem d6_42 : decode prog_25_method_3_code 42 = .ok (.iload_n 1, 1) := by decide +kernel
theorem d6_43 : decode prog_25_method_3_code 43 = .ok (.ifCond .eq 7, 3) := by decide +kernel
theorem d6_46 : decode prog_25_method_3_code 46 = .ok (.lconst 1, 1) := by decide +kernel
theorem d6_47 : decode prog_25_method_3_code 47 = .ok (.goto 6, 3) := by decide +kernel
theorem d6_50 : decode prog_25_method_3_code 50 = .ok (.ldc2_w 33, 3) := by decide +kernel
theorem d6_53 : decode prog_25_method_3_code 53 = .ok (.aload_n 0, 1) := by decide +kernel
theorem d6_54 : decode prog_25_method_3_code 54 = .ok (.invokevirtual 19, 3) := by decide +kernel
theorem d6_57 : decode prog_25_method_3_code 57 = .ok (.i2l, 1) := by decide +kernel
theorem d6_58 : decode prog_25_method_3_code 58 = .ok (.lmul, 1) := by decide +kernel
theorem d6_59 : decode prog_25_method_3_code 59 = .ok (.ladd, 1) := by decide +kernel
theorem d6_60 : decode prog_25_method_3_code 60 = .ok (.lreturn, 1) := by decide +kernel
theorem d7_0 : decode jdk_42_method_54_code 0 = .ok (.aload_n 0, 1) := by decide +kernel
theorem d7_1 : decode jdk_42_method_54_code 1 = .ok (.getfield 9, 3) := by decide +kernel
theorem d7_4 : decode jdk_42_method_54_code 4 = .ok (.arraylength, 1) := by decide +kernel
theorem d7_5 : decode jdk_42_method_54_code 5 = .ok (.aload_n 0, 1) := by decide +kernel
theorem d7_6 : decode jdk_42_method_54_code 6 = .ok (.invokevirtual 335, 3) := by decide +kernel
theorem d7_9 : decode jdk_42_method_54_code 9 = .ok (.ishr, 1) := by decide +kernel
theorem d7_10 : decode jdk_42_method_54_code 10 = .ok (.ireturn, 1) := by decide +kernel
theorem d8_0 : decode jdk_42_method_152_code 0 = .ok (.getstatic 38, 3) := by decide +kernel
theorem d8_3 : decode jdk_42_method_152_code 3 = .ok (.ifCond .eq 10, 3) := by decide +kernel
theorem d8_6 : decode jdk_42_method_152_code 6 = .ok (.aload_n 0, 1) := by decide +kernel
theorem d8_7 : decode jdk_42_method_152_code 7 = .ok (.getfield 15, 3) := by decide +kernel
theorem d8_10 : decode jdk_42_method_152_code 10 = .ok (.goto 4, 3) := by decide +kernel
theorem d8_14 : decode jdk_42_method_152_code 14 = .ok (.ireturn, 1) := by decide +kernel
theorem d9_0 : decode jdk_52_method_16_code 0 = .ok (.iload_n 2, 1) := by decide +kernel
theorem d9_1 : decode jdk_52_method_16_code 1 = .ok (.newarray .byte, 2) := by decide +kernel
theorem d9_3 : decode jdk_52_method_16_code 3 = .ok (.astore_n 3, 1) := by decide +kernel
theorem d9_4 : decode jdk_52_method_16_code 4 = .ok (.aload_n 0, 1) := by decide +kernel
theorem d9_5 : decode jdk_52_method_16_code 5 = .ok (.iload_n 1, 1) := by decide +kernel
theorem d9_6 : decode jdk_52_method_16_code 6 = .ok (.aload_n 3, 1) := by decide +kernel
theorem d9_7 : decode jdk_52_method_16_code 7 = .ok (.iconst 0, 1) := by decide +kernel
theorem d9_8 : decode jdk_52_method_16_code 8 = .ok (.iload_n 2, 1) := by decide +kernel
theorem d9_9 : decode jdk_52_method_16_code 9 = .ok (.invokestatic 115, 3) := by decide +kernel
theorem d9_12 : decode jdk_52_method_16_code 12 = .ok (.istore 4, 2) := by decide +kernel
theorem d9_14 : decode jdk_52_method_16_code 14 = .ok (.iload 4, 2) := by decide +kernel
theorem d9_16 : decode jdk_52_method_16_code 16 = .ok (.iload_n 2, 1) := by decide +kernel
theorem d9_17 : decode jdk_52_method_16_code 17 = .ok (.if_icmp .eq 40, 3) := by decide +kernel
theorem d9_20 : decode jdk_52_method_16_code 20 = .ok (.aload_n 0, 1) := by decide +kernel
theorem d9_21 : decode jdk_52_method_16_code 21 = .ok (.iload_n 1, 1) := by decide +kernel
theorem d9_22 : decode jdk_52_method_16_code 22 = .ok (.iload_n 2, 1) := by decide +kernel
theorem d9_23 : decode jdk_52_method_16_code 23 = .ok (.invokestatic 119, 3) := by decide +kernel
theorem d9_26 : decode jdk_52_method_16_code 26 = .ok (.astore 5, 2) := by decide +kernel
theorem d9_28 : decode jdk_52_method_16_code 28 = .ok (.aload 5, 2) := by decide +kernel
theorem d9_30 : decode jdk_52_method_16_code 30 = .ok (.iload 4, 2) := by decide +kernel
theorem d9_32 : decode jdk_52_method_16_code 32 = .ok (.invokestatic 71, 3) := by decide +kernel
theorem d9_35 : decode jdk_52_method_16_code 35 = .ok (.sipush 255, 3) := by decide +kernel
theorem d9_38 : decode jdk_52_method_16_code 38 = .ok (.if_icmp .gt 16, 3) := by decide +kernel
theorem d9_54 : decode jdk_52_method_16_code 54 = .ok (.aload 5, 2) := by decide +kernel
theorem d9_56 : decode jdk_52_method_16_code 56 = .ok (.areturn, 1) := by decide +kernel
theorem d9_57 : decode jdk_52_method_16_code 57 = .ok (.aload_n 3, 1) := by decide +kernel
theorem d9_58 : decode jdk_52_method_16_code 58 = .ok (.areturn, 1) := by decide +kernel
theorem d10_0 : decode jdk_52_method_21_code 0 = .ok (.iconst 0, 1) := by decide +kernel
theorem d10_1 : decode jdk_52_method_21_code 1 = .ok (.istore 5, 2) := by decide +kernel
theorem d10_3 : decode jdk_52_method_21_code 3 = .ok (.iload 5, 2) := by decide +kernel
theorem d10_5 : decode jdk_52_method_21_code 5 = .ok (.iload 4, 2) := by decide +kernel
theorem d10_7 : decode jdk_52_method_21_code 7 = .ok (.if_icmp .ge 37, 3) := by decide +kernel
theorem d10_10 : decode jdk_52_method_21_code 10 = .ok (.aload_n 0, 1) := by decide +kernel
theorem d10_11 : decode jdk_52_method_21_code 11 = .ok (.iload_n 1, 1) := by decide +kernel
theorem d10_12 : decode jdk_52_method_21_code 12 = .ok (.caload, 1) := by decide +kernel
theorem d10_13 : decode jdk_52_method_21_code 13 = .ok (.istore 6, 2) := by decide +kernel
theorem d10_15 : decode jdk_52_method_21_code 15 = .ok (.iload 6, 2) := by decide +kernel
theorem d10_17 : decode jdk_52_method_21_code 17 = .ok (.sipush 255, 3) := by decide +kernel
theorem d10_20 : decode jdk_52_method_21_code 20 = .ok (.if_icmp .le 6, 3) := by decide +kernel
theorem d10_23 : decode jdk_52_method_21_code 23 = .ok (.iload 5, 2) := by decide +kernel
theorem d10_25 : decode jdk_52_method_21_code 25 = .ok (.ireturn, 1) := by decide +kernel
theorem d10_26 : decode jdk_52_method_21_code 26 = .ok (.aload_n 2, 1) := by decide +kernel
theorem d10_27 : decode jdk_52_method_21_code 27 = .ok (.iload_n 3, 1) := by decide +kernel
theorem d10_28 : decode jdk_52_method_21_code 28 = .ok (.iload 6, 2) := by decide +kernel
theorem d10_30 : decode jdk_52_method_21_code 30 = .ok (.i2b, 1) := by decide +kernel
theorem d10_31 : decode jdk_52_method_21_code 31 = .ok (.bastore, 1) := by decide +kernel
theorem d10_32 : decode jdk_52_method_21_code 32 = .ok (.iinc 1 1, 3) := by decide +kernel
theorem d10_35 : decode jdk_52_method_21_code 35 = .ok (.iinc 3 1, 3) := by decide +kernel
theorem d10_38 : decode jdk_52_method_21_code 38 = .ok (.iinc 5 1, 3) := by decide +kernel
theorem d10_41 : decode jdk_52_method_21_code 41 = .ok (.goto (-38), 3) := by decide +kernel
theorem d10_44 : decode jdk_52_method_21_code 44 = .ok (.iload 4, 2) := by decide +kernel
theorem d10_46 : decode jdk_52_method_21_code 46 = .ok (.ireturn, 1) := by decide +kernel
theorem d11_0 : decode jdk_52_method_15_code 0 = .ok (.iload_n 1, 1) := by decide +kernel
theorem d11_1 : decode jdk_52_method_15_code 1 = .ok (.aload_n 0, 1) := by decide +kernel
theorem d11_2 : decode jdk_52_method_15_code 2 = .ok (.arraylength, 1) := by decide +kernel
theorem d11_3 : decode jdk_52_method_15_code 3 = .ok (.isub, 1) := by decide +kernel
theorem d11_4 : decode jdk_52_method_15_code 4 = .ok (.bipush 31, 2) := by decide +kernel
theorem d11_6 : decode jdk_52_method_15_code 6 = .ok (.iushr, 1) := by decide +kernel
theorem d11_7 : decode jdk_52_method_15_code 7 = .ok (.i2b, 1) := by decide +kernel
theorem d11_8 : decode jdk_52_method_15_code 8 = .ok (.ireturn, 1) := by decide +kernel
theorem d12_0 : decode jdk_42_method_56_code 0 = .ok (.aload_n 0, 1) := by decide +kernel
theorem d12_1 : decode jdk_42_method_56_code 1 = .ok (.invokevirtual 492, 3) := by decide +kernel
theorem d12_4 : decode jdk_42_method_56_code 4 = .ok (.ifCond .eq 12, 3) := by decide +kernel
theorem d12_7 : decode jdk_42_method_56_code 7 = .ok (.aload_n 0, 1) := by decide +kernel
theorem d12_8 : decode jdk_42_method_56_code 8 = .ok (.getfield 9, 3) := by decide +kernel
theorem d12_11 : decode jdk_42_method_56_code 11 = .ok (.iload_n 1, 1) := by decide +kernel
theorem d12_12 : decode jdk_42_method_56_code 12 = .ok (.invokestatic 495, 3) := by decide +kernel
theorem d12_15 : decode jdk_42_method_56_code 15 = .ok (.ireturn, 1) := by decide +kernel
theorem d12_16 : decode jdk_42_method_56_code 16 = .ok (.aload_n 0, 1) := by decide +kernel
theorem d12_17 : decode jdk_42_method_56_code 17 = .ok (.getfield 9, 3) := by decide +kernel
theorem d12_20 : decode jdk_42_method_56_code 20 = .ok (.iload_n 1, 1) := by decide +kernel
theorem d12_21 : decode jdk_42_method_56_code 21 = .ok (.invokestatic 498, 3) := by decide +kernel
theorem d12_24 : decode jdk_42_method_56_code 24 = .ok (.ireturn, 1) := by decide +kernel
theorem d13_0 : decode jdk_42_method_154_code 0 = .ok (.getstatic 38, 3) := by decide +kernel
theorem d13_3 : decode jdk_42_method_154_code 3 = .ok (.ifCond .eq 14, 3) := by decide +kernel
theorem d13_6 : decode jdk_42_method_154_code 6 = .ok (.aload_n 0, 1) := by decide +kernel
theorem d13_7 : decode jdk_42_method_154_code 7 = .ok (.getfield 15, 3) := by decide +kernel
theorem d13_10 : decode jdk_42_method_154_code 10 = .ok (.ifCond .ne 7, 3) := by decide +kernel
theorem d13_13 : decode jdk_42_method_154_code 13 = .ok (.iconst 1, 1) := by decide +kernel
theorem d13_14 : decode jdk_42_method_154_code 14 = .ok (.goto 4, 3) := by decide +kernel
theorem d13_17 : decode jdk_42_method_154_code 17 = .ok (.iconst 0, 1) := by decide +kernel
theorem d13_18 : decode jdk_42_method_154_code 18 = .ok (.ireturn, 1) := by decide +kernel
theorem d14_0 : decode jdk_43_method_2_code 0 = .ok (.iload_n 1, 1) := by decide +kernel
theorem d14_1 : decode jdk_43_method_2_code 1 = .ok (.aload_n 0, 1) := by decide +kernel
theorem d14_2 : decode jdk_43_method_2_code 2 = .ok (.arraylength, 1) := by decide +kernel
theorem d14_3 : decode jdk_43_method_2_code 3 = .ok (.invokestatic 9, 3) := by decide +kernel
theorem d14_6 : decode jdk_43_method_2_code 6 = .ok (.aload_n 0, 1) := by decide +kernel
theorem d14_7 : decode jdk_43_method_2_code 7 = .ok (.iload_n 1, 1) := by decide +kernel
theorem d14_8 : decode jdk_43_method_2_code 8 = .ok (.baload, 1) := by decide +kernel
theorem d14_9 : decode jdk_43_method_2_code 9 = .ok (.sipush 255, 3) := by decide +kernel
theorem d14_12 : decode jdk_43_method_2_code 12 = .ok (.iand, 1) := by decide +kernel
theorem d14_13 : decode jdk_43_method_2_code 13 = .ok (.i2c, 1) := by decide +kernel
theorem d14_14 : decode jdk_43_method_2_code 14 = .ok (.ireturn, 1) := by decide +kernel
theorem d15_0 : decode jdk_42_method_155_code 0 = .ok (.iload_n 0, 1) := by decide +kernel
theorem d15_1 : decode jdk_42_method_155_code 1 = .ok (.iload_n 1, 1) := by decide +kernel
theorem d15_2 : decode jdk_42_method_155_code 2 = .ok (.getstatic 1053, 3) := by decide +kernel
theorem d15_5 : decode jdk_42_method_155_code 5 = .ok (.invokestatic 1059, 3) := by decide +kernel
theorem d15_8 : decode jdk_42_method_155_code 8 = .ok (.pop, 1) := by decide +kernel
theorem d15_9 : decode jdk_42_method_155_code 9 = .ok (.return_, 1) := by decide +kernel
theorem d16_0 : decode jdk_41_method_11_code 0 = .ok (.iload_n 0, 1) := by decide +kernel
theorem d16_1 : decode jdk_41_method_11_code 1 = .ok (.ifCond .lt 8, 3) := by decide +kernel
theorem d16_4 : decode jdk_41_method_11_code 4 = .ok (.iload_n 0, 1) := by decide +kernel
theorem d16_5 : decode jdk_41_method_11_code 5 = .ok (.iload_n 1, 1) := by decide +kernel
theorem d16_6 : decode jdk_41_method_11_code 6 = .ok (.if_icmp .lt 10, 3) := by decide +kernel
theorem d16_16 : decode jdk_41_method_11_code 16 = .ok (.iload_n 0, 1) := by decide +kernel
theorem d16_17 : decode jdk_41_method_11_code 17 = .ok (.ireturn, 1) := by decide +kernel
theorem d17_0 : decode jdk_52_method_14_code 0 = .ok (.iload_n 2, 1) := by decide +kernel
theorem d17_1 : decode jdk_52_method_14_code 1 = .ok (.invokestatic 107, 3) := by decide +kernel
theorem d17_4 : decode jdk_52_method_14_code 4 = .ok (.astore_n 3, 1) := by decide +kernel
theorem d17_5 : decode jdk_52_method_14_code 5 = .ok (.iconst 0, 1) := by decide +kernel
theorem d17_6 : decode jdk_52_method_14_code 6 = .ok (.istore 4, 2) := by decide +kernel
theorem d17_8 : decode jdk_52_method_14_code 8 = .ok (.iload 4, 2) := by decide +kernel
theorem d17_10 : decode jdk_52_method_14_code 10 = .ok (.iload_n 2, 1) := by decide +kernel
theorem d17_11 : decode jdk_52_method_14_code 11 = .ok (.if_icmp .ge 21, 3) := by decide +kernel
theorem d17_14 : decode jdk_52_method_14_code 14 = .ok (.aload_n 3, 1) := by decide +kernel
theorem d17_15 : decode jdk_52_method_14_code 15 = .ok (.iload 4, 2) := by decide +kernel
theorem d17_17 : decode jdk_52_method_14_code 17 = .ok (.aload_n 0, 1) := by decide +kernel
theorem d17_18 : decode jdk_52_method_14_code 18 = .ok (.iload_n 1, 1) := by decide +kernel
theorem d17_19 : decode jdk_52_method_14_code 19 = .ok (.caload, 1) := by decide +kernel
theorem d17_20 : decode jdk_52_method_14_code 20 = .ok (.invokestatic 111, 3) := by decide +kernel
theorem d17_23 : decode jdk_52_method_14_code 23 = .ok (.iinc 1 1, 3) := by decide +kernel
theorem d17_26 : decode jdk_52_method_14_code 26 = .ok (.iinc 4 1, 3) := by decide +kernel
theorem d17_29 : decode jdk_52_method_14_code 29 = .ok (.goto (-21), 3) := by decide +kernel
theorem d17_32 : decode jdk_52_method_14_code 32 = .ok (.aload_n 3, 1) := by decide +kernel
theorem d17_33 : decode jdk_52_method_14_code 33 = .ok (.areturn, 1) := by decide +kernel
theorem d18_0 : decode jdk_52_method_2_code 0 = .ok (.iload_n 0, 1) := by decide +kernel
theorem d18_1 : decode jdk_52_method_2_code 1 = .ok (.invokestatic 11, 3) := by decide +kernel
theorem d18_4 : decode jdk_52_method_2_code 4 = .ok (.newarray .byte, 2) := by decide +kernel
theorem d18_6 : decode jdk_52_method_2_code 6 = .ok (.areturn, 1) := by decide +kernel
theorem d19_0 : decode jdk_52_method_3_code 0 = .ok (.iload_n 0, 1) := by decide +kernel
theorem d19_1 : decode jdk_52_method_3_code 1 = .ok (.ifCond .ge 11, 3) := by decide +kernel
theorem d19_12 : decode jdk_52_method_3_code 12 = .ok (.iload_n 0, 1) := by decide +kernel
theorem d19_13 : decode jdk_52_method_3_code 13 = .ok (.ldc 20, 2) := by decide +kernel
theorem d19_15 : decode jdk_52_method_3_code 15 = .ok (.if_icmp .lt 40, 3) := by decide +kernel
theorem d19_55 : decode jdk_52_method_3_code 55 = .ok (.iload_n 0, 1) := by decide +kernel
theorem d19_56 : decode jdk_52_method_3_code 56 = .ok (.iconst 1, 1) := by decide +kernel
theorem d19_57 : decode jdk_52_method_3_code 57 = .ok (.ishl, 1) := by decide +kernel
theorem d19_58 : decode jdk_52_method_3_code 58 = .ok (.ireturn, 1) := by decide +kernel
theorem d20_0 : decode jdk_52_method_4_code 0 = .ok (.getstatic 44, 3) := by decide +kernel
theorem d20_3 : decode jdk_52_method_4_code 3 = .ok (.ifCond .ne 25, 3) := by decide +kernel
theorem d20_28 : decode jdk_52_method_4_code 28 = .ok (.iload_n 1, 1) := by decide +kernel
theorem d20_29 : decode jdk_52_method_4_code 29 = .ok (.iconst 1, 1) := by decide +kernel
theorem d20_30 : decode jdk_52_method_4_code 30 = .ok (.ishl, 1) := by decide +kernel
theorem d20_31 : decode jdk_52_method_4_code 31 = .ok (.istore_n 1, 1) := by decide +kernel
theorem d20_32 : decode jdk_52_method_4_code 32 = .ok (.aload_n 0, 1) := by decide +kernel
theorem d20_33 : decode jdk_52_method_4_code 33 = .ok (.iload_n 1, 1) := by decide +kernel
theorem d20_34 : decode jdk_52_method_4_code 34 = .ok (.iinc 1 1, 3) := by decide +kernel
theorem d20_37 : decode jdk_52_method_4_code 37 = .ok (.iload_n 2, 1) := by decide +kernel
theorem d20_38 : decode jdk_52_method_4_code 38 = .ok (.getstatic 59, 3) := by decide +kernel
theorem d20_41 : decode jdk_52_method_4_code 41 = .ok (.ishr, 1) := by decide +kernel
theorem d20_42 : decode jdk_52_method_4_code 42 = .ok (.i2b, 1) := by decide +kernel
theorem d20_43 : decode jdk_52_method_4_code 43 = .ok (.bastore, 1) := by decide +kernel
theorem d20_44 : decode jdk_52_method_4_code 44 = .ok (.aload_n 0, 1) := by decide +kernel
theorem d20_45 : decode jdk_52_method_4_code 45 = .ok (.iload_n 1, 1) := by decide +kernel
theorem d20_46 : decode jdk_52_method_4_code 46 = .ok (.iload_n 2, 1) := by decide +kernel
theorem d20_47 : decode jdk_52_method_4_code 47 = .ok (.getstatic 63, 3) := by decide +kernel
theorem d20_50 : decode jdk_52_method_4_code 50 = .ok (.ishr, 1) := by decide +kernel
theorem d20_51 : decode jdk_52_method_4_code 51 = .ok (.i2b, 1) := by decide +kernel
theorem d20_52 : decode jdk_52_method_4_code 52 = .ok (.bastore, 1) := by decide +kernel
theorem d20_53 : decode jdk_52_method_4_code 53 = .ok (.return_, 1) := by decide +kernel
theorem d21_0 : decode jdk_52_method_5_code 0 = .ok (.getstatic 44, 3) := by decide +kernel
theorem d21_3 : decode jdk_52_method_5_code 3 = .ok (.ifCond .ne 25, 3) := by decide +kernel
theorem d21_28 : decode jdk_52_method_5_code 28 = .ok (.iload_n 1, 1) := by decide +kernel
theorem d21_29 : decode jdk_52_method_5_code 29 = .ok (.iconst 1, 1) := by decide +kernel
theorem d21_30 : decode jdk_52_method_5_code 30 = .ok (.ishl, 1) := by decide +kernel
theorem d21_31 : decode jdk_52_method_5_code 31 = .ok (.istore_n 1, 1) := by decide +kernel
theorem d21_32 : decode jdk_52_method_5_code 32 = .ok (.aload_n 0, 1) := by decide +kernel
theorem d21_33 : decode jdk_52_method_5_code 33 = .ok (.iload_n 1, 1) := by decide +kernel
theorem d21_34 : decode jdk_52_method_5_code 34 = .ok (.iinc 1 1, 3) := by decide +kernel
theorem d21_37 : decode jdk_52_method_5_code 37 = .ok (.baload, 1) := by decide +kernel
theorem d21_38 : decode jdk_52_method_5_code 38 = .ok (.sipush 255, 3) := by decide +kernel
theorem d21_41 : decode jdk_52_method_5_code 41 = .ok (.iand, 1) := by decide +kernel
theorem d21_42 : decode jdk_52_method_5_code 42 = .ok (.getstatic 59, 3) := by decide +kernel
theorem d21_45 : decode jdk_52_method_5_code 45 = .ok (.ishl, 1) := by decide +kernel
theorem d21_46 : decode jdk_52_method_5_code 46 = .ok (.aload_n 0, 1) := by decide +kernel
theorem d21_47 : decode jdk_52_method_5_code 47 = .ok (.iload_n 1, 1) := by decide +kernel
theorem d21_48 : decode jdk_52_method_5_code 48 = .ok (.baload, 1) := by decide +kernel
theorem d21_49 : decode jdk_52_method_5_code 49 = .ok (.sipush 255, 3) := by decide +kernel
theorem d21_52 : decode jdk_52_method_5_code 52 = .ok (.iand, 1) := by decide +kernel
theorem d21_53 : decode jdk_52_method_5_code 53 = .ok (.getstatic 63, 3) := by decide +kernel
theorem d21_56 : decode jdk_52_method_5_code 56 = .ok (.ishl, 1) := by decide +kernel
theorem d21_57 : decode jdk_52_method_5_code 57 = .ok (.ior, 1) := by decide +kernel
theorem d21_58 : decode jdk_52_method_5_code 58 = .ok (.i2c, 1) := by decide +kernel
theorem d21_59 : decode jdk_52_method_5_code 59 = .ok (.ireturn, 1) := by decide +kernel
theorem d22_0 : decode jdk_52_method_83_code 0 = .ok (.iload_n 1, 1) := by decide +kernel
theorem d22_1 : decode jdk_52_method_83_code 1 = .ok (.aload_n 0, 1) := by decide +kernel
theorem d22_2 : decode jdk_52_method_83_code 2 = .ok (.invokestatic 67, 3) := by decide +kernel
theorem d22_5 : decode jdk_52_method_83_code 5 = .ok (.aload_n 0, 1) := by decide +kernel
theorem d22_6 : decode jdk_52_method_83_code 6 = .ok (.iload_n 1, 1) := by decide +kernel
theorem d22_7 : decode jdk_52_method_83_code 7 = .ok (.invokestatic 71, 3) := by decide +kernel
theorem d22_10 : decode jdk_52_method_83_code 10 = .ok (.ireturn, 1) := by decide +kernel
theorem d23_0 : decode jdk_52_method_91_code 0 = .ok (.iload_n 0, 1) := by decide +kernel
theorem d23_1 : decode jdk_52_method_91_code 1 = .ok (.aload_n 1, 1) := by decide +kernel
theorem d23_2 : decode jdk_52_method_91_code 2 = .ok (.invokestatic 48, 3) := by decide +kernel
theorem d23_5 : decode jdk_52_method_91_code 5 = .ok (.invokestatic 414, 3) := by decide +kernel
theorem d23_8 : decode jdk_52_method_91_code 8 = .ok (.return_, 1) := by decide +kernel
theorem d24_0 : decode jdk_52_method_6_code 0 = .ok (.aload_n 0, 1) := by decide +kernel
theorem d24_1 : decode jdk_52_method_6_code 1 = .ok (.arraylength, 1) := by decide +kernel
theorem d24_2 : decode jdk_52_method_6_code 2 = .ok (.iconst 1, 1) := by decide +kernel
theorem d24_3 : decode jdk_52_method_6_code 3 = .ok (.ishr, 1) := by decide +kernel
theorem d24_4 : decode jdk_52_method_6_code 4 = .ok (.ireturn, 1) := by decide +kernel
theorem pn_0 : plainName "java/lang/String" = true := by first | (simp [plainName, overriddenIn]; done) | decide +kernel
theorem pn_1 : plainName "jdk/internal/util/Preconditions" = true := by first | (simp [plainName, overriddenIn]; done) | decide +kernel
theorem pn_2 : plainName "java/lang/StringUTF16" = true := by first | (simp [plainName, overriddenIn]; done) | decide +kernel
theorem pn_3 : plainName "java/lang/StringLatin1" = true := by first | (simp [plainName, overriddenIn]; done) | decide +kernel
theorem pn_4 : plainName "com/example/cartulary/cartulary/entity/FootprintOfPinLaw" = true := by first | (simp [plainName, overriddenIn]; done) | decide +kernel
theorem pn_5 : plainName "com/example/cartulary/cartulary/entity/Footprint" = true := by first | (simp [plainName, overriddenIn]; done) | decide +kernel
theorem pd_0 : parseMethodDescriptor "(IILjava/util/function/BiFunction;)I" = some ⟨[.int, .int, (.object "java/util/function/BiFunction")], some .int⟩ := by decide +kernel
theorem pd_1 : parseMethodDescriptor "([CIILjava/lang/Void;)V" = some ⟨[(.array .char), .int, .int, (.object "java/lang/Void")], none⟩ := by decide +kernel
theorem pd_2 : parseMethodDescriptor "(I)I" = some ⟨[.int], some .int⟩ := by decide +kernel
theorem pd_3 : parseMethodDescriptor "(I)[B" = some ⟨[.int], some (.array .byte)⟩ := by decide +kernel
theorem pd_4 : parseMethodDescriptor "([BII)V" = some ⟨[(.array .byte), .int, .int], none⟩ := by decide +kernel
theorem pd_5 : parseMethodDescriptor "([CI[BII)I" = some ⟨[(.array .char), .int, (.array .byte), .int, .int], some .int⟩ := by decide +kernel
theorem pd_6 : parseMethodDescriptor "([CII)[B" = some ⟨[(.array .char), .int, .int], some (.array .byte)⟩ := by decide +kernel
theorem pd_7 : parseMethodDescriptor "([BI)B" = some ⟨[(.array .byte), .int], some .byte⟩ := by decide +kernel
theorem pd_8 : parseMethodDescriptor "([BI)C" = some ⟨[(.array .byte), .int], some .char⟩ := by decide +kernel
theorem pd_9 : parseMethodDescriptor "()B" = some ⟨[], some .byte⟩ := by decide +kernel
theorem pd_10 : parseMethodDescriptor "(II)V" = some ⟨[.int, .int], none⟩ := by decide +kernel
theorem pd_11 : parseMethodDescriptor "()Z" = some ⟨[], some .boolean⟩ := by decide +kernel
theorem pd_12 : parseMethodDescriptor "([B)I" = some ⟨[(.array .byte)], some .int⟩ := by decide +kernel
theorem pd_13 : parseMethodDescriptor "(I[B)V" = some ⟨[.int, (.array .byte)], none⟩ := by decide +kernel
theorem pd_14 : parseMethodDescriptor "()I" = some ⟨[], some .int⟩ := by decide +kernel
theorem pd_15 : parseMethodDescriptor "(I)C" = some ⟨[.int], some .char⟩ := by decide +kernel
theorem pd_16 : parseMethodDescriptor "(ICCCCC)[C" = some ⟨[.int, .char, .char, .char, .char, .char], some (.array .char)⟩ := by decide +kernel
theorem pd_17 : parseMethodDescriptor "([C)V" = some ⟨[(.array .char)], none⟩ := by decide +kernel
theorem pd_18 : parseMethodDescriptor "(Ljava/lang/String;)J" = some ⟨[(.object "java/lang/String")], some .long⟩ := by decide +kernel
theorem own_wS {a0 : Array Value} {Z : State} (hw : ∀ d ∈ tables_1, d.before a0 Z = true) : ∀ a ∈ Bundle.stringAtoms, a.before a0 Z = true := fun d hd => by
  simp only [Bundle.stringAtoms, List.mem_cons, List.not_mem_nil, or_false] at hd
  rcases hd with rfl | rfl | rfl | rfl | rfl | rfl | rfl
  · exact (w_8 hw)
  · exact (w_7 hw)
  · exact (w_24 hw)
  · exact (w_25 hw)
  · exact (w_26 hw)
  · exact (w_27 hw)
  · exact (w_28 hw)
theorem own_EW {a0 : Array Value} {Z : State} (hw : ∀ d ∈ tables_1, d.before a0 Z = true) : EW Z a0 consts_1 := EW.cons (w_23 hw) (by decide) (EW.nil)
def OwnS (Z : State) (i_COMPACT_STRINGS : Int32) (v_SIOOBE_FORMATTER : Value) : Prop := (Sta Z Z.heap "java/lang/String" "COMPACT_STRINGS" "Z" (.int i_COMPACT_STRINGS)) ∧ (Sta Z Z.heap "jdk/internal/util/Preconditions" "SIOOBE_FORMATTER" "Ljava/util/function/BiFunction;" v_SIOOBE_FORMATTER) ∧ (v_SIOOBE_FORMATTER.isRef = true) ∧ (Sta Z Z.heap "java/lang/StringUTF16" "$assertionsDisabled" "Z" (.int (1 : Int32))) ∧ (Sta Z Z.heap "java/lang/StringUTF16" "HI_BYTE_SHIFT" "I" (.int (0 : Int32))) ∧ (Sta Z Z.heap "java/lang/StringUTF16" "LO_BYTE_SHIFT" "I" (.int (8 : Int32))) ∧ (¬ (i_COMPACT_STRINGS = (0 : Int32)))
def own_by (c : Int32) : Int32 := nar .byte c.toInt8.toInt32
theorem own_t1 (x : Int32) : nar .byte x = x.toInt8.toInt32 := rfl
theorem own_gcb (u : BitVec 16) : (((((((u.setWidth 32).sshiftRight 0).setWidth 8).signExtend 32) &&& 255#32) <<< 0 ||| (((((u.setWidth 32).sshiftRight 8).setWidth 8).signExtend 32) &&& 255#32) <<< 8).setWidth 16) = u := by
  apply BitVec.eq_of_getLsbD_eq
  intro i hi
  simp [BitVec.getLsbD_setWidth, BitVec.getLsbD_or, BitVec.getLsbD_and, BitVec.getLsbD_signExtend, BitVec.getLsbD_shiftLeft, BitVec.getLsbD_sshiftRight]
  have h : i = 0 ∨ i = 1 ∨ i = 2 ∨ i = 3 ∨ i = 4 ∨ i = 5 ∨ i = 6 ∨ i = 7 ∨ i = 8 ∨ i = 9 ∨ i = 10 ∨ i = 11 ∨ i = 12 ∨ i = 13 ∨ i = 14 ∨ i = 15 := by omega
  rcases h with rfl | rfl | rfl | rfl | rfl | rfl | rfl | rfl | rfl | rfl | rfl | rfl | rfl | rfl | rfl | rfl <;> simp
def own_b0 (c : Int32) : Int32 := nar .byte ((c >>> ((0 : Int32) &&& 31)).toInt8.toInt32)
def own_b1 (c : Int32) : Int32 := nar .byte ((c >>> ((8 : Int32) &&& 31)).toInt8.toInt32)
def own_gv (y z : Int32) : Int32 := ((((y &&& (255 : Int32)) <<< ((0 : Int32) &&& 31)) ||| ((z &&& (255 : Int32)) <<< ((8 : Int32) &&& 31))).toUInt32.toUInt16.toUInt32.toInt32)
theorem own_char {c : Int32} (h : nar .char c = c) : ∃ u : UInt16, c = u.toUInt32.toInt32 := ⟨c.toUInt32.toUInt16, h.symm⟩
theorem own_b0b (u : UInt16) : (own_b0 u.toUInt32.toInt32).toBitVec = ((((u.toBitVec.setWidth 32).sshiftRight 0).setWidth 8).signExtend 32) := by
  unfold own_b0
  rw [own_t1]
  simp [BitVec.signExtend_eq_setWidth_of_le]
theorem own_b1b (u : UInt16) : (own_b1 u.toUInt32.toInt32).toBitVec = ((((u.toBitVec.setWidth 32).sshiftRight 8).setWidth 8).signExtend 32) := by
  unfold own_b1
  rw [own_t1]
  simp [BitVec.signExtend_eq_setWidth_of_le]
theorem own_gc {c : Int32} (h : nar .char c = c) : own_gv (own_b0 c) (own_b1 c) = c := by
  obtain ⟨u, rfl⟩ := own_char h
  apply Int32.toBitVec_inj.mp
  have h1 := own_gcb u.toBitVec
  rw [← own_b0b, ← own_b1b] at h1
  generalize own_b0 u.toUInt32.toInt32 = y at *
  generalize own_b1 u.toUInt32.toInt32 = z at *
  exact congrArg (fun b => b.setWidth 32) h1
theorem own_u16 (u : UInt16) : u.toUInt32.toInt32.toInt = u.toNat := by
  have h := u.toNat_lt
  have h2 : u.toUInt32.toInt32.toInt = (u.toUInt32.toBitVec).toInt := rfl
  rw [h2, BitVec.toInt_eq_toNat_of_lt (by show 2 * u.toUInt32.toNat < _; rw [UInt16.toNat_toUInt32]; omega)]
  show ((u.toUInt32.toNat : Nat) : Int) = _
  rw [UInt16.toNat_toUInt32]
theorem own_ch0 {c : Int32} (h : nar .char c = c) : 0 ≤ c.toInt ∧ c.toInt < 65536 := by
  obtain ⟨u, rfl⟩ := own_char h
  have h := u.toNat_lt
  rw [own_u16]
  omega
theorem own_lcA : ∀ i : Fin 256, (((nar .byte (Int32.ofNat i.val).toInt8.toInt32) &&& (255 : Int32)).toUInt32.toUInt16.toUInt32.toInt32) = Int32.ofNat i.val := by decide +kernel
theorem own_lc {c : Int32} (h : nar .char c = c) (hl : ¬ ((255 : Int32) < c)) : (((nar .byte c.toInt8.toInt32) &&& (255 : Int32)).toUInt32.toUInt16.toUInt32.toInt32) = c := by
  have h0 := (own_ch0 h).1
  rw [Int32.lt_iff_toInt_lt, show (255 : Int32).toInt = 255 by decide] at hl
  have e : c = Int32.ofNat c.toInt.toNat := by
    apply Int32.toInt_inj.mp
    rw [Int32.toInt_ofNat_of_lt (by omega)]
    omega
  rw [e]
  exact own_lcA ⟨c.toInt.toNat, by omega⟩
theorem own_nc (x : Int32) : narrow .char (.int (x.toUInt32.toUInt16.toUInt32.toInt32)) = .int (x.toUInt32.toUInt16.toUInt32.toInt32) := by
  generalize x.toUInt32.toUInt16 = u
  show Value.int (u.toUInt32.toInt32.toUInt32.toUInt16.toUInt32.toInt32) = _
  rw [show u.toUInt32.toInt32.toUInt32.toUInt16 = u by simp]
theorem own_nch (x : Int32) : nar .char (x.toUInt32.toUInt16.toUInt32.toInt32) = (x.toUInt32.toUInt16.toUInt32.toInt32) := Value.int.inj (own_nc x)

section OwnStr
def OwnL (cs : List Int32) : List Value := cs.map fun c => Value.int (own_by c)
def OwnU (cs : List Int32) : List Value := cs.flatMap fun c => [Value.int (own_b0 c), Value.int (own_b1 c)]
def OwnPL (cs : List Int32) (m : Nat) (bs : List Value) : Prop := bs.length = cs.length ∧ ∀ j, j < m → bs[j]? = (cs[j]?).map fun c => Value.int (own_by c)
def OwnPU (cs : List Int32) (m : Nat) (bs : List Value) : Prop := bs.length = 2 * cs.length ∧ ∀ j, j < m → bs[2 * j]? = (cs[j]?).map (fun c => Value.int (own_b0 c)) ∧ bs[2 * j + 1]? = (cs[j]?).map (fun c => Value.int (own_b1 c))
theorem OwnPL.start (cs : List Int32) (d : Value) : OwnPL cs 0 (List.replicate cs.length d) := ⟨by simp, fun j hj => absurd hj (Nat.not_lt_zero _)⟩
theorem OwnPU.start (cs : List Int32) (d : Value) : OwnPU cs 0 (List.replicate (2 * cs.length) d) := ⟨by simp, fun j hj => absurd hj (Nat.not_lt_zero _)⟩
theorem OwnPL.step {cs : List Int32} {m : Nat} {bs : List Value} {c : Int32} (h : OwnPL cs m bs) (hc : cs[m]? = some c) : OwnPL cs (m + 1) (bs.set m (.int (own_by c))) := by
  refine ⟨by simp [h.1], fun j hj => ?_⟩
  have hm : m < cs.length := (List.getElem?_eq_some_iff.mp hc).1
  rw [List.getElem?_set]
  by_cases e : m = j
  · subst e
    rw [if_pos rfl, if_pos (by rw [h.1]; exact hm), hc]
    rfl
  · rw [if_neg e]
    exact h.2 j (by omega)
theorem OwnPU.step {cs : List Int32} {m : Nat} {bs : List Value} {c : Int32} (h : OwnPU cs m bs) (hc : cs[m]? = some c) : OwnPU cs (m + 1) ((bs.set (2 * m) (.int (own_b0 c))).set (2 * m + 1) (.int (own_b1 c))) := by
  refine ⟨by simp [h.1], fun j hj => ?_⟩
  have hm : m < cs.length := (List.getElem?_eq_some_iff.mp hc).1
  have hl := h.1
  by_cases e : m = j
  · subst e
    constructor
    · rw [List.getElem?_set, if_neg (by omega), List.getElem?_set, if_pos rfl, if_pos (by omega), hc]; rfl
    · rw [List.getElem?_set, if_pos rfl, if_pos (by rw [List.length_set]; omega), hc]; rfl
  · have := h.2 j (by omega)
    constructor
    · rw [List.getElem?_set, if_neg (by omega), List.getElem?_set, if_neg (by omega)]; exact this.1
    · rw [List.getElem?_set, if_neg (by omega), List.getElem?_set, if_neg (by omega)]; exact this.2
theorem OwnPL.end {cs : List Int32} {bs : List Value} (h : OwnPL cs cs.length bs) : bs = OwnL cs := by
  apply List.ext_getElem?
  intro j
  unfold OwnL
  rw [List.getElem?_map]
  by_cases hj : j < cs.length
  · exact h.2 j hj
  · rw [List.getElem?_eq_none (by have := h.1; omega), List.getElem?_eq_none (by omega)]; rfl
theorem OwnU.at (cs : List Int32) : ∀ j, (OwnU cs)[2 * j]? = (cs[j]?).map (fun c => Value.int (own_b0 c)) ∧ (OwnU cs)[2 * j + 1]? = (cs[j]?).map (fun c => Value.int (own_b1 c)) := by
  unfold OwnU
  induction cs with
  | nil => intro j; simp
  | cons c cs ih =>
    intro j
    cases j with
    | zero => simp
    | succ j =>
      have := ih j
      simp only [List.flatMap_cons, List.cons_append, List.nil_append]
      rw [show 2 * (j + 1) = 2 * j + 1 + 1 by omega, List.getElem?_cons_succ, List.getElem?_cons_succ, List.getElem?_cons_succ, List.getElem?_cons_succ, List.getElem?_cons_succ]
      exact this
theorem OwnU.len (cs : List Int32) : (OwnU cs).length = 2 * cs.length := by
  unfold OwnU
  induction cs with
  | nil => rfl
  | cons c cs ih => simp only [List.flatMap_cons, List.length_append, ih, List.length_cons, List.length_nil]; omega
theorem OwnPU.end {cs : List Int32} {bs : List Value} (h : OwnPU cs cs.length bs) : bs = OwnU cs := by
  apply List.ext_getElem?
  intro k
  have hk : k = 2 * (k / 2) ∨ k = 2 * (k / 2) + 1 := by omega
  have hl := OwnU.len cs
  have hl2 := h.1
  by_cases hj : k / 2 < cs.length
  · have a := h.2 _ hj
    have b := OwnU.at cs (k / 2)
    rcases hk with e | e
    · rw [e, a.1, b.1]
    · rw [e, a.2, b.2]
  · rw [List.getElem?_eq_none (by omega), List.getElem?_eq_none (by omega)]
theorem own_getD {bs : List Value} {j : Nat} {v d : Value} (h : bs[j]? = some v) : bs.getD j d = v := by rw [List.getD_eq_getElem?_getD, h]; rfl
theorem own_getC {cs : List Int32} {j : Nat} {c : Int32} {d : Value} (h : cs[j]? = some c) : (cs.map Value.int).getD j d = .int c := own_getD (by rw [List.getElem?_map, h]; rfl)
theorem own_getL {cs : List Int32} {j : Nat} {c : Int32} {d : Value} (h : cs[j]? = some c) : (OwnL cs).getD j d = .int (own_by c) := own_getD (by unfold OwnL; rw [List.getElem?_map, h]; rfl)
theorem own_getU0 {cs : List Int32} {j : Nat} {c : Int32} {d : Value} (h : cs[j]? = some c) : (OwnU cs).getD (2 * j) d = .int (own_b0 c) := own_getD (by rw [(OwnU.at cs j).1, h]; rfl)
theorem own_getU1 {cs : List Int32} {j : Nat} {c : Int32} {d : Value} (h : cs[j]? = some c) : (OwnU cs).getD (2 * j + 1) d = .int (own_b1 c) := own_getD (by rw [(OwnU.at cs j).2, h]; rfl)
theorem own_tn {i : Int32} {m : Nat} (h : i.toInt = (m : Int)) : i.toNatClampNeg = m := by
  show i.toInt.toNat = m
  rw [h]; rfl
theorem own_nneg {i : Int32} {m : Nat} (h : i.toInt = (m : Int)) : ¬ i < 0 := by
  rw [Int32.lt_iff_toInt_lt, h, show (0 : Int32).toInt = 0 by decide]; omega
theorem own_ltI {i j : Int32} {m n : Nat} (h : i.toInt = (m : Int)) (h2 : j.toInt = (n : Int)) (hl : m < n) : i < j := by
  rw [Int32.lt_iff_toInt_lt, h, h2]; omega
theorem own_nltI {i j : Int32} {m n : Nat} (h : i.toInt = (m : Int)) (h2 : j.toInt = (n : Int)) (hl : n ≤ m) : ¬ i < j := by
  rw [Int32.lt_iff_toInt_lt, h, h2]; omega
theorem own_suc {i : Int32} {m : Nat} (h : i.toInt = (m : Int)) (hm : m < 1000000) : (i + (1 : Int32)).toInt = ((m + 1 : Nat) : Int) := by
  rw [Int32.toInt_add, h, show (1 : Int32).toInt = 1 by decide, Int.bmod_eq_of_le (by omega) (by omega)]; rfl
theorem own_dbl0 (i : Int32) : i <<< ((1 : Int32) &&& 31) = i + i := by
  apply Int32.toBitVec_inj.mp
  have e : (i <<< ((1 : Int32) &&& 31)).toBitVec = i.toBitVec <<< (1 : Nat) := rfl
  rw [e, Int32.toBitVec_add]
  apply BitVec.eq_of_toNat_eq
  rw [BitVec.toNat_shiftLeft, BitVec.toNat_add, Nat.shiftLeft_eq]
  congr 1
  omega
theorem own_dbl {i : Int32} {m : Nat} (h : i.toInt = (m : Int)) (hm : m < 1000000) : (i <<< ((1 : Int32) &&& 31)).toInt = ((2 * m : Nat) : Int) := by
  rw [own_dbl0, Int32.toInt_add, h, Int.bmod_eq_of_le (by omega) (by omega)]; omega
theorem own_of {z : Int32} {n : Nat} (h : z.toInt = (n : Int)) (hn : n < 1000000) : z = Int32.ofNat n := by
  apply Int32.toInt_inj.mp
  rw [Int32.toInt_ofNat_of_lt (by omega), h]
theorem own_clA : ∀ n : Fin 33, 0 < n.val → ((((Int32.ofNat n.val) - ((Int32.ofNat n.val) <<< ((1 : Int32) &&& 31))).toUInt32 >>> ((31 : Int32) &&& 31).toUInt32).toInt32).toInt8.toInt32 = 1 := by decide +kernel
theorem own_clU {z : Int32} {n : Nat} (h : z.toInt = (n : Int)) (h0 : 0 < n) (h1 : n < 33) : (((z - (z <<< ((1 : Int32) &&& 31))).toUInt32 >>> ((31 : Int32) &&& 31).toUInt32).toInt32).toInt8.toInt32 = 1 := by
  rw [own_of h (by omega)]
  exact own_clA ⟨n, h1⟩ h0
theorem own_clL (z : Int32) : (((z - z).toUInt32 >>> ((31 : Int32) &&& 31).toUInt32).toInt32).toInt8.toInt32 = 0 := by
  rw [Int32.sub_self]
  decide

def OwnLat (cs : List Int32) : Prop := ∀ c ∈ cs, ¬ ((255 : Int32) < c)
def OwnHi (cs : List Int32) : Prop := ∃ c ∈ cs, (255 : Int32) < c
def OwnChs (cs : List Int32) : Prop := ∀ c ∈ cs, nar .char c = c
theorem OwnLat.nil : OwnLat [] := fun _ h => nomatch h
theorem OwnLat.cons {c : Int32} {cs : List Int32} (h : ¬ ((255 : Int32) < c)) (k : OwnLat cs) : OwnLat (c :: cs) := fun x hx => by
  rcases List.mem_cons.mp hx with rfl | q
  · exact h
  · exact k x q
theorem OwnChs.nil : OwnChs [] := fun _ h => nomatch h
theorem OwnChs.cons {c : Int32} {cs : List Int32} (h : nar .char c = c) (k : OwnChs cs) : OwnChs (c :: cs) := fun x hx => by
  rcases List.mem_cons.mp hx with rfl | q
  · exact h
  · exact k x q
theorem OwnHi.here {c : Int32} {cs : List Int32} (h : (255 : Int32) < c) : OwnHi (c :: cs) := ⟨c, List.mem_cons_self, h⟩
theorem OwnHi.there {c : Int32} {cs : List Int32} (h : OwnHi cs) : OwnHi (c :: cs) := by
  obtain ⟨x, hx, q⟩ := h
  exact ⟨x, List.mem_cons_of_mem _ hx, q⟩
theorem OwnHi.not {cs : List Int32} (h : OwnHi cs) (k : ∀ (j : Nat) (c : Int32), cs[j]? = some c → ¬ ((255 : Int32) < c)) : False := by
  obtain ⟨c, hc, q⟩ := h
  obtain ⟨j, hj⟩ := List.getElem?_of_mem hc
  exact k j c hj q
theorem own_neI {i j : Int32} {m n : Nat} (h : i.toInt = (m : Int)) (h2 : j.toInt = (n : Int)) (hl : m < n) : ¬ i = j := fun q => by
  rw [q, h2] at h
  omega
theorem own_n0 {j : Int32} {n : Nat} (h2 : j.toInt = (n : Int)) (hl : 0 < n) : ¬ j = 0 := fun q => by
  rw [q, show (0 : Int32).toInt = 0 by decide] at h2
  omega
theorem own_hlfA : ∀ n : Fin 33, (((Int32.ofNat (2 * n.val)) >>> ((1 : Int32) &&& 31))).toInt = (n.val : Int) := by decide +kernel
theorem own_half {z : Int32} {n : Nat} (h : z.toInt = ((2 * n : Nat) : Int)) (hn : n < 33) : (z >>> ((1 : Int32) &&& 31)).toInt = (n : Int) := by
  rw [own_of h (by omega)]
  exact own_hlfA ⟨n, hn⟩
theorem own_hlf {i z : Int32} {m n : Nat} (hi : i.toInt = (m : Int)) (h : z.toInt = ((2 * n : Nat) : Int)) (hm : m < n) (hn : n ≤ 10) : i < (z >>> ((1 : Int32) &&& 31)) := own_ltI hi (own_half h (by omega)) hm
end OwnStr

theorem own_lu1 (c0 : Int32) : ((255 : Int32) < c0) ∨ (¬ ((255 : Int32) < c0)) := by
  by_cases h0 : (255 : Int32) < c0
  · exact Or.inl (h0)
  exact Or.inr h0
theorem own_lu2 (c0 c1 : Int32) : ((255 : Int32) < c0 ∨ (255 : Int32) < c1) ∨ (¬ ((255 : Int32) < c0) ∧ ¬ ((255 : Int32) < c1)) := by
  by_cases h0 : (255 : Int32) < c0
  · exact Or.inl (Or.inl h0)
  by_cases h1 : (255 : Int32) < c1
  · exact Or.inl (Or.inr (h1))
  exact Or.inr ⟨h0, h1⟩
theorem own_lu3 (c0 c1 c2 : Int32) : ((255 : Int32) < c0 ∨ (255 : Int32) < c1 ∨ (255 : Int32) < c2) ∨ (¬ ((255 : Int32) < c0) ∧ ¬ ((255 : Int32) < c1) ∧ ¬ ((255 : Int32) < c2)) := by
  by_cases h0 : (255 : Int32) < c0
  · exact Or.inl (Or.inl h0)
  by_cases h1 : (255 : Int32) < c1
  · exact Or.inl (Or.inr (Or.inl h1))
  by_cases h2 : (255 : Int32) < c2
  · exact Or.inl (Or.inr (Or.inr (h2)))
  exact Or.inr ⟨h0, h1, h2⟩
theorem own_lu4 (c0 c1 c2 c3 : Int32) : ((255 : Int32) < c0 ∨ (255 : Int32) < c1 ∨ (255 : Int32) < c2 ∨ (255 : Int32) < c3) ∨ (¬ ((255 : Int32) < c0) ∧ ¬ ((255 : Int32) < c1) ∧ ¬ ((255 : Int32) < c2) ∧ ¬ ((255 : Int32) < c3)) := by
  by_cases h0 : (255 : Int32) < c0
  · exact Or.inl (Or.inl h0)
  by_cases h1 : (255 : Int32) < c1
  · exact Or.inl (Or.inr (Or.inl h1))
  by_cases h2 : (255 : Int32) < c2
  · exact Or.inl (Or.inr (Or.inr (Or.inl h2)))
  by_cases h3 : (255 : Int32) < c3
  · exact Or.inl (Or.inr (Or.inr (Or.inr (h3))))
  exact Or.inr ⟨h0, h1, h2, h3⟩
theorem own_lu5 (c0 c1 c2 c3 c4 : Int32) : ((255 : Int32) < c0 ∨ (255 : Int32) < c1 ∨ (255 : Int32) < c2 ∨ (255 : Int32) < c3 ∨ (255 : Int32) < c4) ∨ (¬ ((255 : Int32) < c0) ∧ ¬ ((255 : Int32) < c1) ∧ ¬ ((255 : Int32) < c2) ∧ ¬ ((255 : Int32) < c3) ∧ ¬ ((255 : Int32) < c4)) := by
  by_cases h0 : (255 : Int32) < c0
  · exact Or.inl (Or.inl h0)
  by_cases h1 : (255 : Int32) < c1
  · exact Or.inl (Or.inr (Or.inl h1))
  by_cases h2 : (255 : Int32) < c2
  · exact Or.inl (Or.inr (Or.inr (Or.inl h2)))
  by_cases h3 : (255 : Int32) < c3
  · exact Or.inl (Or.inr (Or.inr (Or.inr (Or.inl h3))))
  by_cases h4 : (255 : Int32) < c4
  · exact Or.inl (Or.inr (Or.inr (Or.inr (Or.inr (h4)))))
  exact Or.inr ⟨h0, h1, h2, h3, h4⟩
theorem own_rem6 (y : Int32) : (y &&& 2147483647) % 6 = 0 ∨ (y &&& 2147483647) % 6 = 1 ∨ (y &&& 2147483647) % 6 = 2 ∨ (y &&& 2147483647) % 6 = 3 ∨ (y &&& 2147483647) % 6 = 4 ∨ (y &&& 2147483647) % 6 = 5 := by
  have h1 := (c_and y 2147483647 (by decide)).1
  have h2 := (c_irem (y &&& 2147483647) 6 6 (by decide)).1 h1
  generalize (y &&& 2147483647) % 6 = k at h2 ⊢
  have h4 : k.toInt = 0 ∨ k.toInt = 1 ∨ k.toInt = 2 ∨ k.toInt = 3 ∨ k.toInt = 4 ∨ k.toInt = 5 := by omega
  rcases h4 with h | h | h | h | h | h
  · exact Or.inl (Int32.toInt_inj.mp h)
  · exact Or.inr (Or.inl (Int32.toInt_inj.mp h))
  · exact Or.inr (Or.inr (Or.inl (Int32.toInt_inj.mp h)))
  · exact Or.inr (Or.inr (Or.inr (Or.inl (Int32.toInt_inj.mp h))))
  · exact Or.inr (Or.inr (Or.inr (Or.inr (Or.inl (Int32.toInt_inj.mp h)))))
  · exact Or.inr (Or.inr (Or.inr (Or.inr (Or.inr (Int32.toInt_inj.mp h)))))
theorem ef_CO0 (m : MethodId) (x0 : Addr) : entryFrame m #[(.ref x0)] 1 = mkF m 0 #[.val (.ref x0)] [] := by first | (simp [entryFrame, mkF, argsToLocals, Value.category]; done) | rfl
def QCO0 (Z : State) (b : Addr) (i_COMPACT_STRINGS : Int32) (v_SIOOBE_FORMATTER : Value) (h0 : Heap) (n0 : Nat) (v : Option Value) (h : Heap) (L : List Loc) : Prop := v = some (.int 0) ∧ Fr n0 L ∧ h = h0
set_option maxRecDepth 65536 in
set_option maxHeartbeats 40000000 in
theorem rmCO0 (l : Launch) (Z : State) (a0 : Array Value) (hw : ∀ d ∈ tables_1, d.before a0 Z = true) (ws : List Jvm.Cond) (b : Addr) (i_COMPACT_STRINGS : Int32) (v_SIOOBE_FORMATTER : Value) (h0 : Heap) (n0 : Nat) (O0 : Old Z n0 h0) (F : Fld Z h0 b "java/lang/String" "coder" "B" (.int (0 : Int32))) (hS : OwnS Z i_COMPACT_STRINGS v_SIOOBE_FORMATTER) :
    MetFree l (⟨"java/lang/String", "coder", "()B"⟩ : MethodName) (head1 (Jvm.Cond.code (⟨"java/lang/String", "coder", "()B"⟩ : MethodName) jdk_42_method_152_code 1 (some .byte) :: ws) ({ frames := 0, cells := 0, slots := 0, locals := 0 } : Room)) (fun aa_ UU_ => aa_ = #[(.ref b)] ∧ Z.Warmed39 UU_.vm ∧ UU_.heap = h0) (fun _ _ _ _ _ => True) (fun _ UU_ oo_ UV_ => ∃ vv_ LL_, oo_ = .returned vv_ ∧ QCO0 Z b i_COMPACT_STRINGS v_SIOOBE_FORMATTER h0 n0 vv_ UV_.heap LL_ ∧ FrameEnd UU_ oo_ UV_ LL_ ({ frames := 0, cells := 0, slots := 0, locals := 0 } : Room).cells ({ frames := 0, cells := 0, slots := 0, locals := 0 } : Room).slots) := by
  refine MetFree.of_bodySF (plainFor_of_name pn_0) hisR ?_
  intro p e s m args below meth c s₁ Bd hml0 hP hK
  obtain ⟨rfl, hZ, hh⟩ := hP
  have hx := Bd.exec
  have hby := Bd.bytes
  have hlk := BodyLoose.notSynchronized Bd
  have hml : c.maxLocals = 1 := hml0
  have hown : s.vm.findClass "java/lang/String" = some m.cls := findClass_of_methodNamed Bd.named
  have hnm := (name_of_methodNamed Bd.named Bd.method).1
  have X0 : Stand p l e ({ frames := 0, cells := 0, slots := 0, locals := 0 } : Room) s m #[(.ref b)] below meth c s₁ [] 0 0 := Stand.of_body Bd
  have e0 : s₁.heap = h0 := by rw [← hh, Bd.state]; rfl
  have N0 := Fr.nil n0
  suffices hOW : OW p e below s (QCO0 Z b i_COMPACT_STRINGS v_SIOOBE_FORMATTER h0 n0) 0 0 (s₁.setTop (mkF m 0 #[.val (.ref b)] [])) by
    obtain ⟨oq1_, oq2_, oq3_, oq4_⟩ := hOW
    exact ⟨oq1_, oq2_, castTop (ef_CO0 m b) oq3_, oq4_⟩
  have hS' := hS
  obtain ⟨Si_COMPACT_STRINGS, Sv_SIOOBE_FORMATTER, Rv_SIOOBE_FORMATTER, S__assertionsDisabled, S_HI_BYTE_SHIFT, S_LO_BYTE_SHIFT, Pi_COMPACT_STRINGS⟩ := hS'
  obtain ⟨T1, X1, e1, st1⟩ := getS2 X0 hx hZ hown (host := "") (Or.inl (w_45 hw)) Via.refl e0 (Si_COMPACT_STRINGS.ext O0.2) (g := (mkF m 0 #[.val (.ref b)] [])) rfl (hb hby d8_0)
  refine OW.st (B := T1.setTop (mkF m 7 #[.val (.ref b)] [(.ref b)])) (fun _ kk_ => st1 _ (XS.ifNo X1.here hx rfl (hb hby d8_3) rfl ((if0 _ _).trans (feq Pi_COMPACT_STRINGS).1) (XS.aloadN X1.here hx rfl (hb hby d8_6) rfl rfl kk_))) ?_
  obtain ⟨T2, X2, e2, st2⟩ := getF X1 hx hZ hown (host := "") (Or.inl (w_30 hw)) Via.refl e1 F (g := (mkF m 7 #[.val (.ref b)] [(.ref b)])) rfl rfl (hb hby d8_7)
  refine OW.st (B := T2.setTop (mkF m 14 #[.val (.ref b)] [(.int (0 : Int32))])) (fun _ kk_ => st2 _ (XS.goto X2.here hx rfl (pc0 := 10) (pc' := 14) rfl (hb hby d8_10) (by decide) (by decide) kk_)) ?_
  exact OW.ret X2 hx hlk (i := .ireturn) Bd.returns rfl (Or.inl ⟨rfl, Or.inr (Or.inr (Or.inl rfl)), _, rfl⟩) (hb hby d8_14) e2 (by decide) (by decide) ⟨rfl, N0, rfl⟩
theorem ef_IL0 (m : MethodId) (x0 : Addr) : entryFrame m #[(.ref x0)] 1 = mkF m 0 #[.val (.ref x0)] [] := by first | (simp [entryFrame, mkF, argsToLocals, Value.category]; done) | rfl
def QIL0 (Z : State) (b : Addr) (i_COMPACT_STRINGS : Int32) (v_SIOOBE_FORMATTER : Value) (h0 : Heap) (n0 : Nat) (v : Option Value) (h : Heap) (L : List Loc) : Prop := v = some (.int 1) ∧ Fr n0 L ∧ h = h0
set_option maxRecDepth 65536 in
set_option maxHeartbeats 40000000 in
theorem rmIL0 (l : Launch) (Z : State) (a0 : Array Value) (hw : ∀ d ∈ tables_1, d.before a0 Z = true) (ws : List Jvm.Cond) (b : Addr) (i_COMPACT_STRINGS : Int32) (v_SIOOBE_FORMATTER : Value) (h0 : Heap) (n0 : Nat) (O0 : Old Z n0 h0) (F : Fld Z h0 b "java/lang/String" "coder" "B" (.int (0 : Int32))) (hS : OwnS Z i_COMPACT_STRINGS v_SIOOBE_FORMATTER) :
    MetFree l (⟨"java/lang/String", "isLatin1", "()Z"⟩ : MethodName) (head1 (Jvm.Cond.code (⟨"java/lang/String", "isLatin1", "()Z"⟩ : MethodName) jdk_42_method_154_code 1 (some .boolean) :: ws) ({ frames := 0, cells := 0, slots := 0, locals := 0 } : Room)) (fun aa_ UU_ => aa_ = #[(.ref b)] ∧ Z.Warmed39 UU_.vm ∧ UU_.heap = h0) (fun _ _ _ _ _ => True) (fun _ UU_ oo_ UV_ => ∃ vv_ LL_, oo_ = .returned vv_ ∧ QIL0 Z b i_COMPACT_STRINGS v_SIOOBE_FORMATTER h0 n0 vv_ UV_.heap LL_ ∧ FrameEnd UU_ oo_ UV_ LL_ ({ frames := 0, cells := 0, slots := 0, locals := 0 } : Room).cells ({ frames := 0, cells := 0, slots := 0, locals := 0 } : Room).slots) := by
  refine MetFree.of_bodySF (plainFor_of_name pn_0) hisR ?_
  intro p e s m args below meth c s₁ Bd hml0 hP hK
  obtain ⟨rfl, hZ, hh⟩ := hP
  have hx := Bd.exec
  have hby := Bd.bytes
  have hlk := BodyLoose.notSynchronized Bd
  have hml : c.maxLocals = 1 := hml0
  have hown : s.vm.findClass "java/lang/String" = some m.cls := findClass_of_methodNamed Bd.named
  have hnm := (name_of_methodNamed Bd.named Bd.method).1
  have X0 : Stand p l e ({ frames := 0, cells := 0, slots := 0, locals := 0 } : Room) s m #[(.ref b)] below meth c s₁ [] 0 0 := Stand.of_body Bd
  have e0 : s₁.heap = h0 := by rw [← hh, Bd.state]; rfl
  have N0 := Fr.nil n0
  suffices hOW : OW p e below s (QIL0 Z b i_COMPACT_STRINGS v_SIOOBE_FORMATTER h0 n0) 0 0 (s₁.setTop (mkF m 0 #[.val (.ref b)] [])) by
    obtain ⟨oq1_, oq2_, oq3_, oq4_⟩ := hOW
    exact ⟨oq1_, oq2_, castTop (ef_IL0 m b) oq3_, oq4_⟩
  have hS' := hS
  obtain ⟨Si_COMPACT_STRINGS, Sv_SIOOBE_FORMATTER, Rv_SIOOBE_FORMATTER, S__assertionsDisabled, S_HI_BYTE_SHIFT, S_LO_BYTE_SHIFT, Pi_COMPACT_STRINGS⟩ := hS'
  obtain ⟨T3, X3, e3, st3⟩ := getS2 X0 hx hZ hown (host := "") (Or.inl (w_45 hw)) Via.refl e0 (Si_COMPACT_STRINGS.ext O0.2) (g := (mkF m 0 #[.val (.ref b)] [])) rfl (hb hby d13_0)
  refine OW.st (B := T3.setTop (mkF m 7 #[.val (.ref b)] [(.ref b)])) (fun _ kk_ => st3 _ (XS.ifNo X3.here hx rfl (hb hby d13_3) rfl ((if0 _ _).trans (feq Pi_COMPACT_STRINGS).1) (XS.aloadN X3.here hx rfl (hb hby d13_6) rfl rfl kk_))) ?_
  obtain ⟨T4, X4, e4, st4⟩ := getF X3 hx hZ hown (host := "") (Or.inl (w_30 hw)) Via.refl e3 F (g := (mkF m 7 #[.val (.ref b)] [(.ref b)])) rfl rfl (hb hby d13_7)
  refine OW.st (B := T4.setTop (mkF m 18 #[.val (.ref b)] [(.int (1 : Int32))])) (fun _ kk_ => st4 _ (XS.ifNo X4.here hx rfl (hb hby d13_10) rfl ((if0 _ _).trans (teq (by decide)).2) (XS.iconst X4.here hx rfl (hb hby d13_13) (XS.goto X4.here hx rfl (pc0 := 14) (pc' := 18) rfl (hb hby d13_14) (by decide) (by decide) kk_)))) ?_
  exact OW.ret X4 hx hlk (i := .ireturn) Bd.returns rfl (Or.inl ⟨rfl, Or.inr (Or.inl rfl), _, rfl⟩) (hb hby d13_18) e4 (by decide) (by decide) ⟨rfl, N0, rfl⟩
theorem ef_CO1 (m : MethodId) (x0 : Addr) : entryFrame m #[(.ref x0)] 1 = mkF m 0 #[.val (.ref x0)] [] := by first | (simp [entryFrame, mkF, argsToLocals, Value.category]; done) | rfl
def QCO1 (Z : State) (b : Addr) (i_COMPACT_STRINGS : Int32) (v_SIOOBE_FORMATTER : Value) (h0 : Heap) (n0 : Nat) (v : Option Value) (h : Heap) (L : List Loc) : Prop := v = some (.int 1) ∧ Fr n0 L ∧ h = h0
set_option maxRecDepth 65536 in
set_option maxHeartbeats 40000000 in
theorem rmCO1 (l : Launch) (Z : State) (a0 : Array Value) (hw : ∀ d ∈ tables_1, d.before a0 Z = true) (ws : List Jvm.Cond) (b : Addr) (i_COMPACT_STRINGS : Int32) (v_SIOOBE_FORMATTER : Value) (h0 : Heap) (n0 : Nat) (O0 : Old Z n0 h0) (F : Fld Z h0 b "java/lang/String" "coder" "B" (.int (1 : Int32))) (hS : OwnS Z i_COMPACT_STRINGS v_SIOOBE_FORMATTER) :
    MetFree l (⟨"java/lang/String", "coder", "()B"⟩ : MethodName) (head1 (Jvm.Cond.code (⟨"java/lang/String", "coder", "()B"⟩ : MethodName) jdk_42_method_152_code 1 (some .byte) :: ws) ({ frames := 0, cells := 0, slots := 0, locals := 0 } : Room)) (fun aa_ UU_ => aa_ = #[(.ref b)] ∧ Z.Warmed39 UU_.vm ∧ UU_.heap = h0) (fun _ _ _ _ _ => True) (fun _ UU_ oo_ UV_ => ∃ vv_ LL_, oo_ = .returned vv_ ∧ QCO1 Z b i_COMPACT_STRINGS v_SIOOBE_FORMATTER h0 n0 vv_ UV_.heap LL_ ∧ FrameEnd UU_ oo_ UV_ LL_ ({ frames := 0, cells := 0, slots := 0, locals := 0 } : Room).cells ({ frames := 0, cells := 0, slots := 0, locals := 0 } : Room).slots) := by
  refine MetFree.of_bodySF (plainFor_of_name pn_0) hisR ?_
  intro p e s m args below meth c s₁ Bd hml0 hP hK
  obtain ⟨rfl, hZ, hh⟩ := hP
  have hx := Bd.exec
  have hby := Bd.bytes
  have hlk := BodyLoose.notSynchronized Bd
  have hml : c.maxLocals = 1 := hml0
  have hown : s.vm.findClass "java/lang/String" = some m.cls := findClass_of_methodNamed Bd.named
  have hnm := (name_of_methodNamed Bd.named Bd.method).1
  have X0 : Stand p l e ({ frames := 0, cells := 0, slots := 0, locals := 0 } : Room) s m #[(.ref b)] below meth c s₁ [] 0 0 := Stand.of_body Bd
  have e0 : s₁.heap = h0 := by rw [← hh, Bd.state]; rfl
  have N0 := Fr.nil n0
  suffices hOW : OW p e below s (QCO1 Z b i_COMPACT_STRINGS v_SIOOBE_FORMATTER h0 n0) 0 0 (s₁.setTop (mkF m 0 #[.val (.ref b)] [])) by
    obtain ⟨oq1_, oq2_, oq3_, oq4_⟩ := hOW
    exact ⟨oq1_, oq2_, castTop (ef_CO1 m b) oq3_, oq4_⟩
  have hS' := hS
  obtain ⟨Si_COMPACT_STRINGS, Sv_SIOOBE_FORMATTER, Rv_SIOOBE_FORMATTER, S__assertionsDisabled, S_HI_BYTE_SHIFT, S_LO_BYTE_SHIFT, Pi_COMPACT_STRINGS⟩ := hS'
  obtain ⟨T5, X5, e5, st5⟩ := getS2 X0 hx hZ hown (host := "") (Or.inl (w_45 hw)) Via.refl e0 (Si_COMPACT_STRINGS.ext O0.2) (g := (mkF m 0 #[.val (.ref b)] [])) rfl (hb hby d8_0)
  refine OW.st (B := T5.setTop (mkF m 7 #[.val (.ref b)] [(.ref b)])) (fun _ kk_ => st5 _ (XS.ifNo X5.here hx rfl (hb hby d8_3) rfl ((if0 _ _).trans (feq Pi_COMPACT_STRINGS).1) (XS.aloadN X5.here hx rfl (hb hby d8_6) rfl rfl kk_))) ?_
  obtain ⟨T6, X6, e6, st6⟩ := getF X5 hx hZ hown (host := "") (Or.inl (w_30 hw)) Via.refl e5 F (g := (mkF m 7 #[.val (.ref b)] [(.ref b)])) rfl rfl (hb hby d8_7)
  refine OW.st (B := T6.setTop (mkF m 14 #[.val (.ref b)] [(.int (1 : Int32))])) (fun _ kk_ => st6 _ (XS.goto X6.here hx rfl (pc0 := 10) (pc' := 14) rfl (hb hby d8_10) (by decide) (by decide) kk_)) ?_
  exact OW.ret X6 hx hlk (i := .ireturn) Bd.returns rfl (Or.inl ⟨rfl, Or.inr (Or.inr (Or.inl rfl)), _, rfl⟩) (hb hby d8_14) e6 (by decide) (by decide) ⟨rfl, N0, rfl⟩
theorem ef_IL1 (m : MethodId) (x0 : Addr) : entryFrame m #[(.ref x0)] 1 = mkF m 0 #[.val (.ref x0)] [] := by first | (simp [entryFrame, mkF, argsToLocals, Value.category]; done) | rfl
def QIL1 (Z : State) (b : Addr) (i_COMPACT_STRINGS : Int32) (v_SIOOBE_FORMATTER : Value) (h0 : Heap) (n0 : Nat) (v : Option Value) (h : Heap) (L : List Loc) : Prop := v = some (.int 0) ∧ Fr n0 L ∧ h = h0
set_option maxRecDepth 65536 in
set_option maxHeartbeats 40000000 in
theorem rmIL1 (l : Launch) (Z : State) (a0 : Array Value) (hw : ∀ d ∈ tables_1, d.before a0 Z = true) (ws : List Jvm.Cond) (b : Addr) (i_COMPACT_STRINGS : Int32) (v_SIOOBE_FORMATTER : Value) (h0 : Heap) (n0 : Nat) (O0 : Old Z n0 h0) (F : Fld Z h0 b "java/lang/String" "coder" "B" (.int (1 : Int32))) (hS : OwnS Z i_COMPACT_STRINGS v_SIOOBE_FORMATTER) :
    MetFree l (⟨"java/lang/String", "isLatin1", "()Z"⟩ : MethodName) (head1 (Jvm.Cond.code (⟨"java/lang/String", "isLatin1", "()Z"⟩ : MethodName) jdk_42_method_154_code 1 (some .boolean) :: ws) ({ frames := 0, cells := 0, slots := 0, locals := 0 } : Room)) (fun aa_ UU_ => aa_ = #[(.ref b)] ∧ Z.Warmed39 UU_.vm ∧ UU_.heap = h0) (fun _ _ _ _ _ => True) (fun _ UU_ oo_ UV_ => ∃ vv_ LL_, oo_ = .returned vv_ ∧ QIL1 Z b i_COMPACT_STRINGS v_SIOOBE_FORMATTER h0 n0 vv_ UV_.heap LL_ ∧ FrameEnd UU_ oo_ UV_ LL_ ({ frames := 0, cells := 0, slots := 0, locals := 0 } : Room).cells ({ frames := 0, cells := 0, slots := 0, locals := 0 } : Room).slots) := by
  refine MetFree.of_bodySF (plainFor_of_name pn_0) hisR ?_
  intro p e s m args below meth c s₁ Bd hml0 hP hK
  obtain ⟨rfl, hZ, hh⟩ := hP
  have hx := Bd.exec
  have hby := Bd.bytes
  have hlk := BodyLoose.notSynchronized Bd
  have hml : c.maxLocals = 1 := hml0
  have hown : s.vm.findClass "java/lang/String" = some m.cls := findClass_of_methodNamed Bd.named
  have hnm := (name_of_methodNamed Bd.named Bd.method).1
  have X0 : Stand p l e ({ frames := 0, cells := 0, slots := 0, locals := 0 } : Room) s m #[(.ref b)] below meth c s₁ [] 0 0 := Stand.of_body Bd
  have e0 : s₁.heap = h0 := by rw [← hh, Bd.state]; rfl
  have N0 := Fr.nil n0
  suffices hOW : OW p e below s (QIL1 Z b i_COMPACT_STRINGS v_SIOOBE_FORMATTER h0 n0) 0 0 (s₁.setTop (mkF m 0 #[.val (.ref b)] [])) by
    obtain ⟨oq1_, oq2_, oq3_, oq4_⟩ := hOW
    exact ⟨oq1_, oq2_, castTop (ef_IL1 m b) oq3_, oq4_⟩
  have hS' := hS
  obtain ⟨Si_COMPACT_STRINGS, Sv_SIOOBE_FORMATTER, Rv_SIOOBE_FORMATTER, S__assertionsDisabled, S_HI_BYTE_SHIFT, S_LO_BYTE_SHIFT, Pi_COMPACT_STRINGS⟩ := hS'
  obtain ⟨T7, X7, e7, st7⟩ := getS2 X0 hx hZ hown (host := "") (Or.inl (w_45 hw)) Via.refl e0 (Si_COMPACT_STRINGS.ext O0.2) (g := (mkF m 0 #[.val (.ref b)] [])) rfl (hb hby d13_0)
  refine OW.st (B := T7.setTop (mkF m 7 #[.val (.ref b)] [(.ref b)])) (fun _ kk_ => st7 _ (XS.ifNo X7.here hx rfl (hb hby d13_3) rfl ((if0 _ _).trans (feq Pi_COMPACT_STRINGS).1) (XS.aloadN X7.here hx rfl (hb hby d13_6) rfl rfl kk_))) ?_
  obtain ⟨T8, X8, e8, st8⟩ := getF X7 hx hZ hown (host := "") (Or.inl (w_30 hw)) Via.refl e7 F (g := (mkF m 7 #[.val (.ref b)] [(.ref b)])) rfl rfl (hb hby d13_7)
  refine OW.st (B := T8.setTop (mkF m 18 #[.val (.ref b)] [(.int (0 : Int32))])) (fun _ kk_ => st8 _ (XS.ifYes X8.here hx rfl (pc0 := 10) (pc' := 17) rfl (hb hby d13_10) rfl ((if0 _ _).trans (feq (by decide)).2) (by decide) (by decide) (XS.iconst X8.here hx rfl (hb hby d13_17) kk_))) ?_
  exact OW.ret X8 hx hlk (i := .ireturn) Bd.returns rfl (Or.inl ⟨rfl, Or.inr (Or.inl rfl), _, rfl⟩) (hb hby d13_18) e8 (by decide) (by decide) ⟨rfl, N0, rfl⟩
theorem ef_PK (m : MethodId) (x0 : Int32) (x1 : Int32) (x2 : Value) (hv2 : x2.category = 1) : entryFrame m #[(.int x0), (.int x1), x2] 3 = mkF m 0 #[.val (.int x0), .val (.int x1), .val x2] [] := by first | (simp [entryFrame, mkF, argsToLocals, own_catI, own_catJ, own_catD, own_catR, own_catN, hv2]; done) | rfl
def QPK (Z : State) (i : Int32) (t : Int32) (vv : Value) (h0 : Heap) (n0 : Nat) (v : Option Value) (h : Heap) (L : List Loc) : Prop := v = some (.int i) ∧ Fr n0 L ∧ h = h0
set_option maxRecDepth 65536 in
set_option maxHeartbeats 40000000 in
theorem rmPK (l : Launch) (Z : State) (a0 : Array Value) (hw : ∀ d ∈ tables_1, d.before a0 Z = true) (ws : List Jvm.Cond) (i : Int32) (t : Int32) (vv : Value) (h0 : Heap) (n0 : Nat) (O0 : Old Z n0 h0) (h1 : ¬ (i < (0 : Int32))) (h2 : i < t) (hr : vv.isRef = true) :
    MetFree l (⟨"jdk/internal/util/Preconditions", "checkIndex", "(IILjava/util/function/BiFunction;)I"⟩ : MethodName) (head1 (Jvm.Cond.code (⟨"jdk/internal/util/Preconditions", "checkIndex", "(IILjava/util/function/BiFunction;)I"⟩ : MethodName) jdk_41_method_11_code 3 (some .int) :: ws) ({ frames := 0, cells := 0, slots := 0, locals := 0 } : Room)) (fun aa_ UU_ => aa_ = #[(.int i), (.int t), vv] ∧ Z.Warmed39 UU_.vm ∧ UU_.heap = h0) (fun _ _ _ _ _ => True) (fun _ UU_ oo_ UV_ => ∃ vv_ LL_, oo_ = .returned vv_ ∧ QPK Z i t vv h0 n0 vv_ UV_.heap LL_ ∧ FrameEnd UU_ oo_ UV_ LL_ ({ frames := 0, cells := 0, slots := 0, locals := 0 } : Room).cells ({ frames := 0, cells := 0, slots := 0, locals := 0 } : Room).slots) := by
  refine MetFree.of_bodySF (plainFor_of_name pn_1) hisR ?_
  intro p e s m args below meth c s₁ Bd hml0 hP hK
  obtain ⟨rfl, hZ, hh⟩ := hP
  have hx := Bd.exec
  have hby := Bd.bytes
  have hlk := BodyLoose.notSynchronized Bd
  have hml : c.maxLocals = 3 := hml0
  have hown : s.vm.findClass "jdk/internal/util/Preconditions" = some m.cls := findClass_of_methodNamed Bd.named
  have hnm := (name_of_methodNamed Bd.named Bd.method).1
  have X0 : Stand p l e ({ frames := 0, cells := 0, slots := 0, locals := 0 } : Room) s m #[(.int i), (.int t), vv] below meth c s₁ [] 0 0 := Stand.of_body Bd
  have e0 : s₁.heap = h0 := by rw [← hh, Bd.state]; rfl
  have N0 := Fr.nil n0
  suffices hOW : OW p e below s (QPK Z i t vv h0 n0) 0 0 (s₁.setTop (mkF m 0 #[.val (.int i), .val (.int t), .val vv] [])) by
    obtain ⟨oq1_, oq2_, oq3_, oq4_⟩ := hOW
    exact ⟨oq1_, oq2_, castTop (ef_PK m i t vv (own_cat hr)) oq3_, oq4_⟩
  refine OW.st (B := s₁.setTop (mkF m 17 #[.val (.int i), .val (.int t), .val vv] [(.int i)])) (fun _ kk_ => XS.iloadN X0.here hx rfl (hb hby d16_0) rfl (XS.ifNo X0.here hx rfl (hb hby d16_1) rfl ((if0 _ _).trans (flt h1).1) (XS.iloadN X0.here hx rfl (hb hby d16_4) rfl (XS.iloadN X0.here hx rfl (hb hby d16_5) rfl (XS.icmpYes X0.here hx rfl (pc0 := 6) (pc' := 16) rfl (hb hby d16_6) rfl (tlt h2).1 (by decide) (by decide) (XS.iloadN X0.here hx rfl (hb hby d16_16) rfl kk_)))))) ?_
  exact OW.ret X0 hx hlk (i := .ireturn) Bd.returns rfl (Or.inl ⟨rfl, Or.inl rfl, _, rfl⟩) (hb hby d16_17) e0 (by decide) (by decide) ⟨rfl, N0, rfl⟩
theorem ef_CK (m : MethodId) (x0 : Int32) (x1 : Int32) : entryFrame m #[(.int x0), (.int x1)] 2 = mkF m 0 #[.val (.int x0), .val (.int x1)] [] := by first | (simp [entryFrame, mkF, argsToLocals, Value.category]; done) | rfl
def QCK (Z : State) (i : Int32) (t : Int32) (i_COMPACT_STRINGS : Int32) (v_SIOOBE_FORMATTER : Value) (h0 : Heap) (n0 : Nat) (v : Option Value) (h : Heap) (L : List Loc) : Prop := v = none ∧ Fr n0 L ∧ h = h0
set_option maxRecDepth 65536 in
set_option maxHeartbeats 40000000 in
theorem rmCK (l : Launch) (Z : State) (a0 : Array Value) (hw : ∀ d ∈ tables_1, d.before a0 Z = true) (ws : List Jvm.Cond) (i : Int32) (t : Int32) (i_COMPACT_STRINGS : Int32) (v_SIOOBE_FORMATTER : Value) (h0 : Heap) (n0 : Nat) (O0 : Old Z n0 h0) (h1 : ¬ (i < (0 : Int32))) (h2 : i < t) (hS : OwnS Z i_COMPACT_STRINGS v_SIOOBE_FORMATTER) :
    MetFree l (⟨"java/lang/String", "checkIndex", "(II)V"⟩ : MethodName) (head1 (Jvm.Cond.code (⟨"java/lang/String", "checkIndex", "(II)V"⟩ : MethodName) jdk_42_method_155_code 2 none :: ws) ({ frames := 1, cells := 0, slots := 0, locals := 14 } : Room)) (fun aa_ UU_ => aa_ = #[(.int i), (.int t)] ∧ Z.Warmed39 UU_.vm ∧ UU_.heap = h0) (fun _ _ _ _ _ => True) (fun _ UU_ oo_ UV_ => ∃ vv_ LL_, oo_ = .returned vv_ ∧ QCK Z i t i_COMPACT_STRINGS v_SIOOBE_FORMATTER h0 n0 vv_ UV_.heap LL_ ∧ FrameEnd UU_ oo_ UV_ LL_ ({ frames := 1, cells := 0, slots := 0, locals := 14 } : Room).cells ({ frames := 1, cells := 0, slots := 0, locals := 14 } : Room).slots) := by
  refine MetFree.of_bodySF (plainFor_of_name pn_0) hisR ?_
  intro p e s m args below meth c s₁ Bd hml0 hP hK
  obtain ⟨rfl, hZ, hh⟩ := hP
  have hx := Bd.exec
  have hby := Bd.bytes
  have hlk := BodyLoose.notSynchronized Bd
  have hml : c.maxLocals = 2 := hml0
  have hown : s.vm.findClass "java/lang/String" = some m.cls := findClass_of_methodNamed Bd.named
  have hnm := (name_of_methodNamed Bd.named Bd.method).1
  have X0 : Stand p l e ({ frames := 1, cells := 0, slots := 0, locals := 14 } : Room) s m #[(.int i), (.int t)] below meth c s₁ [] 0 0 := Stand.of_body Bd
  have e0 : s₁.heap = h0 := by rw [← hh, Bd.state]; rfl
  have N0 := Fr.nil n0
  suffices hOW : OW p e below s (QCK Z i t i_COMPACT_STRINGS v_SIOOBE_FORMATTER h0 n0) 0 0 (s₁.setTop (mkF m 0 #[.val (.int i), .val (.int t)] [])) by
    obtain ⟨oq1_, oq2_, oq3_, oq4_⟩ := hOW
    exact ⟨oq1_, oq2_, castTop (ef_CK m i t) oq3_, oq4_⟩
  have hS' := hS
  obtain ⟨Si_COMPACT_STRINGS, Sv_SIOOBE_FORMATTER, Rv_SIOOBE_FORMATTER, S__assertionsDisabled, S_HI_BYTE_SHIFT, S_LO_BYTE_SHIFT, Pi_COMPACT_STRINGS⟩ := hS'
  refine OW.st (B := s₁.setTop (mkF m 2 #[.val (.int i), .val (.int t)] [(.int t), (.int i)])) (fun _ kk_ => XS.iloadN X0.here hx rfl (hb hby d15_0) rfl (XS.iloadN X0.here hx rfl (hb hby d15_1) rfl kk_)) ?_
  obtain ⟨T9, X9, e9, st9⟩ := getS2 X0 hx hZ hown (host := "") (Or.inl (w_75 hw)) Via.refl e0 (Sv_SIOOBE_FORMATTER.ext O0.2) (g := (mkF m 2 #[.val (.int i), .val (.int t)] [(.int t), (.int i)])) rfl (hb hby d15_2)
  refine OW.st (B := T9.setTop (mkF m 5 #[.val (.int i), .val (.int t)] [v_SIOOBE_FORMATTER, (.int t), (.int i)])) (fun _ kk_ => st9 _ kk_) ?_
  obtain ⟨_, _, ⟨T10, L10, k10, n10⟩, -, X10, ⟨Lc10, hQ10, l10, y10, z10⟩, st10⟩ := Jvm.LawKit.callS X9 hx (y := (⟨"jdk/internal/util/Preconditions", "checkIndex", "(IILjava/util/function/BiFunction;)I"⟩ : MethodName)) hown (mvT hZ (w_77 hw)) (mvT hZ (w_78 hw)) (mvT hZ (w_76 hw)) (mvT hZ (w_79 hw)) (by decide) (backOf (W := 0) (rmPK l Z a0 hw [] i t v_SIOOBE_FORMATTER h0 n0 O0 h1 h2 Rv_SIOOBE_FORMATTER) hZ (w_79 hw) (w_76 hw) (by decide) (by decide)) (g := (mkF m 5 #[.val (.int i), .val (.int t)] [v_SIOOBE_FORMATTER, (.int t), (.int i)])) rfl (by rw [hml]; rfl) (argsL := [(.int i), (.int t), v_SIOOBE_FORMATTER]) (rest := []) (lenOf pd_0 rfl) rfl (by show 2 * 0 + _ ≤ _; exact Nat.le_of_eq rfl) (hb hby d15_5) (fun _ _ => ⟨rfl, e9, (by decide : 0 + 0 ≤ _), (by decide : 0 + 0 ≤ _)⟩)
  dsimp only [Pt.U, Pt.locs, Pt.cells, Pt.slots] at X10 l10 y10 z10 st10 hQ10
  subst l10 y10 z10
  obtain ⟨rfl, Nq10, e10⟩ := hQ10
  have N10 := Fr.app N0 Nq10
  refine OW.st (B := T10.setTop (mkF m 9 #[.val (.int i), .val (.int t)] [])) (fun _ kk_ => st10 _ (XS.pop X10.here hx rfl (hb hby d15_8) rfl rfl kk_)) ?_
  exact OW.retV X10 hx hlk Bd.returns (hb hby d15_9) e10 (by decide) (by decide) ⟨rfl, N10, rfl⟩
theorem ef_S1_0 (m : MethodId) (x0 : Addr) (x1 : Addr) (x2 : Int32) (x3 : Int32) : entryFrame m #[(.ref x0), (.ref x1), (.int x2), (.int x3), .null] 6 = mkF m 0 #[.val (.ref x0), .val (.ref x1), .val (.int x2), .val (.int x3), .val .null, .unset] [] := by first | (simp [entryFrame, mkF, argsToLocals, Value.category]; done) | rfl
def QS1_0 (Z : State) (b : Addr) (ca : Addr) (kc : ClassId) (h0 : Heap) (n0 : Nat) (v : Option Value) (h : Heap) (L : List Loc) : Prop := v = none ∧ Fr n0 L ∧ Keep h0 h [b] ∧ Exa Z h b "java/lang/String" ∧ ∃ (ba : Addr) (kb : ClassId), Fld Z h b "java/lang/String" "coder" "B" (.int (0 : Int32)) ∧ Fld Z h b "java/lang/String" "value" "[B" (.ref ba) ∧ Arv Z h ba kb .byte (0 : Int32) [] (.int (0 : Int32))
set_option maxRecDepth 65536 in
set_option maxHeartbeats 40000000 in
theorem rmS1_0 (l : Launch) (Z : State) (a0 : Array Value) (hw : ∀ d ∈ tables_1, d.before a0 Z = true) (ws : List Jvm.Cond) (b : Addr) (ca : Addr) (kc : ClassId) (h0 : Heap) (n0 : Nat) (O0 : Old Z n0 h0) (E : Exa Z h0 b "java/lang/String") (F1 : Fld Z h0 b "java/lang/String" "value" "[B" .null) (F2 : Fld Z h0 b "java/lang/String" "coder" "B" (.int (0 : Int32))) (g : n0 ≤ b) (V : Arv Z h0 ca kc .char (0 : Int32) [] (.int (0 : Int32))) :
    MetFree l (⟨"java/lang/String", "<init>", "([CIILjava/lang/Void;)V"⟩ : MethodName) (head1 (Jvm.Cond.code (⟨"java/lang/String", "<init>", "([CIILjava/lang/Void;)V"⟩ : MethodName) jdk_42_method_149_code 6 none :: ws) ({ frames := 1, cells := 4, slots := 8, locals := 12 } : Room)) (fun aa_ UU_ => aa_ = #[(.ref b), (.ref ca), (.int (0 : Int32)), (.int (0 : Int32)), .null] ∧ Z.Warmed39 UU_.vm ∧ UU_.heap = h0 ∧ CHv Z consts_1 UU_.vm h0) (fun _ _ _ _ _ => True) (fun _ UU_ oo_ UV_ => ∃ vv_ LL_, oo_ = .returned vv_ ∧ QS1_0 Z b ca kc h0 n0 vv_ UV_.heap LL_ ∧ CHr Z consts_1 UU_.vm UU_.heap UV_.vm UV_.heap ∧ ReturnedEndW UU_ oo_ UV_ LL_ ({ frames := 1, cells := 4, slots := 8, locals := 12 } : Room).cells ({ frames := 1, cells := 4, slots := 8, locals := 12 } : Room).slots) := by
  refine MetFree.of_bodySF (plainFor_of_name pn_0) hisR ?_
  intro p e s m args below meth c s₁ Bd hml0 hP hK
  obtain ⟨rfl, hZ, hh, hCH⟩ := hP
  have hx := Bd.exec
  have hby := Bd.bytes
  have hlk := BodyLoose.notSynchronized Bd
  have hml : c.maxLocals = 6 := hml0
  have hown : s.vm.findClass "java/lang/String" = some m.cls := findClass_of_methodNamed Bd.named
  have hnm := (name_of_methodNamed Bd.named Bd.method).1
  have X0 : Stand p l e ({ frames := 1, cells := 4, slots := 8, locals := 12 } : Room) s m #[(.ref b), (.ref ca), (.int (0 : Int32)), (.int (0 : Int32)), .null] below meth c s₁ [] 0 0 := Stand.of_body Bd
  have e0 : s₁.heap = h0 := by rw [← hh, Bd.state]; rfl
  have N0 := Fr.nil n0
  have hS0 : s.Since s.vm 0 := (State.WarmedH.refl s).since 0
  have hk0 : 0 ≤ h0.size := Nat.zero_le _
  have CR0 : CHr Z consts_1 s.vm h0 s.vm h0 := CHr.refl hCH
  have KC0 : Keep h0 h0 [b] := Keep.refl _ _
  suffices hOW : OWH Z consts_1 h0 p e below s (QS1_0 Z b ca kc h0 n0) 4 8 (s₁.setTop (mkF m 0 #[.val (.ref b), .val (.ref ca), .val (.int (0 : Int32)), .val (.int (0 : Int32)), .val .null, .unset] [])) by
    obtain ⟨oq1_, oq2_, oq3_, oq4_⟩ := hOW
    obtain ⟨oq5_, oq6_, oq7_, oq8_, oq9_, or1_, or2_, or3_⟩ := oq4_
    exact ⟨oq1_, oq2_, castTop (ef_S1_0 m b ca (0 : Int32) (0 : Int32)) oq3_, oq5_, oq6_, oq7_, oq8_, oq9_, or1_, by rw [hh]; exact or2_, or3_⟩
  refine OWH.st (B := s₁.setTop (mkF m 1 #[.val (.ref b), .val (.ref ca), .val (.int (0 : Int32)), .val (.int (0 : Int32)), .val .null, .unset] [(.ref b)])) (fun _ kk_ => XS.aloadN X0.here hx rfl (hb hby d4_0) rfl rfl kk_) ?_
  obtain ⟨T11, X11, e11, st11⟩ := initO X0 hx hZ hown (w_20 hw) (w_21 hw) (w_22 hw) e0 (g := (mkF m 1 #[.val (.ref b), .val (.ref ca), .val (.int (0 : Int32)), .val (.int (0 : Int32)), .val .null, .unset] [(.ref b)])) rfl (by rw [hml]; rfl) rfl (hb hby d4_1) (by decide) (W := 0) (by show 2 * 0 + _ ≤ _; exact Nat.le_of_eq rfl) (by decide)
  refine OWH.st (B := T11.setTop (mkF m 9 #[.val (.ref b), .val (.ref ca), .val (.int (0 : Int32)), .val (.int (0 : Int32)), .val .null, .unset] [(.ref b)])) (fun _ kk_ => st11 _ (XS.iloadN X11.here hx rfl (hb hby d4_4) rfl (XS.ifNo X11.here hx rfl (hb hby d4_5) rfl ((if0 _ _).trans (teq (by decide)).2) (XS.aloadN X11.here hx rfl (hb hby d4_8) rfl rfl kk_)))) ?_
  obtain ⟨a12, T12, h12, k12, lb12, lk12, X12, e12, E12, hS12, hk12, hZ12, hown12, Ea12, Fc12, Fv12, V12, -, -, Cs12, -, hne12, st12⟩ := ldcCH (s := s) (vm0 := s.vm) X11 hx hZ hown (w_23 hw) (own_wS hw) e11 hS0 hk0 (own_EW hw) (List.mem_of_getElem? (i := 0) rfl) CR0.1 (vs := []) (z := (0 : Int32)) ⟨by decide, by decide⟩ (by decide) (by decide) (g := (mkF m 9 #[.val (.ref b), .val (.ref ca), .val (.int (0 : Int32)), .val (.int (0 : Int32)), .val .null, .unset] [(.ref b)])) rfl (hb hby d4_9) (n := 0) (by decide) (by decide) (by decide) (by decide)
  have O12 : Old Z n0 h12 := O0.ext E12
  have CS12 : CHr Z consts_1 s.vm h0 T12.vm h12 := Cs12
  have Sf12_b := CHr.safe CS12 E.lt (own_safeS hZ.alike E F1)
  have CR12 := CHr.trans CR0 CS12
  have KC12 : Keep h0 h12 [b] := KC0.ext E12
  refine OWH.st (B := T12.setTop (mkF m 11 #[.val (.ref b), .val (.ref ca), .val (.int (0 : Int32)), .val (.int (0 : Int32)), .val .null, .unset] [(.ref a12), (.ref b)])) (fun _ kk_ => st12 _ kk_) ?_
  obtain ⟨T13, X13, e13, st13⟩ := getF X12 hx hZ12 hown12 (host := "") (Or.inl (w_29 hw)) Via.refl e12 Fv12 (g := (mkF m 11 #[.val (.ref b), .val (.ref ca), .val (.int (0 : Int32)), .val (.int (0 : Int32)), .val .null, .unset] [(.ref a12), (.ref b)])) rfl rfl (hb hby d4_11)
  refine OWH.st (B := T13.setTop (mkF m 14 #[.val (.ref b), .val (.ref ca), .val (.int (0 : Int32)), .val (.int (0 : Int32)), .val .null, .unset] [(.ref lb12), (.ref b)])) (fun _ kk_ => st13 _ kk_) ?_
  obtain ⟨T14, h14, X14, e14, W14, st14⟩ := putF X13 hx hZ12 hown12 (host := "") (Or.inl (w_29 hw)) Via.refl e13 (F1.ext E12) (E.ext E12) (Or.inr ⟨(w_25 hw), rfl, hnm⟩) (w_7 hw) (ty := (.array .byte)) (by decide) rfl rfl (g := (mkF m 14 #[.val (.ref b), .val (.ref ca), .val (.int (0 : Int32)), .val (.int (0 : Int32)), .val .null, .unset] [(.ref lb12), (.ref b)])) rfl rfl (hb hby d4_14)
  have N14 := Fr.snoc X14 N0 g
  have O14 : Old Z n0 h14 := O12.wr W14 g
  have CS14 : CHr Z consts_1 T12.vm h12 T12.vm h14 := CHr.wr W14 Sf12_b CR12.1
  have Sf14_b := CHr.safe CS14 (E.ext E12).lt Sf12_b
  have CR14 := CHr.trans CR12 CS14
  have KC14 : Keep h0 h14 [b] := KC12.wr W14 (Or.inl (List.mem_of_getElem? (i := 0) rfl))
  have F14 : Fld Z h14 b "java/lang/String" "value" "[B" (.ref lb12) := Fld.same W14 (F1.ext E12)
  refine OWH.st (B := T14.setTop (mkF m 18 #[.val (.ref b), .val (.ref ca), .val (.int (0 : Int32)), .val (.int (0 : Int32)), .val .null, .unset] [(.ref b)])) (fun _ kk_ => st14 _ (XS.aloadN X14.here hx rfl (hb hby d4_17) rfl rfl kk_)) ?_
  obtain ⟨a15, T15, h15, k15, lb15, lk15, X15, e15, E15, hS15, hk15, hZ15, hown15, Ea15, Fc15, Fv15, V15, -, -, Cs15, -, hne15, st15⟩ := ldcCH (s := s) (vm0 := T12.vm) X14 hx hZ12 hown12 (w_23 hw) (own_wS hw) e14 hS12 (Nat.le_trans hk12 (Keep.of_wr W14).1) (own_EW hw) (List.mem_of_getElem? (i := 0) rfl) CR14.1 (vs := []) (z := (0 : Int32)) ⟨by decide, by decide⟩ (by decide) (by decide) (g := (mkF m 18 #[.val (.ref b), .val (.ref ca), .val (.int (0 : Int32)), .val (.int (0 : Int32)), .val .null, .unset] [(.ref b)])) rfl (hb hby d4_18) (n := 0) (by decide) (by decide) (by decide) (by decide)
  have O15 : Old Z n0 h15 := O14.ext E15
  have CS15 : CHr Z consts_1 T12.vm h14 T15.vm h15 := Cs15
  have Sf15_b := CHr.safe CS15 ((E.ext E12).wr W14).lt Sf14_b
  have CR15 := CHr.trans CR14 CS15
  have KC15 : Keep h0 h15 [b] := KC14.ext E15
  refine OWH.st (B := T15.setTop (mkF m 20 #[.val (.ref b), .val (.ref ca), .val (.int (0 : Int32)), .val (.int (0 : Int32)), .val .null, .unset] [(.ref a15), (.ref b)])) (fun _ kk_ => st15 _ kk_) ?_
  obtain ⟨T16, X16, e16, st16⟩ := getF X15 hx hZ15 hown15 (host := "") (Or.inl (w_30 hw)) Via.refl e15 Fc15 (g := (mkF m 20 #[.val (.ref b), .val (.ref ca), .val (.int (0 : Int32)), .val (.int (0 : Int32)), .val .null, .unset] [(.ref a15), (.ref b)])) rfl rfl (hb hby d4_20)
  refine OWH.st (B := T16.setTop (mkF m 23 #[.val (.ref b), .val (.ref ca), .val (.int (0 : Int32)), .val (.int (0 : Int32)), .val .null, .unset] [(.int (0 : Int32)), (.ref b)])) (fun _ kk_ => st16 _ kk_) ?_
  obtain ⟨T17, h17, X17, e17, W17, st17⟩ := putFN X16 hx hZ15 hown15 (w_30 hw) Via.refl e16 (((F2.ext E12).other W14 (Or.inr (slot_ne (Or.inr (w_26 hw)) (Or.inr (w_25 hw)) (by decide) (t := .byte) (t' := (.array .byte)) (by decide) (by decide)))).ext E15) (((E.ext E12).wr W14).ext E15) (Or.inr ⟨(w_26 hw), rfl, hnm⟩) (w_7 hw) (ty := .byte) (v' := (.int (0 : Int32))) (by decide) rfl rfl (g := (mkF m 23 #[.val (.ref b), .val (.ref ca), .val (.int (0 : Int32)), .val (.int (0 : Int32)), .val .null, .unset] [(.int (0 : Int32)), (.ref b)])) rfl rfl (hb hby d4_23)
  have N17 := Fr.snoc X17 N14 g
  have O17 : Old Z n0 h17 := O15.wr W17 g
  have CS17 : CHr Z consts_1 T15.vm h15 T15.vm h17 := CHr.wr W17 Sf15_b CR15.1
  have Sf17_b := CHr.safe CS17 (((E.ext E12).wr W14).ext E15).lt Sf15_b
  have CR17 := CHr.trans CR15 CS17
  have KC17 : Keep h0 h17 [b] := KC15.wr W17 (Or.inl (List.mem_of_getElem? (i := 0) rfl))
  have F17 : Fld Z h17 b "java/lang/String" "coder" "B" (.int (0 : Int32)) := Fld.same W17 (((F2.ext E12).other W14 (Or.inr (slot_ne (Or.inr (w_26 hw)) (Or.inr (w_25 hw)) (by decide) (t := .byte) (t' := (.array .byte)) (by decide) (by decide)))).ext E15)
  refine OWH.st (B := T17.setTop (mkF m 26 #[.val (.ref b), .val (.ref ca), .val (.int (0 : Int32)), .val (.int (0 : Int32)), .val .null, .unset] [])) (fun _ kk_ => st17 _ kk_) ?_
  exact OWH.retV X17 (s := s) (vm0 := T15.vm) hS15 (Nat.le_trans hk15 (Keep.of_wr W17).1) hx hlk CR17 hZ15 (own_EW hw) Bd.returns (hb hby d4_26) e17 (by decide) (by decide) ⟨rfl, N17, KC17, ((((E.ext E12).wr W14).ext E15).wr W17), lb12, lk12, F17, ((F14.ext E15).other W17 (Or.inr (slot_ne (Or.inr (w_25 hw)) (Or.inr (w_26 hw)) (by decide) (t := (.array .byte)) (t' := .byte) (by decide) (by decide)))), (((V12.other W14 (Ne.symm (Exa.neArv (E.ext E12) V12 (w_7 hw)))).ext E15).other W17 (Ne.symm (Exa.neArv (E.ext E12) V12 (w_7 hw))))⟩
theorem ef_S0_0 (m : MethodId) (x0 : Addr) (x1 : Addr) : entryFrame m #[(.ref x0), (.ref x1)] 2 = mkF m 0 #[.val (.ref x0), .val (.ref x1)] [] := by first | (simp [entryFrame, mkF, argsToLocals, Value.category]; done) | rfl
def QS0_0 (Z : State) (b : Addr) (ca : Addr) (kc : ClassId) (h0 : Heap) (n0 : Nat) (v : Option Value) (h : Heap) (L : List Loc) : Prop := v = none ∧ Fr n0 L ∧ Keep h0 h [b] ∧ Exa Z h b "java/lang/String" ∧ ∃ (ba : Addr) (kb : ClassId), Fld Z h b "java/lang/String" "coder" "B" (.int (0 : Int32)) ∧ Fld Z h b "java/lang/String" "value" "[B" (.ref ba) ∧ Arv Z h ba kb .byte (0 : Int32) [] (.int (0 : Int32))
set_option maxRecDepth 65536 in
set_option maxHeartbeats 40000000 in
theorem rmS0_0 (l : Launch) (Z : State) (a0 : Array Value) (hw : ∀ d ∈ tables_1, d.before a0 Z = true) (ws : List Jvm.Cond) (b : Addr) (ca : Addr) (kc : ClassId) (h0 : Heap) (n0 : Nat) (O0 : Old Z n0 h0) (E : Exa Z h0 b "java/lang/String") (F1 : Fld Z h0 b "java/lang/String" "value" "[B" .null) (F2 : Fld Z h0 b "java/lang/String" "coder" "B" (.int (0 : Int32))) (g : n0 ≤ b) (V : Arv Z h0 ca kc .char (0 : Int32) [] (.int (0 : Int32))) :
    MetFree l (⟨"java/lang/String", "<init>", "([C)V"⟩ : MethodName) (head1 (Jvm.Cond.code (⟨"java/lang/String", "<init>", "([C)V"⟩ : MethodName) jdk_42_method_3_code 2 none :: ws) ({ frames := 2, cells := 4, slots := 8, locals := 29 } : Room)) (fun aa_ UU_ => aa_ = #[(.ref b), (.ref ca)] ∧ Z.Warmed39 UU_.vm ∧ UU_.heap = h0 ∧ CHv Z consts_1 UU_.vm h0) (fun _ _ _ _ _ => True) (fun _ UU_ oo_ UV_ => ∃ vv_ LL_, oo_ = .returned vv_ ∧ QS0_0 Z b ca kc h0 n0 vv_ UV_.heap LL_ ∧ CHr Z consts_1 UU_.vm UU_.heap UV_.vm UV_.heap ∧ ReturnedEndW UU_ oo_ UV_ LL_ ({ frames := 2, cells := 4, slots := 8, locals := 29 } : Room).cells ({ frames := 2, cells := 4, slots := 8, locals := 29 } : Room).slots) := by
  refine MetFree.of_bodySF (plainFor_of_name pn_0) hisR ?_
  intro p e s m args below meth c s₁ Bd hml0 hP hK
  obtain ⟨rfl, hZ, hh, hCH⟩ := hP
  have hx := Bd.exec
  have hby := Bd.bytes
  have hlk := BodyLoose.notSynchronized Bd
  have hml : c.maxLocals = 2 := hml0
  have hown : s.vm.findClass "java/lang/String" = some m.cls := findClass_of_methodNamed Bd.named
  have hnm := (name_of_methodNamed Bd.named Bd.method).1
  have X0 : Stand p l e ({ frames := 2, cells := 4, slots := 8, locals := 29 } : Room) s m #[(.ref b), (.ref ca)] below meth c s₁ [] 0 0 := Stand.of_body Bd
  have e0 : s₁.heap = h0 := by rw [← hh, Bd.state]; rfl
  have N0 := Fr.nil n0
  have hS0 : s.Since s.vm 0 := (State.WarmedH.refl s).since 0
  have hk0 : 0 ≤ h0.size := Nat.zero_le _
  have CR0 : CHr Z consts_1 s.vm h0 s.vm h0 := CHr.refl hCH
  have KC0 : Keep h0 h0 [b] := Keep.refl _ _
  suffices hOW : OWH Z consts_1 h0 p e below s (QS0_0 Z b ca kc h0 n0) 4 8 (s₁.setTop (mkF m 0 #[.val (.ref b), .val (.ref ca)] [])) by
    obtain ⟨oq1_, oq2_, oq3_, oq4_⟩ := hOW
    obtain ⟨oq5_, oq6_, oq7_, oq8_, oq9_, or1_, or2_, or3_⟩ := oq4_
    exact ⟨oq1_, oq2_, castTop (ef_S0_0 m b ca) oq3_, oq5_, oq6_, oq7_, oq8_, oq9_, or1_, by rw [hh]; exact or2_, or3_⟩
  refine OWH.st (B := s₁.setTop (mkF m 4 #[.val (.ref b), .val (.ref ca)] [(.ref ca), (.int (0 : Int32)), (.ref ca), (.ref b)])) (fun _ kk_ => XS.aloadN X0.here hx rfl (hb hby d3_0) rfl rfl (XS.aloadN X0.here hx rfl (hb hby d3_1) rfl rfl (XS.iconst X0.here hx rfl (hb hby d3_2) (XS.aloadN X0.here hx rfl (hb hby d3_3) rfl rfl kk_)))) ?_
  obtain ⟨cl18, Ar18, q18, S18, Ng18, Hs18, G18⟩ := id V
  refine OWH.st (X0.arraylength hx (by rw [e0]; exact Ar18.1) (State.isArrayOf_alike hZ.alike Ar18.2.1) (g := (mkF m 4 #[.val (.ref b), .val (.ref ca)] [(.ref ca), (.int (0 : Int32)), (.ref ca), (.ref b)])) rfl rfl (hb hby d3_4)) ?_
  rw [len_of S18 Ng18]
  show OWH Z consts_1 h0 p e below s (QS0_0 Z b ca kc h0 n0) 4 8 (s₁.setTop (mkF m 5 #[.val (.ref b), .val (.ref ca)] [(.int (0 : Int32)), (.int (0 : Int32)), (.ref ca), (.ref b)]))
  refine OWH.st (B := s₁.setTop (mkF m 6 #[.val (.ref b), .val (.ref ca)] [.null, (.int (0 : Int32)), (.int (0 : Int32)), (.ref ca), (.ref b)])) (fun _ kk_ => XS.aconstNull X0.here hx rfl (hb hby d3_5) kk_) ?_
  obtain ⟨_, _, ⟨T19, L19, k19, n19⟩, -, X19, hs19, hsz19, ⟨Lc19, hQ19, l19, y19, z19, CQ19⟩, st19⟩ := X0.specialBackS hx (y := (⟨"java/lang/String", "<init>", "([CIILjava/lang/Void;)V"⟩ : MethodName)) rfl hown (mvT hZ (w_16 hw)) (mvT hZ (w_17 hw)) (mvT hZ (w_19 hw)) (by decide) (backOfSH (W := 0) (rmS1_0 l Z a0 hw [] b ca kc h0 n0 O0 E F1 F2 g V) hZ (w_19 hw) (w_8 hw) (by decide) (by decide) (own_EW hw) CR0.1) (g := (mkF m 6 #[.val (.ref b), .val (.ref ca)] [.null, (.int (0 : Int32)), (.int (0 : Int32)), (.ref ca), (.ref b)])) rfl (by rw [hml]; rfl) (Steps.refl _) (a := b) (argsL := [(.ref ca), (.int (0 : Int32)), (.int (0 : Int32)), .null]) (rest := []) (lenOf pd_1 rfl) rfl (by show 2 * 0 + _ ≤ _; exact Nat.le_of_eq rfl) (hb hby d3_6) (fun _ _ => ⟨rfl, e0, (by decide : 0 + 4 ≤ _), (by decide : 0 + 8 ≤ _)⟩)
  dsimp only [Pt.U, Pt.locs, Pt.cells, Pt.slots] at hs19 hsz19
  have hS19 := foldS hS0 (show _ ≤ s₁.heap.size by rw [e0]; exact hk0) hs19 hsz19
  have hZ19 : Z.Warmed39 (s.setVm T19.vm).vm := State.Warmed39.trans (t := s) hZ hs19.1
  have hown19 : (s.setVm T19.vm).vm.findClass "java/lang/String" = some m.cls := by rw [show (s.setVm T19.vm).vm = T19.vm from rfl, hs19.1.alike.findClass]; exact hown
  dsimp only [Pt.U, Pt.locs, Pt.cells, Pt.slots] at X19 l19 y19 z19 st19 hQ19 CQ19
  subst l19 y19 z19
  obtain ⟨rfl, Nq19, K19, Es19, ba19, kb19, Fc19, Fv19, Vs19⟩ := hQ19
  have N19 := Fr.app N0 Nq19
  have O19 : Old Z n0 T19.heap := O0.keep K19 (allS g all0)
  have CS19 : CHr Z consts_1 s.vm h0 T19.vm T19.heap := CQ19
  have Sf19_b := CHr.safe CS19 E.lt (own_safeS hZ.alike E F1)
  have CR19 := CHr.trans CR0 CS19
  have KC19 : Keep h0 T19.heap [b] := KC0.trans K19 (allS (Or.inl (List.mem_of_getElem? (i := 0) rfl)) all0)
  have hk19 : T19.heap.size ≤ T19.heap.size := Nat.le_of_eq (by rfl)
  refine OWH.tr (B := T19.setTop (mkF m 9 #[.val (.ref b), .val (.ref ca)] [])) (st19) ?_
  exact OWH.retV X19 (s := s) (vm0 := T19.vm) hS19 hk19 hx hlk CR19 hZ19 (own_EW hw) Bd.returns (hb hby d3_9) rfl (by decide) (by decide) ⟨rfl, N19, KC19, (E.keep K19), ba19, kb19, Fc19, Fv19, Vs19⟩
theorem ef_C50 (m : MethodId) (x0 : Addr) (x1 : Int32) (x2 : Addr) (x3 : Int32) (x4 : Int32) : entryFrame m #[(.ref x0), (.int x1), (.ref x2), (.int x3), (.int x4)] 7 = mkF m 0 #[.val (.ref x0), .val (.int x1), .val (.ref x2), .val (.int x3), .val (.int x4), .unset, .unset] [] := by first | (simp [entryFrame, mkF, argsToLocals, Value.category]; done) | rfl
def QC50 (Z : State) (ca : Addr) (kc : ClassId) (ba : Addr) (kb : ClassId) (z : Int32) (cs : List Int32) (h0 : Heap) (n0 : Nat) (v : Option Value) (h : Heap) (L : List Loc) : Prop := v = some (.int z) ∧ Fr n0 L ∧ Keep h0 h [ba] ∧ Arv Z h ba kb .byte z (OwnL cs) (.int (0 : Int32))
set_option maxRecDepth 65536 in
set_option maxHeartbeats 40000000 in
theorem rmC50 (l : Launch) (Z : State) (a0 : Array Value) (hw : ∀ d ∈ tables_1, d.before a0 Z = true) (ws : List Jvm.Cond) (ca : Addr) (kc : ClassId) (ba : Addr) (kb : ClassId) (z : Int32) (cs : List Int32) (h0 : Heap) (n0 : Nat) (O0 : Old Z n0 h0) (V : Arv Z h0 ca kc .char z (cs.map Value.int) (.int (0 : Int32))) (hz : z.toInt = (cs.length : Int)) (hmax : cs.length ≤ 10) (B : Arv Z h0 ba kb .byte z (List.replicate cs.length (.int (0 : Int32))) (.int (0 : Int32))) (gb : n0 ≤ ba) (hne : ca ≠ ba) (hlat : OwnLat cs) :
    MetFree l (⟨"java/lang/StringUTF16", "compress", "([CI[BII)I"⟩ : MethodName) (head1 (Jvm.Cond.code (⟨"java/lang/StringUTF16", "compress", "([CI[BII)I"⟩ : MethodName) jdk_52_method_21_code 7 (some .int) :: ws) ({ frames := 0, cells := 0, slots := 0, locals := 0 } : Room)) (fun aa_ UU_ => aa_ = #[(.ref ca), (.int (0 : Int32)), (.ref ba), (.int (0 : Int32)), (.int z)] ∧ Z.Warmed39 UU_.vm ∧ UU_.heap = h0) (fun _ _ _ _ _ => True) (fun _ UU_ oo_ UV_ => ∃ vv_ LL_, oo_ = .returned vv_ ∧ QC50 Z ca kc ba kb z cs h0 n0 vv_ UV_.heap LL_ ∧ FrameEnd UU_ oo_ UV_ LL_ ({ frames := 0, cells := 0, slots := 0, locals := 0 } : Room).cells ({ frames := 0, cells := 0, slots := 0, locals := 0 } : Room).slots) := by
  refine MetFree.of_bodySF (plainFor_of_name pn_2) hisR ?_
  intro p e s m args below meth c s₁ Bd hml0 hP hK
  obtain ⟨rfl, hZ, hh⟩ := hP
  have hx := Bd.exec
  have hby := Bd.bytes
  have hlk := BodyLoose.notSynchronized Bd
  have hml : c.maxLocals = 7 := hml0
  have hown : s.vm.findClass "java/lang/StringUTF16" = some m.cls := findClass_of_methodNamed Bd.named
  have hnm := (name_of_methodNamed Bd.named Bd.method).1
  have X0 : Stand p l e ({ frames := 0, cells := 0, slots := 0, locals := 0 } : Room) s m #[(.ref ca), (.int (0 : Int32)), (.ref ba), (.int (0 : Int32)), (.int z)] below meth c s₁ [] 0 0 := Stand.of_body Bd
  have e0 : s₁.heap = h0 := by rw [← hh, Bd.state]; rfl
  have N0 := Fr.nil n0
  have KC0 : Keep h0 h0 [ba] := Keep.refl _ _
  suffices hOW : OW p e below s (QC50 Z ca kc ba kb z cs h0 n0) 0 0 (s₁.setTop (mkF m 0 #[.val (.ref ca), .val (.int (0 : Int32)), .val (.ref ba), .val (.int (0 : Int32)), .val (.int z), .unset, .unset] [])) by
    obtain ⟨oq1_, oq2_, oq3_, oq4_⟩ := hOW
    exact ⟨oq1_, oq2_, castTop (ef_C50 m ca (0 : Int32) ba (0 : Int32) z) oq3_, oq4_⟩
  refine OW.st (B := s₁.setTop (mkF m 3 #[.val (.ref ca), .val (.int (0 : Int32)), .val (.ref ba), .val (.int (0 : Int32)), .val (.int z), .val (.int (0 : Int32)), .unset] [])) (fun _ kk_ => XS.iconst X0.here hx rfl (hb hby d10_0) (XS.istore X0.here hx rfl (hb hby d10_1) rfl (l' := #[.val (.ref ca), .val (.int (0 : Int32)), .val (.ref ba), .val (.int (0 : Int32)), .val (.int z), .val (.int (0 : Int32)), .unset]) rfl kk_)) ?_
  have J20 : ∀ (f : Nat) (T20 : State) (L20 : List Loc) (h20 : Heap) (X20 : Stand p l e ({ frames := 0, cells := 0, slots := 0, locals := 0 } : Room) s m #[(.ref ca), (.int (0 : Int32)), (.ref ba), (.int (0 : Int32)), (.int z)] below meth c T20 L20 0 0) (N20 : Fr n0 L20) (e20 : T20.heap = h20) (O20 : Old Z n0 h20) (KC20 : Keep h0 h20 [ba]) (i : Int32) (sl : Slot) (bs : List Value) (mm : Nat), (sl = .unset ∨ ∃ q : Int32, sl = .val (.int q)) → (Arv Z h20 ca kc .char z (cs.map Value.int) (.int (0 : Int32))) → (Arv Z h20 ba kb .byte z bs (.int (0 : Int32))) → (i.toInt = (mm : Int)) → (mm + f = cs.length) → (OwnPL cs mm bs) → (∀ j : Nat, j < mm → ∀ c : Int32, cs[j]? = some c → ¬ ((255 : Int32) < c)) → OW p e below s (QC50 Z ca kc ba kb z cs h0 n0) 0 0 (T20.setTop (mkF m 3 #[.val (.ref ca), .val (.int i), .val (.ref ba), .val (.int i), .val (.int z), .val (.int i), sl] [])) := by
    intro f
    induction f with
    | zero =>
      intro T20 L20 h20 X20 N20 e20 O20 KC20 i sl bs mm hsl Vc Vb hi hm hp hl
      have hmm : mm = cs.length := by omega
      subst hmm
      refine OW.st (B := T20.setTop (mkF m 46 #[.val (.ref ca), .val (.int i), .val (.ref ba), .val (.int i), .val (.int z), .val (.int i), sl] [(.int z)])) (fun _ kk_ => XS.iload X20.here hx rfl (hb hby d10_3) rfl (XS.iload X20.here hx rfl (hb hby d10_5) rfl (XS.icmpYes X20.here hx rfl (pc0 := 7) (pc' := 44) rfl (hb hby d10_7) rfl (flt (own_nltI hi hz (by omega))).2.1 (by decide) (by decide) (XS.iload X20.here hx rfl (hb hby d10_44) rfl kk_)))) ?_
      exact OW.ret X20 hx hlk (i := .ireturn) Bd.returns rfl (Or.inl ⟨rfl, Or.inl rfl, _, rfl⟩) (hb hby d10_46) e20 (by decide) (by decide) ⟨rfl, N20, KC20, hp.end ▸ Vb⟩
    | succ f ih =>
      intro T20 L20 h20 X20 N20 e20 O20 KC20 i sl bs mm hsl Vc Vb hi hm hp hl
      obtain ⟨cc, hcc⟩ : ∃ cc, cs[mm]? = some cc := ⟨_, List.getElem?_eq_getElem (by omega)⟩
      have hcl := hlat cc (List.mem_of_getElem? hcc)
      refine OW.st (B := T20.setTop (mkF m 12 #[.val (.ref ca), .val (.int i), .val (.ref ba), .val (.int i), .val (.int z), .val (.int i), sl] [(.int i), (.ref ca)])) (fun _ kk_ => XS.iload X20.here hx rfl (hb hby d10_3) rfl (XS.iload X20.here hx rfl (hb hby d10_5) rfl (XS.icmpNo X20.here hx rfl (hb hby d10_7) rfl (tlt (own_ltI hi hz (by omega))).2.1 (XS.aloadN X20.here hx rfl (hb hby d10_10) rfl rfl (XS.iloadN X20.here hx rfl (hb hby d10_11) rfl kk_))))) ?_
      obtain ⟨cl21, Ar21, q21, S21, Ng21, Hs21, G21⟩ := id Vc
      have hin21 : ¬ (i < 0 ∨ cl21.slots.size ≤ (i).toNatClampNeg) := inb_of S21 ⟨own_nneg hi, own_ltI hi hz (by omega)⟩
      refine OW.st (B := T20.setTop (mkF m 31 #[.val (.ref ca), .val (.int i), .val (.ref ba), .val (.int i), .val (.int z), .val (.int i), .val (.int cc)] [(.int (cc.toInt8.toInt32)), (.int i), (.ref ba)])) (fun _ kk_ => (X20.caload hx (j := i) (v := (.int cc)) (by rw [e20]; exact Ar21.1) (State.isArrayOf_alike hZ.alike Ar21.2.1) Ar21.2.2 hin21 (Has.at Hs21 hin21 ((congrArg (fun q => (cs.map Value.int).getD q _) (own_tn hi)).trans (own_getC hcc))) (g := (mkF m 12 #[.val (.ref ca), .val (.int i), .val (.ref ba), .val (.int i), .val (.int z), .val (.int i), sl] [(.int i), (.ref ca)])) rfl rfl (hb hby d10_12)) _ (XS.istore X20.here hx rfl (hb hby d10_13) rfl (l' := #[.val (.ref ca), .val (.int i), .val (.ref ba), .val (.int i), .val (.int z), .val (.int i), .val (.int cc)]) (by rcases hsl with rfl | ⟨_, rfl⟩ <;> rfl) (XS.iload X20.here hx rfl (hb hby d10_15) rfl (XS.sipush X20.here hx rfl (hb hby d10_17) (XS.icmpYes X20.here hx rfl (pc0 := 20) (pc' := 26) rfl (hb hby d10_20) rfl (flt hcl).2.2.2 (by decide) (by decide) (XS.aloadN X20.here hx rfl (hb hby d10_26) rfl rfl (XS.iloadN X20.here hx rfl (hb hby d10_27) rfl (XS.iload X20.here hx rfl (hb hby d10_28) rfl (XS.i2b X20.here hx rfl (hb hby d10_30) rfl kk_))))))))) ?_
      obtain ⟨cl22, Ar22, q22, S22, Ng22, Hs22, G22⟩ := id Vb
      have hin22 : ¬ (i < 0 ∨ cl22.slots.size ≤ (i).toNatClampNeg) := inb_of S22 ⟨own_nneg hi, own_ltI hi hz (by omega)⟩
      obtain ⟨T23, h23, X23, e23, W23, st23⟩ := stB X20 hx hZ e20 Ar22 (j := i) hin22 (g := (mkF m 31 #[.val (.ref ca), .val (.int i), .val (.ref ba), .val (.int i), .val (.int z), .val (.int i), .val (.int cc)] [(.int (cc.toInt8.toInt32)), (.int i), (.ref ba)])) rfl rfl (hb hby d10_31)
      have N23 := Fr.snoc X23 N20 gb
      have O23 : Old Z n0 h23 := O20.wr W23 gb
      have KC23 : Keep h0 h23 [ba] := KC20.wr W23 (Or.inl (List.mem_of_getElem? (i := 0) rfl))
      have V23 : Arv Z h23 ba kb .byte z (bs.set mm (.int (nar .byte (cc.toInt8.toInt32)))) (.int (0 : Int32)) := Arv.set Ar22 q22 S22 Ng22 Hs22 G22 (fits_nar_byte _) W23 mm (own_tn hi) (by rw [hp.1]; omega)
      refine OW.st (B := T23.setTop (mkF m 3 #[.val (.ref ca), .val (.int (i + (1 : Int32))), .val (.ref ba), .val (.int (i + (1 : Int32))), .val (.int z), .val (.int (i + (1 : Int32))), .val (.int cc)] [])) (fun _ kk_ => st23 _ (XS.iinc X23.here hx rfl (hb hby d10_32) rfl (l' := #[.val (.ref ca), .val (.int (i + (1 : Int32))), .val (.ref ba), .val (.int i), .val (.int z), .val (.int i), .val (.int cc)]) rfl (XS.iinc X23.here hx rfl (hb hby d10_35) rfl (l' := #[.val (.ref ca), .val (.int (i + (1 : Int32))), .val (.ref ba), .val (.int (i + (1 : Int32))), .val (.int z), .val (.int i), .val (.int cc)]) rfl (XS.iinc X23.here hx rfl (hb hby d10_38) rfl (l' := #[.val (.ref ca), .val (.int (i + (1 : Int32))), .val (.ref ba), .val (.int (i + (1 : Int32))), .val (.int z), .val (.int (i + (1 : Int32))), .val (.int cc)]) rfl (XS.goto X23.here hx rfl (pc0 := 41) (pc' := 3) rfl (hb hby d10_41) (by decide) (by decide) kk_))))) ?_
      exact ih _ _ _ X23 N23 e23 O23 KC23 _ _ _ (mm + 1) (Or.inr ⟨_, rfl⟩) (Vc.other W23 hne) V23 (own_suc hi (by omega)) (by omega) (hp.step hcc) (fun j hj c hc => by rcases Nat.lt_succ_iff_lt_or_eq.mp hj with q | rfl; exact hl j q c hc; rw [hcc] at hc; cases hc; exact hcl)
  exact J20 cs.length _ _ _ X0 N0 e0 O0 KC0 _ _ _ 0 (Or.inl rfl) V B rfl (Nat.zero_add _) (OwnPL.start cs _) (fun j hj => absurd hj (Nat.not_lt_zero _))
theorem ef_C51 (m : MethodId) (x0 : Addr) (x1 : Int32) (x2 : Addr) (x3 : Int32) (x4 : Int32) : entryFrame m #[(.ref x0), (.int x1), (.ref x2), (.int x3), (.int x4)] 7 = mkF m 0 #[.val (.ref x0), .val (.int x1), .val (.ref x2), .val (.int x3), .val (.int x4), .unset, .unset] [] := by first | (simp [entryFrame, mkF, argsToLocals, Value.category]; done) | rfl
def QC51 (Z : State) (ca : Addr) (kc : ClassId) (ba : Addr) (kb : ClassId) (z : Int32) (cs : List Int32) (h0 : Heap) (n0 : Nat) (v : Option Value) (h : Heap) (L : List Loc) : Prop := ∃ (i : Int32) (mm : Nat) (c : Int32), v = some (.int i) ∧ Fr n0 L ∧ Keep h0 h [ba] ∧ i.toInt = (mm : Int) ∧ cs[mm]? = some c ∧ (255 : Int32) < c
set_option maxRecDepth 65536 in
set_option maxHeartbeats 40000000 in
theorem rmC51 (l : Launch) (Z : State) (a0 : Array Value) (hw : ∀ d ∈ tables_1, d.before a0 Z = true) (ws : List Jvm.Cond) (ca : Addr) (kc : ClassId) (ba : Addr) (kb : ClassId) (z : Int32) (cs : List Int32) (h0 : Heap) (n0 : Nat) (O0 : Old Z n0 h0) (V : Arv Z h0 ca kc .char z (cs.map Value.int) (.int (0 : Int32))) (hz : z.toInt = (cs.length : Int)) (hmax : cs.length ≤ 10) (B : Arv Z h0 ba kb .byte z (List.replicate cs.length (.int (0 : Int32))) (.int (0 : Int32))) (gb : n0 ≤ ba) (hne : ca ≠ ba) (hhi : OwnHi cs) :
    MetFree l (⟨"java/lang/StringUTF16", "compress", "([CI[BII)I"⟩ : MethodName) (head1 (Jvm.Cond.code (⟨"java/lang/StringUTF16", "compress", "([CI[BII)I"⟩ : MethodName) jdk_52_method_21_code 7 (some .int) :: ws) ({ frames := 0, cells := 0, slots := 0, locals := 0 } : Room)) (fun aa_ UU_ => aa_ = #[(.ref ca), (.int (0 : Int32)), (.ref ba), (.int (0 : Int32)), (.int z)] ∧ Z.Warmed39 UU_.vm ∧ UU_.heap = h0) (fun _ _ _ _ _ => True) (fun _ UU_ oo_ UV_ => ∃ vv_ LL_, oo_ = .returned vv_ ∧ QC51 Z ca kc ba kb z cs h0 n0 vv_ UV_.heap LL_ ∧ FrameEnd UU_ oo_ UV_ LL_ ({ frames := 0, cells := 0, slots := 0, locals := 0 } : Room).cells ({ frames := 0, cells := 0, slots := 0, locals := 0 } : Room).slots) := by
  refine MetFree.of_bodySF (plainFor_of_name pn_2) hisR ?_
  intro p e s m args below meth c s₁ Bd hml0 hP hK
  obtain ⟨rfl, hZ, hh⟩ := hP
  have hx := Bd.exec
  have hby := Bd.bytes
  have hlk := BodyLoose.notSynchronized Bd
  have hml : c.maxLocals = 7 := hml0
  have hown : s.vm.findClass "java/lang/StringUTF16" = some m.cls := findClass_of_methodNamed Bd.named
  have hnm := (name_of_methodNamed Bd.named Bd.method).1
  have X0 : Stand p l e ({ frames := 0, cells := 0, slots := 0, locals := 0 } : Room) s m #[(.ref ca), (.int (0 : Int32)), (.ref ba), (.int (0 : Int32)), (.int z)] below meth c s₁ [] 0 0 := Stand.of_body Bd
  have e0 : s₁.heap = h0 := by rw [← hh, Bd.state]; rfl
  have N0 := Fr.nil n0
  have KC0 : Keep h0 h0 [ba] := Keep.refl _ _
  suffices hOW : OW p e below s (QC51 Z ca kc ba kb z cs h0 n0) 0 0 (s₁.setTop (mkF m 0 #[.val (.ref ca), .val (.int (0 : Int32)), .val (.ref ba), .val (.int (0 : Int32)), .val (.int z), .unset, .unset] [])) by
    obtain ⟨oq1_, oq2_, oq3_, oq4_⟩ := hOW
    exact ⟨oq1_, oq2_, castTop (ef_C51 m ca (0 : Int32) ba (0 : Int32) z) oq3_, oq4_⟩
  refine OW.st (B := s₁.setTop (mkF m 3 #[.val (.ref ca), .val (.int (0 : Int32)), .val (.ref ba), .val (.int (0 : Int32)), .val (.int z), .val (.int (0 : Int32)), .unset] [])) (fun _ kk_ => XS.iconst X0.here hx rfl (hb hby d10_0) (XS.istore X0.here hx rfl (hb hby d10_1) rfl (l' := #[.val (.ref ca), .val (.int (0 : Int32)), .val (.ref ba), .val (.int (0 : Int32)), .val (.int z), .val (.int (0 : Int32)), .unset]) rfl kk_)) ?_
  have J24 : ∀ (f : Nat) (T24 : State) (L24 : List Loc) (h24 : Heap) (X24 : Stand p l e ({ frames := 0, cells := 0, slots := 0, locals := 0 } : Room) s m #[(.ref ca), (.int (0 : Int32)), (.ref ba), (.int (0 : Int32)), (.int z)] below meth c T24 L24 0 0) (N24 : Fr n0 L24) (e24 : T24.heap = h24) (O24 : Old Z n0 h24) (KC24 : Keep h0 h24 [ba]) (i : Int32) (sl : Slot) (bs : List Value) (mm : Nat), (sl = .unset ∨ ∃ q : Int32, sl = .val (.int q)) → (Arv Z h24 ca kc .char z (cs.map Value.int) (.int (0 : Int32))) → (Arv Z h24 ba kb .byte z bs (.int (0 : Int32))) → (i.toInt = (mm : Int)) → (mm + f = cs.length) → (OwnPL cs mm bs) → (∀ j : Nat, j < mm → ∀ c : Int32, cs[j]? = some c → ¬ ((255 : Int32) < c)) → OW p e below s (QC51 Z ca kc ba kb z cs h0 n0) 0 0 (T24.setTop (mkF m 3 #[.val (.ref ca), .val (.int i), .val (.ref ba), .val (.int i), .val (.int z), .val (.int i), sl] [])) := by
    intro f
    induction f with
    | zero =>
      intro T24 L24 h24 X24 N24 e24 O24 KC24 i sl bs mm hsl Vc Vb hi hm hp hl
      have hmm : mm = cs.length := by omega
      subst hmm
      exact (hhi.not fun j c hc => hl j (List.getElem?_eq_some_iff.mp hc).1 c hc).elim
    | succ f ih =>
      intro T24 L24 h24 X24 N24 e24 O24 KC24 i sl bs mm hsl Vc Vb hi hm hp hl
      obtain ⟨cc, hcc⟩ : ∃ cc, cs[mm]? = some cc := ⟨_, List.getElem?_eq_getElem (by omega)⟩
      refine OW.st (B := T24.setTop (mkF m 12 #[.val (.ref ca), .val (.int i), .val (.ref ba), .val (.int i), .val (.int z), .val (.int i), sl] [(.int i), (.ref ca)])) (fun _ kk_ => XS.iload X24.here hx rfl (hb hby d10_3) rfl (XS.iload X24.here hx rfl (hb hby d10_5) rfl (XS.icmpNo X24.here hx rfl (hb hby d10_7) rfl (tlt (own_ltI hi hz (by omega))).2.1 (XS.aloadN X24.here hx rfl (hb hby d10_10) rfl rfl (XS.iloadN X24.here hx rfl (hb hby d10_11) rfl kk_))))) ?_
      obtain ⟨cl25, Ar25, q25, S25, Ng25, Hs25, G25⟩ := id Vc
      have hin25 : ¬ (i < 0 ∨ cl25.slots.size ≤ (i).toNatClampNeg) := inb_of S25 ⟨own_nneg hi, own_ltI hi hz (by omega)⟩
      refine OW.st (B := T24.setTop (mkF m 20 #[.val (.ref ca), .val (.int i), .val (.ref ba), .val (.int i), .val (.int z), .val (.int i), .val (.int cc)] [(.int (255 : Int32)), (.int cc)])) (fun _ kk_ => (X24.caload hx (j := i) (v := (.int cc)) (by rw [e24]; exact Ar25.1) (State.isArrayOf_alike hZ.alike Ar25.2.1) Ar25.2.2 hin25 (Has.at Hs25 hin25 ((congrArg (fun q => (cs.map Value.int).getD q _) (own_tn hi)).trans (own_getC hcc))) (g := (mkF m 12 #[.val (.ref ca), .val (.int i), .val (.ref ba), .val (.int i), .val (.int z), .val (.int i), sl] [(.int i), (.ref ca)])) rfl rfl (hb hby d10_12)) _ (XS.istore X24.here hx rfl (hb hby d10_13) rfl (l' := #[.val (.ref ca), .val (.int i), .val (.ref ba), .val (.int i), .val (.int z), .val (.int i), .val (.int cc)]) (by rcases hsl with rfl | ⟨_, rfl⟩ <;> rfl) (XS.iload X24.here hx rfl (hb hby d10_15) rfl (XS.sipush X24.here hx rfl (hb hby d10_17) kk_)))) ?_
      by_cases hc26 : (255 : Int32) < cc
      · refine OW.st (B := T24.setTop (mkF m 25 #[.val (.ref ca), .val (.int i), .val (.ref ba), .val (.int i), .val (.int z), .val (.int i), .val (.int cc)] [(.int i)])) (fun _ kk_ => XS.icmpNo X24.here hx rfl (hb hby d10_20) rfl (tlt hc26).2.2.2 (XS.iload X24.here hx rfl (hb hby d10_23) rfl kk_)) ?_
        exact OW.ret X24 hx hlk (i := .ireturn) Bd.returns rfl (Or.inl ⟨rfl, Or.inl rfl, _, rfl⟩) (hb hby d10_25) e24 (by decide) (by decide) ⟨i, mm, cc, rfl, N24, KC24, hi, hcc, hc26⟩
      · refine OW.st (B := T24.setTop (mkF m 31 #[.val (.ref ca), .val (.int i), .val (.ref ba), .val (.int i), .val (.int z), .val (.int i), .val (.int cc)] [(.int (cc.toInt8.toInt32)), (.int i), (.ref ba)])) (fun _ kk_ => XS.icmpYes X24.here hx rfl (pc0 := 20) (pc' := 26) rfl (hb hby d10_20) rfl (flt hc26).2.2.2 (by decide) (by decide) (XS.aloadN X24.here hx rfl (hb hby d10_26) rfl rfl (XS.iloadN X24.here hx rfl (hb hby d10_27) rfl (XS.iload X24.here hx rfl (hb hby d10_28) rfl (XS.i2b X24.here hx rfl (hb hby d10_30) rfl kk_))))) ?_
        obtain ⟨cl27, Ar27, q27, S27, Ng27, Hs27, G27⟩ := id Vb
        have hin27 : ¬ (i < 0 ∨ cl27.slots.size ≤ (i).toNatClampNeg) := inb_of S27 ⟨own_nneg hi, own_ltI hi hz (by omega)⟩
        obtain ⟨T28, h28, X28, e28, W28, st28⟩ := stB X24 hx hZ e24 Ar27 (j := i) hin27 (g := (mkF m 31 #[.val (.ref ca), .val (.int i), .val (.ref ba), .val (.int i), .val (.int z), .val (.int i), .val (.int cc)] [(.int (cc.toInt8.toInt32)), (.int i), (.ref ba)])) rfl rfl (hb hby d10_31)
        have N28 := Fr.snoc X28 N24 gb
        have O28 : Old Z n0 h28 := O24.wr W28 gb
        have KC28 : Keep h0 h28 [ba] := KC24.wr W28 (Or.inl (List.mem_of_getElem? (i := 0) rfl))
        have V28 : Arv Z h28 ba kb .byte z (bs.set mm (.int (nar .byte (cc.toInt8.toInt32)))) (.int (0 : Int32)) := Arv.set Ar27 q27 S27 Ng27 Hs27 G27 (fits_nar_byte _) W28 mm (own_tn hi) (by rw [hp.1]; omega)
        refine OW.st (B := T28.setTop (mkF m 3 #[.val (.ref ca), .val (.int (i + (1 : Int32))), .val (.ref ba), .val (.int (i + (1 : Int32))), .val (.int z), .val (.int (i + (1 : Int32))), .val (.int cc)] [])) (fun _ kk_ => st28 _ (XS.iinc X28.here hx rfl (hb hby d10_32) rfl (l' := #[.val (.ref ca), .val (.int (i + (1 : Int32))), .val (.ref ba), .val (.int i), .val (.int z), .val (.int i), .val (.int cc)]) rfl (XS.iinc X28.here hx rfl (hb hby d10_35) rfl (l' := #[.val (.ref ca), .val (.int (i + (1 : Int32))), .val (.ref ba), .val (.int (i + (1 : Int32))), .val (.int z), .val (.int i), .val (.int cc)]) rfl (XS.iinc X28.here hx rfl (hb hby d10_38) rfl (l' := #[.val (.ref ca), .val (.int (i + (1 : Int32))), .val (.ref ba), .val (.int (i + (1 : Int32))), .val (.int z), .val (.int (i + (1 : Int32))), .val (.int cc)]) rfl (XS.goto X28.here hx rfl (pc0 := 41) (pc' := 3) rfl (hb hby d10_41) (by decide) (by decide) kk_))))) ?_
        exact ih _ _ _ X28 N28 e28 O28 KC28 _ _ _ (mm + 1) (Or.inr ⟨_, rfl⟩) (Vc.other W28 hne) V28 (own_suc hi (by omega)) (by omega) (hp.step hcc) (fun j hj c hc => by rcases Nat.lt_succ_iff_lt_or_eq.mp hj with q | rfl; exact hl j q c hc; rw [hcc] at hc; cases hc; exact hc26)
  exact J24 cs.length _ _ _ X0 N0 e0 O0 KC0 _ _ _ 0 (Or.inl rfl) V B rfl (Nat.zero_add _) (OwnPL.start cs _) (fun j hj => absurd hj (Nat.not_lt_zero _))
theorem ef_PC (m : MethodId) (x0 : Addr) (x1 : Int32) (x2 : Int32) : entryFrame m #[(.ref x0), (.int x1), (.int x2)] 3 = mkF m 0 #[.val (.ref x0), .val (.int x1), .val (.int x2)] [] := by first | (simp [entryFrame, mkF, argsToLocals, Value.category]; done) | rfl
def QPC (Z : State) (ba : Addr) (kb : ClassId) (zb : Int32) (bs : List Value) (i : Int32) (mm : Nat) (cc : Int32) (i_COMPACT_STRINGS : Int32) (v_SIOOBE_FORMATTER : Value) (h0 : Heap) (n0 : Nat) (v : Option Value) (h : Heap) (L : List Loc) : Prop := v = none ∧ Fr n0 L ∧ Keep h0 h [ba] ∧ Arv Z h ba kb .byte zb ((bs.set (2 * mm) (.int (own_b0 cc))).set (2 * mm + 1) (.int (own_b1 cc))) (.int (0 : Int32))
set_option maxRecDepth 65536 in
set_option maxHeartbeats 40000000 in
theorem rmPC (l : Launch) (Z : State) (a0 : Array Value) (hw : ∀ d ∈ tables_1, d.before a0 Z = true) (ws : List Jvm.Cond) (ba : Addr) (kb : ClassId) (zb : Int32) (bs : List Value) (i : Int32) (mm : Nat) (cc : Int32) (i_COMPACT_STRINGS : Int32) (v_SIOOBE_FORMATTER : Value) (h0 : Heap) (n0 : Nat) (O0 : Old Z n0 h0) (B : Arv Z h0 ba kb .byte zb bs (.int (0 : Int32))) (gb : n0 ≤ ba) (hzb : zb.toInt = (bs.length : Int)) (hmb : 2 * mm + 1 < bs.length) (hbb : bs.length ≤ 20) (hi : i.toInt = (mm : Int)) (hS : OwnS Z i_COMPACT_STRINGS v_SIOOBE_FORMATTER) :
    MetFree l (⟨"java/lang/StringUTF16", "putChar", "([BII)V"⟩ : MethodName) (head1 (Jvm.Cond.code (⟨"java/lang/StringUTF16", "putChar", "([BII)V"⟩ : MethodName) jdk_52_method_4_code 3 none :: ws) ({ frames := 0, cells := 0, slots := 0, locals := 0 } : Room)) (fun aa_ UU_ => aa_ = #[(.ref ba), (.int i), (.int cc)] ∧ Z.Warmed39 UU_.vm ∧ UU_.heap = h0) (fun _ _ _ _ _ => True) (fun _ UU_ oo_ UV_ => ∃ vv_ LL_, oo_ = .returned vv_ ∧ QPC Z ba kb zb bs i mm cc i_COMPACT_STRINGS v_SIOOBE_FORMATTER h0 n0 vv_ UV_.heap LL_ ∧ FrameEnd UU_ oo_ UV_ LL_ ({ frames := 0, cells := 0, slots := 0, locals := 0 } : Room).cells ({ frames := 0, cells := 0, slots := 0, locals := 0 } : Room).slots) := by
  refine MetFree.of_bodySF (plainFor_of_name pn_2) hisR ?_
  intro p e s m args below meth c s₁ Bd hml0 hP hK
  obtain ⟨rfl, hZ, hh⟩ := hP
  have hx := Bd.exec
  have hby := Bd.bytes
  have hlk := BodyLoose.notSynchronized Bd
  have hml : c.maxLocals = 3 := hml0
  have hown : s.vm.findClass "java/lang/StringUTF16" = some m.cls := findClass_of_methodNamed Bd.named
  have hnm := (name_of_methodNamed Bd.named Bd.method).1
  have X0 : Stand p l e ({ frames := 0, cells := 0, slots := 0, locals := 0 } : Room) s m #[(.ref ba), (.int i), (.int cc)] below meth c s₁ [] 0 0 := Stand.of_body Bd
  have e0 : s₁.heap = h0 := by rw [← hh, Bd.state]; rfl
  have N0 := Fr.nil n0
  have KC0 : Keep h0 h0 [ba] := Keep.refl _ _
  suffices hOW : OW p e below s (QPC Z ba kb zb bs i mm cc i_COMPACT_STRINGS v_SIOOBE_FORMATTER h0 n0) 0 0 (s₁.setTop (mkF m 0 #[.val (.ref ba), .val (.int i), .val (.int cc)] [])) by
    obtain ⟨oq1_, oq2_, oq3_, oq4_⟩ := hOW
    exact ⟨oq1_, oq2_, castTop (ef_PC m ba i cc) oq3_, oq4_⟩
  have hS' := hS
  obtain ⟨Si_COMPACT_STRINGS, Sv_SIOOBE_FORMATTER, Rv_SIOOBE_FORMATTER, S__assertionsDisabled, S_HI_BYTE_SHIFT, S_LO_BYTE_SHIFT, Pi_COMPACT_STRINGS⟩ := hS'
  have hj1 : (i <<< ((1 : Int32) &&& 31)).toInt = ((2 * mm : Nat) : Int) := own_dbl hi (by omega)
  have hj2 : ((i <<< ((1 : Int32) &&& 31)) + (1 : Int32)).toInt = ((2 * mm + 1 : Nat) : Int) := own_suc hj1 (by omega)
  obtain ⟨T29, X29, e29, st29⟩ := getS2 X0 hx hZ hown (host := "") (Or.inl (w_93 hw)) Via.refl e0 (S__assertionsDisabled.ext O0.2) (g := (mkF m 0 #[.val (.ref ba), .val (.int i), .val (.int cc)] [])) rfl (hb hby d20_0)
  refine OW.st (B := T29.setTop (mkF m 38 #[.val (.ref ba), .val (.int ((i <<< ((1 : Int32) &&& 31)) + (1 : Int32))), .val (.int cc)] [(.int cc), (.int (i <<< ((1 : Int32) &&& 31))), (.ref ba)])) (fun _ kk_ => st29 _ (XS.ifYes X29.here hx rfl (pc0 := 3) (pc' := 28) rfl (hb hby d20_3) rfl ((if0 _ _).trans (feq (by decide)).2) (by decide) (by decide) (XS.iloadN X29.here hx rfl (hb hby d20_28) rfl (XS.iconst X29.here hx rfl (hb hby d20_29) (XS.ishl X29.here hx rfl (hb hby d20_30) rfl (XS.istoreN X29.here hx rfl (hb hby d20_31) rfl (l' := #[.val (.ref ba), .val (.int (i <<< ((1 : Int32) &&& 31))), .val (.int cc)]) rfl (XS.aloadN X29.here hx rfl (hb hby d20_32) rfl rfl (XS.iloadN X29.here hx rfl (hb hby d20_33) rfl (XS.iinc X29.here hx rfl (hb hby d20_34) rfl (l' := #[.val (.ref ba), .val (.int ((i <<< ((1 : Int32) &&& 31)) + (1 : Int32))), .val (.int cc)]) rfl (XS.iloadN X29.here hx rfl (hb hby d20_37) rfl kk_)))))))))) ?_
  obtain ⟨T30, X30, e30, st30⟩ := getS2 X29 hx hZ hown (host := "") (Or.inl (w_94 hw)) Via.refl e29 (S_HI_BYTE_SHIFT.ext O0.2) (g := (mkF m 38 #[.val (.ref ba), .val (.int ((i <<< ((1 : Int32) &&& 31)) + (1 : Int32))), .val (.int cc)] [(.int cc), (.int (i <<< ((1 : Int32) &&& 31))), (.ref ba)])) rfl (hb hby d20_38)
  refine OW.st (B := T30.setTop (mkF m 43 #[.val (.ref ba), .val (.int ((i <<< ((1 : Int32) &&& 31)) + (1 : Int32))), .val (.int cc)] [(.int ((cc >>> ((0 : Int32) &&& 31)).toInt8.toInt32)), (.int (i <<< ((1 : Int32) &&& 31))), (.ref ba)])) (fun _ kk_ => st30 _ (XS.ishr X30.here hx rfl (hb hby d20_41) rfl (XS.i2b X30.here hx rfl (hb hby d20_42) rfl kk_))) ?_
  obtain ⟨cl31, Ar31, q31, S31, Ng31, Hs31, G31⟩ := id B
  have hin31 : ¬ ((i <<< ((1 : Int32) &&& 31)) < 0 ∨ cl31.slots.size ≤ ((i <<< ((1 : Int32) &&& 31))).toNatClampNeg) := inb_of S31 ⟨own_nneg hj1, own_ltI hj1 hzb (by omega)⟩
  obtain ⟨T32, h32, X32, e32, W32, st32⟩ := stB X30 hx hZ e30 Ar31 (j := (i <<< ((1 : Int32) &&& 31))) hin31 (g := (mkF m 43 #[.val (.ref ba), .val (.int ((i <<< ((1 : Int32) &&& 31)) + (1 : Int32))), .val (.int cc)] [(.int ((cc >>> ((0 : Int32) &&& 31)).toInt8.toInt32)), (.int (i <<< ((1 : Int32) &&& 31))), (.ref ba)])) rfl rfl (hb hby d20_43)
  have N32 := Fr.snoc X32 N0 gb
  have O32 : Old Z n0 h32 := O0.wr W32 gb
  have KC32 : Keep h0 h32 [ba] := KC0.wr W32 (Or.inl (List.mem_of_getElem? (i := 0) rfl))
  have V32 : Arv Z h32 ba kb .byte zb (bs.set (2 * mm) (.int (nar .byte ((cc >>> ((0 : Int32) &&& 31)).toInt8.toInt32)))) (.int (0 : Int32)) := Arv.set Ar31 q31 S31 Ng31 Hs31 G31 (fits_nar_byte _) W32 (2 * mm) (own_tn hj1) (by omega)
  refine OW.st (B := T32.setTop (mkF m 47 #[.val (.ref ba), .val (.int ((i <<< ((1 : Int32) &&& 31)) + (1 : Int32))), .val (.int cc)] [(.int cc), (.int ((i <<< ((1 : Int32) &&& 31)) + (1 : Int32))), (.ref ba)])) (fun _ kk_ => st32 _ (XS.aloadN X32.here hx rfl (hb hby d20_44) rfl rfl (XS.iloadN X32.here hx rfl (hb hby d20_45) rfl (XS.iloadN X32.here hx rfl (hb hby d20_46) rfl kk_)))) ?_
  obtain ⟨T33, X33, e33, st33⟩ := getS2 X32 hx hZ hown (host := "") (Or.inl (w_95 hw)) Via.refl e32 (S_LO_BYTE_SHIFT.ext O32.2) (g := (mkF m 47 #[.val (.ref ba), .val (.int ((i <<< ((1 : Int32) &&& 31)) + (1 : Int32))), .val (.int cc)] [(.int cc), (.int ((i <<< ((1 : Int32) &&& 31)) + (1 : Int32))), (.ref ba)])) rfl (hb hby d20_47)
  refine OW.st (B := T33.setTop (mkF m 52 #[.val (.ref ba), .val (.int ((i <<< ((1 : Int32) &&& 31)) + (1 : Int32))), .val (.int cc)] [(.int ((cc >>> ((8 : Int32) &&& 31)).toInt8.toInt32)), (.int ((i <<< ((1 : Int32) &&& 31)) + (1 : Int32))), (.ref ba)])) (fun _ kk_ => st33 _ (XS.ishr X33.here hx rfl (hb hby d20_50) rfl (XS.i2b X33.here hx rfl (hb hby d20_51) rfl kk_))) ?_
  obtain ⟨cl34, Ar34, q34, S34, Ng34, Hs34, G34⟩ := id V32
  have hin34 : ¬ (((i <<< ((1 : Int32) &&& 31)) + (1 : Int32)) < 0 ∨ cl34.slots.size ≤ (((i <<< ((1 : Int32) &&& 31)) + (1 : Int32))).toNatClampNeg) := inb_of S34 ⟨own_nneg hj2, own_ltI hj2 hzb (by omega)⟩
  obtain ⟨T35, h35, X35, e35, W35, st35⟩ := stB X33 hx hZ e33 Ar34 (j := ((i <<< ((1 : Int32) &&& 31)) + (1 : Int32))) hin34 (g := (mkF m 52 #[.val (.ref ba), .val (.int ((i <<< ((1 : Int32) &&& 31)) + (1 : Int32))), .val (.int cc)] [(.int ((cc >>> ((8 : Int32) &&& 31)).toInt8.toInt32)), (.int ((i <<< ((1 : Int32) &&& 31)) + (1 : Int32))), (.ref ba)])) rfl rfl (hb hby d20_52)
  have N35 := Fr.snoc X35 N32 gb
  have O35 : Old Z n0 h35 := O32.wr W35 gb
  have KC35 : Keep h0 h35 [ba] := KC32.wr W35 (Or.inl (List.mem_of_getElem? (i := 0) rfl))
  have V35 : Arv Z h35 ba kb .byte zb ((bs.set (2 * mm) (.int (nar .byte ((cc >>> ((0 : Int32) &&& 31)).toInt8.toInt32)))).set (2 * mm + 1) (.int (nar .byte ((cc >>> ((8 : Int32) &&& 31)).toInt8.toInt32)))) (.int (0 : Int32)) := Arv.set Ar34 q34 S34 Ng34 Hs34 G34 (fits_nar_byte _) W35 (2 * mm + 1) (own_tn hj2) (by rw [List.length_set]; omega)
  refine OW.st (B := T35.setTop (mkF m 53 #[.val (.ref ba), .val (.int ((i <<< ((1 : Int32) &&& 31)) + (1 : Int32))), .val (.int cc)] [])) (fun _ kk_ => st35 _ kk_) ?_
  exact OW.retV X35 hx hlk Bd.returns (hb hby d20_53) e35 (by decide) (by decide) ⟨rfl, N35, KC35, V35⟩
theorem ef_GC (m : MethodId) (x0 : Addr) (x1 : Int32) : entryFrame m #[(.ref x0), (.int x1)] 2 = mkF m 0 #[.val (.ref x0), .val (.int x1)] [] := by first | (simp [entryFrame, mkF, argsToLocals, Value.category]; done) | rfl
def QGC (Z : State) (ba : Addr) (kb : ClassId) (zb : Int32) (cs : List Int32) (i : Int32) (mm : Nat) (cc : Int32) (i_COMPACT_STRINGS : Int32) (v_SIOOBE_FORMATTER : Value) (h0 : Heap) (n0 : Nat) (v : Option Value) (h : Heap) (L : List Loc) : Prop := v = some (.int cc) ∧ Fr n0 L ∧ h = h0
set_option maxRecDepth 65536 in
set_option maxHeartbeats 40000000 in
theorem rmGC (l : Launch) (Z : State) (a0 : Array Value) (hw : ∀ d ∈ tables_1, d.before a0 Z = true) (ws : List Jvm.Cond) (ba : Addr) (kb : ClassId) (zb : Int32) (cs : List Int32) (i : Int32) (mm : Nat) (cc : Int32) (i_COMPACT_STRINGS : Int32) (v_SIOOBE_FORMATTER : Value) (h0 : Heap) (n0 : Nat) (O0 : Old Z n0 h0) (B : Arv Z h0 ba kb .byte zb (OwnU cs) (.int (0 : Int32))) (hzb : zb.toInt = ((2 * cs.length : Nat) : Int)) (hmax : cs.length ≤ 10) (hi : i.toInt = (mm : Int)) (hcc : cs[mm]? = some cc) (hn : nar .char cc = cc) (hS : OwnS Z i_COMPACT_STRINGS v_SIOOBE_FORMATTER) :
    MetFree l (⟨"java/lang/StringUTF16", "getChar", "([BI)C"⟩ : MethodName) (head1 (Jvm.Cond.code (⟨"java/lang/StringUTF16", "getChar", "([BI)C"⟩ : MethodName) jdk_52_method_5_code 2 (some .char) :: ws) ({ frames := 0, cells := 0, slots := 0, locals := 0 } : Room)) (fun aa_ UU_ => aa_ = #[(.ref ba), (.int i)] ∧ Z.Warmed39 UU_.vm ∧ UU_.heap = h0) (fun _ _ _ _ _ => True) (fun _ UU_ oo_ UV_ => ∃ vv_ LL_, oo_ = .returned vv_ ∧ QGC Z ba kb zb cs i mm cc i_COMPACT_STRINGS v_SIOOBE_FORMATTER h0 n0 vv_ UV_.heap LL_ ∧ FrameEnd UU_ oo_ UV_ LL_ ({ frames := 0, cells := 0, slots := 0, locals := 0 } : Room).cells ({ frames := 0, cells := 0, slots := 0, locals := 0 } : Room).slots) := by
  refine MetFree.of_bodySF (plainFor_of_name pn_2) hisR ?_
  intro p e s m args below meth c s₁ Bd hml0 hP hK
  obtain ⟨rfl, hZ, hh⟩ := hP
  have hx := Bd.exec
  have hby := Bd.bytes
  have hlk := BodyLoose.notSynchronized Bd
  have hml : c.maxLocals = 2 := hml0
  have hown : s.vm.findClass "java/lang/StringUTF16" = some m.cls := findClass_of_methodNamed Bd.named
  have hnm := (name_of_methodNamed Bd.named Bd.method).1
  have X0 : Stand p l e ({ frames := 0, cells := 0, slots := 0, locals := 0 } : Room) s m #[(.ref ba), (.int i)] below meth c s₁ [] 0 0 := Stand.of_body Bd
  have e0 : s₁.heap = h0 := by rw [← hh, Bd.state]; rfl
  have N0 := Fr.nil n0
  suffices hOW : OW p e below s (QGC Z ba kb zb cs i mm cc i_COMPACT_STRINGS v_SIOOBE_FORMATTER h0 n0) 0 0 (s₁.setTop (mkF m 0 #[.val (.ref ba), .val (.int i)] [])) by
    obtain ⟨oq1_, oq2_, oq3_, oq4_⟩ := hOW
    exact ⟨oq1_, oq2_, castTop (ef_GC m ba i) oq3_, oq4_⟩
  have hS' := hS
  obtain ⟨Si_COMPACT_STRINGS, Sv_SIOOBE_FORMATTER, Rv_SIOOBE_FORMATTER, S__assertionsDisabled, S_HI_BYTE_SHIFT, S_LO_BYTE_SHIFT, Pi_COMPACT_STRINGS⟩ := hS'
  have hmm : mm < cs.length := (List.getElem?_eq_some_iff.mp hcc).1
  have hj1 : (i <<< ((1 : Int32) &&& 31)).toInt = ((2 * mm : Nat) : Int) := own_dbl hi (by omega)
  have hj2 : ((i <<< ((1 : Int32) &&& 31)) + (1 : Int32)).toInt = ((2 * mm + 1 : Nat) : Int) := own_suc hj1 (by omega)
  obtain ⟨T36, X36, e36, st36⟩ := getS2 X0 hx hZ hown (host := "") (Or.inl (w_93 hw)) Via.refl e0 (S__assertionsDisabled.ext O0.2) (g := (mkF m 0 #[.val (.ref ba), .val (.int i)] [])) rfl (hb hby d21_0)
  refine OW.st (B := T36.setTop (mkF m 37 #[.val (.ref ba), .val (.int ((i <<< ((1 : Int32) &&& 31)) + (1 : Int32)))] [(.int (i <<< ((1 : Int32) &&& 31))), (.ref ba)])) (fun _ kk_ => st36 _ (XS.ifYes X36.here hx rfl (pc0 := 3) (pc' := 28) rfl (hb hby d21_3) rfl ((if0 _ _).trans (feq (by decide)).2) (by decide) (by decide) (XS.iloadN X36.here hx rfl (hb hby d21_28) rfl (XS.iconst X36.here hx rfl (hb hby d21_29) (XS.ishl X36.here hx rfl (hb hby d21_30) rfl (XS.istoreN X36.here hx rfl (hb hby d21_31) rfl (l' := #[.val (.ref ba), .val (.int (i <<< ((1 : Int32) &&& 31)))]) rfl (XS.aloadN X36.here hx rfl (hb hby d21_32) rfl rfl (XS.iloadN X36.here hx rfl (hb hby d21_33) rfl (XS.iinc X36.here hx rfl (hb hby d21_34) rfl (l' := #[.val (.ref ba), .val (.int ((i <<< ((1 : Int32) &&& 31)) + (1 : Int32)))]) rfl kk_))))))))) ?_
  obtain ⟨cl37, Ar37, q37, S37, Ng37, Hs37, G37⟩ := id B
  have hin37 : ¬ ((i <<< ((1 : Int32) &&& 31)) < 0 ∨ cl37.slots.size ≤ ((i <<< ((1 : Int32) &&& 31))).toNatClampNeg) := inb_of S37 ⟨own_nneg hj1, own_ltI hj1 hzb (by omega)⟩
  refine OW.st (B := T36.setTop (mkF m 42 #[.val (.ref ba), .val (.int ((i <<< ((1 : Int32) &&& 31)) + (1 : Int32)))] [(.int ((own_b0 cc) &&& (255 : Int32)))])) (fun _ kk_ => (X36.baloadBytes hx (j := (i <<< ((1 : Int32) &&& 31))) (v := (.int (own_b0 cc))) (by rw [e36]; exact Ar37.1) (State.isArrayOf_alike hZ.alike Ar37.2.1) Ar37.2.2 hin37 (Has.at Hs37 hin37 ((congrArg (fun q => (OwnU cs).getD q _) (own_tn hj1)).trans (own_getU0 hcc))) (g := (mkF m 37 #[.val (.ref ba), .val (.int ((i <<< ((1 : Int32) &&& 31)) + (1 : Int32)))] [(.int (i <<< ((1 : Int32) &&& 31))), (.ref ba)])) rfl rfl (hb hby d21_37)) _ (XS.sipush X36.here hx rfl (hb hby d21_38) (XS.iand X36.here hx rfl (hb hby d21_41) rfl kk_))) ?_
  obtain ⟨T38, X38, e38, st38⟩ := getS2 X36 hx hZ hown (host := "") (Or.inl (w_94 hw)) Via.refl e36 (S_HI_BYTE_SHIFT.ext O0.2) (g := (mkF m 42 #[.val (.ref ba), .val (.int ((i <<< ((1 : Int32) &&& 31)) + (1 : Int32)))] [(.int ((own_b0 cc) &&& (255 : Int32)))])) rfl (hb hby d21_42)
  refine OW.st (B := T38.setTop (mkF m 48 #[.val (.ref ba), .val (.int ((i <<< ((1 : Int32) &&& 31)) + (1 : Int32)))] [(.int ((i <<< ((1 : Int32) &&& 31)) + (1 : Int32))), (.ref ba), (.int (((own_b0 cc) &&& (255 : Int32)) <<< ((0 : Int32) &&& 31)))])) (fun _ kk_ => st38 _ (XS.ishl X38.here hx rfl (hb hby d21_45) rfl (XS.aloadN X38.here hx rfl (hb hby d21_46) rfl rfl (XS.iloadN X38.here hx rfl (hb hby d21_47) rfl kk_)))) ?_
  obtain ⟨cl39, Ar39, q39, S39, Ng39, Hs39, G39⟩ := id B
  have hin39 : ¬ (((i <<< ((1 : Int32) &&& 31)) + (1 : Int32)) < 0 ∨ cl39.slots.size ≤ (((i <<< ((1 : Int32) &&& 31)) + (1 : Int32))).toNatClampNeg) := inb_of S39 ⟨own_nneg hj2, own_ltI hj2 hzb (by omega)⟩
  refine OW.st (B := T38.setTop (mkF m 53 #[.val (.ref ba), .val (.int ((i <<< ((1 : Int32) &&& 31)) + (1 : Int32)))] [(.int ((own_b1 cc) &&& (255 : Int32))), (.int (((own_b0 cc) &&& (255 : Int32)) <<< ((0 : Int32) &&& 31)))])) (fun _ kk_ => (X38.baloadBytes hx (j := ((i <<< ((1 : Int32) &&& 31)) + (1 : Int32))) (v := (.int (own_b1 cc))) (by rw [e38]; exact Ar39.1) (State.isArrayOf_alike hZ.alike Ar39.2.1) Ar39.2.2 hin39 (Has.at Hs39 hin39 ((congrArg (fun q => (OwnU cs).getD q _) (own_tn hj2)).trans (own_getU1 hcc))) (g := (mkF m 48 #[.val (.ref ba), .val (.int ((i <<< ((1 : Int32) &&& 31)) + (1 : Int32)))] [(.int ((i <<< ((1 : Int32) &&& 31)) + (1 : Int32))), (.ref ba), (.int (((own_b0 cc) &&& (255 : Int32)) <<< ((0 : Int32) &&& 31)))])) rfl rfl (hb hby d21_48)) _ (XS.sipush X38.here hx rfl (hb hby d21_49) (XS.iand X38.here hx rfl (hb hby d21_52) rfl kk_))) ?_
  obtain ⟨T40, X40, e40, st40⟩ := getS2 X38 hx hZ hown (host := "") (Or.inl (w_95 hw)) Via.refl e38 (S_LO_BYTE_SHIFT.ext O0.2) (g := (mkF m 53 #[.val (.ref ba), .val (.int ((i <<< ((1 : Int32) &&& 31)) + (1 : Int32)))] [(.int ((own_b1 cc) &&& (255 : Int32))), (.int (((own_b0 cc) &&& (255 : Int32)) <<< ((0 : Int32) &&& 31)))])) rfl (hb hby d21_53)
  refine OW.st (B := T40.setTop (mkF m 59 #[.val (.ref ba), .val (.int ((i <<< ((1 : Int32) &&& 31)) + (1 : Int32)))] [(.int (((((own_b0 cc) &&& (255 : Int32)) <<< ((0 : Int32) &&& 31)) ||| (((own_b1 cc) &&& (255 : Int32)) <<< ((8 : Int32) &&& 31))).toUInt32.toUInt16.toUInt32.toInt32))])) (fun _ kk_ => st40 _ (XS.ishl X40.here hx rfl (hb hby d21_56) rfl (XS.ior X40.here hx rfl (hb hby d21_57) rfl (XS.i2c X40.here hx rfl (hb hby d21_58) rfl kk_)))) ?_
  exact OW.ret X40 hx hlk (i := .ireturn) Bd.returns (own_nc _) (Or.inl ⟨rfl, Or.inr (Or.inr (Or.inr (Or.inl rfl))), _, rfl⟩) (hb hby d21_59) e40 (by decide) (by decide) ⟨congrArg (fun z => some (Value.int z)) (own_gc hn), N0, rfl⟩
theorem ef_NL (m : MethodId) (x0 : Int32) : entryFrame m #[(.int x0)] 1 = mkF m 0 #[.val (.int x0)] [] := by first | (simp [entryFrame, mkF, argsToLocals, Value.category]; done) | rfl
def QNL (Z : State) (z : Int32) (nn : Nat) (h0 : Heap) (n0 : Nat) (v : Option Value) (h : Heap) (L : List Loc) : Prop := v = some (.int (z <<< ((1 : Int32) &&& 31))) ∧ Fr n0 L ∧ h = h0
set_option maxRecDepth 65536 in
set_option maxHeartbeats 40000000 in
theorem rmNL (l : Launch) (Z : State) (a0 : Array Value) (hw : ∀ d ∈ tables_1, d.before a0 Z = true) (ws : List Jvm.Cond) (z : Int32) (nn : Nat) (h0 : Heap) (n0 : Nat) (O0 : Old Z n0 h0) (hz : z.toInt = (nn : Int)) (hmax : nn ≤ 10) :
    MetFree l (⟨"java/lang/StringUTF16", "newBytesLength", "(I)I"⟩ : MethodName) (head1 (Jvm.Cond.code (⟨"java/lang/StringUTF16", "newBytesLength", "(I)I"⟩ : MethodName) jdk_52_method_3_code 1 (some .int) :: ws) ({ frames := 0, cells := 0, slots := 0, locals := 0 } : Room)) (fun aa_ UU_ => aa_ = #[(.int z)] ∧ Z.Warmed39 UU_.vm ∧ UU_.heap = h0) (fun _ _ _ _ _ => True) (fun _ UU_ oo_ UV_ => ∃ vv_ LL_, oo_ = .returned vv_ ∧ QNL Z z nn h0 n0 vv_ UV_.heap LL_ ∧ FrameEnd UU_ oo_ UV_ LL_ ({ frames := 0, cells := 0, slots := 0, locals := 0 } : Room).cells ({ frames := 0, cells := 0, slots := 0, locals := 0 } : Room).slots) := by
  refine MetFree.of_bodySF (plainFor_of_name pn_2) hisR ?_
  intro p e s m args below meth c s₁ Bd hml0 hP hK
  obtain ⟨rfl, hZ, hh⟩ := hP
  have hx := Bd.exec
  have hby := Bd.bytes
  have hlk := BodyLoose.notSynchronized Bd
  have hml : c.maxLocals = 1 := hml0
  have hown : s.vm.findClass "java/lang/StringUTF16" = some m.cls := findClass_of_methodNamed Bd.named
  have hnm := (name_of_methodNamed Bd.named Bd.method).1
  have X0 : Stand p l e ({ frames := 0, cells := 0, slots := 0, locals := 0 } : Room) s m #[(.int z)] below meth c s₁ [] 0 0 := Stand.of_body Bd
  have e0 : s₁.heap = h0 := by rw [← hh, Bd.state]; rfl
  have N0 := Fr.nil n0
  suffices hOW : OW p e below s (QNL Z z nn h0 n0) 0 0 (s₁.setTop (mkF m 0 #[.val (.int z)] [])) by
    obtain ⟨oq1_, oq2_, oq3_, oq4_⟩ := hOW
    exact ⟨oq1_, oq2_, castTop (ef_NL m z) oq3_, oq4_⟩
  have hq1 := own_nneg hz
  have hq2 : z < (1073741823 : Int32) := own_ltI hz (n := 1073741823) (by decide) (by omega)
  refine OW.st (B := s₁.setTop (mkF m 58 #[.val (.int z)] [(.int (z <<< ((1 : Int32) &&& 31)))])) (fun _ kk_ => XS.iloadN X0.here hx rfl (hb hby d19_0) rfl (XS.ifYes X0.here hx rfl (pc0 := 1) (pc' := 12) rfl (hb hby d19_1) rfl ((if0 _ _).trans (flt hq1).2.1) (by decide) (by decide) (XS.iloadN X0.here hx rfl (hb hby d19_12) rfl ((X0.ldcInt hx hown (mvT hZ (w_89 hw)) (g := (mkF m 13 #[.val (.int z)] [(.int z)])) rfl (hb hby d19_13)) _ (XS.icmpYes X0.here hx rfl (pc0 := 15) (pc' := 55) rfl (hb hby d19_15) rfl (tlt hq2).1 (by decide) (by decide) (XS.iloadN X0.here hx rfl (hb hby d19_55) rfl (XS.iconst X0.here hx rfl (hb hby d19_56) (XS.ishl X0.here hx rfl (hb hby d19_57) rfl kk_)))))))) ?_
  exact OW.ret X0 hx hlk (i := .ireturn) Bd.returns rfl (Or.inl ⟨rfl, Or.inl rfl, _, rfl⟩) (hb hby d19_58) e0 (by decide) (by decide) ⟨rfl, N0, rfl⟩
theorem ef_NF (m : MethodId) (x0 : Int32) : entryFrame m #[(.int x0)] 1 = mkF m 0 #[.val (.int x0)] [] := by first | (simp [entryFrame, mkF, argsToLocals, Value.category]; done) | rfl
def QNF (Z : State) (z : Int32) (nn : Nat) (h0 : Heap) (n0 : Nat) (v : Option Value) (h : Heap) (L : List Loc) : Prop := ∃ (ba : Addr) (kb : ClassId), v = some (.ref ba) ∧ Fr n0 L ∧ Keep h0 h [] ∧ n0 ≤ ba ∧ h0.size ≤ ba ∧ Arv Z h ba kb .byte (z <<< ((1 : Int32) &&& 31)) (List.replicate (2 * nn) (.int (0 : Int32))) (.int (0 : Int32))
set_option maxRecDepth 65536 in
set_option maxHeartbeats 40000000 in
theorem rmNF (l : Launch) (Z : State) (a0 : Array Value) (hw : ∀ d ∈ tables_1, d.before a0 Z = true) (ws : List Jvm.Cond) (z : Int32) (nn : Nat) (h0 : Heap) (n0 : Nat) (O0 : Old Z n0 h0) (hz : z.toInt = (nn : Int)) (hmax : nn ≤ 10) :
    MetFree l (⟨"java/lang/StringUTF16", "newBytesFor", "(I)[B"⟩ : MethodName) (head1 (Jvm.Cond.code (⟨"java/lang/StringUTF16", "newBytesFor", "(I)[B"⟩ : MethodName) jdk_52_method_2_code 1 (some (.array .byte)) :: ws) ({ frames := 1, cells := 1, slots := 20, locals := 12 } : Room)) (fun aa_ UU_ => aa_ = #[(.int z)] ∧ Z.Warmed39 UU_.vm ∧ UU_.heap = h0) (fun _ _ _ _ _ => True) (fun _ UU_ oo_ UV_ => ∃ vv_ LL_, oo_ = .returned vv_ ∧ QNF Z z nn h0 n0 vv_ UV_.heap LL_ ∧ FrameEnd UU_ oo_ UV_ LL_ ({ frames := 1, cells := 1, slots := 20, locals := 12 } : Room).cells ({ frames := 1, cells := 1, slots := 20, locals := 12 } : Room).slots) := by
  refine MetFree.of_bodySF (plainFor_of_name pn_2) hisR ?_
  intro p e s m args below meth c s₁ Bd hml0 hP hK
  obtain ⟨rfl, hZ, hh⟩ := hP
  have hx := Bd.exec
  have hby := Bd.bytes
  have hlk := BodyLoose.notSynchronized Bd
  have hml : c.maxLocals = 1 := hml0
  have hown : s.vm.findClass "java/lang/StringUTF16" = some m.cls := findClass_of_methodNamed Bd.named
  have hnm := (name_of_methodNamed Bd.named Bd.method).1
  have X0 : Stand p l e ({ frames := 1, cells := 1, slots := 20, locals := 12 } : Room) s m #[(.int z)] below meth c s₁ [] 0 0 := Stand.of_body Bd
  have e0 : s₁.heap = h0 := by rw [← hh, Bd.state]; rfl
  have N0 := Fr.nil n0
  have KC0 : Keep h0 h0 [] := Keep.refl _ _
  suffices hOW : OW p e below s (QNF Z z nn h0 n0) 1 20 (s₁.setTop (mkF m 0 #[.val (.int z)] [])) by
    obtain ⟨oq1_, oq2_, oq3_, oq4_⟩ := hOW
    exact ⟨oq1_, oq2_, castTop (ef_NF m z) oq3_, oq4_⟩
  have hd := own_dbl hz (by omega)
  refine OW.st (B := s₁.setTop (mkF m 1 #[.val (.int z)] [(.int z)])) (fun _ kk_ => XS.iloadN X0.here hx rfl (hb hby d18_0) rfl kk_) ?_
  obtain ⟨_, _, ⟨T41, L41, k41, n41⟩, -, X41, ⟨Lc41, hQ41, l41, y41, z41⟩, st41⟩ := Jvm.LawKit.callS X0 hx (y := (⟨"java/lang/StringUTF16", "newBytesLength", "(I)I"⟩ : MethodName)) hown (mvT hZ (w_86 hw)) (mvT hZ (w_87 hw)) (mvT hZ (w_50 hw)) (mvT hZ (w_88 hw)) (by decide) (backOf (W := 0) (rmNL l Z a0 hw [] z nn h0 n0 O0 hz hmax) hZ (w_88 hw) (w_50 hw) (by decide) (by decide)) (g := (mkF m 1 #[.val (.int z)] [(.int z)])) rfl (by rw [hml]; rfl) (argsL := [(.int z)]) (rest := []) (lenOf pd_2 rfl) rfl (by show 2 * 0 + _ ≤ _; exact Nat.le_of_eq rfl) (hb hby d18_1) (fun _ _ => ⟨rfl, e0, (by decide : 0 + 0 ≤ _), (by decide : 0 + 0 ≤ _)⟩)
  dsimp only [Pt.U, Pt.locs, Pt.cells, Pt.slots] at X41 l41 y41 z41 st41 hQ41
  subst l41 y41 z41
  obtain ⟨rfl, Nq41, e41⟩ := hQ41
  have N41 := Fr.app N0 Nq41
  refine OW.st (B := T41.setTop (mkF m 4 #[.val (.int z)] [(.int (z <<< ((1 : Int32) &&& 31)))])) (fun _ kk_ => st41 _ kk_) ?_
  obtain ⟨T42, h42, k42, X42, e42, E42, A42, st42⟩ := newP (aty := .byte) X41 hx hZ (w_24 hw) e41 (g := (mkF m 4 #[.val (.int z)] [(.int (z <<< ((1 : Int32) &&& 31)))])) rfl (hb hby d18_4) rfl (own_nneg hd) (cap := 20) (by rw [own_tn hd]; omega) (by decide) (by decide) (by decide)
  obtain ⟨b42, g42⟩ : ∃ z, z = h0.size := ⟨_, rfl⟩
  rw [← g42] at A42 st42
  have n_b42 : n0 ≤ b42 := Nat.le_trans (own_oldle O0) (Nat.le_of_eq g42.symm)
  have O42 : Old Z n0 h42 := O0.ext E42
  have sz_b42 : h0.size ≤ b42 := Nat.le_trans KC0.1 (Nat.le_of_eq g42.symm)
  have KC42 : Keep h0 h42 [] := KC0.ext E42
  have V42 : Arv Z h42 b42 k42 .byte (z <<< ((1 : Int32) &&& 31)) (List.replicate (2 * nn) (.int (0 : Int32))) (.int (0 : Int32)) := (Arv.new A42 (own_nneg hd)).pad (pad_rep [] (.int (0 : Int32)) (2 * nn))
  refine OW.st (B := T42.setTop (mkF m 6 #[.val (.int z)] [(.ref b42)])) (fun _ kk_ => st42 _ kk_) ?_
  exact OW.ret X42 hx hlk (i := .areturn) Bd.returns rfl (Or.inr (Or.inr (Or.inr (Or.inr ⟨rfl, rfl, rfl⟩)))) (hb hby d18_6) e42 (by decide) (by decide) ⟨b42, k42, rfl, N41, KC42, n_b42, sz_b42, V42⟩
theorem ef_TB (m : MethodId) (x0 : Addr) (x1 : Int32) (x2 : Int32) : entryFrame m #[(.ref x0), (.int x1), (.int x2)] 5 = mkF m 0 #[.val (.ref x0), .val (.int x1), .val (.int x2), .unset, .unset] [] := by first | (simp [entryFrame, mkF, argsToLocals, Value.category]; done) | rfl
def QTB (Z : State) (ca : Addr) (kc : ClassId) (z : Int32) (cs : List Int32) (i_COMPACT_STRINGS : Int32) (v_SIOOBE_FORMATTER : Value) (h0 : Heap) (n0 : Nat) (v : Option Value) (h : Heap) (L : List Loc) : Prop := ∃ (ba : Addr) (kb : ClassId), v = some (.ref ba) ∧ Fr n0 L ∧ Keep h0 h [] ∧ n0 ≤ ba ∧ h0.size ≤ ba ∧ Arv Z h ba kb .byte (z <<< ((1 : Int32) &&& 31)) (OwnU cs) (.int (0 : Int32))
set_option maxRecDepth 65536 in
set_option maxHeartbeats 40000000 in
theorem rmTB (l : Launch) (Z : State) (a0 : Array Value) (hw : ∀ d ∈ tables_1, d.before a0 Z = true) (ws : List Jvm.Cond) (ca : Addr) (kc : ClassId) (z : Int32) (cs : List Int32) (i_COMPACT_STRINGS : Int32) (v_SIOOBE_FORMATTER : Value) (h0 : Heap) (n0 : Nat) (O0 : Old Z n0 h0) (V : Arv Z h0 ca kc .char z (cs.map Value.int) (.int (0 : Int32))) (hz : z.toInt = (cs.length : Int)) (hmax : cs.length ≤ 10) (hS : OwnS Z i_COMPACT_STRINGS v_SIOOBE_FORMATTER) :
    MetFree l (⟨"java/lang/StringUTF16", "toBytes", "([CII)[B"⟩ : MethodName) (head1 (Jvm.Cond.code (⟨"java/lang/StringUTF16", "toBytes", "([CII)[B"⟩ : MethodName) jdk_52_method_14_code 5 (some (.array .byte)) :: ws) ({ frames := 2, cells := 1, slots := 20, locals := 24 } : Room)) (fun aa_ UU_ => aa_ = #[(.ref ca), (.int (0 : Int32)), (.int z)] ∧ Z.Warmed39 UU_.vm ∧ UU_.heap = h0) (fun _ _ _ _ _ => True) (fun _ UU_ oo_ UV_ => ∃ vv_ LL_, oo_ = .returned vv_ ∧ QTB Z ca kc z cs i_COMPACT_STRINGS v_SIOOBE_FORMATTER h0 n0 vv_ UV_.heap LL_ ∧ FrameEnd UU_ oo_ UV_ LL_ ({ frames := 2, cells := 1, slots := 20, locals := 24 } : Room).cells ({ frames := 2, cells := 1, slots := 20, locals := 24 } : Room).slots) := by
  refine MetFree.of_bodySF (plainFor_of_name pn_2) hisR ?_
  intro p e s m args below meth c s₁ Bd hml0 hP hK
  obtain ⟨rfl, hZ, hh⟩ := hP
  have hx := Bd.exec
  have hby := Bd.bytes
  have hlk := BodyLoose.notSynchronized Bd
  have hml : c.maxLocals = 5 := hml0
  have hown : s.vm.findClass "java/lang/StringUTF16" = some m.cls := findClass_of_methodNamed Bd.named
  have hnm := (name_of_methodNamed Bd.named Bd.method).1
  have X0 : Stand p l e ({ frames := 2, cells := 1, slots := 20, locals := 24 } : Room) s m #[(.ref ca), (.int (0 : Int32)), (.int z)] below meth c s₁ [] 0 0 := Stand.of_body Bd
  have e0 : s₁.heap = h0 := by rw [← hh, Bd.state]; rfl
  have N0 := Fr.nil n0
  have KC0 : Keep h0 h0 [] := Keep.refl _ _
  suffices hOW : OW p e below s (QTB Z ca kc z cs i_COMPACT_STRINGS v_SIOOBE_FORMATTER h0 n0) 1 20 (s₁.setTop (mkF m 0 #[.val (.ref ca), .val (.int (0 : Int32)), .val (.int z), .unset, .unset] [])) by
    obtain ⟨oq1_, oq2_, oq3_, oq4_⟩ := hOW
    exact ⟨oq1_, oq2_, castTop (ef_TB m ca (0 : Int32) z) oq3_, oq4_⟩
  have hS' := hS
  obtain ⟨Si_COMPACT_STRINGS, Sv_SIOOBE_FORMATTER, Rv_SIOOBE_FORMATTER, S__assertionsDisabled, S_HI_BYTE_SHIFT, S_LO_BYTE_SHIFT, Pi_COMPACT_STRINGS⟩ := hS'
  refine OW.st (B := s₁.setTop (mkF m 1 #[.val (.ref ca), .val (.int (0 : Int32)), .val (.int z), .unset, .unset] [(.int z)])) (fun _ kk_ => XS.iloadN X0.here hx rfl (hb hby d17_0) rfl kk_) ?_
  obtain ⟨_, _, ⟨T43, L43, k43, n43⟩, -, X43, ⟨Lc43, hQ43, l43, y43, z43⟩, st43⟩ := Jvm.LawKit.callS X0 hx (y := (⟨"java/lang/StringUTF16", "newBytesFor", "(I)[B"⟩ : MethodName)) hown (mvT hZ (w_83 hw)) (mvT hZ (w_84 hw)) (mvT hZ (w_50 hw)) (mvT hZ (w_85 hw)) (by decide) (backOf (W := 0) (rmNF l Z a0 hw [] z cs.length h0 n0 O0 hz hmax) hZ (w_85 hw) (w_50 hw) (by decide) (by decide)) (g := (mkF m 1 #[.val (.ref ca), .val (.int (0 : Int32)), .val (.int z), .unset, .unset] [(.int z)])) rfl (by rw [hml]; rfl) (argsL := [(.int z)]) (rest := []) (lenOf pd_3 rfl) rfl (by show 2 * 0 + _ ≤ _; exact Nat.le_of_eq rfl) (hb hby d17_1) (fun _ _ => ⟨rfl, e0, (by decide : 0 + 1 ≤ _), (by decide : 0 + 20 ≤ _)⟩)
  dsimp only [Pt.U, Pt.locs, Pt.cells, Pt.slots] at X43 l43 y43 z43 st43 hQ43
  subst l43 y43 z43
  obtain ⟨b43, kb43, rfl, Nq43, K43, gb43, zb43, Vb43⟩ := hQ43
  have N43 := Fr.app N0 Nq43
  have O43 : Old Z n0 T43.heap := O0.keep K43 all0
  have KC43 : Keep h0 T43.heap [] := KC0.trans K43 all0
  have sz_b43 : h0.size ≤ b43 := Nat.le_trans KC0.1 zb43
  refine OW.st (B := T43.setTop (mkF m 8 #[.val (.ref ca), .val (.int (0 : Int32)), .val (.int z), .val (.ref b43), .val (.int (0 : Int32))] [])) (fun _ kk_ => st43 _ (XS.astoreN X43.here hx rfl (hb hby d17_4) rfl rfl (l' := #[.val (.ref ca), .val (.int (0 : Int32)), .val (.int z), .val (.ref b43), .unset]) rfl (XS.iconst X43.here hx rfl (hb hby d17_5) (XS.istore X43.here hx rfl (hb hby d17_6) rfl (l' := #[.val (.ref ca), .val (.int (0 : Int32)), .val (.int z), .val (.ref b43), .val (.int (0 : Int32))]) rfl kk_)))) ?_
  have hd := own_dbl hz (by omega)
  have J44 : ∀ (f : Nat) (T44 : State) (L44 : List Loc) (h44 : Heap) (X44 : Stand p l e ({ frames := 2, cells := 1, slots := 20, locals := 24 } : Room) s m #[(.ref ca), (.int (0 : Int32)), (.int z)] below meth c T44 L44 1 20) (N44 : Fr n0 L44) (e44 : T44.heap = h44) (O44 : Old Z n0 h44) (KC44 : Keep h0 h44 []) (i : Int32) (bs : List Value) (mm : Nat), (Arv Z h44 ca kc .char z (cs.map Value.int) (.int (0 : Int32))) → (Arv Z h44 b43 kb43 .byte (z <<< ((1 : Int32) &&& 31)) bs (.int (0 : Int32))) → (i.toInt = (mm : Int)) → (mm + f = cs.length) → (OwnPU cs mm bs) → OW p e below s (QTB Z ca kc z cs i_COMPACT_STRINGS v_SIOOBE_FORMATTER h0 n0) 1 20 (T44.setTop (mkF m 8 #[.val (.ref ca), .val (.int i), .val (.int z), .val (.ref b43), .val (.int i)] [])) := by
    intro f
    induction f with
    | zero =>
      intro T44 L44 h44 X44 N44 e44 O44 KC44 i bs mm Vc Vb hi hm hp
      have hmm : mm = cs.length := by omega
      subst hmm
      refine OW.st (B := T44.setTop (mkF m 33 #[.val (.ref ca), .val (.int i), .val (.int z), .val (.ref b43), .val (.int i)] [(.ref b43)])) (fun _ kk_ => XS.iload X44.here hx rfl (hb hby d17_8) rfl (XS.iloadN X44.here hx rfl (hb hby d17_10) rfl (XS.icmpYes X44.here hx rfl (pc0 := 11) (pc' := 32) rfl (hb hby d17_11) rfl (flt (own_nltI hi hz (by omega))).2.1 (by decide) (by decide) (XS.aloadN X44.here hx rfl (hb hby d17_32) rfl rfl kk_)))) ?_
      exact OW.ret X44 hx hlk (i := .areturn) Bd.returns rfl (Or.inr (Or.inr (Or.inr (Or.inr ⟨rfl, rfl, rfl⟩)))) (hb hby d17_33) e44 (by decide) (by decide) ⟨b43, kb43, rfl, N44, KC44, gb43, sz_b43, hp.end ▸ Vb⟩
    | succ f ih =>
      intro T44 L44 h44 X44 N44 e44 O44 KC44 i bs mm Vc Vb hi hm hp
      obtain ⟨cc, hcc⟩ : ∃ cc, cs[mm]? = some cc := ⟨_, List.getElem?_eq_getElem (by omega)⟩
      have hbl := hp.1
      refine OW.st (B := T44.setTop (mkF m 19 #[.val (.ref ca), .val (.int i), .val (.int z), .val (.ref b43), .val (.int i)] [(.int i), (.ref ca), (.int i), (.ref b43)])) (fun _ kk_ => XS.iload X44.here hx rfl (hb hby d17_8) rfl (XS.iloadN X44.here hx rfl (hb hby d17_10) rfl (XS.icmpNo X44.here hx rfl (hb hby d17_11) rfl (tlt (own_ltI hi hz (by omega))).2.1 (XS.aloadN X44.here hx rfl (hb hby d17_14) rfl rfl (XS.iload X44.here hx rfl (hb hby d17_15) rfl (XS.aloadN X44.here hx rfl (hb hby d17_17) rfl rfl (XS.iloadN X44.here hx rfl (hb hby d17_18) rfl kk_))))))) ?_
      obtain ⟨cl45, Ar45, q45, S45, Ng45, Hs45, G45⟩ := id Vc
      have hin45 : ¬ (i < 0 ∨ cl45.slots.size ≤ (i).toNatClampNeg) := inb_of S45 ⟨own_nneg hi, own_ltI hi hz (by omega)⟩
      refine OW.st (B := T44.setTop (mkF m 20 #[.val (.ref ca), .val (.int i), .val (.int z), .val (.ref b43), .val (.int i)] [(.int cc), (.int i), (.ref b43)])) (fun _ kk_ => (X44.caload hx (j := i) (v := (.int cc)) (by rw [e44]; exact Ar45.1) (State.isArrayOf_alike hZ.alike Ar45.2.1) Ar45.2.2 hin45 (Has.at Hs45 hin45 ((congrArg (fun q => (cs.map Value.int).getD q _) (own_tn hi)).trans (own_getC hcc))) (g := (mkF m 19 #[.val (.ref ca), .val (.int i), .val (.int z), .val (.ref b43), .val (.int i)] [(.int i), (.ref ca), (.int i), (.ref b43)])) rfl rfl (hb hby d17_19)) _ kk_) ?_
      obtain ⟨_, _, ⟨T46, L46, k46, n46⟩, -, X46, ⟨Lc46, hQ46, l46, y46, z46⟩, st46⟩ := Jvm.LawKit.callS X44 hx (y := (⟨"java/lang/StringUTF16", "putChar", "([BII)V"⟩ : MethodName)) hown (mvT hZ (w_90 hw)) (mvT hZ (w_91 hw)) (mvT hZ (w_50 hw)) (mvT hZ (w_92 hw)) (by decide) (backOf (W := 0) (rmPC l Z a0 hw [] b43 kb43 (z <<< ((1 : Int32) &&& 31)) bs i mm cc i_COMPACT_STRINGS v_SIOOBE_FORMATTER h44 n0 O44 Vb gb43 (by rw [hbl]; exact hd) (by omega) (by omega) hi hS) hZ (w_92 hw) (w_50 hw) (by decide) (by decide)) (g := (mkF m 20 #[.val (.ref ca), .val (.int i), .val (.int z), .val (.ref b43), .val (.int i)] [(.int cc), (.int i), (.ref b43)])) rfl (by rw [hml]; rfl) (argsL := [(.ref b43), (.int i), (.int cc)]) (rest := []) (lenOf pd_4 rfl) rfl (by show 2 * 0 + _ ≤ _; exact Nat.le_of_eq rfl) (hb hby d17_20) (fun _ _ => ⟨rfl, e44, (by decide : 1 + 0 ≤ _), (by decide : 20 + 0 ≤ _)⟩)
      dsimp only [Pt.U, Pt.locs, Pt.cells, Pt.slots] at X46 l46 y46 z46 st46 hQ46
      subst l46 y46 z46
      obtain ⟨rfl, Nq46, K46, Vp46⟩ := hQ46
      have N46 := Fr.app N44 Nq46
      have O46 : Old Z n0 T46.heap := O44.keep K46 (allS gb43 all0)
      have KC46 : Keep h0 T46.heap [] := KC44.trans K46 (allS (Or.inr sz_b43) all0)
      refine OW.st (B := T46.setTop (mkF m 8 #[.val (.ref ca), .val (.int (i + (1 : Int32))), .val (.int z), .val (.ref b43), .val (.int (i + (1 : Int32)))] [])) (fun _ kk_ => st46 _ (XS.iinc X46.here hx rfl (hb hby d17_23) rfl (l' := #[.val (.ref ca), .val (.int (i + (1 : Int32))), .val (.int z), .val (.ref b43), .val (.int i)]) rfl (XS.iinc X46.here hx rfl (hb hby d17_26) rfl (l' := #[.val (.ref ca), .val (.int (i + (1 : Int32))), .val (.int z), .val (.ref b43), .val (.int (i + (1 : Int32)))]) rfl (XS.goto X46.here hx rfl (pc0 := 29) (pc' := 8) rfl (hb hby d17_29) (by decide) (by decide) kk_)))) ?_
      exact ih _ _ _ X46 N46 rfl O46 KC46 _ _ (mm + 1) (Vc.keep K46 (ninS (own_neTy Vc Vb (by decide)) nin0)) Vp46 (own_suc hi (by omega)) (by omega) (hp.step hcc)
  exact J44 cs.length _ _ _ X43 N43 rfl O43 KC43 _ _ 0 (V.keep K43 nin0) Vb43 rfl (Nat.zero_add _) (OwnPU.start cs _)
theorem ef_C30 (m : MethodId) (x0 : Addr) (x1 : Int32) (x2 : Int32) : entryFrame m #[(.ref x0), (.int x1), (.int x2)] 6 = mkF m 0 #[.val (.ref x0), .val (.int x1), .val (.int x2), .unset, .unset, .unset] [] := by first | (simp [entryFrame, mkF, argsToLocals, Value.category]; done) | rfl
def QC30 (Z : State) (ca : Addr) (kc : ClassId) (z : Int32) (cs : List Int32) (i_COMPACT_STRINGS : Int32) (v_SIOOBE_FORMATTER : Value) (h0 : Heap) (n0 : Nat) (v : Option Value) (h : Heap) (L : List Loc) : Prop := ∃ (ba : Addr) (kb : ClassId), v = some (.ref ba) ∧ Fr n0 L ∧ Keep h0 h [] ∧ n0 ≤ ba ∧ h0.size ≤ ba ∧ Arv Z h ba kb .byte z (OwnL cs) (.int (0 : Int32))
set_option maxRecDepth 65536 in
set_option maxHeartbeats 40000000 in
theorem rmC30 (l : Launch) (Z : State) (a0 : Array Value) (hw : ∀ d ∈ tables_1, d.before a0 Z = true) (ws : List Jvm.Cond) (ca : Addr) (kc : ClassId) (z : Int32) (cs : List Int32) (i_COMPACT_STRINGS : Int32) (v_SIOOBE_FORMATTER : Value) (h0 : Heap) (n0 : Nat) (O0 : Old Z n0 h0) (V : Arv Z h0 ca kc .char z (cs.map Value.int) (.int (0 : Int32))) (hz : z.toInt = (cs.length : Int)) (hmax : cs.length ≤ 10) (hch : OwnChs cs) (hlat : OwnLat cs) (hS : OwnS Z i_COMPACT_STRINGS v_SIOOBE_FORMATTER) :
    MetFree l (⟨"java/lang/StringUTF16", "compress", "([CII)[B"⟩ : MethodName) (head1 (Jvm.Cond.code (⟨"java/lang/StringUTF16", "compress", "([CII)[B"⟩ : MethodName) jdk_52_method_16_code 6 (some (.array .byte)) :: ws) ({ frames := 1, cells := 1, slots := 10, locals := 18 } : Room)) (fun aa_ UU_ => aa_ = #[(.ref ca), (.int (0 : Int32)), (.int z)] ∧ Z.Warmed39 UU_.vm ∧ UU_.heap = h0) (fun _ _ _ _ _ => True) (fun _ UU_ oo_ UV_ => ∃ vv_ LL_, oo_ = .returned vv_ ∧ QC30 Z ca kc z cs i_COMPACT_STRINGS v_SIOOBE_FORMATTER h0 n0 vv_ UV_.heap LL_ ∧ FrameEnd UU_ oo_ UV_ LL_ ({ frames := 1, cells := 1, slots := 10, locals := 18 } : Room).cells ({ frames := 1, cells := 1, slots := 10, locals := 18 } : Room).slots) := by
  refine MetFree.of_bodySF (plainFor_of_name pn_2) hisR ?_
  intro p e s m args below meth c s₁ Bd hml0 hP hK
  obtain ⟨rfl, hZ, hh⟩ := hP
  have hx := Bd.exec
  have hby := Bd.bytes
  have hlk := BodyLoose.notSynchronized Bd
  have hml : c.maxLocals = 6 := hml0
  have hown : s.vm.findClass "java/lang/StringUTF16" = some m.cls := findClass_of_methodNamed Bd.named
  have hnm := (name_of_methodNamed Bd.named Bd.method).1
  have X0 : Stand p l e ({ frames := 1, cells := 1, slots := 10, locals := 18 } : Room) s m #[(.ref ca), (.int (0 : Int32)), (.int z)] below meth c s₁ [] 0 0 := Stand.of_body Bd
  have e0 : s₁.heap = h0 := by rw [← hh, Bd.state]; rfl
  have N0 := Fr.nil n0
  have KC0 : Keep h0 h0 [] := Keep.refl _ _
  suffices hOW : OW p e below s (QC30 Z ca kc z cs i_COMPACT_STRINGS v_SIOOBE_FORMATTER h0 n0) 1 10 (s₁.setTop (mkF m 0 #[.val (.ref ca), .val (.int (0 : Int32)), .val (.int z), .unset, .unset, .unset] [])) by
    obtain ⟨oq1_, oq2_, oq3_, oq4_⟩ := hOW
    exact ⟨oq1_, oq2_, castTop (ef_C30 m ca (0 : Int32) z) oq3_, oq4_⟩
  have hS' := hS
  obtain ⟨Si_COMPACT_STRINGS, Sv_SIOOBE_FORMATTER, Rv_SIOOBE_FORMATTER, S__assertionsDisabled, S_HI_BYTE_SHIFT, S_LO_BYTE_SHIFT, Pi_COMPACT_STRINGS⟩ := hS'
  refine OW.st (B := s₁.setTop (mkF m 1 #[.val (.ref ca), .val (.int (0 : Int32)), .val (.int z), .unset, .unset, .unset] [(.int z)])) (fun _ kk_ => XS.iloadN X0.here hx rfl (hb hby d9_0) rfl kk_) ?_
  obtain ⟨T47, h47, k47, X47, e47, E47, A47, st47⟩ := newP (aty := .byte) X0 hx hZ (w_24 hw) e0 (g := (mkF m 1 #[.val (.ref ca), .val (.int (0 : Int32)), .val (.int z), .unset, .unset, .unset] [(.int z)])) rfl (hb hby d9_1) rfl (own_nneg hz) (cap := 10) (by rw [own_tn hz]; exact hmax) (by decide) (by decide) (by decide)
  obtain ⟨b47, g47⟩ : ∃ z, z = h0.size := ⟨_, rfl⟩
  rw [← g47] at A47 st47
  have n_b47 : n0 ≤ b47 := Nat.le_trans (own_oldle O0) (Nat.le_of_eq g47.symm)
  have O47 : Old Z n0 h47 := O0.ext E47
  have sz_b47 : h0.size ≤ b47 := Nat.le_trans KC0.1 (Nat.le_of_eq g47.symm)
  have KC47 : Keep h0 h47 [] := KC0.ext E47
  have V47 : Arv Z h47 b47 k47 .byte z (List.replicate cs.length (.int (0 : Int32))) (.int (0 : Int32)) := (Arv.new A47 (own_nneg hz)).pad (pad_rep [] (.int (0 : Int32)) cs.length)
  refine OW.st (B := T47.setTop (mkF m 9 #[.val (.ref ca), .val (.int (0 : Int32)), .val (.int z), .val (.ref b47), .unset, .unset] [(.int z), (.int (0 : Int32)), (.ref b47), (.int (0 : Int32)), (.ref ca)])) (fun _ kk_ => st47 _ (XS.astoreN X47.here hx rfl (hb hby d9_3) rfl rfl (l' := #[.val (.ref ca), .val (.int (0 : Int32)), .val (.int z), .val (.ref b47), .unset, .unset]) rfl (XS.aloadN X47.here hx rfl (hb hby d9_4) rfl rfl (XS.iloadN X47.here hx rfl (hb hby d9_5) rfl (XS.aloadN X47.here hx rfl (hb hby d9_6) rfl rfl (XS.iconst X47.here hx rfl (hb hby d9_7) (XS.iloadN X47.here hx rfl (hb hby d9_8) rfl kk_))))))) ?_
  obtain ⟨_, _, ⟨T48, L48, k48, n48⟩, -, X48, ⟨Lc48, hQ48, l48, y48, z48⟩, st48⟩ := Jvm.LawKit.callS X47 hx (y := (⟨"java/lang/StringUTF16", "compress", "([CI[BII)I"⟩ : MethodName)) hown (mvT hZ (w_52 hw)) (mvT hZ (w_53 hw)) (mvT hZ (w_50 hw)) (mvT hZ (w_54 hw)) (by decide) (backOf (W := 0) (rmC50 l Z a0 hw [] ca kc b47 k47 z cs h47 n0 O47 (V.ext E47) hz hmax V47 n_b47 (Nat.ne_of_lt (Nat.lt_of_lt_of_le V.lt (Nat.le_of_eq g47.symm))) hlat) hZ (w_54 hw) (w_50 hw) (by decide) (by decide)) (g := (mkF m 9 #[.val (.ref ca), .val (.int (0 : Int32)), .val (.int z), .val (.ref b47), .unset, .unset] [(.int z), (.int (0 : Int32)), (.ref b47), (.int (0 : Int32)), (.ref ca)])) rfl (by rw [hml]; rfl) (argsL := [(.ref ca), (.int (0 : Int32)), (.ref b47), (.int (0 : Int32)), (.int z)]) (rest := []) (lenOf pd_5 rfl) rfl (by show 2 * 0 + _ ≤ _; exact Nat.le_of_eq rfl) (hb hby d9_9) (fun _ _ => ⟨rfl, e47, (by decide : 1 + 0 ≤ _), (by decide : 10 + 0 ≤ _)⟩)
  dsimp only [Pt.U, Pt.locs, Pt.cells, Pt.slots] at X48 l48 y48 z48 st48 hQ48
  subst l48 y48 z48
  obtain ⟨rfl, Nq48, K48, Vb48⟩ := hQ48
  have N48 := Fr.app N0 Nq48
  have O48 : Old Z n0 T48.heap := O47.keep K48 (allS n_b47 all0)
  have KC48 : Keep h0 T48.heap [] := KC47.trans K48 (allS (Or.inr sz_b47) all0)
  refine OW.st (B := T48.setTop (mkF m 58 #[.val (.ref ca), .val (.int (0 : Int32)), .val (.int z), .val (.ref b47), .val (.int z), .unset] [(.ref b47)])) (fun _ kk_ => st48 _ (XS.istore X48.here hx rfl (hb hby d9_12) rfl (l' := #[.val (.ref ca), .val (.int (0 : Int32)), .val (.int z), .val (.ref b47), .val (.int z), .unset]) rfl (XS.iload X48.here hx rfl (hb hby d9_14) rfl (XS.iloadN X48.here hx rfl (hb hby d9_16) rfl (XS.icmpYes X48.here hx rfl (pc0 := 17) (pc' := 57) rfl (hb hby d9_17) rfl (teq rfl).1 (by decide) (by decide) (XS.aloadN X48.here hx rfl (hb hby d9_57) rfl rfl kk_)))))) ?_
  exact OW.ret X48 hx hlk (i := .areturn) Bd.returns rfl (Or.inr (Or.inr (Or.inr (Or.inr ⟨rfl, rfl, rfl⟩)))) (hb hby d9_58) rfl (by decide) (by decide) ⟨b47, k47, rfl, N48, KC48, n_b47, sz_b47, Vb48⟩
theorem ef_CL0 (m : MethodId) (x0 : Addr) (x1 : Int32) : entryFrame m #[(.ref x0), (.int x1)] 2 = mkF m 0 #[.val (.ref x0), .val (.int x1)] [] := by first | (simp [entryFrame, mkF, argsToLocals, Value.category]; done) | rfl
def QCL0 (Z : State) (ba : Addr) (kb : ClassId) (z : Int32) (cs : List Int32) (h0 : Heap) (n0 : Nat) (v : Option Value) (h : Heap) (L : List Loc) : Prop := v = some (.int (0 : Int32)) ∧ Fr n0 L ∧ h = h0
set_option maxRecDepth 65536 in
set_option maxHeartbeats 40000000 in
theorem rmCL0 (l : Launch) (Z : State) (a0 : Array Value) (hw : ∀ d ∈ tables_1, d.before a0 Z = true) (ws : List Jvm.Cond) (ba : Addr) (kb : ClassId) (z : Int32) (cs : List Int32) (h0 : Heap) (n0 : Nat) (O0 : Old Z n0 h0) (B : Arv Z h0 ba kb .byte z (OwnL cs) (.int (0 : Int32))) (hz : z.toInt = (cs.length : Int)) (hmax : cs.length ≤ 10) (hpos : 0 < cs.length) :
    MetFree l (⟨"java/lang/StringUTF16", "coderFromArrayLen", "([BI)B"⟩ : MethodName) (head1 (Jvm.Cond.code (⟨"java/lang/StringUTF16", "coderFromArrayLen", "([BI)B"⟩ : MethodName) jdk_52_method_15_code 2 (some .byte) :: ws) ({ frames := 0, cells := 0, slots := 0, locals := 0 } : Room)) (fun aa_ UU_ => aa_ = #[(.ref ba), (.int z)] ∧ Z.Warmed39 UU_.vm ∧ UU_.heap = h0) (fun _ _ _ _ _ => True) (fun _ UU_ oo_ UV_ => ∃ vv_ LL_, oo_ = .returned vv_ ∧ QCL0 Z ba kb z cs h0 n0 vv_ UV_.heap LL_ ∧ FrameEnd UU_ oo_ UV_ LL_ ({ frames := 0, cells := 0, slots := 0, locals := 0 } : Room).cells ({ frames := 0, cells := 0, slots := 0, locals := 0 } : Room).slots) := by
  refine MetFree.of_bodySF (plainFor_of_name pn_2) hisR ?_
  intro p e s m args below meth c s₁ Bd hml0 hP hK
  obtain ⟨rfl, hZ, hh⟩ := hP
  have hx := Bd.exec
  have hby := Bd.bytes
  have hlk := BodyLoose.notSynchronized Bd
  have hml : c.maxLocals = 2 := hml0
  have hown : s.vm.findClass "java/lang/StringUTF16" = some m.cls := findClass_of_methodNamed Bd.named
  have hnm := (name_of_methodNamed Bd.named Bd.method).1
  have X0 : Stand p l e ({ frames := 0, cells := 0, slots := 0, locals := 0 } : Room) s m #[(.ref ba), (.int z)] below meth c s₁ [] 0 0 := Stand.of_body Bd
  have e0 : s₁.heap = h0 := by rw [← hh, Bd.state]; rfl
  have N0 := Fr.nil n0
  suffices hOW : OW p e below s (QCL0 Z ba kb z cs h0 n0) 0 0 (s₁.setTop (mkF m 0 #[.val (.ref ba), .val (.int z)] [])) by
    obtain ⟨oq1_, oq2_, oq3_, oq4_⟩ := hOW
    exact ⟨oq1_, oq2_, castTop (ef_CL0 m ba z) oq3_, oq4_⟩
  refine OW.st (B := s₁.setTop (mkF m 2 #[.val (.ref ba), .val (.int z)] [(.ref ba), (.int z)])) (fun _ kk_ => XS.iloadN X0.here hx rfl (hb hby d11_0) rfl (XS.aloadN X0.here hx rfl (hb hby d11_1) rfl rfl kk_)) ?_
  obtain ⟨cl49, Ar49, q49, S49, Ng49, Hs49, G49⟩ := id B
  refine OW.st (X0.arraylength hx (by rw [e0]; exact Ar49.1) (State.isArrayOf_alike hZ.alike Ar49.2.1) (g := (mkF m 2 #[.val (.ref ba), .val (.int z)] [(.ref ba), (.int z)])) rfl rfl (hb hby d11_2)) ?_
  rw [len_of S49 Ng49]
  show OW p e below s (QCL0 Z ba kb z cs h0 n0) 0 0 (s₁.setTop (mkF m 3 #[.val (.ref ba), .val (.int z)] [(.int z), (.int z)]))
  refine OW.st (B := s₁.setTop (mkF m 8 #[.val (.ref ba), .val (.int z)] [(.int ((((z - z).toUInt32 >>> ((31 : Int32) &&& 31).toUInt32).toInt32).toInt8.toInt32))])) (fun _ kk_ => XS.isub X0.here hx rfl (hb hby d11_3) rfl (XS.bipush X0.here hx rfl (hb hby d11_4) (XS.iushr X0.here hx rfl (hb hby d11_6) rfl (XS.i2b X0.here hx rfl (hb hby d11_7) rfl kk_)))) ?_
  exact OW.ret X0 hx hlk (i := .ireturn) Bd.returns (by rw [own_clL z]; rfl) (Or.inl ⟨rfl, Or.inr (Or.inr (Or.inl rfl)), _, rfl⟩) (hb hby d11_8) e0 (by decide) (by decide) ⟨congrArg (fun z => some (Value.int z)) (own_clL z), N0, rfl⟩
theorem ef_S10 (m : MethodId) (x0 : Addr) (x1 : Addr) (x2 : Int32) (x3 : Int32) : entryFrame m #[(.ref x0), (.ref x1), (.int x2), (.int x3), .null] 6 = mkF m 0 #[.val (.ref x0), .val (.ref x1), .val (.int x2), .val (.int x3), .val .null, .unset] [] := by first | (simp [entryFrame, mkF, argsToLocals, Value.category]; done) | rfl
def QS10 (Z : State) (b : Addr) (ca : Addr) (kc : ClassId) (z : Int32) (cs : List Int32) (i_COMPACT_STRINGS : Int32) (v_SIOOBE_FORMATTER : Value) (h0 : Heap) (n0 : Nat) (v : Option Value) (h : Heap) (L : List Loc) : Prop := v = none ∧ Fr n0 L ∧ Keep h0 h [b] ∧ Exa Z h b "java/lang/String" ∧ ∃ (ba : Addr) (kb : ClassId), n0 ≤ ba ∧ b ≠ ba ∧ Fld Z h b "java/lang/String" "coder" "B" (.int (0 : Int32)) ∧ Fld Z h b "java/lang/String" "value" "[B" (.ref ba) ∧ Arv Z h ba kb .byte z (OwnL cs) (.int (0 : Int32))
set_option maxRecDepth 65536 in
set_option maxHeartbeats 40000000 in
theorem rmS10 (l : Launch) (Z : State) (a0 : Array Value) (hw : ∀ d ∈ tables_1, d.before a0 Z = true) (ws : List Jvm.Cond) (b : Addr) (ca : Addr) (kc : ClassId) (z : Int32) (cs : List Int32) (i_COMPACT_STRINGS : Int32) (v_SIOOBE_FORMATTER : Value) (h0 : Heap) (n0 : Nat) (O0 : Old Z n0 h0) (E : Exa Z h0 b "java/lang/String") (F1 : Fld Z h0 b "java/lang/String" "value" "[B" .null) (F2 : Fld Z h0 b "java/lang/String" "coder" "B" (.int (0 : Int32))) (g : n0 ≤ b) (V : Arv Z h0 ca kc .char z (cs.map Value.int) (.int (0 : Int32))) (hz : z.toInt = (cs.length : Int)) (hmax : cs.length ≤ 10) (hpos : 0 < cs.length) (hch : OwnChs cs) (hlat : OwnLat cs) (hS : OwnS Z i_COMPACT_STRINGS v_SIOOBE_FORMATTER) :
    MetFree l (⟨"java/lang/String", "<init>", "([CIILjava/lang/Void;)V"⟩ : MethodName) (head1 (Jvm.Cond.code (⟨"java/lang/String", "<init>", "([CIILjava/lang/Void;)V"⟩ : MethodName) jdk_42_method_149_code 6 none :: ws) ({ frames := 2, cells := 1, slots := 10, locals := 35 } : Room)) (fun aa_ UU_ => aa_ = #[(.ref b), (.ref ca), (.int (0 : Int32)), (.int z), .null] ∧ Z.Warmed39 UU_.vm ∧ UU_.heap = h0) (fun _ _ _ _ _ => True) (fun _ UU_ oo_ UV_ => ∃ vv_ LL_, oo_ = .returned vv_ ∧ QS10 Z b ca kc z cs i_COMPACT_STRINGS v_SIOOBE_FORMATTER h0 n0 vv_ UV_.heap LL_ ∧ FrameEnd UU_ oo_ UV_ LL_ ({ frames := 2, cells := 1, slots := 10, locals := 35 } : Room).cells ({ frames := 2, cells := 1, slots := 10, locals := 35 } : Room).slots) := by
  refine MetFree.of_bodySF (plainFor_of_name pn_0) hisR ?_
  intro p e s m args below meth c s₁ Bd hml0 hP hK
  obtain ⟨rfl, hZ, hh⟩ := hP
  have hx := Bd.exec
  have hby := Bd.bytes
  have hlk := BodyLoose.notSynchronized Bd
  have hml : c.maxLocals = 6 := hml0
  have hown : s.vm.findClass "java/lang/String" = some m.cls := findClass_of_methodNamed Bd.named
  have hnm := (name_of_methodNamed Bd.named Bd.method).1
  have X0 : Stand p l e ({ frames := 2, cells := 1, slots := 10, locals := 35 } : Room) s m #[(.ref b), (.ref ca), (.int (0 : Int32)), (.int z), .null] below meth c s₁ [] 0 0 := Stand.of_body Bd
  have e0 : s₁.heap = h0 := by rw [← hh, Bd.state]; rfl
  have N0 := Fr.nil n0
  have KC0 : Keep h0 h0 [b] := Keep.refl _ _
  suffices hOW : OW p e below s (QS10 Z b ca kc z cs i_COMPACT_STRINGS v_SIOOBE_FORMATTER h0 n0) 1 10 (s₁.setTop (mkF m 0 #[.val (.ref b), .val (.ref ca), .val (.int (0 : Int32)), .val (.int z), .val .null, .unset] [])) by
    obtain ⟨oq1_, oq2_, oq3_, oq4_⟩ := hOW
    exact ⟨oq1_, oq2_, castTop (ef_S10 m b ca (0 : Int32) z) oq3_, oq4_⟩
  have hS' := hS
  obtain ⟨Si_COMPACT_STRINGS, Sv_SIOOBE_FORMATTER, Rv_SIOOBE_FORMATTER, S__assertionsDisabled, S_HI_BYTE_SHIFT, S_LO_BYTE_SHIFT, Pi_COMPACT_STRINGS⟩ := hS'
  refine OW.st (B := s₁.setTop (mkF m 1 #[.val (.ref b), .val (.ref ca), .val (.int (0 : Int32)), .val (.int z), .val .null, .unset] [(.ref b)])) (fun _ kk_ => XS.aloadN X0.here hx rfl (hb hby d4_0) rfl rfl kk_) ?_
  obtain ⟨T50, X50, e50, st50⟩ := initO X0 hx hZ hown (w_20 hw) (w_21 hw) (w_22 hw) e0 (g := (mkF m 1 #[.val (.ref b), .val (.ref ca), .val (.int (0 : Int32)), .val (.int z), .val .null, .unset] [(.ref b)])) rfl (by rw [hml]; rfl) rfl (hb hby d4_1) (by decide) (W := 0) (by show 2 * 0 + _ ≤ _; exact Nat.le_of_eq rfl) (by decide)
  refine OW.st (B := T50.setTop (mkF m 27 #[.val (.ref b), .val (.ref ca), .val (.int (0 : Int32)), .val (.int z), .val .null, .unset] [])) (fun _ kk_ => st50 _ (XS.iloadN X50.here hx rfl (hb hby d4_4) rfl (XS.ifYes X50.here hx rfl (pc0 := 5) (pc' := 27) rfl (hb hby d4_5) rfl ((if0 _ _).trans (feq (own_n0 hz hpos)).2) (by decide) (by decide) kk_))) ?_
  obtain ⟨T51, X51, e51, st51⟩ := getS2 X50 hx hZ hown (host := "") (Or.inl (w_45 hw)) Via.refl e50 (Si_COMPACT_STRINGS.ext O0.2) (g := (mkF m 27 #[.val (.ref b), .val (.ref ca), .val (.int (0 : Int32)), .val (.int z), .val .null, .unset] [])) rfl (hb hby d4_27)
  refine OW.st (B := T51.setTop (mkF m 36 #[.val (.ref b), .val (.ref ca), .val (.int (0 : Int32)), .val (.int z), .val .null, .unset] [(.int z), (.int (0 : Int32)), (.ref ca)])) (fun _ kk_ => st51 _ (XS.ifNo X51.here hx rfl (hb hby d4_30) rfl ((if0 _ _).trans (feq Pi_COMPACT_STRINGS).1) (XS.aloadN X51.here hx rfl (hb hby d4_33) rfl rfl (XS.iloadN X51.here hx rfl (hb hby d4_34) rfl (XS.iloadN X51.here hx rfl (hb hby d4_35) rfl kk_))))) ?_
  obtain ⟨_, _, ⟨T52, L52, k52, n52⟩, -, X52, ⟨Lc52, hQ52, l52, y52, z52⟩, st52⟩ := Jvm.LawKit.callS X51 hx (y := (⟨"java/lang/StringUTF16", "compress", "([CII)[B"⟩ : MethodName)) hown (mvT hZ (w_48 hw)) (mvT hZ (w_49 hw)) (mvT hZ (w_50 hw)) (mvT hZ (w_51 hw)) (by decide) (backOf (W := 0) (rmC30 l Z a0 hw [] ca kc z cs i_COMPACT_STRINGS v_SIOOBE_FORMATTER h0 n0 O0 V hz hmax hch hlat hS) hZ (w_51 hw) (w_50 hw) (by decide) (by decide)) (g := (mkF m 36 #[.val (.ref b), .val (.ref ca), .val (.int (0 : Int32)), .val (.int z), .val .null, .unset] [(.int z), (.int (0 : Int32)), (.ref ca)])) rfl (by rw [hml]; rfl) (argsL := [(.ref ca), (.int (0 : Int32)), (.int z)]) (rest := []) (lenOf pd_6 rfl) rfl (by show 2 * 0 + _ ≤ _; exact Nat.le_of_eq rfl) (hb hby d4_36) (fun _ _ => ⟨rfl, e51, (by decide : 0 + 1 ≤ _), (by decide : 0 + 10 ≤ _)⟩)
  dsimp only [Pt.U, Pt.locs, Pt.cells, Pt.slots] at X52 l52 y52 z52 st52 hQ52
  subst l52 y52 z52
  obtain ⟨b52, kb52, rfl, Nq52, K52, gb52, zb52, Vb52⟩ := hQ52
  have N52 := Fr.app N0 Nq52
  have O52 : Old Z n0 T52.heap := O0.keep K52 all0
  have KC52 : Keep h0 T52.heap [b] := KC0.trans K52 all0
  have sz_b52 : h0.size ≤ b52 := Nat.le_trans KC0.1 zb52
  refine OW.st (B := T52.setTop (mkF m 45 #[.val (.ref b), .val (.ref ca), .val (.int (0 : Int32)), .val (.int z), .val .null, .val (.ref b52)] [(.int z), (.ref b52), (.ref b)])) (fun _ kk_ => st52 _ (XS.astore X52.here hx rfl (hb hby d4_39) rfl rfl (l' := #[.val (.ref b), .val (.ref ca), .val (.int (0 : Int32)), .val (.int z), .val .null, .val (.ref b52)]) rfl (XS.aloadN X52.here hx rfl (hb hby d4_41) rfl rfl (XS.aload X52.here hx rfl (hb hby d4_42) rfl rfl (XS.iloadN X52.here hx rfl (hb hby d4_44) rfl kk_))))) ?_
  obtain ⟨_, _, ⟨T53, L53, k53, n53⟩, -, X53, ⟨Lc53, hQ53, l53, y53, z53⟩, st53⟩ := Jvm.LawKit.callS X52 hx (y := (⟨"java/lang/StringUTF16", "coderFromArrayLen", "([BI)B"⟩ : MethodName)) hown (mvT hZ (w_55 hw)) (mvT hZ (w_56 hw)) (mvT hZ (w_50 hw)) (mvT hZ (w_57 hw)) (by decide) (backOf (W := 1) (rmCL0 l Z a0 hw [] b52 kb52 z cs T52.heap n0 O52 Vb52 hz hmax hpos) hZ (w_57 hw) (w_50 hw) (by decide) (by decide)) (g := (mkF m 45 #[.val (.ref b), .val (.ref ca), .val (.int (0 : Int32)), .val (.int z), .val .null, .val (.ref b52)] [(.int z), (.ref b52), (.ref b)])) rfl (by rw [hml]; rfl) (argsL := [(.ref b52), (.int z)]) (rest := [(.ref b)]) (lenOf pd_7 rfl) rfl (by show 2 * 0 + _ ≤ _; exact Nat.le_of_eq rfl) (hb hby d4_45) (fun _ _ => ⟨rfl, rfl, (by decide : 1 + 0 ≤ _), (by decide : 10 + 0 ≤ _)⟩)
  dsimp only [Pt.U, Pt.locs, Pt.cells, Pt.slots] at X53 l53 y53 z53 st53 hQ53
  subst l53 y53 z53
  obtain ⟨rfl, Nq53, e53⟩ := hQ53
  have N53 := Fr.app N52 Nq53
  refine OW.st (B := T53.setTop (mkF m 48 #[.val (.ref b), .val (.ref ca), .val (.int (0 : Int32)), .val (.int z), .val .null, .val (.ref b52)] [(.int (0 : Int32)), (.ref b)])) (fun _ kk_ => st53 _ kk_) ?_
  obtain ⟨T54, h54, X54, e54, W54, st54⟩ := putFN X53 hx hZ hown (w_30 hw) Via.refl e53 (F2.keep K52 nin0) (E.keep K52) (Or.inr ⟨(w_26 hw), rfl, hnm⟩) (w_7 hw) (ty := .byte) (v' := (.int (0 : Int32))) (by decide) rfl rfl (g := (mkF m 48 #[.val (.ref b), .val (.ref ca), .val (.int (0 : Int32)), .val (.int z), .val .null, .val (.ref b52)] [(.int (0 : Int32)), (.ref b)])) rfl rfl (hb hby d4_48)
  have N54 := Fr.snoc X54 N53 g
  have O54 : Old Z n0 h54 := O52.wr W54 g
  have KC54 : Keep h0 h54 [b] := KC52.wr W54 (Or.inl (List.mem_of_getElem? (i := 0) rfl))
  have F54 : Fld Z h54 b "java/lang/String" "coder" "B" (.int (0 : Int32)) := Fld.same W54 (F2.keep K52 nin0)
  refine OW.st (B := T54.setTop (mkF m 54 #[.val (.ref b), .val (.ref ca), .val (.int (0 : Int32)), .val (.int z), .val .null, .val (.ref b52)] [(.ref b52), (.ref b)])) (fun _ kk_ => st54 _ (XS.aloadN X54.here hx rfl (hb hby d4_51) rfl rfl (XS.aload X54.here hx rfl (hb hby d4_52) rfl rfl kk_))) ?_
  obtain ⟨T55, h55, X55, e55, W55, st55⟩ := putF X54 hx hZ hown (host := "") (Or.inl (w_29 hw)) Via.refl e54 ((F1.keep K52 nin0).other W54 (Or.inr (slot_ne (Or.inr (w_25 hw)) (Or.inr (w_26 hw)) (by decide) (t := (.array .byte)) (t' := .byte) (by decide) (by decide)))) ((E.keep K52).wr W54) (Or.inr ⟨(w_25 hw), rfl, hnm⟩) (w_7 hw) (ty := (.array .byte)) (by decide) rfl rfl (g := (mkF m 54 #[.val (.ref b), .val (.ref ca), .val (.int (0 : Int32)), .val (.int z), .val .null, .val (.ref b52)] [(.ref b52), (.ref b)])) rfl rfl (hb hby d4_54)
  have N55 := Fr.snoc X55 N54 g
  have O55 : Old Z n0 h55 := O54.wr W55 g
  have KC55 : Keep h0 h55 [b] := KC54.wr W55 (Or.inl (List.mem_of_getElem? (i := 0) rfl))
  have F55 : Fld Z h55 b "java/lang/String" "value" "[B" (.ref b52) := Fld.same W55 ((F1.keep K52 nin0).other W54 (Or.inr (slot_ne (Or.inr (w_25 hw)) (Or.inr (w_26 hw)) (by decide) (t := (.array .byte)) (t' := .byte) (by decide) (by decide))))
  refine OW.st (B := T55.setTop (mkF m 57 #[.val (.ref b), .val (.ref ca), .val (.int (0 : Int32)), .val (.int z), .val .null, .val (.ref b52)] [])) (fun _ kk_ => st55 _ kk_) ?_
  exact OW.retV X55 hx hlk Bd.returns (hb hby d4_57) e55 (by decide) (by decide) ⟨rfl, N55, KC55, (((E.keep K52).wr W54).wr W55), b52, kb52, gb52, (Nat.ne_of_lt (Nat.lt_of_lt_of_le E.lt zb52)), (F54.other W55 (Or.inr (slot_ne (Or.inr (w_26 hw)) (Or.inr (w_25 hw)) (by decide) (t := .byte) (t' := (.array .byte)) (by decide) (by decide)))), F55, ((Vb52.other W54 (Ne.symm (Nat.ne_of_lt (Nat.lt_of_lt_of_le E.lt zb52)))).other W55 (Ne.symm (Nat.ne_of_lt (Nat.lt_of_lt_of_le E.lt zb52))))⟩
theorem ef_S00 (m : MethodId) (x0 : Addr) (x1 : Addr) : entryFrame m #[(.ref x0), (.ref x1)] 2 = mkF m 0 #[.val (.ref x0), .val (.ref x1)] [] := by first | (simp [entryFrame, mkF, argsToLocals, Value.category]; done) | rfl
def QS00 (Z : State) (b : Addr) (ca : Addr) (kc : ClassId) (z : Int32) (cs : List Int32) (i_COMPACT_STRINGS : Int32) (v_SIOOBE_FORMATTER : Value) (h0 : Heap) (n0 : Nat) (v : Option Value) (h : Heap) (L : List Loc) : Prop := v = none ∧ Fr n0 L ∧ Keep h0 h [b] ∧ Exa Z h b "java/lang/String" ∧ ∃ (ba : Addr) (kb : ClassId), n0 ≤ ba ∧ b ≠ ba ∧ Fld Z h b "java/lang/String" "coder" "B" (.int (0 : Int32)) ∧ Fld Z h b "java/lang/String" "value" "[B" (.ref ba) ∧ Arv Z h ba kb .byte z (OwnL cs) (.int (0 : Int32))
set_option maxRecDepth 65536 in
set_option maxHeartbeats 40000000 in
theorem rmS00 (l : Launch) (Z : State) (a0 : Array Value) (hw : ∀ d ∈ tables_1, d.before a0 Z = true) (ws : List Jvm.Cond) (b : Addr) (ca : Addr) (kc : ClassId) (z : Int32) (cs : List Int32) (i_COMPACT_STRINGS : Int32) (v_SIOOBE_FORMATTER : Value) (h0 : Heap) (n0 : Nat) (O0 : Old Z n0 h0) (E : Exa Z h0 b "java/lang/String") (F1 : Fld Z h0 b "java/lang/String" "value" "[B" .null) (F2 : Fld Z h0 b "java/lang/String" "coder" "B" (.int (0 : Int32))) (g : n0 ≤ b) (V : Arv Z h0 ca kc .char z (cs.map Value.int) (.int (0 : Int32))) (hz : z.toInt = (cs.length : Int)) (hmax : cs.length ≤ 10) (hpos : 0 < cs.length) (hch : OwnChs cs) (hlat : OwnLat cs) (hS : OwnS Z i_COMPACT_STRINGS v_SIOOBE_FORMATTER) :
    MetFree l (⟨"java/lang/String", "<init>", "([C)V"⟩ : MethodName) (head1 (Jvm.Cond.code (⟨"java/lang/String", "<init>", "([C)V"⟩ : MethodName) jdk_42_method_3_code 2 none :: ws) ({ frames := 3, cells := 1, slots := 10, locals := 52 } : Room)) (fun aa_ UU_ => aa_ = #[(.ref b), (.ref ca)] ∧ Z.Warmed39 UU_.vm ∧ UU_.heap = h0) (fun _ _ _ _ _ => True) (fun _ UU_ oo_ UV_ => ∃ vv_ LL_, oo_ = .returned vv_ ∧ QS00 Z b ca kc z cs i_COMPACT_STRINGS v_SIOOBE_FORMATTER h0 n0 vv_ UV_.heap LL_ ∧ FrameEnd UU_ oo_ UV_ LL_ ({ frames := 3, cells := 1, slots := 10, locals := 52 } : Room).cells ({ frames := 3, cells := 1, slots := 10, locals := 52 } : Room).slots) := by
  refine MetFree.of_bodySF (plainFor_of_name pn_0) hisR ?_
  intro p e s m args below meth c s₁ Bd hml0 hP hK
  obtain ⟨rfl, hZ, hh⟩ := hP
  have hx := Bd.exec
  have hby := Bd.bytes
  have hlk := BodyLoose.notSynchronized Bd
  have hml : c.maxLocals = 2 := hml0
  have hown : s.vm.findClass "java/lang/String" = some m.cls := findClass_of_methodNamed Bd.named
  have hnm := (name_of_methodNamed Bd.named Bd.method).1
  have X0 : Stand p l e ({ frames := 3, cells := 1, slots := 10, locals := 52 } : Room) s m #[(.ref b), (.ref ca)] below meth c s₁ [] 0 0 := Stand.of_body Bd
  have e0 : s₁.heap = h0 := by rw [← hh, Bd.state]; rfl
  have N0 := Fr.nil n0
  have KC0 : Keep h0 h0 [b] := Keep.refl _ _
  suffices hOW : OW p e below s (QS00 Z b ca kc z cs i_COMPACT_STRINGS v_SIOOBE_FORMATTER h0 n0) 1 10 (s₁.setTop (mkF m 0 #[.val (.ref b), .val (.ref ca)] [])) by
    obtain ⟨oq1_, oq2_, oq3_, oq4_⟩ := hOW
    exact ⟨oq1_, oq2_, castTop (ef_S00 m b ca) oq3_, oq4_⟩
  have hS' := hS
  obtain ⟨Si_COMPACT_STRINGS, Sv_SIOOBE_FORMATTER, Rv_SIOOBE_FORMATTER, S__assertionsDisabled, S_HI_BYTE_SHIFT, S_LO_BYTE_SHIFT, Pi_COMPACT_STRINGS⟩ := hS'
  refine OW.st (B := s₁.setTop (mkF m 4 #[.val (.ref b), .val (.ref ca)] [(.ref ca), (.int (0 : Int32)), (.ref ca), (.ref b)])) (fun _ kk_ => XS.aloadN X0.here hx rfl (hb hby d3_0) rfl rfl (XS.aloadN X0.here hx rfl (hb hby d3_1) rfl rfl (XS.iconst X0.here hx rfl (hb hby d3_2) (XS.aloadN X0.here hx rfl (hb hby d3_3) rfl rfl kk_)))) ?_
  obtain ⟨cl56, Ar56, q56, S56, Ng56, Hs56, G56⟩ := id V
  refine OW.st (X0.arraylength hx (by rw [e0]; exact Ar56.1) (State.isArrayOf_alike hZ.alike Ar56.2.1) (g := (mkF m 4 #[.val (.ref b), .val (.ref ca)] [(.ref ca), (.int (0 : Int32)), (.ref ca), (.ref b)])) rfl rfl (hb hby d3_4)) ?_
  rw [len_of S56 Ng56]
  show OW p e below s (QS00 Z b ca kc z cs i_COMPACT_STRINGS v_SIOOBE_FORMATTER h0 n0) 1 10 (s₁.setTop (mkF m 5 #[.val (.ref b), .val (.ref ca)] [(.int z), (.int (0 : Int32)), (.ref ca), (.ref b)]))
  refine OW.st (B := s₁.setTop (mkF m 6 #[.val (.ref b), .val (.ref ca)] [.null, (.int z), (.int (0 : Int32)), (.ref ca), (.ref b)])) (fun _ kk_ => XS.aconstNull X0.here hx rfl (hb hby d3_5) kk_) ?_
  obtain ⟨_, _, ⟨T57, L57, k57, n57⟩, -, X57, ⟨Lc57, hQ57, l57, y57, z57⟩, st57⟩ := X0.specialBack hx (y := (⟨"java/lang/String", "<init>", "([CIILjava/lang/Void;)V"⟩ : MethodName)) rfl hown (mvT hZ (w_16 hw)) (mvT hZ (w_17 hw)) (mvT hZ (w_19 hw)) (by decide) (backOf (W := 0) (rmS10 l Z a0 hw [] b ca kc z cs i_COMPACT_STRINGS v_SIOOBE_FORMATTER h0 n0 O0 E F1 F2 g V hz hmax hpos hch hlat hS) hZ (w_19 hw) (w_8 hw) (by decide) (by decide)) (g := (mkF m 6 #[.val (.ref b), .val (.ref ca)] [.null, (.int z), (.int (0 : Int32)), (.ref ca), (.ref b)])) rfl (by rw [hml]; rfl) (Steps.refl _) (a := b) (argsL := [(.ref ca), (.int (0 : Int32)), (.int z), .null]) (rest := []) (lenOf pd_1 rfl) rfl (by show 2 * 0 + _ ≤ _; exact Nat.le_of_eq rfl) (hb hby d3_6) (fun _ _ => ⟨rfl, e0, (by decide : 0 + 1 ≤ _), (by decide : 0 + 10 ≤ _)⟩)
  dsimp only [Pt.U, Pt.locs, Pt.cells, Pt.slots] at X57 l57 y57 z57 st57 hQ57
  subst l57 y57 z57
  obtain ⟨rfl, Nq57, K57, Es57, ba57, kb57, gba57, nba57, Fc57, Fv57, Vs57⟩ := hQ57
  have N57 := Fr.app N0 Nq57
  have O57 : Old Z n0 T57.heap := O0.keep K57 (allS g all0)
  have KC57 : Keep h0 T57.heap [b] := KC0.trans K57 (allS (Or.inl (List.mem_of_getElem? (i := 0) rfl)) all0)
  refine OW.tr (B := T57.setTop (mkF m 9 #[.val (.ref b), .val (.ref ca)] [])) (st57) ?_
  exact OW.retV X57 hx hlk Bd.returns (hb hby d3_9) rfl (by decide) (by decide) ⟨rfl, N57, KC57, (E.keep K57), ba57, kb57, gba57, nba57, Fc57, Fv57, Vs57⟩
theorem ef_C31 (m : MethodId) (x0 : Addr) (x1 : Int32) (x2 : Int32) : entryFrame m #[(.ref x0), (.int x1), (.int x2)] 6 = mkF m 0 #[.val (.ref x0), .val (.int x1), .val (.int x2), .unset, .unset, .unset] [] := by first | (simp [entryFrame, mkF, argsToLocals, Value.category]; done) | rfl
def QC31 (Z : State) (ca : Addr) (kc : ClassId) (z : Int32) (cs : List Int32) (i_COMPACT_STRINGS : Int32) (v_SIOOBE_FORMATTER : Value) (h0 : Heap) (n0 : Nat) (v : Option Value) (h : Heap) (L : List Loc) : Prop := ∃ (ba : Addr) (kb : ClassId), v = some (.ref ba) ∧ Fr n0 L ∧ Keep h0 h [] ∧ n0 ≤ ba ∧ h0.size ≤ ba ∧ Arv Z h ba kb .byte (z <<< ((1 : Int32) &&& 31)) (OwnU cs) (.int (0 : Int32))
set_option maxRecDepth 65536 in
set_option maxHeartbeats 40000000 in
theorem rmC31 (l : Launch) (Z : State) (a0 : Array Value) (hw : ∀ d ∈ tables_1, d.before a0 Z = true) (ws : List Jvm.Cond) (ca : Addr) (kc : ClassId) (z : Int32) (cs : List Int32) (i_COMPACT_STRINGS : Int32) (v_SIOOBE_FORMATTER : Value) (h0 : Heap) (n0 : Nat) (O0 : Old Z n0 h0) (V : Arv Z h0 ca kc .char z (cs.map Value.int) (.int (0 : Int32))) (hz : z.toInt = (cs.length : Int)) (hmax : cs.length ≤ 10) (hch : OwnChs cs) (hhi : OwnHi cs) (hS : OwnS Z i_COMPACT_STRINGS v_SIOOBE_FORMATTER) :
    MetFree l (⟨"java/lang/StringUTF16", "compress", "([CII)[B"⟩ : MethodName) (head1 (Jvm.Cond.code (⟨"java/lang/StringUTF16", "compress", "([CII)[B"⟩ : MethodName) jdk_52_method_16_code 6 (some (.array .byte)) :: ws) ({ frames := 3, cells := 2, slots := 30, locals := 40 } : Room)) (fun aa_ UU_ => aa_ = #[(.ref ca), (.int (0 : Int32)), (.int z)] ∧ Z.Warmed39 UU_.vm ∧ UU_.heap = h0) (fun _ _ _ _ _ => True) (fun _ UU_ oo_ UV_ => ∃ vv_ LL_, oo_ = .returned vv_ ∧ QC31 Z ca kc z cs i_COMPACT_STRINGS v_SIOOBE_FORMATTER h0 n0 vv_ UV_.heap LL_ ∧ FrameEnd UU_ oo_ UV_ LL_ ({ frames := 3, cells := 2, slots := 30, locals := 40 } : Room).cells ({ frames := 3, cells := 2, slots := 30, locals := 40 } : Room).slots) := by
  refine MetFree.of_bodySF (plainFor_of_name pn_2) hisR ?_
  intro p e s m args below meth c s₁ Bd hml0 hP hK
  obtain ⟨rfl, hZ, hh⟩ := hP
  have hx := Bd.exec
  have hby := Bd.bytes
  have hlk := BodyLoose.notSynchronized Bd
  have hml : c.maxLocals = 6 := hml0
  have hown : s.vm.findClass "java/lang/StringUTF16" = some m.cls := findClass_of_methodNamed Bd.named
  have hnm := (name_of_methodNamed Bd.named Bd.method).1
  have X0 : Stand p l e ({ frames := 3, cells := 2, slots := 30, locals := 40 } : Room) s m #[(.ref ca), (.int (0 : Int32)), (.int z)] below meth c s₁ [] 0 0 := Stand.of_body Bd
  have e0 : s₁.heap = h0 := by rw [← hh, Bd.state]; rfl
  have N0 := Fr.nil n0
  have KC0 : Keep h0 h0 [] := Keep.refl _ _
  suffices hOW : OW p e below s (QC31 Z ca kc z cs i_COMPACT_STRINGS v_SIOOBE_FORMATTER h0 n0) 2 30 (s₁.setTop (mkF m 0 #[.val (.ref ca), .val (.int (0 : Int32)), .val (.int z), .unset, .unset, .unset] [])) by
    obtain ⟨oq1_, oq2_, oq3_, oq4_⟩ := hOW
    exact ⟨oq1_, oq2_, castTop (ef_C31 m ca (0 : Int32) z) oq3_, oq4_⟩
  have hS' := hS
  obtain ⟨Si_COMPACT_STRINGS, Sv_SIOOBE_FORMATTER, Rv_SIOOBE_FORMATTER, S__assertionsDisabled, S_HI_BYTE_SHIFT, S_LO_BYTE_SHIFT, Pi_COMPACT_STRINGS⟩ := hS'
  have hz2 : (z <<< ((1 : Int32) &&& 31)).toInt = ((2 * cs.length : Nat) : Int) := own_dbl hz (by omega)
  refine OW.st (B := s₁.setTop (mkF m 1 #[.val (.ref ca), .val (.int (0 : Int32)), .val (.int z), .unset, .unset, .unset] [(.int z)])) (fun _ kk_ => XS.iloadN X0.here hx rfl (hb hby d9_0) rfl kk_) ?_
  obtain ⟨T58, h58, k58, X58, e58, E58, A58, st58⟩ := newP (aty := .byte) X0 hx hZ (w_24 hw) e0 (g := (mkF m 1 #[.val (.ref ca), .val (.int (0 : Int32)), .val (.int z), .unset, .unset, .unset] [(.int z)])) rfl (hb hby d9_1) rfl (own_nneg hz) (cap := 10) (by rw [own_tn hz]; exact hmax) (by decide) (by decide) (by decide)
  obtain ⟨b58, g58⟩ : ∃ z, z = h0.size := ⟨_, rfl⟩
  rw [← g58] at A58 st58
  have n_b58 : n0 ≤ b58 := Nat.le_trans (own_oldle O0) (Nat.le_of_eq g58.symm)
  have O58 : Old Z n0 h58 := O0.ext E58
  have sz_b58 : h0.size ≤ b58 := Nat.le_trans KC0.1 (Nat.le_of_eq g58.symm)
  have KC58 : Keep h0 h58 [] := KC0.ext E58
  have V58 : Arv Z h58 b58 k58 .byte z (List.replicate cs.length (.int (0 : Int32))) (.int (0 : Int32)) := (Arv.new A58 (own_nneg hz)).pad (pad_rep [] (.int (0 : Int32)) cs.length)
  refine OW.st (B := T58.setTop (mkF m 9 #[.val (.ref ca), .val (.int (0 : Int32)), .val (.int z), .val (.ref b58), .unset, .unset] [(.int z), (.int (0 : Int32)), (.ref b58), (.int (0 : Int32)), (.ref ca)])) (fun _ kk_ => st58 _ (XS.astoreN X58.here hx rfl (hb hby d9_3) rfl rfl (l' := #[.val (.ref ca), .val (.int (0 : Int32)), .val (.int z), .val (.ref b58), .unset, .unset]) rfl (XS.aloadN X58.here hx rfl (hb hby d9_4) rfl rfl (XS.iloadN X58.here hx rfl (hb hby d9_5) rfl (XS.aloadN X58.here hx rfl (hb hby d9_6) rfl rfl (XS.iconst X58.here hx rfl (hb hby d9_7) (XS.iloadN X58.here hx rfl (hb hby d9_8) rfl kk_))))))) ?_
  obtain ⟨_, _, ⟨T59, L59, k59, n59⟩, -, X59, ⟨Lc59, hQ59, l59, y59, z59⟩, st59⟩ := Jvm.LawKit.callS X58 hx (y := (⟨"java/lang/StringUTF16", "compress", "([CI[BII)I"⟩ : MethodName)) hown (mvT hZ (w_52 hw)) (mvT hZ (w_53 hw)) (mvT hZ (w_50 hw)) (mvT hZ (w_54 hw)) (by decide) (backOf (W := 0) (rmC51 l Z a0 hw [] ca kc b58 k58 z cs h58 n0 O58 (V.ext E58) hz hmax V58 n_b58 (Nat.ne_of_lt (Nat.lt_of_lt_of_le V.lt (Nat.le_of_eq g58.symm))) hhi) hZ (w_54 hw) (w_50 hw) (by decide) (by decide)) (g := (mkF m 9 #[.val (.ref ca), .val (.int (0 : Int32)), .val (.int z), .val (.ref b58), .unset, .unset] [(.int z), (.int (0 : Int32)), (.ref b58), (.int (0 : Int32)), (.ref ca)])) rfl (by rw [hml]; rfl) (argsL := [(.ref ca), (.int (0 : Int32)), (.ref b58), (.int (0 : Int32)), (.int z)]) (rest := []) (lenOf pd_5 rfl) rfl (by show 2 * 0 + _ ≤ _; exact Nat.le_of_eq rfl) (hb hby d9_9) (fun _ _ => ⟨rfl, e58, (by decide : 1 + 0 ≤ _), (by decide : 10 + 0 ≤ _)⟩)
  dsimp only [Pt.U, Pt.locs, Pt.cells, Pt.slots] at X59 l59 y59 z59 st59 hQ59
  subst l59 y59 z59
  obtain ⟨i59, mm59, cc59, rfl, Nq59, K59, hi59, hcc59, hgt59⟩ := hQ59
  have N59 := Fr.app N0 Nq59
  have O59 : Old Z n0 T59.heap := O58.keep K59 (allS n_b58 all0)
  have KC59 : Keep h0 T59.heap [] := KC58.trans K59 (allS (Or.inr sz_b58) all0)
  refine OW.st (B := T59.setTop (mkF m 23 #[.val (.ref ca), .val (.int (0 : Int32)), .val (.int z), .val (.ref b58), .val (.int i59), .unset] [(.int z), (.int (0 : Int32)), (.ref ca)])) (fun _ kk_ => st59 _ (XS.istore X59.here hx rfl (hb hby d9_12) rfl (l' := #[.val (.ref ca), .val (.int (0 : Int32)), .val (.int z), .val (.ref b58), .val (.int i59), .unset]) rfl (XS.iload X59.here hx rfl (hb hby d9_14) rfl (XS.iloadN X59.here hx rfl (hb hby d9_16) rfl (XS.icmpNo X59.here hx rfl (hb hby d9_17) rfl (feq (own_neI hi59 hz (List.getElem?_eq_some_iff.mp hcc59).1)).1 (XS.aloadN X59.here hx rfl (hb hby d9_20) rfl rfl (XS.iloadN X59.here hx rfl (hb hby d9_21) rfl (XS.iloadN X59.here hx rfl (hb hby d9_22) rfl kk_)))))))) ?_
  obtain ⟨_, _, ⟨T60, L60, k60, n60⟩, -, X60, ⟨Lc60, hQ60, l60, y60, z60⟩, st60⟩ := Jvm.LawKit.callS X59 hx (y := (⟨"java/lang/StringUTF16", "toBytes", "([CII)[B"⟩ : MethodName)) hown (mvT hZ (w_80 hw)) (mvT hZ (w_81 hw)) (mvT hZ (w_50 hw)) (mvT hZ (w_82 hw)) (by decide) (backOf (W := 0) (rmTB l Z a0 hw [] ca kc z cs i_COMPACT_STRINGS v_SIOOBE_FORMATTER T59.heap n0 O59 ((V.ext E58).keep K59 (ninS (Nat.ne_of_lt (Nat.lt_of_lt_of_le V.lt (Nat.le_of_eq g58.symm))) nin0)) hz hmax hS) hZ (w_82 hw) (w_50 hw) (by decide) (by decide)) (g := (mkF m 23 #[.val (.ref ca), .val (.int (0 : Int32)), .val (.int z), .val (.ref b58), .val (.int i59), .unset] [(.int z), (.int (0 : Int32)), (.ref ca)])) rfl (by rw [hml]; rfl) (argsL := [(.ref ca), (.int (0 : Int32)), (.int z)]) (rest := []) (lenOf pd_6 rfl) rfl (by show 2 * 0 + _ ≤ _; exact Nat.le_of_eq rfl) (hb hby d9_23) (fun _ _ => ⟨rfl, rfl, (by decide : 1 + 1 ≤ _), (by decide : 10 + 20 ≤ _)⟩)
  dsimp only [Pt.U, Pt.locs, Pt.cells, Pt.slots] at X60 l60 y60 z60 st60 hQ60
  subst l60 y60 z60
  obtain ⟨b60, kb60, rfl, Nq60, K60, gb60, zb60, Vb60⟩ := hQ60
  have N60 := Fr.app N59 Nq60
  have O60 : Old Z n0 T60.heap := O59.keep K60 all0
  have KC60 : Keep h0 T60.heap [] := KC59.trans K60 all0
  have sz_b60 : h0.size ≤ b60 := Nat.le_trans KC59.1 zb60
  refine OW.st (B := T60.setTop (mkF m 32 #[.val (.ref ca), .val (.int (0 : Int32)), .val (.int z), .val (.ref b58), .val (.int i59), .val (.ref b60)] [(.int i59), (.ref b60)])) (fun _ kk_ => st60 _ (XS.astore X60.here hx rfl (hb hby d9_26) rfl rfl (l' := #[.val (.ref ca), .val (.int (0 : Int32)), .val (.int z), .val (.ref b58), .val (.int i59), .val (.ref b60)]) rfl (XS.aload X60.here hx rfl (hb hby d9_28) rfl rfl (XS.iload X60.here hx rfl (hb hby d9_30) rfl kk_)))) ?_
  obtain ⟨_, _, ⟨T61, L61, k61, n61⟩, -, X61, ⟨Lc61, hQ61, l61, y61, z61⟩, st61⟩ := Jvm.LawKit.callS X60 hx (y := (⟨"java/lang/StringUTF16", "getChar", "([BI)C"⟩ : MethodName)) hown (mvT hZ (w_96 hw)) (mvT hZ (w_97 hw)) (mvT hZ (w_50 hw)) (mvT hZ (w_98 hw)) (by decide) (backOf (W := 0) (rmGC l Z a0 hw [] b60 kb60 (z <<< ((1 : Int32) &&& 31)) cs i59 mm59 cc59 i_COMPACT_STRINGS v_SIOOBE_FORMATTER T60.heap n0 O60 Vb60 hz2 hmax hi59 hcc59 (hch _ (List.mem_of_getElem? hcc59)) hS) hZ (w_98 hw) (w_50 hw) (by decide) (by decide)) (g := (mkF m 32 #[.val (.ref ca), .val (.int (0 : Int32)), .val (.int z), .val (.ref b58), .val (.int i59), .val (.ref b60)] [(.int i59), (.ref b60)])) rfl (by rw [hml]; rfl) (argsL := [(.ref b60), (.int i59)]) (rest := []) (lenOf pd_8 rfl) rfl (by show 2 * 0 + _ ≤ _; exact Nat.le_of_eq rfl) (hb hby d9_32) (fun _ _ => ⟨rfl, rfl, (by decide : 2 + 0 ≤ _), (by decide : 30 + 0 ≤ _)⟩)
  dsimp only [Pt.U, Pt.locs, Pt.cells, Pt.slots] at X61 l61 y61 z61 st61 hQ61
  subst l61 y61 z61
  obtain ⟨rfl, Nq61, e61⟩ := hQ61
  have N61 := Fr.app N60 Nq61
  refine OW.st (B := T61.setTop (mkF m 56 #[.val (.ref ca), .val (.int (0 : Int32)), .val (.int z), .val (.ref b58), .val (.int i59), .val (.ref b60)] [(.ref b60)])) (fun _ kk_ => st61 _ (XS.sipush X61.here hx rfl (hb hby d9_35) (XS.icmpYes X61.here hx rfl (pc0 := 38) (pc' := 54) rfl (hb hby d9_38) rfl (tlt hgt59).2.2.1 (by decide) (by decide) (XS.aload X61.here hx rfl (hb hby d9_54) rfl rfl kk_)))) ?_
  exact OW.ret X61 hx hlk (i := .areturn) Bd.returns rfl (Or.inr (Or.inr (Or.inr (Or.inr ⟨rfl, rfl, rfl⟩)))) (hb hby d9_56) e61 (by decide) (by decide) ⟨b60, kb60, rfl, N61, KC60, gb60, sz_b60, Vb60⟩
theorem ef_CL1 (m : MethodId) (x0 : Addr) (x1 : Int32) : entryFrame m #[(.ref x0), (.int x1)] 2 = mkF m 0 #[.val (.ref x0), .val (.int x1)] [] := by first | (simp [entryFrame, mkF, argsToLocals, Value.category]; done) | rfl
def QCL1 (Z : State) (ba : Addr) (kb : ClassId) (z : Int32) (cs : List Int32) (h0 : Heap) (n0 : Nat) (v : Option Value) (h : Heap) (L : List Loc) : Prop := v = some (.int (1 : Int32)) ∧ Fr n0 L ∧ h = h0
set_option maxRecDepth 65536 in
set_option maxHeartbeats 40000000 in
theorem rmCL1 (l : Launch) (Z : State) (a0 : Array Value) (hw : ∀ d ∈ tables_1, d.before a0 Z = true) (ws : List Jvm.Cond) (ba : Addr) (kb : ClassId) (z : Int32) (cs : List Int32) (h0 : Heap) (n0 : Nat) (O0 : Old Z n0 h0) (B : Arv Z h0 ba kb .byte (z <<< ((1 : Int32) &&& 31)) (OwnU cs) (.int (0 : Int32))) (hz : z.toInt = (cs.length : Int)) (hmax : cs.length ≤ 10) (hpos : 0 < cs.length) :
    MetFree l (⟨"java/lang/StringUTF16", "coderFromArrayLen", "([BI)B"⟩ : MethodName) (head1 (Jvm.Cond.code (⟨"java/lang/StringUTF16", "coderFromArrayLen", "([BI)B"⟩ : MethodName) jdk_52_method_15_code 2 (some .byte) :: ws) ({ frames := 0, cells := 0, slots := 0, locals := 0 } : Room)) (fun aa_ UU_ => aa_ = #[(.ref ba), (.int z)] ∧ Z.Warmed39 UU_.vm ∧ UU_.heap = h0) (fun _ _ _ _ _ => True) (fun _ UU_ oo_ UV_ => ∃ vv_ LL_, oo_ = .returned vv_ ∧ QCL1 Z ba kb z cs h0 n0 vv_ UV_.heap LL_ ∧ FrameEnd UU_ oo_ UV_ LL_ ({ frames := 0, cells := 0, slots := 0, locals := 0 } : Room).cells ({ frames := 0, cells := 0, slots := 0, locals := 0 } : Room).slots) := by
  refine MetFree.of_bodySF (plainFor_of_name pn_2) hisR ?_
  intro p e s m args below meth c s₁ Bd hml0 hP hK
  obtain ⟨rfl, hZ, hh⟩ := hP
  have hx := Bd.exec
  have hby := Bd.bytes
  have hlk := BodyLoose.notSynchronized Bd
  have hml : c.maxLocals = 2 := hml0
  have hown : s.vm.findClass "java/lang/StringUTF16" = some m.cls := findClass_of_methodNamed Bd.named
  have hnm := (name_of_methodNamed Bd.named Bd.method).1
  have X0 : Stand p l e ({ frames := 0, cells := 0, slots := 0, locals := 0 } : Room) s m #[(.ref ba), (.int z)] below meth c s₁ [] 0 0 := Stand.of_body Bd
  have e0 : s₁.heap = h0 := by rw [← hh, Bd.state]; rfl
  have N0 := Fr.nil n0
  suffices hOW : OW p e below s (QCL1 Z ba kb z cs h0 n0) 0 0 (s₁.setTop (mkF m 0 #[.val (.ref ba), .val (.int z)] [])) by
    obtain ⟨oq1_, oq2_, oq3_, oq4_⟩ := hOW
    exact ⟨oq1_, oq2_, castTop (ef_CL1 m ba z) oq3_, oq4_⟩
  refine OW.st (B := s₁.setTop (mkF m 2 #[.val (.ref ba), .val (.int z)] [(.ref ba), (.int z)])) (fun _ kk_ => XS.iloadN X0.here hx rfl (hb hby d11_0) rfl (XS.aloadN X0.here hx rfl (hb hby d11_1) rfl rfl kk_)) ?_
  obtain ⟨cl62, Ar62, q62, S62, Ng62, Hs62, G62⟩ := id B
  refine OW.st (X0.arraylength hx (by rw [e0]; exact Ar62.1) (State.isArrayOf_alike hZ.alike Ar62.2.1) (g := (mkF m 2 #[.val (.ref ba), .val (.int z)] [(.ref ba), (.int z)])) rfl rfl (hb hby d11_2)) ?_
  rw [len_of S62 Ng62]
  show OW p e below s (QCL1 Z ba kb z cs h0 n0) 0 0 (s₁.setTop (mkF m 3 #[.val (.ref ba), .val (.int z)] [(.int (z <<< ((1 : Int32) &&& 31))), (.int z)]))
  refine OW.st (B := s₁.setTop (mkF m 8 #[.val (.ref ba), .val (.int z)] [(.int ((((z - (z <<< ((1 : Int32) &&& 31))).toUInt32 >>> ((31 : Int32) &&& 31).toUInt32).toInt32).toInt8.toInt32))])) (fun _ kk_ => XS.isub X0.here hx rfl (hb hby d11_3) rfl (XS.bipush X0.here hx rfl (hb hby d11_4) (XS.iushr X0.here hx rfl (hb hby d11_6) rfl (XS.i2b X0.here hx rfl (hb hby d11_7) rfl kk_)))) ?_
  exact OW.ret X0 hx hlk (i := .ireturn) Bd.returns (by rw [own_clU hz hpos (by omega)]; rfl) (Or.inl ⟨rfl, Or.inr (Or.inr (Or.inl rfl)), _, rfl⟩) (hb hby d11_8) e0 (by decide) (by decide) ⟨congrArg (fun z => some (Value.int z)) (own_clU hz hpos (by omega)), N0, rfl⟩
theorem ef_S11 (m : MethodId) (x0 : Addr) (x1 : Addr) (x2 : Int32) (x3 : Int32) : entryFrame m #[(.ref x0), (.ref x1), (.int x2), (.int x3), .null] 6 = mkF m 0 #[.val (.ref x0), .val (.ref x1), .val (.int x2), .val (.int x3), .val .null, .unset] [] := by first | (simp [entryFrame, mkF, argsToLocals, Value.category]; done) | rfl
def QS11 (Z : State) (b : Addr) (ca : Addr) (kc : ClassId) (z : Int32) (cs : List Int32) (i_COMPACT_STRINGS : Int32) (v_SIOOBE_FORMATTER : Value) (h0 : Heap) (n0 : Nat) (v : Option Value) (h : Heap) (L : List Loc) : Prop := v = none ∧ Fr n0 L ∧ Keep h0 h [b] ∧ Exa Z h b "java/lang/String" ∧ ∃ (ba : Addr) (kb : ClassId), n0 ≤ ba ∧ b ≠ ba ∧ Fld Z h b "java/lang/String" "coder" "B" (.int (1 : Int32)) ∧ Fld Z h b "java/lang/String" "value" "[B" (.ref ba) ∧ Arv Z h ba kb .byte (z <<< ((1 : Int32) &&& 31)) (OwnU cs) (.int (0 : Int32))
set_option maxRecDepth 65536 in
set_option maxHeartbeats 40000000 in
theorem rmS11 (l : Launch) (Z : State) (a0 : Array Value) (hw : ∀ d ∈ tables_1, d.before a0 Z = true) (ws : List Jvm.Cond) (b : Addr) (ca : Addr) (kc : ClassId) (z : Int32) (cs : List Int32) (i_COMPACT_STRINGS : Int32) (v_SIOOBE_FORMATTER : Value) (h0 : Heap) (n0 : Nat) (O0 : Old Z n0 h0) (E : Exa Z h0 b "java/lang/String") (F1 : Fld Z h0 b "java/lang/String" "value" "[B" .null) (F2 : Fld Z h0 b "java/lang/String" "coder" "B" (.int (0 : Int32))) (g : n0 ≤ b) (V : Arv Z h0 ca kc .char z (cs.map Value.int) (.int (0 : Int32))) (hz : z.toInt = (cs.length : Int)) (hmax : cs.length ≤ 10) (hpos : 0 < cs.length) (hch : OwnChs cs) (hhi : OwnHi cs) (hS : OwnS Z i_COMPACT_STRINGS v_SIOOBE_FORMATTER) :
    MetFree l (⟨"java/lang/String", "<init>", "([CIILjava/lang/Void;)V"⟩ : MethodName) (head1 (Jvm.Cond.code (⟨"java/lang/String", "<init>", "([CIILjava/lang/Void;)V"⟩ : MethodName) jdk_42_method_149_code 6 none :: ws) ({ frames := 4, cells := 2, slots := 30, locals := 57 } : Room)) (fun aa_ UU_ => aa_ = #[(.ref b), (.ref ca), (.int (0 : Int32)), (.int z), .null] ∧ Z.Warmed39 UU_.vm ∧ UU_.heap = h0) (fun _ _ _ _ _ => True) (fun _ UU_ oo_ UV_ => ∃ vv_ LL_, oo_ = .returned vv_ ∧ QS11 Z b ca kc z cs i_COMPACT_STRINGS v_SIOOBE_FORMATTER h0 n0 vv_ UV_.heap LL_ ∧ FrameEnd UU_ oo_ UV_ LL_ ({ frames := 4, cells := 2, slots := 30, locals := 57 } : Room).cells ({ frames := 4, cells := 2, slots := 30, locals := 57 } : Room).slots) := by
  refine MetFree.of_bodySF (plainFor_of_name pn_0) hisR ?_
  intro p e s m args below meth c s₁ Bd hml0 hP hK
  obtain ⟨rfl, hZ, hh⟩ := hP
  have hx := Bd.exec
  have hby := Bd.bytes
  have hlk := BodyLoose.notSynchronized Bd
  have hml : c.maxLocals = 6 := hml0
  have hown : s.vm.findClass "java/lang/String" = some m.cls := findClass_of_methodNamed Bd.named
  have hnm := (name_of_methodNamed Bd.named Bd.method).1
  have X0 : Stand p l e ({ frames := 4, cells := 2, slots := 30, locals := 57 } : Room) s m #[(.ref b), (.ref ca), (.int (0 : Int32)), (.int z), .null] below meth c s₁ [] 0 0 := Stand.of_body Bd
  have e0 : s₁.heap = h0 := by rw [← hh, Bd.state]; rfl
  have N0 := Fr.nil n0
  have KC0 : Keep h0 h0 [b] := Keep.refl _ _
  suffices hOW : OW p e below s (QS11 Z b ca kc z cs i_COMPACT_STRINGS v_SIOOBE_FORMATTER h0 n0) 2 30 (s₁.setTop (mkF m 0 #[.val (.ref b), .val (.ref ca), .val (.int (0 : Int32)), .val (.int z), .val .null, .unset] [])) by
    obtain ⟨oq1_, oq2_, oq3_, oq4_⟩ := hOW
    exact ⟨oq1_, oq2_, castTop (ef_S11 m b ca (0 : Int32) z) oq3_, oq4_⟩
  have hS' := hS
  obtain ⟨Si_COMPACT_STRINGS, Sv_SIOOBE_FORMATTER, Rv_SIOOBE_FORMATTER, S__assertionsDisabled, S_HI_BYTE_SHIFT, S_LO_BYTE_SHIFT, Pi_COMPACT_STRINGS⟩ := hS'
  refine OW.st (B := s₁.setTop (mkF m 1 #[.val (.ref b), .val (.ref ca), .val (.int (0 : Int32)), .val (.int z), .val .null, .unset] [(.ref b)])) (fun _ kk_ => XS.aloadN X0.here hx rfl (hb hby d4_0) rfl rfl kk_) ?_
  obtain ⟨T63, X63, e63, st63⟩ := initO X0 hx hZ hown (w_20 hw) (w_21 hw) (w_22 hw) e0 (g := (mkF m 1 #[.val (.ref b), .val (.ref ca), .val (.int (0 : Int32)), .val (.int z), .val .null, .unset] [(.ref b)])) rfl (by rw [hml]; rfl) rfl (hb hby d4_1) (by decide) (W := 0) (by show 2 * 0 + _ ≤ _; exact Nat.le_of_eq rfl) (by decide)
  refine OW.st (B := T63.setTop (mkF m 27 #[.val (.ref b), .val (.ref ca), .val (.int (0 : Int32)), .val (.int z), .val .null, .unset] [])) (fun _ kk_ => st63 _ (XS.iloadN X63.here hx rfl (hb hby d4_4) rfl (XS.ifYes X63.here hx rfl (pc0 := 5) (pc' := 27) rfl (hb hby d4_5) rfl ((if0 _ _).trans (feq (own_n0 hz hpos)).2) (by decide) (by decide) kk_))) ?_
  obtain ⟨T64, X64, e64, st64⟩ := getS2 X63 hx hZ hown (host := "") (Or.inl (w_45 hw)) Via.refl e63 (Si_COMPACT_STRINGS.ext O0.2) (g := (mkF m 27 #[.val (.ref b), .val (.ref ca), .val (.int (0 : Int32)), .val (.int z), .val .null, .unset] [])) rfl (hb hby d4_27)
  refine OW.st (B := T64.setTop (mkF m 36 #[.val (.ref b), .val (.ref ca), .val (.int (0 : Int32)), .val (.int z), .val .null, .unset] [(.int z), (.int (0 : Int32)), (.ref ca)])) (fun _ kk_ => st64 _ (XS.ifNo X64.here hx rfl (hb hby d4_30) rfl ((if0 _ _).trans (feq Pi_COMPACT_STRINGS).1) (XS.aloadN X64.here hx rfl (hb hby d4_33) rfl rfl (XS.iloadN X64.here hx rfl (hb hby d4_34) rfl (XS.iloadN X64.here hx rfl (hb hby d4_35) rfl kk_))))) ?_
  obtain ⟨_, _, ⟨T65, L65, k65, n65⟩, -, X65, ⟨Lc65, hQ65, l65, y65, z65⟩, st65⟩ := Jvm.LawKit.callS X64 hx (y := (⟨"java/lang/StringUTF16", "compress", "([CII)[B"⟩ : MethodName)) hown (mvT hZ (w_48 hw)) (mvT hZ (w_49 hw)) (mvT hZ (w_50 hw)) (mvT hZ (w_51 hw)) (by decide) (backOf (W := 0) (rmC31 l Z a0 hw [] ca kc z cs i_COMPACT_STRINGS v_SIOOBE_FORMATTER h0 n0 O0 V hz hmax hch hhi hS) hZ (w_51 hw) (w_50 hw) (by decide) (by decide)) (g := (mkF m 36 #[.val (.ref b), .val (.ref ca), .val (.int (0 : Int32)), .val (.int z), .val .null, .unset] [(.int z), (.int (0 : Int32)), (.ref ca)])) rfl (by rw [hml]; rfl) (argsL := [(.ref ca), (.int (0 : Int32)), (.int z)]) (rest := []) (lenOf pd_6 rfl) rfl (by show 2 * 0 + _ ≤ _; exact Nat.le_of_eq rfl) (hb hby d4_36) (fun _ _ => ⟨rfl, e64, (by decide : 0 + 2 ≤ _), (by decide : 0 + 30 ≤ _)⟩)
  dsimp only [Pt.U, Pt.locs, Pt.cells, Pt.slots] at X65 l65 y65 z65 st65 hQ65
  subst l65 y65 z65
  obtain ⟨b65, kb65, rfl, Nq65, K65, gb65, zb65, Vb65⟩ := hQ65
  have N65 := Fr.app N0 Nq65
  have O65 : Old Z n0 T65.heap := O0.keep K65 all0
  have KC65 : Keep h0 T65.heap [b] := KC0.trans K65 all0
  have sz_b65 : h0.size ≤ b65 := Nat.le_trans KC0.1 zb65
  refine OW.st (B := T65.setTop (mkF m 45 #[.val (.ref b), .val (.ref ca), .val (.int (0 : Int32)), .val (.int z), .val .null, .val (.ref b65)] [(.int z), (.ref b65), (.ref b)])) (fun _ kk_ => st65 _ (XS.astore X65.here hx rfl (hb hby d4_39) rfl rfl (l' := #[.val (.ref b), .val (.ref ca), .val (.int (0 : Int32)), .val (.int z), .val .null, .val (.ref b65)]) rfl (XS.aloadN X65.here hx rfl (hb hby d4_41) rfl rfl (XS.aload X65.here hx rfl (hb hby d4_42) rfl rfl (XS.iloadN X65.here hx rfl (hb hby d4_44) rfl kk_))))) ?_
  obtain ⟨_, _, ⟨T66, L66, k66, n66⟩, -, X66, ⟨Lc66, hQ66, l66, y66, z66⟩, st66⟩ := Jvm.LawKit.callS X65 hx (y := (⟨"java/lang/StringUTF16", "coderFromArrayLen", "([BI)B"⟩ : MethodName)) hown (mvT hZ (w_55 hw)) (mvT hZ (w_56 hw)) (mvT hZ (w_50 hw)) (mvT hZ (w_57 hw)) (by decide) (backOf (W := 1) (rmCL1 l Z a0 hw [] b65 kb65 z cs T65.heap n0 O65 Vb65 hz hmax hpos) hZ (w_57 hw) (w_50 hw) (by decide) (by decide)) (g := (mkF m 45 #[.val (.ref b), .val (.ref ca), .val (.int (0 : Int32)), .val (.int z), .val .null, .val (.ref b65)] [(.int z), (.ref b65), (.ref b)])) rfl (by rw [hml]; rfl) (argsL := [(.ref b65), (.int z)]) (rest := [(.ref b)]) (lenOf pd_7 rfl) rfl (by show 2 * 0 + _ ≤ _; exact Nat.le_of_eq rfl) (hb hby d4_45) (fun _ _ => ⟨rfl, rfl, (by decide : 2 + 0 ≤ _), (by decide : 30 + 0 ≤ _)⟩)
  dsimp only [Pt.U, Pt.locs, Pt.cells, Pt.slots] at X66 l66 y66 z66 st66 hQ66
  subst l66 y66 z66
  obtain ⟨rfl, Nq66, e66⟩ := hQ66
  have N66 := Fr.app N65 Nq66
  refine OW.st (B := T66.setTop (mkF m 48 #[.val (.ref b), .val (.ref ca), .val (.int (0 : Int32)), .val (.int z), .val .null, .val (.ref b65)] [(.int (1 : Int32)), (.ref b)])) (fun _ kk_ => st66 _ kk_) ?_
  obtain ⟨T67, h67, X67, e67, W67, st67⟩ := putFN X66 hx hZ hown (w_30 hw) Via.refl e66 (F2.keep K65 nin0) (E.keep K65) (Or.inr ⟨(w_26 hw), rfl, hnm⟩) (w_7 hw) (ty := .byte) (v' := (.int (1 : Int32))) (by decide) rfl rfl (g := (mkF m 48 #[.val (.ref b), .val (.ref ca), .val (.int (0 : Int32)), .val (.int z), .val .null, .val (.ref b65)] [(.int (1 : Int32)), (.ref b)])) rfl rfl (hb hby d4_48)
  have N67 := Fr.snoc X67 N66 g
  have O67 : Old Z n0 h67 := O65.wr W67 g
  have KC67 : Keep h0 h67 [b] := KC65.wr W67 (Or.inl (List.mem_of_getElem? (i := 0) rfl))
  have F67 : Fld Z h67 b "java/lang/String" "coder" "B" (.int (1 : Int32)) := Fld.same W67 (F2.keep K65 nin0)
  refine OW.st (B := T67.setTop (mkF m 54 #[.val (.ref b), .val (.ref ca), .val (.int (0 : Int32)), .val (.int z), .val .null, .val (.ref b65)] [(.ref b65), (.ref b)])) (fun _ kk_ => st67 _ (XS.aloadN X67.here hx rfl (hb hby d4_51) rfl rfl (XS.aload X67.here hx rfl (hb hby d4_52) rfl rfl kk_))) ?_
  obtain ⟨T68, h68, X68, e68, W68, st68⟩ := putF X67 hx hZ hown (host := "") (Or.inl (w_29 hw)) Via.refl e67 ((F1.keep K65 nin0).other W67 (Or.inr (slot_ne (Or.inr (w_25 hw)) (Or.inr (w_26 hw)) (by decide) (t := (.array .byte)) (t' := .byte) (by decide) (by decide)))) ((E.keep K65).wr W67) (Or.inr ⟨(w_25 hw), rfl, hnm⟩) (w_7 hw) (ty := (.array .byte)) (by decide) rfl rfl (g := (mkF m 54 #[.val (.ref b), .val (.ref ca), .val (.int (0 : Int32)), .val (.int z), .val .null, .val (.ref b65)] [(.ref b65), (.ref b)])) rfl rfl (hb hby d4_54)
  have N68 := Fr.snoc X68 N67 g
  have O68 : Old Z n0 h68 := O67.wr W68 g
  have KC68 : Keep h0 h68 [b] := KC67.wr W68 (Or.inl (List.mem_of_getElem? (i := 0) rfl))
  have F68 : Fld Z h68 b "java/lang/String" "value" "[B" (.ref b65) := Fld.same W68 ((F1.keep K65 nin0).other W67 (Or.inr (slot_ne (Or.inr (w_25 hw)) (Or.inr (w_26 hw)) (by decide) (t := (.array .byte)) (t' := .byte) (by decide) (by decide))))
  refine OW.st (B := T68.setTop (mkF m 57 #[.val (.ref b), .val (.ref ca), .val (.int (0 : Int32)), .val (.int z), .val .null, .val (.ref b65)] [])) (fun _ kk_ => st68 _ kk_) ?_
  exact OW.retV X68 hx hlk Bd.returns (hb hby d4_57) e68 (by decide) (by decide) ⟨rfl, N68, KC68, (((E.keep K65).wr W67).wr W68), b65, kb65, gb65, (Nat.ne_of_lt (Nat.lt_of_lt_of_le E.lt zb65)), (F67.other W68 (Or.inr (slot_ne (Or.inr (w_26 hw)) (Or.inr (w_25 hw)) (by decide) (t := .byte) (t' := (.array .byte)) (by decide) (by decide)))), F68, ((Vb65.other W67 (Ne.symm (Nat.ne_of_lt (Nat.lt_of_lt_of_le E.lt zb65)))).other W68 (Ne.symm (Nat.ne_of_lt (Nat.lt_of_lt_of_le E.lt zb65))))⟩
theorem ef_S01 (m : MethodId) (x0 : Addr) (x1 : Addr) : entryFrame m #[(.ref x0), (.ref x1)] 2 = mkF m 0 #[.val (.ref x0), .val (.ref x1)] [] := by first | (simp [entryFrame, mkF, argsToLocals, Value.category]; done) | rfl
def QS01 (Z : State) (b : Addr) (ca : Addr) (kc : ClassId) (z : Int32) (cs : List Int32) (i_COMPACT_STRINGS : Int32) (v_SIOOBE_FORMATTER : Value) (h0 : Heap) (n0 : Nat) (v : Option Value) (h : Heap) (L : List Loc) : Prop := v = none ∧ Fr n0 L ∧ Keep h0 h [b] ∧ Exa Z h b "java/lang/String" ∧ ∃ (ba : Addr) (kb : ClassId), n0 ≤ ba ∧ b ≠ ba ∧ Fld Z h b "java/lang/String" "coder" "B" (.int (1 : Int32)) ∧ Fld Z h b "java/lang/String" "value" "[B" (.ref ba) ∧ Arv Z h ba kb .byte (z <<< ((1 : Int32) &&& 31)) (OwnU cs) (.int (0 : Int32))
set_option maxRecDepth 65536 in
set_option maxHeartbeats 40000000 in
theorem rmS01 (l : Launch) (Z : State) (a0 : Array Value) (hw : ∀ d ∈ tables_1, d.before a0 Z = true) (ws : List Jvm.Cond) (b : Addr) (ca : Addr) (kc : ClassId) (z : Int32) (cs : List Int32) (i_COMPACT_STRINGS : Int32) (v_SIOOBE_FORMATTER : Value) (h0 : Heap) (n0 : Nat) (O0 : Old Z n0 h0) (E : Exa Z h0 b "java/lang/String") (F1 : Fld Z h0 b "java/lang/String" "value" "[B" .null) (F2 : Fld Z h0 b "java/lang/String" "coder" "B" (.int (0 : Int32))) (g : n0 ≤ b) (V : Arv Z h0 ca kc .char z (cs.map Value.int) (.int (0 : Int32))) (hz : z.toInt = (cs.length : Int)) (hmax : cs.length ≤ 10) (hpos : 0 < cs.length) (hch : OwnChs cs) (hhi : OwnHi cs) (hS : OwnS Z i_COMPACT_STRINGS v_SIOOBE_FORMATTER) :
    MetFree l (⟨"java/lang/String", "<init>", "([C)V"⟩ : MethodName) (head1 (Jvm.Cond.code (⟨"java/lang/String", "<init>", "([C)V"⟩ : MethodName) jdk_42_method_3_code 2 none :: ws) ({ frames := 5, cells := 2, slots := 30, locals := 74 } : Room)) (fun aa_ UU_ => aa_ = #[(.ref b), (.ref ca)] ∧ Z.Warmed39 UU_.vm ∧ UU_.heap = h0) (fun _ _ _ _ _ => True) (fun _ UU_ oo_ UV_ => ∃ vv_ LL_, oo_ = .returned vv_ ∧ QS01 Z b ca kc z cs i_COMPACT_STRINGS v_SIOOBE_FORMATTER h0 n0 vv_ UV_.heap LL_ ∧ FrameEnd UU_ oo_ UV_ LL_ ({ frames := 5, cells := 2, slots := 30, locals := 74 } : Room).cells ({ frames := 5, cells := 2, slots := 30, locals := 74 } : Room).slots) := by
  refine MetFree.of_bodySF (plainFor_of_name pn_0) hisR ?_
  intro p e s m args below meth c s₁ Bd hml0 hP hK
  obtain ⟨rfl, hZ, hh⟩ := hP
  have hx := Bd.exec
  have hby := Bd.bytes
  have hlk := BodyLoose.notSynchronized Bd
  have hml : c.maxLocals = 2 := hml0
  have hown : s.vm.findClass "java/lang/String" = some m.cls := findClass_of_methodNamed Bd.named
  have hnm := (name_of_methodNamed Bd.named Bd.method).1
  have X0 : Stand p l e ({ frames := 5, cells := 2, slots := 30, locals := 74 } : Room) s m #[(.ref b), (.ref ca)] below meth c s₁ [] 0 0 := Stand.of_body Bd
  have e0 : s₁.heap = h0 := by rw [← hh, Bd.state]; rfl
  have N0 := Fr.nil n0
  have KC0 : Keep h0 h0 [b] := Keep.refl _ _
  suffices hOW : OW p e below s (QS01 Z b ca kc z cs i_COMPACT_STRINGS v_SIOOBE_FORMATTER h0 n0) 2 30 (s₁.setTop (mkF m 0 #[.val (.ref b), .val (.ref ca)] [])) by
    obtain ⟨oq1_, oq2_, oq3_, oq4_⟩ := hOW
    exact ⟨oq1_, oq2_, castTop (ef_S01 m b ca) oq3_, oq4_⟩
  have hS' := hS
  obtain ⟨Si_COMPACT_STRINGS, Sv_SIOOBE_FORMATTER, Rv_SIOOBE_FORMATTER, S__assertionsDisabled, S_HI_BYTE_SHIFT, S_LO_BYTE_SHIFT, Pi_COMPACT_STRINGS⟩ := hS'
  refine OW.st (B := s₁.setTop (mkF m 4 #[.val (.ref b), .val (.ref ca)] [(.ref ca), (.int (0 : Int32)), (.ref ca), (.ref b)])) (fun _ kk_ => XS.aloadN X0.here hx rfl (hb hby d3_0) rfl rfl (XS.aloadN X0.here hx rfl (hb hby d3_1) rfl rfl (XS.iconst X0.here hx rfl (hb hby d3_2) (XS.aloadN X0.here hx rfl (hb hby d3_3) rfl rfl kk_)))) ?_
  obtain ⟨cl69, Ar69, q69, S69, Ng69, Hs69, G69⟩ := id V
  refine OW.st (X0.arraylength hx (by rw [e0]; exact Ar69.1) (State.isArrayOf_alike hZ.alike Ar69.2.1) (g := (mkF m 4 #[.val (.ref b), .val (.ref ca)] [(.ref ca), (.int (0 : Int32)), (.ref ca), (.ref b)])) rfl rfl (hb hby d3_4)) ?_
  rw [len_of S69 Ng69]
  show OW p e below s (QS01 Z b ca kc z cs i_COMPACT_STRINGS v_SIOOBE_FORMATTER h0 n0) 2 30 (s₁.setTop (mkF m 5 #[.val (.ref b), .val (.ref ca)] [(.int z), (.int (0 : Int32)), (.ref ca), (.ref b)]))
  refine OW.st (B := s₁.setTop (mkF m 6 #[.val (.ref b), .val (.ref ca)] [.null, (.int z), (.int (0 : Int32)), (.ref ca), (.ref b)])) (fun _ kk_ => XS.aconstNull X0.here hx rfl (hb hby d3_5) kk_) ?_
  obtain ⟨_, _, ⟨T70, L70, k70, n70⟩, -, X70, ⟨Lc70, hQ70, l70, y70, z70⟩, st70⟩ := X0.specialBack hx (y := (⟨"java/lang/String", "<init>", "([CIILjava/lang/Void;)V"⟩ : MethodName)) rfl hown (mvT hZ (w_16 hw)) (mvT hZ (w_17 hw)) (mvT hZ (w_19 hw)) (by decide) (backOf (W := 0) (rmS11 l Z a0 hw [] b ca kc z cs i_COMPACT_STRINGS v_SIOOBE_FORMATTER h0 n0 O0 E F1 F2 g V hz hmax hpos hch hhi hS) hZ (w_19 hw) (w_8 hw) (by decide) (by decide)) (g := (mkF m 6 #[.val (.ref b), .val (.ref ca)] [.null, (.int z), (.int (0 : Int32)), (.ref ca), (.ref b)])) rfl (by rw [hml]; rfl) (Steps.refl _) (a := b) (argsL := [(.ref ca), (.int (0 : Int32)), (.int z), .null]) (rest := []) (lenOf pd_1 rfl) rfl (by show 2 * 0 + _ ≤ _; exact Nat.le_of_eq rfl) (hb hby d3_6) (fun _ _ => ⟨rfl, e0, (by decide : 0 + 2 ≤ _), (by decide : 0 + 30 ≤ _)⟩)
  dsimp only [Pt.U, Pt.locs, Pt.cells, Pt.slots] at X70 l70 y70 z70 st70 hQ70
  subst l70 y70 z70
  obtain ⟨rfl, Nq70, K70, Es70, ba70, kb70, gba70, nba70, Fc70, Fv70, Vs70⟩ := hQ70
  have N70 := Fr.app N0 Nq70
  have O70 : Old Z n0 T70.heap := O0.keep K70 (allS g all0)
  have KC70 : Keep h0 T70.heap [b] := KC0.trans K70 (allS (Or.inl (List.mem_of_getElem? (i := 0) rfl)) all0)
  refine OW.tr (B := T70.setTop (mkF m 9 #[.val (.ref b), .val (.ref ca)] [])) (st70) ?_
  exact OW.retV X70 hx hlk Bd.returns (hb hby d3_9) rfl (by decide) (by decide) ⟨rfl, N70, KC70, (E.keep K70), ba70, kb70, gba70, nba70, Fc70, Fv70, Vs70⟩
theorem ef_LE0 (m : MethodId) (x0 : Addr) : entryFrame m #[(.ref x0)] 1 = mkF m 0 #[.val (.ref x0)] [] := by first | (simp [entryFrame, mkF, argsToLocals, Value.category]; done) | rfl
def QLE0 (Z : State) (b : Addr) (ba : Addr) (kb : ClassId) (zb : Int32) (cs : List Int32) (zr : Int32) (i_COMPACT_STRINGS : Int32) (v_SIOOBE_FORMATTER : Value) (h0 : Heap) (n0 : Nat) (v : Option Value) (h : Heap) (L : List Loc) : Prop := v = some (.int zr) ∧ Fr n0 L ∧ h = h0
set_option maxRecDepth 65536 in
set_option maxHeartbeats 40000000 in
theorem rmLE0 (l : Launch) (Z : State) (a0 : Array Value) (hw : ∀ d ∈ tables_1, d.before a0 Z = true) (ws : List Jvm.Cond) (b : Addr) (ba : Addr) (kb : ClassId) (zb : Int32) (cs : List Int32) (zr : Int32) (i_COMPACT_STRINGS : Int32) (v_SIOOBE_FORMATTER : Value) (h0 : Heap) (n0 : Nat) (O0 : Old Z n0 h0) (E : Exa Z h0 b "java/lang/String") (F1 : Fld Z h0 b "java/lang/String" "value" "[B" (.ref ba)) (F2 : Fld Z h0 b "java/lang/String" "coder" "B" (.int (0 : Int32))) (B : Arv Z h0 ba kb .byte zb (OwnL cs) (.int (0 : Int32))) (hr : (zb >>> ((0 : Int32) &&& 31)) = zr) (hS : OwnS Z i_COMPACT_STRINGS v_SIOOBE_FORMATTER) :
    MetFree l (⟨"java/lang/String", "length", "()I"⟩ : MethodName) (head1 (Jvm.Cond.code (⟨"java/lang/String", "length", "()I"⟩ : MethodName) jdk_42_method_54_code 1 (some .int) :: ws) ({ frames := 1, cells := 0, slots := 0, locals := 13 } : Room)) (fun aa_ UU_ => aa_ = #[(.ref b)] ∧ Z.Warmed39 UU_.vm ∧ UU_.heap = h0) (fun _ _ _ _ _ => True) (fun _ UU_ oo_ UV_ => ∃ vv_ LL_, oo_ = .returned vv_ ∧ QLE0 Z b ba kb zb cs zr i_COMPACT_STRINGS v_SIOOBE_FORMATTER h0 n0 vv_ UV_.heap LL_ ∧ FrameEnd UU_ oo_ UV_ LL_ ({ frames := 1, cells := 0, slots := 0, locals := 13 } : Room).cells ({ frames := 1, cells := 0, slots := 0, locals := 13 } : Room).slots) := by
  refine MetFree.of_bodySF (plainFor_of_name pn_0) hisR ?_
  intro p e s m args below meth c s₁ Bd hml0 hP hK
  obtain ⟨rfl, hZ, hh⟩ := hP
  have hx := Bd.exec
  have hby := Bd.bytes
  have hlk := BodyLoose.notSynchronized Bd
  have hml : c.maxLocals = 1 := hml0
  have hown : s.vm.findClass "java/lang/String" = some m.cls := findClass_of_methodNamed Bd.named
  have hnm := (name_of_methodNamed Bd.named Bd.method).1
  have X0 : Stand p l e ({ frames := 1, cells := 0, slots := 0, locals := 13 } : Room) s m #[(.ref b)] below meth c s₁ [] 0 0 := Stand.of_body Bd
  have e0 : s₁.heap = h0 := by rw [← hh, Bd.state]; rfl
  have N0 := Fr.nil n0
  suffices hOW : OW p e below s (QLE0 Z b ba kb zb cs zr i_COMPACT_STRINGS v_SIOOBE_FORMATTER h0 n0) 0 0 (s₁.setTop (mkF m 0 #[.val (.ref b)] [])) by
    obtain ⟨oq1_, oq2_, oq3_, oq4_⟩ := hOW
    exact ⟨oq1_, oq2_, castTop (ef_LE0 m b) oq3_, oq4_⟩
  have hS' := hS
  obtain ⟨Si_COMPACT_STRINGS, Sv_SIOOBE_FORMATTER, Rv_SIOOBE_FORMATTER, S__assertionsDisabled, S_HI_BYTE_SHIFT, S_LO_BYTE_SHIFT, Pi_COMPACT_STRINGS⟩ := hS'
  refine OW.st (B := s₁.setTop (mkF m 1 #[.val (.ref b)] [(.ref b)])) (fun _ kk_ => XS.aloadN X0.here hx rfl (hb hby d7_0) rfl rfl kk_) ?_
  obtain ⟨T71, X71, e71, st71⟩ := getF X0 hx hZ hown (host := "") (Or.inl (w_29 hw)) Via.refl e0 F1 (g := (mkF m 1 #[.val (.ref b)] [(.ref b)])) rfl rfl (hb hby d7_1)
  refine OW.st (B := T71.setTop (mkF m 4 #[.val (.ref b)] [(.ref ba)])) (fun _ kk_ => st71 _ kk_) ?_
  obtain ⟨cl72, Ar72, q72, S72, Ng72, Hs72, G72⟩ := id B
  refine OW.st (X71.arraylength hx (by rw [e71]; exact Ar72.1) (State.isArrayOf_alike hZ.alike Ar72.2.1) (g := (mkF m 4 #[.val (.ref b)] [(.ref ba)])) rfl rfl (hb hby d7_4)) ?_
  rw [len_of S72 Ng72]
  show OW p e below s (QLE0 Z b ba kb zb cs zr i_COMPACT_STRINGS v_SIOOBE_FORMATTER h0 n0) 0 0 (T71.setTop (mkF m 5 #[.val (.ref b)] [(.int zb)]))
  refine OW.st (B := T71.setTop (mkF m 6 #[.val (.ref b)] [(.ref b), (.int zb)])) (fun _ kk_ => XS.aloadN X71.here hx rfl (hb hby d7_5) rfl rfl kk_) ?_
  obtain ⟨cq73, kq73, q73a, q73b, q73c⟩ := isOf hZ e71 E
  obtain ⟨_, _, ⟨T73, L73, k73, n73⟩, -, X73, ⟨Lc73, hQ73, l73, y73, z73⟩, st73⟩ := X71.virtualBack hx (y := (⟨"java/lang/String", "coder", "()B"⟩ : MethodName)) (z := (⟨"java/lang/String", "coder", "()B"⟩ : MethodName)) hown (mvT hZ (w_40 hw)) (mvT hZ (w_41 hw)) (notFace_of_selects (args := #[]) (mvT hZ (w_43 hw))) (mvT hZ (w_43 hw)) (mvT hZ (w_42 hw)) (by decide) (backOf (W := 1) (rmCO0 l Z a0 hw [] b i_COMPACT_STRINGS v_SIOOBE_FORMATTER h0 n0 O0 F2 hS) hZ (w_44 hw) (w_8 hw) (by decide) (by decide)) q73a q73c (g := (mkF m 6 #[.val (.ref b)] [(.ref b), (.int zb)])) rfl (by rw [hml]; rfl) (Steps.refl _) (argsL := []) (rest := [(.int zb)]) (lenOf pd_9 rfl) rfl (by show 2 * 0 + _ ≤ _; exact Nat.le_of_eq rfl) (hb hby d7_6) (fun _ _ => ⟨rfl, e71, (by decide : 0 + 0 ≤ _), (by decide : 0 + 0 ≤ _)⟩)
  dsimp only [Pt.U, Pt.locs, Pt.cells, Pt.slots] at X73 l73 y73 z73 st73 hQ73
  subst l73 y73 z73
  obtain ⟨rfl, Nq73, e73⟩ := hQ73
  have N73 := Fr.app N0 Nq73
  refine OW.tr (B := T73.setTop (mkF m 9 #[.val (.ref b)] [(.int (0 : Int32)), (.int zb)])) (st73) ?_
  refine OW.st (B := T73.setTop (mkF m 10 #[.val (.ref b)] [(.int (zb >>> ((0 : Int32) &&& 31)))])) (fun _ kk_ => XS.ishr X73.here hx rfl (hb hby d7_9) rfl kk_) ?_
  exact OW.ret X73 hx hlk (i := .ireturn) Bd.returns rfl (Or.inl ⟨rfl, Or.inl rfl, _, rfl⟩) (hb hby d7_10) e73 (by decide) (by decide) ⟨congrArg (fun z => some (Value.int z)) hr, N73, rfl⟩
theorem ef_CX0 (m : MethodId) (x0 : Addr) (x1 : Int32) : entryFrame m #[(.ref x0), (.int x1)] 2 = mkF m 0 #[.val (.ref x0), .val (.int x1)] [] := by first | (simp [entryFrame, mkF, argsToLocals, Value.category]; done) | rfl
def QCX0 (Z : State) (ba : Addr) (kb : ClassId) (zb : Int32) (cs : List Int32) (i : Int32) (mm : Nat) (cc : Int32) (i_COMPACT_STRINGS : Int32) (v_SIOOBE_FORMATTER : Value) (h0 : Heap) (n0 : Nat) (v : Option Value) (h : Heap) (L : List Loc) : Prop := v = some (.int cc) ∧ Fr n0 L ∧ h = h0
set_option maxRecDepth 65536 in
set_option maxHeartbeats 40000000 in
theorem rmCX0 (l : Launch) (Z : State) (a0 : Array Value) (hw : ∀ d ∈ tables_1, d.before a0 Z = true) (ws : List Jvm.Cond) (ba : Addr) (kb : ClassId) (zb : Int32) (cs : List Int32) (i : Int32) (mm : Nat) (cc : Int32) (i_COMPACT_STRINGS : Int32) (v_SIOOBE_FORMATTER : Value) (h0 : Heap) (n0 : Nat) (O0 : Old Z n0 h0) (B : Arv Z h0 ba kb .byte zb (OwnL cs) (.int (0 : Int32))) (hzb : zb.toInt = ((cs.length : Nat) : Int)) (hmax : cs.length ≤ 10) (hi : i.toInt = (mm : Int)) (hcc : cs[mm]? = some cc) (hn : nar .char cc = cc) (hl : ¬ ((255 : Int32) < cc)) (hS : OwnS Z i_COMPACT_STRINGS v_SIOOBE_FORMATTER) :
    MetFree l (⟨"java/lang/StringLatin1", "charAt", "([BI)C"⟩ : MethodName) (head1 (Jvm.Cond.code (⟨"java/lang/StringLatin1", "charAt", "([BI)C"⟩ : MethodName) jdk_43_method_2_code 2 (some .char) :: ws) ({ frames := 2, cells := 0, slots := 0, locals := 27 } : Room)) (fun aa_ UU_ => aa_ = #[(.ref ba), (.int i)] ∧ Z.Warmed39 UU_.vm ∧ UU_.heap = h0) (fun _ _ _ _ _ => True) (fun _ UU_ oo_ UV_ => ∃ vv_ LL_, oo_ = .returned vv_ ∧ QCX0 Z ba kb zb cs i mm cc i_COMPACT_STRINGS v_SIOOBE_FORMATTER h0 n0 vv_ UV_.heap LL_ ∧ FrameEnd UU_ oo_ UV_ LL_ ({ frames := 2, cells := 0, slots := 0, locals := 27 } : Room).cells ({ frames := 2, cells := 0, slots := 0, locals := 27 } : Room).slots) := by
  refine MetFree.of_bodySF (plainFor_of_name pn_3) hisR ?_
  intro p e s m args below meth c s₁ Bd hml0 hP hK
  obtain ⟨rfl, hZ, hh⟩ := hP
  have hx := Bd.exec
  have hby := Bd.bytes
  have hlk := BodyLoose.notSynchronized Bd
  have hml : c.maxLocals = 2 := hml0
  have hown : s.vm.findClass "java/lang/StringLatin1" = some m.cls := findClass_of_methodNamed Bd.named
  have hnm := (name_of_methodNamed Bd.named Bd.method).1
  have X0 : Stand p l e ({ frames := 2, cells := 0, slots := 0, locals := 27 } : Room) s m #[(.ref ba), (.int i)] below meth c s₁ [] 0 0 := Stand.of_body Bd
  have e0 : s₁.heap = h0 := by rw [← hh, Bd.state]; rfl
  have N0 := Fr.nil n0
  suffices hOW : OW p e below s (QCX0 Z ba kb zb cs i mm cc i_COMPACT_STRINGS v_SIOOBE_FORMATTER h0 n0) 0 0 (s₁.setTop (mkF m 0 #[.val (.ref ba), .val (.int i)] [])) by
    obtain ⟨oq1_, oq2_, oq3_, oq4_⟩ := hOW
    exact ⟨oq1_, oq2_, castTop (ef_CX0 m ba i) oq3_, oq4_⟩
  have hS' := hS
  obtain ⟨Si_COMPACT_STRINGS, Sv_SIOOBE_FORMATTER, Rv_SIOOBE_FORMATTER, S__assertionsDisabled, S_HI_BYTE_SHIFT, S_LO_BYTE_SHIFT, Pi_COMPACT_STRINGS⟩ := hS'
  have hmm : mm < cs.length := (List.getElem?_eq_some_iff.mp hcc).1
  refine OW.st (B := s₁.setTop (mkF m 2 #[.val (.ref ba), .val (.int i)] [(.ref ba), (.int i)])) (fun _ kk_ => XS.iloadN X0.here hx rfl (hb hby d14_0) rfl (XS.aloadN X0.here hx rfl (hb hby d14_1) rfl rfl kk_)) ?_
  obtain ⟨cl74, Ar74, q74, S74, Ng74, Hs74, G74⟩ := id B
  refine OW.st (X0.arraylength hx (by rw [e0]; exact Ar74.1) (State.isArrayOf_alike hZ.alike Ar74.2.1) (g := (mkF m 2 #[.val (.ref ba), .val (.int i)] [(.ref ba), (.int i)])) rfl rfl (hb hby d14_2)) ?_
  rw [len_of S74 Ng74]
  show OW p e below s (QCX0 Z ba kb zb cs i mm cc i_COMPACT_STRINGS v_SIOOBE_FORMATTER h0 n0) 0 0 (s₁.setTop (mkF m 3 #[.val (.ref ba), .val (.int i)] [(.int zb), (.int i)]))
  obtain ⟨_, _, ⟨T75, L75, k75, n75⟩, -, X75, ⟨Lc75, hQ75, l75, y75, z75⟩, st75⟩ := Jvm.LawKit.callS X0 hx (y := (⟨"java/lang/String", "checkIndex", "(II)V"⟩ : MethodName)) hown (mvT hZ (w_72 hw)) (mvT hZ (w_73 hw)) (mvT hZ (w_8 hw)) (mvT hZ (w_74 hw)) (by decide) (backOf (W := 0) (rmCK l Z a0 hw [] i zb i_COMPACT_STRINGS v_SIOOBE_FORMATTER h0 n0 O0 (own_nneg hi) (own_ltI hi hzb hmm) hS) hZ (w_74 hw) (w_8 hw) (by decide) (by decide)) (g := (mkF m 3 #[.val (.ref ba), .val (.int i)] [(.int zb), (.int i)])) rfl (by rw [hml]; rfl) (argsL := [(.int i), (.int zb)]) (rest := []) (lenOf pd_10 rfl) rfl (by show 2 * 0 + _ ≤ _; exact Nat.le_of_eq rfl) (hb hby d14_3) (fun _ _ => ⟨rfl, e0, (by decide : 0 + 0 ≤ _), (by decide : 0 + 0 ≤ _)⟩)
  dsimp only [Pt.U, Pt.locs, Pt.cells, Pt.slots] at X75 l75 y75 z75 st75 hQ75
  subst l75 y75 z75
  obtain ⟨rfl, Nq75, e75⟩ := hQ75
  have N75 := Fr.app N0 Nq75
  refine OW.st (B := T75.setTop (mkF m 8 #[.val (.ref ba), .val (.int i)] [(.int i), (.ref ba)])) (fun _ kk_ => st75 _ (XS.aloadN X75.here hx rfl (hb hby d14_6) rfl rfl (XS.iloadN X75.here hx rfl (hb hby d14_7) rfl kk_))) ?_
  obtain ⟨cl76, Ar76, q76, S76, Ng76, Hs76, G76⟩ := id B
  have hin76 : ¬ (i < 0 ∨ cl76.slots.size ≤ (i).toNatClampNeg) := inb_of S76 ⟨own_nneg hi, own_ltI hi hzb hmm⟩
  refine OW.st (B := T75.setTop (mkF m 14 #[.val (.ref ba), .val (.int i)] [(.int (((own_by cc) &&& (255 : Int32)).toUInt32.toUInt16.toUInt32.toInt32))])) (fun _ kk_ => (X75.baloadBytes hx (j := i) (v := (.int (own_by cc))) (by rw [e75]; exact Ar76.1) (State.isArrayOf_alike hZ.alike Ar76.2.1) Ar76.2.2 hin76 (Has.at Hs76 hin76 ((congrArg (fun q => (OwnL cs).getD q _) (own_tn hi)).trans (own_getL hcc))) (g := (mkF m 8 #[.val (.ref ba), .val (.int i)] [(.int i), (.ref ba)])) rfl rfl (hb hby d14_8)) _ (XS.sipush X75.here hx rfl (hb hby d14_9) (XS.iand X75.here hx rfl (hb hby d14_12) rfl (XS.i2c X75.here hx rfl (hb hby d14_13) rfl kk_)))) ?_
  exact OW.ret X75 hx hlk (i := .ireturn) Bd.returns (own_nc _) (Or.inl ⟨rfl, Or.inr (Or.inr (Or.inr (Or.inl rfl))), _, rfl⟩) (hb hby d14_14) e75 (by decide) (by decide) ⟨congrArg (fun z => some (Value.int z)) (own_lc hn hl), N75, rfl⟩
theorem ef_CA0 (m : MethodId) (x0 : Addr) (x1 : Int32) : entryFrame m #[(.ref x0), (.int x1)] 2 = mkF m 0 #[.val (.ref x0), .val (.int x1)] [] := by first | (simp [entryFrame, mkF, argsToLocals, Value.category]; done) | rfl
def QCA0 (Z : State) (b : Addr) (ba : Addr) (kb : ClassId) (zb : Int32) (cs : List Int32) (i : Int32) (mm : Nat) (cc : Int32) (i_COMPACT_STRINGS : Int32) (v_SIOOBE_FORMATTER : Value) (h0 : Heap) (n0 : Nat) (v : Option Value) (h : Heap) (L : List Loc) : Prop := v = some (.int cc) ∧ Fr n0 L ∧ h = h0
set_option maxRecDepth 65536 in
set_option maxHeartbeats 40000000 in
theorem rmCA0 (l : Launch) (Z : State) (a0 : Array Value) (hw : ∀ d ∈ tables_1, d.before a0 Z = true) (ws : List Jvm.Cond) (b : Addr) (ba : Addr) (kb : ClassId) (zb : Int32) (cs : List Int32) (i : Int32) (mm : Nat) (cc : Int32) (i_COMPACT_STRINGS : Int32) (v_SIOOBE_FORMATTER : Value) (h0 : Heap) (n0 : Nat) (O0 : Old Z n0 h0) (E : Exa Z h0 b "java/lang/String") (F1 : Fld Z h0 b "java/lang/String" "value" "[B" (.ref ba)) (F2 : Fld Z h0 b "java/lang/String" "coder" "B" (.int (0 : Int32))) (B : Arv Z h0 ba kb .byte zb (OwnL cs) (.int (0 : Int32))) (hzb : zb.toInt = ((cs.length : Nat) : Int)) (hmax : cs.length ≤ 10) (hi : i.toInt = (mm : Int)) (hcc : cs[mm]? = some cc) (hn : nar .char cc = cc) (hl : ¬ ((255 : Int32) < cc)) (hS : OwnS Z i_COMPACT_STRINGS v_SIOOBE_FORMATTER) :
    MetFree l (⟨"java/lang/String", "charAt", "(I)C"⟩ : MethodName) (head1 (Jvm.Cond.code (⟨"java/lang/String", "charAt", "(I)C"⟩ : MethodName) jdk_42_method_56_code 2 (some .char) :: ws) ({ frames := 3, cells := 0, slots := 0, locals := 40 } : Room)) (fun aa_ UU_ => aa_ = #[(.ref b), (.int i)] ∧ Z.Warmed39 UU_.vm ∧ UU_.heap = h0) (fun _ _ _ _ _ => True) (fun _ UU_ oo_ UV_ => ∃ vv_ LL_, oo_ = .returned vv_ ∧ QCA0 Z b ba kb zb cs i mm cc i_COMPACT_STRINGS v_SIOOBE_FORMATTER h0 n0 vv_ UV_.heap LL_ ∧ FrameEnd UU_ oo_ UV_ LL_ ({ frames := 3, cells := 0, slots := 0, locals := 40 } : Room).cells ({ frames := 3, cells := 0, slots := 0, locals := 40 } : Room).slots) := by
  refine MetFree.of_bodySF (plainFor_of_name pn_0) hisR ?_
  intro p e s m args below meth c s₁ Bd hml0 hP hK
  obtain ⟨rfl, hZ, hh⟩ := hP
  have hx := Bd.exec
  have hby := Bd.bytes
  have hlk := BodyLoose.notSynchronized Bd
  have hml : c.maxLocals = 2 := hml0
  have hown : s.vm.findClass "java/lang/String" = some m.cls := findClass_of_methodNamed Bd.named
  have hnm := (name_of_methodNamed Bd.named Bd.method).1
  have X0 : Stand p l e ({ frames := 3, cells := 0, slots := 0, locals := 40 } : Room) s m #[(.ref b), (.int i)] below meth c s₁ [] 0 0 := Stand.of_body Bd
  have e0 : s₁.heap = h0 := by rw [← hh, Bd.state]; rfl
  have N0 := Fr.nil n0
  suffices hOW : OW p e below s (QCA0 Z b ba kb zb cs i mm cc i_COMPACT_STRINGS v_SIOOBE_FORMATTER h0 n0) 0 0 (s₁.setTop (mkF m 0 #[.val (.ref b), .val (.int i)] [])) by
    obtain ⟨oq1_, oq2_, oq3_, oq4_⟩ := hOW
    exact ⟨oq1_, oq2_, castTop (ef_CA0 m b i) oq3_, oq4_⟩
  have hS' := hS
  obtain ⟨Si_COMPACT_STRINGS, Sv_SIOOBE_FORMATTER, Rv_SIOOBE_FORMATTER, S__assertionsDisabled, S_HI_BYTE_SHIFT, S_LO_BYTE_SHIFT, Pi_COMPACT_STRINGS⟩ := hS'
  have hmm : mm < cs.length := (List.getElem?_eq_some_iff.mp hcc).1
  refine OW.st (B := s₁.setTop (mkF m 1 #[.val (.ref b), .val (.int i)] [(.ref b)])) (fun _ kk_ => XS.aloadN X0.here hx rfl (hb hby d12_0) rfl rfl kk_) ?_
  obtain ⟨cq77, kq77, q77a, q77b, q77c⟩ := isOf hZ e0 E
  obtain ⟨_, _, ⟨T77, L77, k77, n77⟩, -, X77, ⟨Lc77, hQ77, l77, y77, z77⟩, st77⟩ := X0.virtualBack hx (y := (⟨"java/lang/String", "isLatin1", "()Z"⟩ : MethodName)) (z := (⟨"java/lang/String", "isLatin1", "()Z"⟩ : MethodName)) hown (mvT hZ (w_63 hw)) (mvT hZ (w_64 hw)) (notFace_of_selects (args := #[]) (mvT hZ (w_66 hw))) (mvT hZ (w_66 hw)) (mvT hZ (w_65 hw)) (by decide) (backOf (W := 0) (rmIL0 l Z a0 hw [] b i_COMPACT_STRINGS v_SIOOBE_FORMATTER h0 n0 O0 F2 hS) hZ (w_67 hw) (w_8 hw) (by decide) (by decide)) q77a q77c (g := (mkF m 1 #[.val (.ref b), .val (.int i)] [(.ref b)])) rfl (by rw [hml]; rfl) (Steps.refl _) (argsL := []) (rest := []) (lenOf pd_11 rfl) rfl (by show 2 * 0 + _ ≤ _; exact Nat.le_of_eq rfl) (hb hby d12_1) (fun _ _ => ⟨rfl, e0, (by decide : 0 + 0 ≤ _), (by decide : 0 + 0 ≤ _)⟩)
  dsimp only [Pt.U, Pt.locs, Pt.cells, Pt.slots] at X77 l77 y77 z77 st77 hQ77
  subst l77 y77 z77
  obtain ⟨rfl, Nq77, e77⟩ := hQ77
  have N77 := Fr.app N0 Nq77
  refine OW.tr (B := T77.setTop (mkF m 4 #[.val (.ref b), .val (.int i)] [(.int (1 : Int32))])) (st77) ?_
  refine OW.st (B := T77.setTop (mkF m 8 #[.val (.ref b), .val (.int i)] [(.ref b)])) (fun _ kk_ => XS.ifNo X77.here hx rfl (hb hby d12_4) rfl ((if0 _ _).trans (feq (by decide)).1) (XS.aloadN X77.here hx rfl (hb hby d12_7) rfl rfl kk_)) ?_
  obtain ⟨T78, X78, e78, st78⟩ := getF X77 hx hZ hown (host := "") (Or.inl (w_29 hw)) Via.refl e77 F1 (g := (mkF m 8 #[.val (.ref b), .val (.int i)] [(.ref b)])) rfl rfl (hb hby d12_8)
  refine OW.st (B := T78.setTop (mkF m 12 #[.val (.ref b), .val (.int i)] [(.int i), (.ref ba)])) (fun _ kk_ => st78 _ (XS.iloadN X78.here hx rfl (hb hby d12_11) rfl kk_)) ?_
  obtain ⟨_, _, ⟨T79, L79, k79, n79⟩, -, X79, ⟨Lc79, hQ79, l79, y79, z79⟩, st79⟩ := Jvm.LawKit.callS X78 hx (y := (⟨"java/lang/StringLatin1", "charAt", "([BI)C"⟩ : MethodName)) hown (mvT hZ (w_68 hw)) (mvT hZ (w_69 hw)) (mvT hZ (w_70 hw)) (mvT hZ (w_71 hw)) (by decide) (backOf (W := 0) (rmCX0 l Z a0 hw [] ba kb zb cs i mm cc i_COMPACT_STRINGS v_SIOOBE_FORMATTER h0 n0 O0 B hzb hmax hi hcc hn hl hS) hZ (w_71 hw) (w_70 hw) (by decide) (by decide)) (g := (mkF m 12 #[.val (.ref b), .val (.int i)] [(.int i), (.ref ba)])) rfl (by rw [hml]; rfl) (argsL := [(.ref ba), (.int i)]) (rest := []) (lenOf pd_8 rfl) rfl (by show 2 * 0 + _ ≤ _; exact Nat.le_of_eq rfl) (hb hby d12_12) (fun _ _ => ⟨rfl, e78, (by decide : 0 + 0 ≤ _), (by decide : 0 + 0 ≤ _)⟩)
  dsimp only [Pt.U, Pt.locs, Pt.cells, Pt.slots] at X79 l79 y79 z79 st79 hQ79
  subst l79 y79 z79
  obtain ⟨rfl, Nq79, e79⟩ := hQ79
  have N79 := Fr.app N77 Nq79
  refine OW.st (B := T79.setTop (mkF m 15 #[.val (.ref b), .val (.int i)] [(.int cc)])) (fun _ kk_ => st79 _ kk_) ?_
  exact OW.ret X79 hx hlk (i := .ireturn) Bd.returns (congrArg Value.int hn) (Or.inl ⟨rfl, Or.inr (Or.inr (Or.inr (Or.inl rfl))), _, rfl⟩) (hb hby d12_15) e79 (by decide) (by decide) ⟨rfl, N79, rfl⟩
theorem ef_LE1 (m : MethodId) (x0 : Addr) : entryFrame m #[(.ref x0)] 1 = mkF m 0 #[.val (.ref x0)] [] := by first | (simp [entryFrame, mkF, argsToLocals, Value.category]; done) | rfl
def QLE1 (Z : State) (b : Addr) (ba : Addr) (kb : ClassId) (zb : Int32) (cs : List Int32) (zr : Int32) (i_COMPACT_STRINGS : Int32) (v_SIOOBE_FORMATTER : Value) (h0 : Heap) (n0 : Nat) (v : Option Value) (h : Heap) (L : List Loc) : Prop := v = some (.int zr) ∧ Fr n0 L ∧ h = h0
set_option maxRecDepth 65536 in
set_option maxHeartbeats 40000000 in
theorem rmLE1 (l : Launch) (Z : State) (a0 : Array Value) (hw : ∀ d ∈ tables_1, d.before a0 Z = true) (ws : List Jvm.Cond) (b : Addr) (ba : Addr) (kb : ClassId) (zb : Int32) (cs : List Int32) (zr : Int32) (i_COMPACT_STRINGS : Int32) (v_SIOOBE_FORMATTER : Value) (h0 : Heap) (n0 : Nat) (O0 : Old Z n0 h0) (E : Exa Z h0 b "java/lang/String") (F1 : Fld Z h0 b "java/lang/String" "value" "[B" (.ref ba)) (F2 : Fld Z h0 b "java/lang/String" "coder" "B" (.int (1 : Int32))) (B : Arv Z h0 ba kb .byte zb (OwnU cs) (.int (0 : Int32))) (hr : (zb >>> ((1 : Int32) &&& 31)) = zr) (hS : OwnS Z i_COMPACT_STRINGS v_SIOOBE_FORMATTER) :
    MetFree l (⟨"java/lang/String", "length", "()I"⟩ : MethodName) (head1 (Jvm.Cond.code (⟨"java/lang/String", "length", "()I"⟩ : MethodName) jdk_42_method_54_code 1 (some .int) :: ws) ({ frames := 1, cells := 0, slots := 0, locals := 13 } : Room)) (fun aa_ UU_ => aa_ = #[(.ref b)] ∧ Z.Warmed39 UU_.vm ∧ UU_.heap = h0) (fun _ _ _ _ _ => True) (fun _ UU_ oo_ UV_ => ∃ vv_ LL_, oo_ = .returned vv_ ∧ QLE1 Z b ba kb zb cs zr i_COMPACT_STRINGS v_SIOOBE_FORMATTER h0 n0 vv_ UV_.heap LL_ ∧ FrameEnd UU_ oo_ UV_ LL_ ({ frames := 1, cells := 0, slots := 0, locals := 13 } : Room).cells ({ frames := 1, cells := 0, slots := 0, locals := 13 } : Room).slots) := by
  refine MetFree.of_bodySF (plainFor_of_name pn_0) hisR ?_
  intro p e s m args below meth c s₁ Bd hml0 hP hK
  obtain ⟨rfl, hZ, hh⟩ := hP
  have hx := Bd.exec
  have hby := Bd.bytes
  have hlk := BodyLoose.notSynchronized Bd
  have hml : c.maxLocals = 1 := hml0
  have hown : s.vm.findClass "java/lang/String" = some m.cls := findClass_of_methodNamed Bd.named
  have hnm := (name_of_methodNamed Bd.named Bd.method).1
  have X0 : Stand p l e ({ frames := 1, cells := 0, slots := 0, locals := 13 } : Room) s m #[(.ref b)] below meth c s₁ [] 0 0 := Stand.of_body Bd
  have e0 : s₁.heap = h0 := by rw [← hh, Bd.state]; rfl
  have N0 := Fr.nil n0
  suffices hOW : OW p e below s (QLE1 Z b ba kb zb cs zr i_COMPACT_STRINGS v_SIOOBE_FORMATTER h0 n0) 0 0 (s₁.setTop (mkF m 0 #[.val (.ref b)] [])) by
    obtain ⟨oq1_, oq2_, oq3_, oq4_⟩ := hOW
    exact ⟨oq1_, oq2_, castTop (ef_LE1 m b) oq3_, oq4_⟩
  have hS' := hS
  obtain ⟨Si_COMPACT_STRINGS, Sv_SIOOBE_FORMATTER, Rv_SIOOBE_FORMATTER, S__assertionsDisabled, S_HI_BYTE_SHIFT, S_LO_BYTE_SHIFT, Pi_COMPACT_STRINGS⟩ := hS'
  refine OW.st (B := s₁.setTop (mkF m 1 #[.val (.ref b)] [(.ref b)])) (fun _ kk_ => XS.aloadN X0.here hx rfl (hb hby d7_0) rfl rfl kk_) ?_
  obtain ⟨T80, X80, e80, st80⟩ := getF X0 hx hZ hown (host := "") (Or.inl (w_29 hw)) Via.refl e0 F1 (g := (mkF m 1 #[.val (.ref b)] [(.ref b)])) rfl rfl (hb hby d7_1)
  refine OW.st (B := T80.setTop (mkF m 4 #[.val (.ref b)] [(.ref ba)])) (fun _ kk_ => st80 _ kk_) ?_
  obtain ⟨cl81, Ar81, q81, S81, Ng81, Hs81, G81⟩ := id B
  refine OW.st (X80.arraylength hx (by rw [e80]; exact Ar81.1) (State.isArrayOf_alike hZ.alike Ar81.2.1) (g := (mkF m 4 #[.val (.ref b)] [(.ref ba)])) rfl rfl (hb hby d7_4)) ?_
  rw [len_of S81 Ng81]
  show OW p e below s (QLE1 Z b ba kb zb cs zr i_COMPACT_STRINGS v_SIOOBE_FORMATTER h0 n0) 0 0 (T80.setTop (mkF m 5 #[.val (.ref b)] [(.int zb)]))
  refine OW.st (B := T80.setTop (mkF m 6 #[.val (.ref b)] [(.ref b), (.int zb)])) (fun _ kk_ => XS.aloadN X80.here hx rfl (hb hby d7_5) rfl rfl kk_) ?_
  obtain ⟨cq82, kq82, q82a, q82b, q82c⟩ := isOf hZ e80 E
  obtain ⟨_, _, ⟨T82, L82, k82, n82⟩, -, X82, ⟨Lc82, hQ82, l82, y82, z82⟩, st82⟩ := X80.virtualBack hx (y := (⟨"java/lang/String", "coder", "()B"⟩ : MethodName)) (z := (⟨"java/lang/String", "coder", "()B"⟩ : MethodName)) hown (mvT hZ (w_40 hw)) (mvT hZ (w_41 hw)) (notFace_of_selects (args := #[]) (mvT hZ (w_43 hw))) (mvT hZ (w_43 hw)) (mvT hZ (w_42 hw)) (by decide) (backOf (W := 1) (rmCO1 l Z a0 hw [] b i_COMPACT_STRINGS v_SIOOBE_FORMATTER h0 n0 O0 F2 hS) hZ (w_44 hw) (w_8 hw) (by decide) (by decide)) q82a q82c (g := (mkF m 6 #[.val (.ref b)] [(.ref b), (.int zb)])) rfl (by rw [hml]; rfl) (Steps.refl _) (argsL := []) (rest := [(.int zb)]) (lenOf pd_9 rfl) rfl (by show 2 * 0 + _ ≤ _; exact Nat.le_of_eq rfl) (hb hby d7_6) (fun _ _ => ⟨rfl, e80, (by decide : 0 + 0 ≤ _), (by decide : 0 + 0 ≤ _)⟩)
  dsimp only [Pt.U, Pt.locs, Pt.cells, Pt.slots] at X82 l82 y82 z82 st82 hQ82
  subst l82 y82 z82
  obtain ⟨rfl, Nq82, e82⟩ := hQ82
  have N82 := Fr.app N0 Nq82
  refine OW.tr (B := T82.setTop (mkF m 9 #[.val (.ref b)] [(.int (1 : Int32)), (.int zb)])) (st82) ?_
  refine OW.st (B := T82.setTop (mkF m 10 #[.val (.ref b)] [(.int (zb >>> ((1 : Int32) &&& 31)))])) (fun _ kk_ => XS.ishr X82.here hx rfl (hb hby d7_9) rfl kk_) ?_
  exact OW.ret X82 hx hlk (i := .ireturn) Bd.returns rfl (Or.inl ⟨rfl, Or.inl rfl, _, rfl⟩) (hb hby d7_10) e82 (by decide) (by decide) ⟨congrArg (fun z => some (Value.int z)) hr, N82, rfl⟩
theorem ef_UL (m : MethodId) (x0 : Addr) : entryFrame m #[(.ref x0)] 1 = mkF m 0 #[.val (.ref x0)] [] := by first | (simp [entryFrame, mkF, argsToLocals, Value.category]; done) | rfl
def QUL (Z : State) (ba : Addr) (kb : ClassId) (zb : Int32) (cs : List Int32) (h0 : Heap) (n0 : Nat) (v : Option Value) (h : Heap) (L : List Loc) : Prop := v = some (.int (zb >>> ((1 : Int32) &&& 31))) ∧ Fr n0 L ∧ h = h0
set_option maxRecDepth 65536 in
set_option maxHeartbeats 40000000 in
theorem rmUL (l : Launch) (Z : State) (a0 : Array Value) (hw : ∀ d ∈ tables_1, d.before a0 Z = true) (ws : List Jvm.Cond) (ba : Addr) (kb : ClassId) (zb : Int32) (cs : List Int32) (h0 : Heap) (n0 : Nat) (O0 : Old Z n0 h0) (B : Arv Z h0 ba kb .byte zb (OwnU cs) (.int (0 : Int32))) :
    MetFree l (⟨"java/lang/StringUTF16", "length", "([B)I"⟩ : MethodName) (head1 (Jvm.Cond.code (⟨"java/lang/StringUTF16", "length", "([B)I"⟩ : MethodName) jdk_52_method_6_code 1 (some .int) :: ws) ({ frames := 0, cells := 0, slots := 0, locals := 0 } : Room)) (fun aa_ UU_ => aa_ = #[(.ref ba)] ∧ Z.Warmed39 UU_.vm ∧ UU_.heap = h0) (fun _ _ _ _ _ => True) (fun _ UU_ oo_ UV_ => ∃ vv_ LL_, oo_ = .returned vv_ ∧ QUL Z ba kb zb cs h0 n0 vv_ UV_.heap LL_ ∧ FrameEnd UU_ oo_ UV_ LL_ ({ frames := 0, cells := 0, slots := 0, locals := 0 } : Room).cells ({ frames := 0, cells := 0, slots := 0, locals := 0 } : Room).slots) := by
  refine MetFree.of_bodySF (plainFor_of_name pn_2) hisR ?_
  intro p e s m args below meth c s₁ Bd hml0 hP hK
  obtain ⟨rfl, hZ, hh⟩ := hP
  have hx := Bd.exec
  have hby := Bd.bytes
  have hlk := BodyLoose.notSynchronized Bd
  have hml : c.maxLocals = 1 := hml0
  have hown : s.vm.findClass "java/lang/StringUTF16" = some m.cls := findClass_of_methodNamed Bd.named
  have hnm := (name_of_methodNamed Bd.named Bd.method).1
  have X0 : Stand p l e ({ frames := 0, cells := 0, slots := 0, locals := 0 } : Room) s m #[(.ref ba)] below meth c s₁ [] 0 0 := Stand.of_body Bd
  have e0 : s₁.heap = h0 := by rw [← hh, Bd.state]; rfl
  have N0 := Fr.nil n0
  suffices hOW : OW p e below s (QUL Z ba kb zb cs h0 n0) 0 0 (s₁.setTop (mkF m 0 #[.val (.ref ba)] [])) by
    obtain ⟨oq1_, oq2_, oq3_, oq4_⟩ := hOW
    exact ⟨oq1_, oq2_, castTop (ef_UL m ba) oq3_, oq4_⟩
  refine OW.st (B := s₁.setTop (mkF m 1 #[.val (.ref ba)] [(.ref ba)])) (fun _ kk_ => XS.aloadN X0.here hx rfl (hb hby d24_0) rfl rfl kk_) ?_
  obtain ⟨cl83, Ar83, q83, S83, Ng83, Hs83, G83⟩ := id B
  refine OW.st (X0.arraylength hx (by rw [e0]; exact Ar83.1) (State.isArrayOf_alike hZ.alike Ar83.2.1) (g := (mkF m 1 #[.val (.ref ba)] [(.ref ba)])) rfl rfl (hb hby d24_1)) ?_
  rw [len_of S83 Ng83]
  show OW p e below s (QUL Z ba kb zb cs h0 n0) 0 0 (s₁.setTop (mkF m 2 #[.val (.ref ba)] [(.int zb)]))
  refine OW.st (B := s₁.setTop (mkF m 4 #[.val (.ref ba)] [(.int (zb >>> ((1 : Int32) &&& 31)))])) (fun _ kk_ => XS.iconst X0.here hx rfl (hb hby d24_2) (XS.ishr X0.here hx rfl (hb hby d24_3) rfl kk_)) ?_
  exact OW.ret X0 hx hlk (i := .ireturn) Bd.returns rfl (Or.inl ⟨rfl, Or.inl rfl, _, rfl⟩) (hb hby d24_4) e0 (by decide) (by decide) ⟨rfl, N0, rfl⟩
theorem ef_UK (m : MethodId) (x0 : Int32) (x1 : Addr) : entryFrame m #[(.int x0), (.ref x1)] 2 = mkF m 0 #[.val (.int x0), .val (.ref x1)] [] := by first | (simp [entryFrame, mkF, argsToLocals, Value.category]; done) | rfl
def QUK (Z : State) (ba : Addr) (kb : ClassId) (zb : Int32) (cs : List Int32) (i : Int32) (mm : Nat) (i_COMPACT_STRINGS : Int32) (v_SIOOBE_FORMATTER : Value) (h0 : Heap) (n0 : Nat) (v : Option Value) (h : Heap) (L : List Loc) : Prop := v = none ∧ Fr n0 L ∧ h = h0
set_option maxRecDepth 65536 in
set_option maxHeartbeats 40000000 in
theorem rmUK (l : Launch) (Z : State) (a0 : Array Value) (hw : ∀ d ∈ tables_1, d.before a0 Z = true) (ws : List Jvm.Cond) (ba : Addr) (kb : ClassId) (zb : Int32) (cs : List Int32) (i : Int32) (mm : Nat) (i_COMPACT_STRINGS : Int32) (v_SIOOBE_FORMATTER : Value) (h0 : Heap) (n0 : Nat) (O0 : Old Z n0 h0) (B : Arv Z h0 ba kb .byte zb (OwnU cs) (.int (0 : Int32))) (hzb : zb.toInt = ((2 * cs.length : Nat) : Int)) (hmax : cs.length ≤ 10) (hi : i.toInt = (mm : Int)) (hmm : mm < cs.length) (hS : OwnS Z i_COMPACT_STRINGS v_SIOOBE_FORMATTER) :
    MetFree l (⟨"java/lang/StringUTF16", "checkIndex", "(I[B)V"⟩ : MethodName) (head1 (Jvm.Cond.code (⟨"java/lang/StringUTF16", "checkIndex", "(I[B)V"⟩ : MethodName) jdk_52_method_91_code 2 none :: ws) ({ frames := 2, cells := 0, slots := 0, locals := 27 } : Room)) (fun aa_ UU_ => aa_ = #[(.int i), (.ref ba)] ∧ Z.Warmed39 UU_.vm ∧ UU_.heap = h0) (fun _ _ _ _ _ => True) (fun _ UU_ oo_ UV_ => ∃ vv_ LL_, oo_ = .returned vv_ ∧ QUK Z ba kb zb cs i mm i_COMPACT_STRINGS v_SIOOBE_FORMATTER h0 n0 vv_ UV_.heap LL_ ∧ FrameEnd UU_ oo_ UV_ LL_ ({ frames := 2, cells := 0, slots := 0, locals := 27 } : Room).cells ({ frames := 2, cells := 0, slots := 0, locals := 27 } : Room).slots) := by
  refine MetFree.of_bodySF (plainFor_of_name pn_2) hisR ?_
  intro p e s m args below meth c s₁ Bd hml0 hP hK
  obtain ⟨rfl, hZ, hh⟩ := hP
  have hx := Bd.exec
  have hby := Bd.bytes
  have hlk := BodyLoose.notSynchronized Bd
  have hml : c.maxLocals = 2 := hml0
  have hown : s.vm.findClass "java/lang/StringUTF16" = some m.cls := findClass_of_methodNamed Bd.named
  have hnm := (name_of_methodNamed Bd.named Bd.method).1
  have X0 : Stand p l e ({ frames := 2, cells := 0, slots := 0, locals := 27 } : Room) s m #[(.int i), (.ref ba)] below meth c s₁ [] 0 0 := Stand.of_body Bd
  have e0 : s₁.heap = h0 := by rw [← hh, Bd.state]; rfl
  have N0 := Fr.nil n0
  suffices hOW : OW p e below s (QUK Z ba kb zb cs i mm i_COMPACT_STRINGS v_SIOOBE_FORMATTER h0 n0) 0 0 (s₁.setTop (mkF m 0 #[.val (.int i), .val (.ref ba)] [])) by
    obtain ⟨oq1_, oq2_, oq3_, oq4_⟩ := hOW
    exact ⟨oq1_, oq2_, castTop (ef_UK m i ba) oq3_, oq4_⟩
  have hS' := hS
  obtain ⟨Si_COMPACT_STRINGS, Sv_SIOOBE_FORMATTER, Rv_SIOOBE_FORMATTER, S__assertionsDisabled, S_HI_BYTE_SHIFT, S_LO_BYTE_SHIFT, Pi_COMPACT_STRINGS⟩ := hS'
  refine OW.st (B := s₁.setTop (mkF m 2 #[.val (.int i), .val (.ref ba)] [(.ref ba), (.int i)])) (fun _ kk_ => XS.iloadN X0.here hx rfl (hb hby d23_0) rfl (XS.aloadN X0.here hx rfl (hb hby d23_1) rfl rfl kk_)) ?_
  obtain ⟨_, _, ⟨T84, L84, k84, n84⟩, -, X84, ⟨Lc84, hQ84, l84, y84, z84⟩, st84⟩ := Jvm.LawKit.callS X0 hx (y := (⟨"java/lang/StringUTF16", "length", "([B)I"⟩ : MethodName)) hown (mvT hZ (w_105 hw)) (mvT hZ (w_106 hw)) (mvT hZ (w_50 hw)) (mvT hZ (w_107 hw)) (by decide) (backOf (W := 1) (rmUL l Z a0 hw [] ba kb zb cs h0 n0 O0 B) hZ (w_107 hw) (w_50 hw) (by decide) (by decide)) (g := (mkF m 2 #[.val (.int i), .val (.ref ba)] [(.ref ba), (.int i)])) rfl (by rw [hml]; rfl) (argsL := [(.ref ba)]) (rest := [(.int i)]) (lenOf pd_12 rfl) rfl (by show 2 * 0 + _ ≤ _; exact Nat.le_of_eq rfl) (hb hby d23_2) (fun _ _ => ⟨rfl, e0, (by decide : 0 + 0 ≤ _), (by decide : 0 + 0 ≤ _)⟩)
  dsimp only [Pt.U, Pt.locs, Pt.cells, Pt.slots] at X84 l84 y84 z84 st84 hQ84
  subst l84 y84 z84
  obtain ⟨rfl, Nq84, e84⟩ := hQ84
  have N84 := Fr.app N0 Nq84
  refine OW.st (B := T84.setTop (mkF m 5 #[.val (.int i), .val (.ref ba)] [(.int (zb >>> ((1 : Int32) &&& 31))), (.int i)])) (fun _ kk_ => st84 _ kk_) ?_
  obtain ⟨_, _, ⟨T85, L85, k85, n85⟩, -, X85, ⟨Lc85, hQ85, l85, y85, z85⟩, st85⟩ := Jvm.LawKit.callS X84 hx (y := (⟨"java/lang/String", "checkIndex", "(II)V"⟩ : MethodName)) hown (mvT hZ (w_108 hw)) (mvT hZ (w_73 hw)) (mvT hZ (w_8 hw)) (mvT hZ (w_74 hw)) (by decide) (backOf (W := 0) (rmCK l Z a0 hw [] i (zb >>> ((1 : Int32) &&& 31)) i_COMPACT_STRINGS v_SIOOBE_FORMATTER h0 n0 O0 (own_nneg hi) (own_hlf hi hzb hmm hmax) hS) hZ (w_74 hw) (w_8 hw) (by decide) (by decide)) (g := (mkF m 5 #[.val (.int i), .val (.ref ba)] [(.int (zb >>> ((1 : Int32) &&& 31))), (.int i)])) rfl (by rw [hml]; rfl) (argsL := [(.int i), (.int (zb >>> ((1 : Int32) &&& 31)))]) (rest := []) (lenOf pd_10 rfl) rfl (by show 2 * 0 + _ ≤ _; exact Nat.le_of_eq rfl) (hb hby d23_5) (fun _ _ => ⟨rfl, e84, (by decide : 0 + 0 ≤ _), (by decide : 0 + 0 ≤ _)⟩)
  dsimp only [Pt.U, Pt.locs, Pt.cells, Pt.slots] at X85 l85 y85 z85 st85 hQ85
  subst l85 y85 z85
  obtain ⟨rfl, Nq85, e85⟩ := hQ85
  have N85 := Fr.app N84 Nq85
  refine OW.st (B := T85.setTop (mkF m 8 #[.val (.int i), .val (.ref ba)] [])) (fun _ kk_ => st85 _ kk_) ?_
  exact OW.retV X85 hx hlk Bd.returns (hb hby d23_8) e85 (by decide) (by decide) ⟨rfl, N85, rfl⟩
theorem ef_CX1 (m : MethodId) (x0 : Addr) (x1 : Int32) : entryFrame m #[(.ref x0), (.int x1)] 2 = mkF m 0 #[.val (.ref x0), .val (.int x1)] [] := by first | (simp [entryFrame, mkF, argsToLocals, Value.category]; done) | rfl
def QCX1 (Z : State) (ba : Addr) (kb : ClassId) (zb : Int32) (cs : List Int32) (i : Int32) (mm : Nat) (cc : Int32) (i_COMPACT_STRINGS : Int32) (v_SIOOBE_FORMATTER : Value) (h0 : Heap) (n0 : Nat) (v : Option Value) (h : Heap) (L : List Loc) : Prop := v = some (.int cc) ∧ Fr n0 L ∧ h = h0
set_option maxRecDepth 65536 in
set_option maxHeartbeats 40000000 in
theorem rmCX1 (l : Launch) (Z : State) (a0 : Array Value) (hw : ∀ d ∈ tables_1, d.before a0 Z = true) (ws : List Jvm.Cond) (ba : Addr) (kb : ClassId) (zb : Int32) (cs : List Int32) (i : Int32) (mm : Nat) (cc : Int32) (i_COMPACT_STRINGS : Int32) (v_SIOOBE_FORMATTER : Value) (h0 : Heap) (n0 : Nat) (O0 : Old Z n0 h0) (B : Arv Z h0 ba kb .byte zb (OwnU cs) (.int (0 : Int32))) (hzb : zb.toInt = ((2 * cs.length : Nat) : Int)) (hmax : cs.length ≤ 10) (hi : i.toInt = (mm : Int)) (hcc : cs[mm]? = some cc) (hn : nar .char cc = cc) (hS : OwnS Z i_COMPACT_STRINGS v_SIOOBE_FORMATTER) :
    MetFree l (⟨"java/lang/StringUTF16", "charAt", "([BI)C"⟩ : MethodName) (head1 (Jvm.Cond.code (⟨"java/lang/StringUTF16", "charAt", "([BI)C"⟩ : MethodName) jdk_52_method_83_code 2 (some .char) :: ws) ({ frames := 3, cells := 0, slots := 0, locals := 40 } : Room)) (fun aa_ UU_ => aa_ = #[(.ref ba), (.int i)] ∧ Z.Warmed39 UU_.vm ∧ UU_.heap = h0) (fun _ _ _ _ _ => True) (fun _ UU_ oo_ UV_ => ∃ vv_ LL_, oo_ = .returned vv_ ∧ QCX1 Z ba kb zb cs i mm cc i_COMPACT_STRINGS v_SIOOBE_FORMATTER h0 n0 vv_ UV_.heap LL_ ∧ FrameEnd UU_ oo_ UV_ LL_ ({ frames := 3, cells := 0, slots := 0, locals := 40 } : Room).cells ({ frames := 3, cells := 0, slots := 0, locals := 40 } : Room).slots) := by
  refine MetFree.of_bodySF (plainFor_of_name pn_2) hisR ?_
  intro p e s m args below meth c s₁ Bd hml0 hP hK
  obtain ⟨rfl, hZ, hh⟩ := hP
  have hx := Bd.exec
  have hby := Bd.bytes
  have hlk := BodyLoose.notSynchronized Bd
  have hml : c.maxLocals = 2 := hml0
  have hown : s.vm.findClass "java/lang/StringUTF16" = some m.cls := findClass_of_methodNamed Bd.named
  have hnm := (name_of_methodNamed Bd.named Bd.method).1
  have X0 : Stand p l e ({ frames := 3, cells := 0, slots := 0, locals := 40 } : Room) s m #[(.ref ba), (.int i)] below meth c s₁ [] 0 0 := Stand.of_body Bd
  have e0 : s₁.heap = h0 := by rw [← hh, Bd.state]; rfl
  have N0 := Fr.nil n0
  suffices hOW : OW p e below s (QCX1 Z ba kb zb cs i mm cc i_COMPACT_STRINGS v_SIOOBE_FORMATTER h0 n0) 0 0 (s₁.setTop (mkF m 0 #[.val (.ref ba), .val (.int i)] [])) by
    obtain ⟨oq1_, oq2_, oq3_, oq4_⟩ := hOW
    exact ⟨oq1_, oq2_, castTop (ef_CX1 m ba i) oq3_, oq4_⟩
  have hS' := hS
  obtain ⟨Si_COMPACT_STRINGS, Sv_SIOOBE_FORMATTER, Rv_SIOOBE_FORMATTER, S__assertionsDisabled, S_HI_BYTE_SHIFT, S_LO_BYTE_SHIFT, Pi_COMPACT_STRINGS⟩ := hS'
  have hmm : mm < cs.length := (List.getElem?_eq_some_iff.mp hcc).1
  have hz2 := hzb
  have hch' := hn
  refine OW.st (B := s₁.setTop (mkF m 2 #[.val (.ref ba), .val (.int i)] [(.ref ba), (.int i)])) (fun _ kk_ => XS.iloadN X0.here hx rfl (hb hby d22_0) rfl (XS.aloadN X0.here hx rfl (hb hby d22_1) rfl rfl kk_)) ?_
  obtain ⟨_, _, ⟨T86, L86, k86, n86⟩, -, X86, ⟨Lc86, hQ86, l86, y86, z86⟩, st86⟩ := Jvm.LawKit.callS X0 hx (y := (⟨"java/lang/StringUTF16", "checkIndex", "(I[B)V"⟩ : MethodName)) hown (mvT hZ (w_102 hw)) (mvT hZ (w_103 hw)) (mvT hZ (w_50 hw)) (mvT hZ (w_104 hw)) (by decide) (backOf (W := 0) (rmUK l Z a0 hw [] ba kb zb cs i mm i_COMPACT_STRINGS v_SIOOBE_FORMATTER h0 n0 O0 B hzb hmax hi hmm hS) hZ (w_104 hw) (w_50 hw) (by decide) (by decide)) (g := (mkF m 2 #[.val (.ref ba), .val (.int i)] [(.ref ba), (.int i)])) rfl (by rw [hml]; rfl) (argsL := [(.int i), (.ref ba)]) (rest := []) (lenOf pd_13 rfl) rfl (by show 2 * 0 + _ ≤ _; exact Nat.le_of_eq rfl) (hb hby d22_2) (fun _ _ => ⟨rfl, e0, (by decide : 0 + 0 ≤ _), (by decide : 0 + 0 ≤ _)⟩)
  dsimp only [Pt.U, Pt.locs, Pt.cells, Pt.slots] at X86 l86 y86 z86 st86 hQ86
  subst l86 y86 z86
  obtain ⟨rfl, Nq86, e86⟩ := hQ86
  have N86 := Fr.app N0 Nq86
  refine OW.st (B := T86.setTop (mkF m 7 #[.val (.ref ba), .val (.int i)] [(.int i), (.ref ba)])) (fun _ kk_ => st86 _ (XS.aloadN X86.here hx rfl (hb hby d22_5) rfl rfl (XS.iloadN X86.here hx rfl (hb hby d22_6) rfl kk_))) ?_
  obtain ⟨_, _, ⟨T87, L87, k87, n87⟩, -, X87, ⟨Lc87, hQ87, l87, y87, z87⟩, st87⟩ := Jvm.LawKit.callS X86 hx (y := (⟨"java/lang/StringUTF16", "getChar", "([BI)C"⟩ : MethodName)) hown (mvT hZ (w_96 hw)) (mvT hZ (w_97 hw)) (mvT hZ (w_50 hw)) (mvT hZ (w_98 hw)) (by decide) (backOf (W := 0) (rmGC l Z a0 hw [] ba kb zb cs i mm cc i_COMPACT_STRINGS v_SIOOBE_FORMATTER h0 n0 O0 B hz2 hmax hi hcc hn hS) hZ (w_98 hw) (w_50 hw) (by decide) (by decide)) (g := (mkF m 7 #[.val (.ref ba), .val (.int i)] [(.int i), (.ref ba)])) rfl (by rw [hml]; rfl) (argsL := [(.ref ba), (.int i)]) (rest := []) (lenOf pd_8 rfl) rfl (by show 2 * 0 + _ ≤ _; exact Nat.le_of_eq rfl) (hb hby d22_7) (fun _ _ => ⟨rfl, e86, (by decide : 0 + 0 ≤ _), (by decide : 0 + 0 ≤ _)⟩)
  dsimp only [Pt.U, Pt.locs, Pt.cells, Pt.slots] at X87 l87 y87 z87 st87 hQ87
  subst l87 y87 z87
  obtain ⟨rfl, Nq87, e87⟩ := hQ87
  have N87 := Fr.app N86 Nq87
  refine OW.st (B := T87.setTop (mkF m 10 #[.val (.ref ba), .val (.int i)] [(.int cc)])) (fun _ kk_ => st87 _ kk_) ?_
  exact OW.ret X87 hx hlk (i := .ireturn) Bd.returns (congrArg Value.int hn) (Or.inl ⟨rfl, Or.inr (Or.inr (Or.inr (Or.inl rfl))), _, rfl⟩) (hb hby d22_10) e87 (by decide) (by decide) ⟨rfl, N87, rfl⟩
theorem ef_CA1 (m : MethodId) (x0 : Addr) (x1 : Int32) : entryFrame m #[(.ref x0), (.int x1)] 2 = mkF m 0 #[.val (.ref x0), .val (.int x1)] [] := by first | (simp [entryFrame, mkF, argsToLocals, Value.category]; done) | rfl
def QCA1 (Z : State) (b : Addr) (ba : Addr) (kb : ClassId) (zb : Int32) (cs : List Int32) (i : Int32) (mm : Nat) (cc : Int32) (i_COMPACT_STRINGS : Int32) (v_SIOOBE_FORMATTER : Value) (h0 : Heap) (n0 : Nat) (v : Option Value) (h : Heap) (L : List Loc) : Prop := v = some (.int cc) ∧ Fr n0 L ∧ h = h0
set_option maxRecDepth 65536 in
set_option maxHeartbeats 40000000 in
theorem rmCA1 (l : Launch) (Z : State) (a0 : Array Value) (hw : ∀ d ∈ tables_1, d.before a0 Z = true) (ws : List Jvm.Cond) (b : Addr) (ba : Addr) (kb : ClassId) (zb : Int32) (cs : List Int32) (i : Int32) (mm : Nat) (cc : Int32) (i_COMPACT_STRINGS : Int32) (v_SIOOBE_FORMATTER : Value) (h0 : Heap) (n0 : Nat) (O0 : Old Z n0 h0) (E : Exa Z h0 b "java/lang/String") (F1 : Fld Z h0 b "java/lang/String" "value" "[B" (.ref ba)) (F2 : Fld Z h0 b "java/lang/String" "coder" "B" (.int (1 : Int32))) (B : Arv Z h0 ba kb .byte zb (OwnU cs) (.int (0 : Int32))) (hzb : zb.toInt = ((2 * cs.length : Nat) : Int)) (hmax : cs.length ≤ 10) (hi : i.toInt = (mm : Int)) (hcc : cs[mm]? = some cc) (hn : nar .char cc = cc) (hS : OwnS Z i_COMPACT_STRINGS v_SIOOBE_FORMATTER) :
    MetFree l (⟨"java/lang/String", "charAt", "(I)C"⟩ : MethodName) (head1 (Jvm.Cond.code (⟨"java/lang/String", "charAt", "(I)C"⟩ : MethodName) jdk_42_method_56_code 2 (some .char) :: ws) ({ frames := 4, cells := 0, slots := 0, locals := 53 } : Room)) (fun aa_ UU_ => aa_ = #[(.ref b), (.int i)] ∧ Z.Warmed39 UU_.vm ∧ UU_.heap = h0) (fun _ _ _ _ _ => True) (fun _ UU_ oo_ UV_ => ∃ vv_ LL_, oo_ = .returned vv_ ∧ QCA1 Z b ba kb zb cs i mm cc i_COMPACT_STRINGS v_SIOOBE_FORMATTER h0 n0 vv_ UV_.heap LL_ ∧ FrameEnd UU_ oo_ UV_ LL_ ({ frames := 4, cells := 0, slots := 0, locals := 53 } : Room).cells ({ frames := 4, cells := 0, slots := 0, locals := 53 } : Room).slots) := by
  refine MetFree.of_bodySF (plainFor_of_name pn_0) hisR ?_
  intro p e s m args below meth c s₁ Bd hml0 hP hK
  obtain ⟨rfl, hZ, hh⟩ := hP
  have hx := Bd.exec
  have hby := Bd.bytes
  have hlk := BodyLoose.notSynchronized Bd
  have hml : c.maxLocals = 2 := hml0
  have hown : s.vm.findClass "java/lang/String" = some m.cls := findClass_of_methodNamed Bd.named
  have hnm := (name_of_methodNamed Bd.named Bd.method).1
  have X0 : Stand p l e ({ frames := 4, cells := 0, slots := 0, locals := 53 } : Room) s m #[(.ref b), (.int i)] below meth c s₁ [] 0 0 := Stand.of_body Bd
  have e0 : s₁.heap = h0 := by rw [← hh, Bd.state]; rfl
  have N0 := Fr.nil n0
  suffices hOW : OW p e below s (QCA1 Z b ba kb zb cs i mm cc i_COMPACT_STRINGS v_SIOOBE_FORMATTER h0 n0) 0 0 (s₁.setTop (mkF m 0 #[.val (.ref b), .val (.int i)] [])) by
    obtain ⟨oq1_, oq2_, oq3_, oq4_⟩ := hOW
    exact ⟨oq1_, oq2_, castTop (ef_CA1 m b i) oq3_, oq4_⟩
  have hS' := hS
  obtain ⟨Si_COMPACT_STRINGS, Sv_SIOOBE_FORMATTER, Rv_SIOOBE_FORMATTER, S__assertionsDisabled, S_HI_BYTE_SHIFT, S_LO_BYTE_SHIFT, Pi_COMPACT_STRINGS⟩ := hS'
  have hmm : mm < cs.length := (List.getElem?_eq_some_iff.mp hcc).1
  refine OW.st (B := s₁.setTop (mkF m 1 #[.val (.ref b), .val (.int i)] [(.ref b)])) (fun _ kk_ => XS.aloadN X0.here hx rfl (hb hby d12_0) rfl rfl kk_) ?_
  obtain ⟨cq88, kq88, q88a, q88b, q88c⟩ := isOf hZ e0 E
  obtain ⟨_, _, ⟨T88, L88, k88, n88⟩, -, X88, ⟨Lc88, hQ88, l88, y88, z88⟩, st88⟩ := X0.virtualBack hx (y := (⟨"java/lang/String", "isLatin1", "()Z"⟩ : MethodName)) (z := (⟨"java/lang/String", "isLatin1", "()Z"⟩ : MethodName)) hown (mvT hZ (w_63 hw)) (mvT hZ (w_64 hw)) (notFace_of_selects (args := #[]) (mvT hZ (w_66 hw))) (mvT hZ (w_66 hw)) (mvT hZ (w_65 hw)) (by decide) (backOf (W := 0) (rmIL1 l Z a0 hw [] b i_COMPACT_STRINGS v_SIOOBE_FORMATTER h0 n0 O0 F2 hS) hZ (w_67 hw) (w_8 hw) (by decide) (by decide)) q88a q88c (g := (mkF m 1 #[.val (.ref b), .val (.int i)] [(.ref b)])) rfl (by rw [hml]; rfl) (Steps.refl _) (argsL := []) (rest := []) (lenOf pd_11 rfl) rfl (by show 2 * 0 + _ ≤ _; exact Nat.le_of_eq rfl) (hb hby d12_1) (fun _ _ => ⟨rfl, e0, (by decide : 0 + 0 ≤ _), (by decide : 0 + 0 ≤ _)⟩)
  dsimp only [Pt.U, Pt.locs, Pt.cells, Pt.slots] at X88 l88 y88 z88 st88 hQ88
  subst l88 y88 z88
  obtain ⟨rfl, Nq88, e88⟩ := hQ88
  have N88 := Fr.app N0 Nq88
  refine OW.tr (B := T88.setTop (mkF m 4 #[.val (.ref b), .val (.int i)] [(.int (0 : Int32))])) (st88) ?_
  refine OW.st (B := T88.setTop (mkF m 17 #[.val (.ref b), .val (.int i)] [(.ref b)])) (fun _ kk_ => XS.ifYes X88.here hx rfl (pc0 := 4) (pc' := 16) rfl (hb hby d12_4) rfl ((if0 _ _).trans (teq (by decide)).1) (by decide) (by decide) (XS.aloadN X88.here hx rfl (hb hby d12_16) rfl rfl kk_)) ?_
  obtain ⟨T89, X89, e89, st89⟩ := getF X88 hx hZ hown (host := "") (Or.inl (w_29 hw)) Via.refl e88 F1 (g := (mkF m 17 #[.val (.ref b), .val (.int i)] [(.ref b)])) rfl rfl (hb hby d12_17)
  refine OW.st (B := T89.setTop (mkF m 21 #[.val (.ref b), .val (.int i)] [(.int i), (.ref ba)])) (fun _ kk_ => st89 _ (XS.iloadN X89.here hx rfl (hb hby d12_20) rfl kk_)) ?_
  obtain ⟨_, _, ⟨T90, L90, k90, n90⟩, -, X90, ⟨Lc90, hQ90, l90, y90, z90⟩, st90⟩ := Jvm.LawKit.callS X89 hx (y := (⟨"java/lang/StringUTF16", "charAt", "([BI)C"⟩ : MethodName)) hown (mvT hZ (w_99 hw)) (mvT hZ (w_100 hw)) (mvT hZ (w_50 hw)) (mvT hZ (w_101 hw)) (by decide) (backOf (W := 0) (rmCX1 l Z a0 hw [] ba kb zb cs i mm cc i_COMPACT_STRINGS v_SIOOBE_FORMATTER h0 n0 O0 B hzb hmax hi hcc hn hS) hZ (w_101 hw) (w_50 hw) (by decide) (by decide)) (g := (mkF m 21 #[.val (.ref b), .val (.int i)] [(.int i), (.ref ba)])) rfl (by rw [hml]; rfl) (argsL := [(.ref ba), (.int i)]) (rest := []) (lenOf pd_8 rfl) rfl (by show 2 * 0 + _ ≤ _; exact Nat.le_of_eq rfl) (hb hby d12_21) (fun _ _ => ⟨rfl, e89, (by decide : 0 + 0 ≤ _), (by decide : 0 + 0 ≤ _)⟩)
  dsimp only [Pt.U, Pt.locs, Pt.cells, Pt.slots] at X90 l90 y90 z90 st90 hQ90
  subst l90 y90 z90
  obtain ⟨rfl, Nq90, e90⟩ := hQ90
  have N90 := Fr.app N88 Nq90
  refine OW.st (B := T90.setTop (mkF m 24 #[.val (.ref b), .val (.int i)] [(.int cc)])) (fun _ kk_ => st90 _ kk_) ?_
  exact OW.ret X90 hx hlk (i := .ireturn) Bd.returns (congrArg Value.int hn) (Or.inl ⟨rfl, Or.inr (Or.inr (Or.inr (Or.inl rfl))), _, rfl⟩) (hb hby d12_24) e90 (by decide) (by decide) ⟨rfl, N90, rfl⟩
theorem ef_CH (m : MethodId) (x0 : Int32) : entryFrame m #[(.int x0)] 1 = mkF m 0 #[.val (.int x0)] [] := by first | (simp [entryFrame, mkF, argsToLocals, Value.category]; done) | rfl
def QCH (Z : State) (k : Int32) (h0 : Heap) (n0 : Nat) (v : Option Value) (h : Heap) (L : List Loc) : Prop := ∃ u : Int32, v = some (.int u) ∧ Fr n0 L ∧ h = h0 ∧ nar .char u = u
set_option maxRecDepth 65536 in
set_option maxHeartbeats 40000000 in
theorem rmCH (l : Launch) (Z : State) (a0 : Array Value) (hw : ∀ d ∈ tables_1, d.before a0 Z = true) (ws : List Jvm.Cond) (k : Int32) (h0 : Heap) (n0 : Nat) (O0 : Old Z n0 h0) :
    MetFree l (⟨"com/example/cartulary/cartulary/entity/FootprintOfPinLaw", "ch", "(I)C"⟩ : MethodName) (head1 (Jvm.Cond.code (⟨"com/example/cartulary/cartulary/entity/FootprintOfPinLaw", "ch", "(I)C"⟩ : MethodName) method_2_code 1 (some .char) :: ws) ({ frames := 0, cells := 0, slots := 0, locals := 0 } : Room)) (fun aa_ UU_ => aa_ = #[(.int k)] ∧ Z.Warmed39 UU_.vm ∧ UU_.heap = h0) (fun _ _ _ _ _ => True) (fun _ UU_ oo_ UV_ => ∃ vv_ LL_, oo_ = .returned vv_ ∧ QCH Z k h0 n0 vv_ UV_.heap LL_ ∧ FrameEnd UU_ oo_ UV_ LL_ ({ frames := 0, cells := 0, slots := 0, locals := 0 } : Room).cells ({ frames := 0, cells := 0, slots := 0, locals := 0 } : Room).slots) := by
  refine MetFree.of_bodySF (plainFor_of_name pn_4) hisR ?_
  intro p e s m args below meth c s₁ Bd hml0 hP hK
  obtain ⟨rfl, hZ, hh⟩ := hP
  have hx := Bd.exec
  have hby := Bd.bytes
  have hlk := BodyLoose.notSynchronized Bd
  have hml : c.maxLocals = 1 := hml0
  have hown : s.vm.findClass "com/example/cartulary/cartulary/entity/FootprintOfPinLaw" = some m.cls := findClass_of_methodNamed Bd.named
  have hnm := (name_of_methodNamed Bd.named Bd.method).1
  have X0 : Stand p l e ({ frames := 0, cells := 0, slots := 0, locals := 0 } : Room) s m #[(.int k)] below meth c s₁ [] 0 0 := Stand.of_body Bd
  have e0 : s₁.heap = h0 := by rw [← hh, Bd.state]; rfl
  have N0 := Fr.nil n0
  suffices hOW : OW p e below s (QCH Z k h0 n0) 0 0 (s₁.setTop (mkF m 0 #[.val (.int k)] [])) by
    obtain ⟨oq1_, oq2_, oq3_, oq4_⟩ := hOW
    exact ⟨oq1_, oq2_, castTop (ef_CH m k) oq3_, oq4_⟩
  refine OW.st (B := s₁.setTop (mkF m 6 #[.val (.int k)] [(.int (((k.toUInt32 >>> ((16 : Int32) &&& 31).toUInt32).toInt32) &&& (1 : Int32)))])) (fun _ kk_ => XS.iloadN X0.here hx rfl (hb hby d1_0) rfl (XS.bipush X0.here hx rfl (hb hby d1_1) (XS.iushr X0.here hx rfl (hb hby d1_3) rfl (XS.iconst X0.here hx rfl (hb hby d1_4) (XS.iand X0.here hx rfl (hb hby d1_5) rfl kk_))))) ?_
  by_cases hc91 : (((k.toUInt32 >>> ((16 : Int32) &&& 31).toUInt32).toInt32) &&& (1 : Int32)) = (0 : Int32)
  · refine OW.st (B := s₁.setTop (mkF m 22 #[.val (.int k)] [(.int ((k &&& (65535 : Int32)).toUInt32.toUInt16.toUInt32.toInt32))])) (fun _ kk_ => XS.ifYes X0.here hx rfl (pc0 := 6) (pc' := 17) rfl (hb hby d1_6) rfl ((if0 _ _).trans (teq hc91).1) (by decide) (by decide) (XS.iloadN X0.here hx rfl (hb hby d1_17) rfl ((X0.ldcInt hx hown (mvT hZ (w_5 hw)) (g := (mkF m 18 #[.val (.int k)] [(.int k)])) rfl (hb hby d1_18)) _ (XS.iand X0.here hx rfl (hb hby d1_20) rfl (XS.i2c X0.here hx rfl (hb hby d1_21) rfl kk_))))) ?_
    exact OW.ret X0 hx hlk (i := .ireturn) Bd.returns (own_nc _) (Or.inl ⟨rfl, Or.inr (Or.inr (Or.inr (Or.inl rfl))), _, rfl⟩) (hb hby d1_22) e0 (by decide) (by decide) ⟨_, rfl, N0, rfl, own_nch _⟩
  · refine OW.st (B := s₁.setTop (mkF m 22 #[.val (.int k)] [(.int ((k &&& (255 : Int32)).toUInt32.toUInt16.toUInt32.toInt32))])) (fun _ kk_ => XS.ifNo X0.here hx rfl (hb hby d1_6) rfl ((if0 _ _).trans (feq hc91).1) (XS.iloadN X0.here hx rfl (hb hby d1_9) rfl (XS.sipush X0.here hx rfl (hb hby d1_10) (XS.iand X0.here hx rfl (hb hby d1_13) rfl (XS.goto X0.here hx rfl (pc0 := 14) (pc' := 21) rfl (hb hby d1_14) (by decide) (by decide) (XS.i2c X0.here hx rfl (hb hby d1_21) rfl kk_)))))) ?_
    exact OW.ret X0 hx hlk (i := .ireturn) Bd.returns (own_nc _) (Or.inl ⟨rfl, Or.inr (Or.inr (Or.inr (Or.inl rfl))), _, rfl⟩) (hb hby d1_22) e0 (by decide) (by decide) ⟨_, rfl, N0, rfl, own_nch _⟩
theorem ef_CR0 (m : MethodId) (x0 : Int32) (x1 : Int32) (x2 : Int32) (x3 : Int32) (x4 : Int32) (x5 : Int32) : entryFrame m #[(.int x0), (.int x1), (.int x2), (.int x3), (.int x4), (.int x5)] 6 = mkF m 0 #[.val (.int x0), .val (.int x1), .val (.int x2), .val (.int x3), .val (.int x4), .val (.int x5)] [] := by first | (simp [entryFrame, mkF, argsToLocals, Value.category]; done) | rfl
def QCR0 (Z : State) (c0 : Int32) (c1 : Int32) (c2 : Int32) (c3 : Int32) (c4 : Int32) (h0 : Heap) (n0 : Nat) (v : Option Value) (h : Heap) (L : List Loc) : Prop := ∃ (b : Addr) (kb : ClassId), v = some (.ref b) ∧ Fr n0 L ∧ Keep h0 h [] ∧ n0 ≤ b ∧ h0.size ≤ b ∧ Arv Z h b kb .char (0 : Int32) [] (.int (0 : Int32))
set_option maxRecDepth 65536 in
set_option maxHeartbeats 40000000 in
theorem rmCR0 (l : Launch) (Z : State) (a0 : Array Value) (hw : ∀ d ∈ tables_1, d.before a0 Z = true) (ws : List Jvm.Cond) (c0 : Int32) (c1 : Int32) (c2 : Int32) (c3 : Int32) (c4 : Int32) (h0 : Heap) (n0 : Nat) (O0 : Old Z n0 h0) :
    MetFree l (⟨"com/example/cartulary/cartulary/entity/FootprintOfPinLaw", "chars", "(ICCCCC)[C"⟩ : MethodName) (head1 (Jvm.Cond.code (⟨"com/example/cartulary/cartulary/entity/FootprintOfPinLaw", "chars", "(ICCCCC)[C"⟩ : MethodName) method_3_code 6 (some (.array .char)) :: ws) ({ frames := 0, cells := 1, slots := 0, locals := 0 } : Room)) (fun aa_ UU_ => aa_ = #[(.int (0 : Int32)), (.int c0), (.int c1), (.int c2), (.int c3), (.int c4)] ∧ Z.Warmed39 UU_.vm ∧ UU_.heap = h0) (fun _ _ _ _ _ => True) (fun _ UU_ oo_ UV_ => ∃ vv_ LL_, oo_ = .returned vv_ ∧ QCR0 Z c0 c1 c2 c3 c4 h0 n0 vv_ UV_.heap LL_ ∧ FrameEnd UU_ oo_ UV_ LL_ ({ frames := 0, cells := 1, slots := 0, locals := 0 } : Room).cells ({ frames := 0, cells := 1, slots := 0, locals := 0 } : Room).slots) := by
  refine MetFree.of_bodySF (plainFor_of_name pn_4) hisR ?_
  intro p e s m args below meth c s₁ Bd hml0 hP hK
  obtain ⟨rfl, hZ, hh⟩ := hP
  have hx := Bd.exec
  have hby := Bd.bytes
  have hlk := BodyLoose.notSynchronized Bd
  have hml : c.maxLocals = 6 := hml0
  have hown : s.vm.findClass "com/example/cartulary/cartulary/entity/FootprintOfPinLaw" = some m.cls := findClass_of_methodNamed Bd.named
  have hnm := (name_of_methodNamed Bd.named Bd.method).1
  have X0 : Stand p l e ({ frames := 0, cells := 1, slots := 0, locals := 0 } : Room) s m #[(.int (0 : Int32)), (.int c0), (.int c1), (.int c2), (.int c3), (.int c4)] below meth c s₁ [] 0 0 := Stand.of_body Bd
  have e0 : s₁.heap = h0 := by rw [← hh, Bd.state]; rfl
  have N0 := Fr.nil n0
  have KC0 : Keep h0 h0 [] := Keep.refl _ _
  suffices hOW : OW p e below s (QCR0 Z c0 c1 c2 c3 c4 h0 n0) 1 0 (s₁.setTop (mkF m 0 #[.val (.int (0 : Int32)), .val (.int c0), .val (.int c1), .val (.int c2), .val (.int c3), .val (.int c4)] [])) by
    obtain ⟨oq1_, oq2_, oq3_, oq4_⟩ := hOW
    exact ⟨oq1_, oq2_, castTop (ef_CR0 m (0 : Int32) c0 c1 c2 c3 c4) oq3_, oq4_⟩
  refine OW.st (B := s₁.setTop (mkF m 5 #[.val (.int (0 : Int32)), .val (.int c0), .val (.int c1), .val (.int c2), .val (.int c3), .val (.int c4)] [(.int (0 : Int32))])) (fun _ kk_ => XS.iloadN X0.here hx rfl (hb hby d2_0) rfl (XS.ifNo X0.here hx rfl (hb hby d2_1) rfl ((if0 _ _).trans (teq (by decide)).2) (XS.iconst X0.here hx rfl (hb hby d2_4) kk_))) ?_
  obtain ⟨T92, h92, k92, X92, e92, E92, A92, st92⟩ := newP (aty := .char) X0 hx hZ (w_12 hw) e0 (g := (mkF m 5 #[.val (.int (0 : Int32)), .val (.int c0), .val (.int c1), .val (.int c2), .val (.int c3), .val (.int c4)] [(.int (0 : Int32))])) rfl (hb hby d2_5) rfl (by decide) (cap := 0) (by decide +kernel) (by decide +kernel) (by decide +kernel) (by decide +kernel)
  obtain ⟨b92, g92⟩ : ∃ z, z = h0.size := ⟨_, rfl⟩
  rw [← g92] at A92 st92
  have n_b92 : n0 ≤ b92 := Nat.le_trans (own_oldle O0) (Nat.le_of_eq g92.symm)
  have O92 : Old Z n0 h92 := O0.ext E92
  have sz_b92 : h0.size ≤ b92 := Nat.le_trans KC0.1 (Nat.le_of_eq g92.symm)
  have KC92 : Keep h0 h92 [] := KC0.ext E92
  have V92 : Arv Z h92 b92 k92 .char (0 : Int32) [] (.int (0 : Int32)) := (Arv.new A92 (by decide)).pad (pad_rep [] (.int (0 : Int32)) 0)
  refine OW.st (B := T92.setTop (mkF m 7 #[.val (.int (0 : Int32)), .val (.int c0), .val (.int c1), .val (.int c2), .val (.int c3), .val (.int c4)] [(.ref b92)])) (fun _ kk_ => st92 _ kk_) ?_
  exact OW.ret X92 hx hlk (i := .areturn) Bd.returns rfl (Or.inr (Or.inr (Or.inr (Or.inr ⟨rfl, rfl, rfl⟩)))) (hb hby d2_7) e92 (by decide) (by decide) ⟨b92, k92, rfl, N0, KC92, n_b92, sz_b92, V92⟩
theorem ef_CR1 (m : MethodId) (x0 : Int32) (x1 : Int32) (x2 : Int32) (x3 : Int32) (x4 : Int32) (x5 : Int32) : entryFrame m #[(.int x0), (.int x1), (.int x2), (.int x3), (.int x4), (.int x5)] 6 = mkF m 0 #[.val (.int x0), .val (.int x1), .val (.int x2), .val (.int x3), .val (.int x4), .val (.int x5)] [] := by first | (simp [entryFrame, mkF, argsToLocals, Value.category]; done) | rfl
def QCR1 (Z : State) (c0 : Int32) (c1 : Int32) (c2 : Int32) (c3 : Int32) (c4 : Int32) (h0 : Heap) (n0 : Nat) (v : Option Value) (h : Heap) (L : List Loc) : Prop := ∃ (b : Addr) (kb : ClassId), v = some (.ref b) ∧ Fr n0 L ∧ Keep h0 h [] ∧ n0 ≤ b ∧ h0.size ≤ b ∧ Arv Z h b kb .char (1 : Int32) [(.int c0)] (.int (0 : Int32))
set_option maxRecDepth 65536 in
set_option maxHeartbeats 40000000 in
theorem rmCR1 (l : Launch) (Z : State) (a0 : Array Value) (hw : ∀ d ∈ tables_1, d.before a0 Z = true) (ws : List Jvm.Cond) (c0 : Int32) (c1 : Int32) (c2 : Int32) (c3 : Int32) (c4 : Int32) (h0 : Heap) (n0 : Nat) (O0 : Old Z n0 h0) (hnc0 : nar .char c0 = c0) :
    MetFree l (⟨"com/example/cartulary/cartulary/entity/FootprintOfPinLaw", "chars", "(ICCCCC)[C"⟩ : MethodName) (head1 (Jvm.Cond.code (⟨"com/example/cartulary/cartulary/entity/FootprintOfPinLaw", "chars", "(ICCCCC)[C"⟩ : MethodName) method_3_code 6 (some (.array .char)) :: ws) ({ frames := 0, cells := 1, slots := 1, locals := 0 } : Room)) (fun aa_ UU_ => aa_ = #[(.int (1 : Int32)), (.int c0), (.int c1), (.int c2), (.int c3), (.int c4)] ∧ Z.Warmed39 UU_.vm ∧ UU_.heap = h0) (fun _ _ _ _ _ => True) (fun _ UU_ oo_ UV_ => ∃ vv_ LL_, oo_ = .returned vv_ ∧ QCR1 Z c0 c1 c2 c3 c4 h0 n0 vv_ UV_.heap LL_ ∧ FrameEnd UU_ oo_ UV_ LL_ ({ frames := 0, cells := 1, slots := 1, locals := 0 } : Room).cells ({ frames := 0, cells := 1, slots := 1, locals := 0 } : Room).slots) := by
  refine MetFree.of_bodySF (plainFor_of_name pn_4) hisR ?_
  intro p e s m args below meth c s₁ Bd hml0 hP hK
  obtain ⟨rfl, hZ, hh⟩ := hP
  have hx := Bd.exec
  have hby := Bd.bytes
  have hlk := BodyLoose.notSynchronized Bd
  have hml : c.maxLocals = 6 := hml0
  have hown : s.vm.findClass "com/example/cartulary/cartulary/entity/FootprintOfPinLaw" = some m.cls := findClass_of_methodNamed Bd.named
  have hnm := (name_of_methodNamed Bd.named Bd.method).1
  have X0 : Stand p l e ({ frames := 0, cells := 1, slots := 1, locals := 0 } : Room) s m #[(.int (1 : Int32)), (.int c0), (.int c1), (.int c2), (.int c3), (.int c4)] below meth c s₁ [] 0 0 := Stand.of_body Bd
  have e0 : s₁.heap = h0 := by rw [← hh, Bd.state]; rfl
  have N0 := Fr.nil n0
  have KC0 : Keep h0 h0 [] := Keep.refl _ _
  suffices hOW : OW p e below s (QCR1 Z c0 c1 c2 c3 c4 h0 n0) 1 1 (s₁.setTop (mkF m 0 #[.val (.int (1 : Int32)), .val (.int c0), .val (.int c1), .val (.int c2), .val (.int c3), .val (.int c4)] [])) by
    obtain ⟨oq1_, oq2_, oq3_, oq4_⟩ := hOW
    exact ⟨oq1_, oq2_, castTop (ef_CR1 m (1 : Int32) c0 c1 c2 c3 c4) oq3_, oq4_⟩
  refine OW.st (B := s₁.setTop (mkF m 14 #[.val (.int (1 : Int32)), .val (.int c0), .val (.int c1), .val (.int c2), .val (.int c3), .val (.int c4)] [(.int (1 : Int32))])) (fun _ kk_ => XS.iloadN X0.here hx rfl (hb hby d2_0) rfl (XS.ifYes X0.here hx rfl (pc0 := 1) (pc' := 8) rfl (hb hby d2_1) rfl ((if0 _ _).trans (feq (by decide)).2) (by decide) (by decide) (XS.iloadN X0.here hx rfl (hb hby d2_8) rfl (XS.iconst X0.here hx rfl (hb hby d2_9) (XS.icmpNo X0.here hx rfl (hb hby d2_10) rfl (teq (by decide)).2 (XS.iconst X0.here hx rfl (hb hby d2_13) kk_)))))) ?_
  obtain ⟨T93, h93, k93, X93, e93, E93, A93, st93⟩ := newP (aty := .char) X0 hx hZ (w_12 hw) e0 (g := (mkF m 14 #[.val (.int (1 : Int32)), .val (.int c0), .val (.int c1), .val (.int c2), .val (.int c3), .val (.int c4)] [(.int (1 : Int32))])) rfl (hb hby d2_14) rfl (by decide) (cap := 1) (by decide +kernel) (by decide +kernel) (by decide +kernel) (by decide +kernel)
  obtain ⟨b93, g93⟩ : ∃ z, z = h0.size := ⟨_, rfl⟩
  rw [← g93] at A93 st93
  have n_b93 : n0 ≤ b93 := Nat.le_trans (own_oldle O0) (Nat.le_of_eq g93.symm)
  have O93 : Old Z n0 h93 := O0.ext E93
  have sz_b93 : h0.size ≤ b93 := Nat.le_trans KC0.1 (Nat.le_of_eq g93.symm)
  have KC93 : Keep h0 h93 [] := KC0.ext E93
  have V93 : Arv Z h93 b93 k93 .char (1 : Int32) [(.int (0 : Int32))] (.int (0 : Int32)) := (Arv.new A93 (by decide)).pad (pad_rep [] (.int (0 : Int32)) 1)
  refine OW.st (B := T93.setTop (mkF m 19 #[.val (.int (1 : Int32)), .val (.int c0), .val (.int c1), .val (.int c2), .val (.int c3), .val (.int c4)] [(.int c0), (.int (0 : Int32)), (.ref b93), (.ref b93)])) (fun _ kk_ => st93 _ (XS.dup X93.here hx rfl (hb hby d2_16) rfl rfl (XS.iconst X93.here hx rfl (hb hby d2_17) (XS.iloadN X93.here hx rfl (hb hby d2_18) rfl kk_)))) ?_
  obtain ⟨cl94, Ar94, q94, S94, Ng94, Hs94, G94⟩ := id V93
  have hin94 : ¬ ((0 : Int32) < 0 ∨ cl94.slots.size ≤ ((0 : Int32)).toNatClampNeg) := inb_of S94 ⟨by decide, by decide⟩
  obtain ⟨T95, h95, X95, e95, W95, st95⟩ := stC X93 hx hZ e93 Ar94 (j := (0 : Int32)) hin94 (g := (mkF m 19 #[.val (.int (1 : Int32)), .val (.int c0), .val (.int c1), .val (.int c2), .val (.int c3), .val (.int c4)] [(.int c0), (.int (0 : Int32)), (.ref b93), (.ref b93)])) rfl rfl (hb hby d2_19)
  rw [hnc0] at W95
  have N95 := Fr.snoc X95 N0 n_b93
  have O95 : Old Z n0 h95 := O93.wr W95 n_b93
  have KC95 : Keep h0 h95 [] := KC93.wr W95 (Or.inr sz_b93)
  have V95 : Arv Z h95 b93 k93 .char (1 : Int32) [(.int c0)] (.int (0 : Int32)) := Arv.set Ar94 q94 S94 Ng94 Hs94 G94 (hnc0 ▸ (fits_nar_char _)) W95 0 rfl (Nat.le_of_ble_eq_true rfl)
  refine OW.st (B := T95.setTop (mkF m 20 #[.val (.int (1 : Int32)), .val (.int c0), .val (.int c1), .val (.int c2), .val (.int c3), .val (.int c4)] [(.ref b93)])) (fun _ kk_ => st95 _ kk_) ?_
  exact OW.ret X95 hx hlk (i := .areturn) Bd.returns rfl (Or.inr (Or.inr (Or.inr (Or.inr ⟨rfl, rfl, rfl⟩)))) (hb hby d2_20) e95 (by decide) (by decide) ⟨b93, k93, rfl, N95, KC95, n_b93, sz_b93, V95⟩
theorem ef_CR2 (m : MethodId) (x0 : Int32) (x1 : Int32) (x2 : Int32) (x3 : Int32) (x4 : Int32) (x5 : Int32) : entryFrame m #[(.int x0), (.int x1), (.int x2), (.int x3), (.int x4), (.int x5)] 6 = mkF m 0 #[.val (.int x0), .val (.int x1), .val (.int x2), .val (.int x3), .val (.int x4), .val (.int x5)] [] := by first | (simp [entryFrame, mkF, argsToLocals, Value.category]; done) | rfl
def QCR2 (Z : State) (c0 : Int32) (c1 : Int32) (c2 : Int32) (c3 : Int32) (c4 : Int32) (h0 : Heap) (n0 : Nat) (v : Option Value) (h : Heap) (L : List Loc) : Prop := ∃ (b : Addr) (kb : ClassId), v = some (.ref b) ∧ Fr n0 L ∧ Keep h0 h [] ∧ n0 ≤ b ∧ h0.size ≤ b ∧ Arv Z h b kb .char (2 : Int32) [(.int c0), (.int c1)] (.int (0 : Int32))
set_option maxRecDepth 65536 in
set_option maxHeartbeats 40000000 in
theorem rmCR2 (l : Launch) (Z : State) (a0 : Array Value) (hw : ∀ d ∈ tables_1, d.before a0 Z = true) (ws : List Jvm.Cond) (c0 : Int32) (c1 : Int32) (c2 : Int32) (c3 : Int32) (c4 : Int32) (h0 : Heap) (n0 : Nat) (O0 : Old Z n0 h0) (hnc0 : nar .char c0 = c0) (hnc1 : nar .char c1 = c1) :
    MetFree l (⟨"com/example/cartulary/cartulary/entity/FootprintOfPinLaw", "chars", "(ICCCCC)[C"⟩ : MethodName) (head1 (Jvm.Cond.code (⟨"com/example/cartulary/cartulary/entity/FootprintOfPinLaw", "chars", "(ICCCCC)[C"⟩ : MethodName) method_3_code 6 (some (.array .char)) :: ws) ({ frames := 0, cells := 1, slots := 2, locals := 0 } : Room)) (fun aa_ UU_ => aa_ = #[(.int (2 : Int32)), (.int c0), (.int c1), (.int c2), (.int c3), (.int c4)] ∧ Z.Warmed39 UU_.vm ∧ UU_.heap = h0) (fun _ _ _ _ _ => True) (fun _ UU_ oo_ UV_ => ∃ vv_ LL_, oo_ = .returned vv_ ∧ QCR2 Z c0 c1 c2 c3 c4 h0 n0 vv_ UV_.heap LL_ ∧ FrameEnd UU_ oo_ UV_ LL_ ({ frames := 0, cells := 1, slots := 2, locals := 0 } : Room).cells ({ frames := 0, cells := 1, slots := 2, locals := 0 } : Room).slots) := by
  refine MetFree.of_bodySF (plainFor_of_name pn_4) hisR ?_
  intro p e s m args below meth c s₁ Bd hml0 hP hK
  obtain ⟨rfl, hZ, hh⟩ := hP
  have hx := Bd.exec
  have hby := Bd.bytes
  have hlk := BodyLoose.notSynchronized Bd
  have hml : c.maxLocals = 6 := hml0
  have hown : s.vm.findClass "com/example/cartulary/cartulary/entity/FootprintOfPinLaw" = some m.cls := findClass_of_methodNamed Bd.named
  have hnm := (name_of_methodNamed Bd.named Bd.method).1
  have X0 : Stand p l e ({ frames := 0, cells := 1, slots := 2, locals := 0 } : Room) s m #[(.int (2 : Int32)), (.int c0), (.int c1), (.int c2), (.int c3), (.int c4)] below meth c s₁ [] 0 0 := Stand.of_body Bd
  have e0 : s₁.heap = h0 := by rw [← hh, Bd.state]; rfl
  have N0 := Fr.nil n0
  have KC0 : Keep h0 h0 [] := Keep.refl _ _
  suffices hOW : OW p e below s (QCR2 Z c0 c1 c2 c3 c4 h0 n0) 1 2 (s₁.setTop (mkF m 0 #[.val (.int (2 : Int32)), .val (.int c0), .val (.int c1), .val (.int c2), .val (.int c3), .val (.int c4)] [])) by
    obtain ⟨oq1_, oq2_, oq3_, oq4_⟩ := hOW
    exact ⟨oq1_, oq2_, castTop (ef_CR2 m (2 : Int32) c0 c1 c2 c3 c4) oq3_, oq4_⟩
  refine OW.st (B := s₁.setTop (mkF m 27 #[.val (.int (2 : Int32)), .val (.int c0), .val (.int c1), .val (.int c2), .val (.int c3), .val (.int c4)] [(.int (2 : Int32))])) (fun _ kk_ => XS.iloadN X0.here hx rfl (hb hby d2_0) rfl (XS.ifYes X0.here hx rfl (pc0 := 1) (pc' := 8) rfl (hb hby d2_1) rfl ((if0 _ _).trans (feq (by decide)).2) (by decide) (by decide) (XS.iloadN X0.here hx rfl (hb hby d2_8) rfl (XS.iconst X0.here hx rfl (hb hby d2_9) (XS.icmpYes X0.here hx rfl (pc0 := 10) (pc' := 21) rfl (hb hby d2_10) rfl (feq (by decide)).2 (by decide) (by decide) (XS.iloadN X0.here hx rfl (hb hby d2_21) rfl (XS.iconst X0.here hx rfl (hb hby d2_22) (XS.icmpNo X0.here hx rfl (hb hby d2_23) rfl (teq (by decide)).2 (XS.iconst X0.here hx rfl (hb hby d2_26) kk_))))))))) ?_
  obtain ⟨T96, h96, k96, X96, e96, E96, A96, st96⟩ := newP (aty := .char) X0 hx hZ (w_12 hw) e0 (g := (mkF m 27 #[.val (.int (2 : Int32)), .val (.int c0), .val (.int c1), .val (.int c2), .val (.int c3), .val (.int c4)] [(.int (2 : Int32))])) rfl (hb hby d2_27) rfl (by decide) (cap := 2) (by decide +kernel) (by decide +kernel) (by decide +kernel) (by decide +kernel)
  obtain ⟨b96, g96⟩ : ∃ z, z = h0.size := ⟨_, rfl⟩
  rw [← g96] at A96 st96
  have n_b96 : n0 ≤ b96 := Nat.le_trans (own_oldle O0) (Nat.le_of_eq g96.symm)
  have O96 : Old Z n0 h96 := O0.ext E96
  have sz_b96 : h0.size ≤ b96 := Nat.le_trans KC0.1 (Nat.le_of_eq g96.symm)
  have KC96 : Keep h0 h96 [] := KC0.ext E96
  have V96 : Arv Z h96 b96 k96 .char (2 : Int32) [(.int (0 : Int32)), (.int (0 : Int32))] (.int (0 : Int32)) := (Arv.new A96 (by decide)).pad (pad_rep [] (.int (0 : Int32)) 2)
  refine OW.st (B := T96.setTop (mkF m 32 #[.val (.int (2 : Int32)), .val (.int c0), .val (.int c1), .val (.int c2), .val (.int c3), .val (.int c4)] [(.int c0), (.int (0 : Int32)), (.ref b96), (.ref b96)])) (fun _ kk_ => st96 _ (XS.dup X96.here hx rfl (hb hby d2_29) rfl rfl (XS.iconst X96.here hx rfl (hb hby d2_30) (XS.iloadN X96.here hx rfl (hb hby d2_31) rfl kk_)))) ?_
  obtain ⟨cl97, Ar97, q97, S97, Ng97, Hs97, G97⟩ := id V96
  have hin97 : ¬ ((0 : Int32) < 0 ∨ cl97.slots.size ≤ ((0 : Int32)).toNatClampNeg) := inb_of S97 ⟨by decide, by decide⟩
  obtain ⟨T98, h98, X98, e98, W98, st98⟩ := stC X96 hx hZ e96 Ar97 (j := (0 : Int32)) hin97 (g := (mkF m 32 #[.val (.int (2 : Int32)), .val (.int c0), .val (.int c1), .val (.int c2), .val (.int c3), .val (.int c4)] [(.int c0), (.int (0 : Int32)), (.ref b96), (.ref b96)])) rfl rfl (hb hby d2_32)
  rw [hnc0] at W98
  have N98 := Fr.snoc X98 N0 n_b96
  have O98 : Old Z n0 h98 := O96.wr W98 n_b96
  have KC98 : Keep h0 h98 [] := KC96.wr W98 (Or.inr sz_b96)
  have V98 : Arv Z h98 b96 k96 .char (2 : Int32) [(.int c0), (.int (0 : Int32))] (.int (0 : Int32)) := Arv.set Ar97 q97 S97 Ng97 Hs97 G97 (hnc0 ▸ (fits_nar_char _)) W98 0 rfl (Nat.le_of_ble_eq_true rfl)
  refine OW.st (B := T98.setTop (mkF m 36 #[.val (.int (2 : Int32)), .val (.int c0), .val (.int c1), .val (.int c2), .val (.int c3), .val (.int c4)] [(.int c1), (.int (1 : Int32)), (.ref b96), (.ref b96)])) (fun _ kk_ => st98 _ (XS.dup X98.here hx rfl (hb hby d2_33) rfl rfl (XS.iconst X98.here hx rfl (hb hby d2_34) (XS.iloadN X98.here hx rfl (hb hby d2_35) rfl kk_)))) ?_
  obtain ⟨cl99, Ar99, q99, S99, Ng99, Hs99, G99⟩ := id V98
  have hin99 : ¬ ((1 : Int32) < 0 ∨ cl99.slots.size ≤ ((1 : Int32)).toNatClampNeg) := inb_of S99 ⟨by decide, by decide⟩
  obtain ⟨T100, h100, X100, e100, W100, st100⟩ := stC X98 hx hZ e98 Ar99 (j := (1 : Int32)) hin99 (g := (mkF m 36 #[.val (.int (2 : Int32)), .val (.int c0), .val (.int c1), .val (.int c2), .val (.int c3), .val (.int c4)] [(.int c1), (.int (1 : Int32)), (.ref b96), (.ref b96)])) rfl rfl (hb hby d2_36)
  rw [hnc1] at W100
  have N100 := Fr.snoc X100 N98 n_b96
  have O100 : Old Z n0 h100 := O98.wr W100 n_b96
  have KC100 : Keep h0 h100 [] := KC98.wr W100 (Or.inr sz_b96)
  have V100 : Arv Z h100 b96 k96 .char (2 : Int32) [(.int c0), (.int c1)] (.int (0 : Int32)) := Arv.set Ar99 q99 S99 Ng99 Hs99 G99 (hnc1 ▸ (fits_nar_char _)) W100 1 rfl (Nat.le_of_ble_eq_true rfl)
  refine OW.st (B := T100.setTop (mkF m 37 #[.val (.int (2 : Int32)), .val (.int c0), .val (.int c1), .val (.int c2), .val (.int c3), .val (.int c4)] [(.ref b96)])) (fun _ kk_ => st100 _ kk_) ?_
  exact OW.ret X100 hx hlk (i := .areturn) Bd.returns rfl (Or.inr (Or.inr (Or.inr (Or.inr ⟨rfl, rfl, rfl⟩)))) (hb hby d2_37) e100 (by decide) (by decide) ⟨b96, k96, rfl, N100, KC100, n_b96, sz_b96, V100⟩
theorem ef_CR3 (m : MethodId) (x0 : Int32) (x1 : Int32) (x2 : Int32) (x3 : Int32) (x4 : Int32) (x5 : Int32) : entryFrame m #[(.int x0), (.int x1), (.int x2), (.int x3), (.int x4), (.int x5)] 6 = mkF m 0 #[.val (.int x0), .val (.int x1), .val (.int x2), .val (.int x3), .val (.int x4), .val (.int x5)] [] := by first | (simp [entryFrame, mkF, argsToLocals, Value.category]; done) | rfl
def QCR3 (Z : State) (c0 : Int32) (c1 : Int32) (c2 : Int32) (c3 : Int32) (c4 : Int32) (h0 : Heap) (n0 : Nat) (v : Option Value) (h : Heap) (L : List Loc) : Prop := ∃ (b : Addr) (kb : ClassId), v = some (.ref b) ∧ Fr n0 L ∧ Keep h0 h [] ∧ n0 ≤ b ∧ h0.size ≤ b ∧ Arv Z h b kb .char (3 : Int32) [(.int c0), (.int c1), (.int c2)] (.int (0 : Int32))
set_option maxRecDepth 65536 in
set_option maxHeartbeats 40000000 in
theorem rmCR3 (l : Launch) (Z : State) (a0 : Array Value) (hw : ∀ d ∈ tables_1, d.before a0 Z = true) (ws : List Jvm.Cond) (c0 : Int32) (c1 : Int32) (c2 : Int32) (c3 : Int32) (c4 : Int32) (h0 : Heap) (n0 : Nat) (O0 : Old Z n0 h0) (hnc0 : nar .char c0 = c0) (hnc1 : nar .char c1 = c1) (hnc2 : nar .char c2 = c2) :
    MetFree l (⟨"com/example/cartulary/cartulary/entity/FootprintOfPinLaw", "chars", "(ICCCCC)[C"⟩ : MethodName) (head1 (Jvm.Cond.code (⟨"com/example/cartulary/cartulary/entity/FootprintOfPinLaw", "chars", "(ICCCCC)[C"⟩ : MethodName) method_3_code 6 (some (.array .char)) :: ws) ({ frames := 0, cells := 1, slots := 3, locals := 0 } : Room)) (fun aa_ UU_ => aa_ = #[(.int (3 : Int32)), (.int c0), (.int c1), (.int c2), (.int c3), (.int c4)] ∧ Z.Warmed39 UU_.vm ∧ UU_.heap = h0) (fun _ _ _ _ _ => True) (fun _ UU_ oo_ UV_ => ∃ vv_ LL_, oo_ = .returned vv_ ∧ QCR3 Z c0 c1 c2 c3 c4 h0 n0 vv_ UV_.heap LL_ ∧ FrameEnd UU_ oo_ UV_ LL_ ({ frames := 0, cells := 1, slots := 3, locals := 0 } : Room).cells ({ frames := 0, cells := 1, slots := 3, locals := 0 } : Room).slots) := by
  refine MetFree.of_bodySF (plainFor_of_name pn_4) hisR ?_
  intro p e s m args below meth c s₁ Bd hml0 hP hK
  obtain ⟨rfl, hZ, hh⟩ := hP
  have hx := Bd.exec
  have hby := Bd.bytes
  have hlk := BodyLoose.notSynchronized Bd
  have hml : c.maxLocals = 6 := hml0
  have hown : s.vm.findClass "com/example/cartulary/cartulary/entity/FootprintOfPinLaw" = some m.cls := findClass_of_methodNamed Bd.named
  have hnm := (name_of_methodNamed Bd.named Bd.method).1
  have X0 : Stand p l e ({ frames := 0, cells := 1, slots := 3, locals := 0 } : Room) s m #[(.int (3 : Int32)), (.int c0), (.int c1), (.int c2), (.int c3), (.int c4)] below meth c s₁ [] 0 0 := Stand.of_body Bd
  have e0 : s₁.heap = h0 := by rw [← hh, Bd.state]; rfl
  have N0 := Fr.nil n0
  have KC0 : Keep h0 h0 [] := Keep.refl _ _
  suffices hOW : OW p e below s (QCR3 Z c0 c1 c2 c3 c4 h0 n0) 1 3 (s₁.setTop (mkF m 0 #[.val (.int (3 : Int32)), .val (.int c0), .val (.int c1), .val (.int c2), .val (.int c3), .val (.int c4)] [])) by
    obtain ⟨oq1_, oq2_, oq3_, oq4_⟩ := hOW
    exact ⟨oq1_, oq2_, castTop (ef_CR3 m (3 : Int32) c0 c1 c2 c3 c4) oq3_, oq4_⟩
  refine OW.st (B := s₁.setTop (mkF m 40 #[.val (.int (3 : Int32)), .val (.int c0), .val (.int c1), .val (.int c2), .val (.int c3), .val (.int c4)] [(.int (3 : Int32)), (.int (3 : Int32))])) (fun _ kk_ => XS.iloadN X0.here hx rfl (hb hby d2_0) rfl (XS.ifYes X0.here hx rfl (pc0 := 1) (pc' := 8) rfl (hb hby d2_1) rfl ((if0 _ _).trans (feq (by decide)).2) (by decide) (by decide) (XS.iloadN X0.here hx rfl (hb hby d2_8) rfl (XS.iconst X0.here hx rfl (hb hby d2_9) (XS.icmpYes X0.here hx rfl (pc0 := 10) (pc' := 21) rfl (hb hby d2_10) rfl (feq (by decide)).2 (by decide) (by decide) (XS.iloadN X0.here hx rfl (hb hby d2_21) rfl (XS.iconst X0.here hx rfl (hb hby d2_22) (XS.icmpYes X0.here hx rfl (pc0 := 23) (pc' := 38) rfl (hb hby d2_23) rfl (feq (by decide)).2 (by decide) (by decide) (XS.iloadN X0.here hx rfl (hb hby d2_38) rfl (XS.iconst X0.here hx rfl (hb hby d2_39) kk_)))))))))) ?_
  refine OW.st (B := s₁.setTop (mkF m 44 #[.val (.int (3 : Int32)), .val (.int c0), .val (.int c1), .val (.int c2), .val (.int c3), .val (.int c4)] [(.int (3 : Int32))])) (fun _ kk_ => XS.icmpNo X0.here hx rfl (hb hby d2_40) rfl (teq (by decide)).2 (XS.iconst X0.here hx rfl (hb hby d2_43) kk_)) ?_
  obtain ⟨T101, h101, k101, X101, e101, E101, A101, st101⟩ := newP (aty := .char) X0 hx hZ (w_12 hw) e0 (g := (mkF m 44 #[.val (.int (3 : Int32)), .val (.int c0), .val (.int c1), .val (.int c2), .val (.int c3), .val (.int c4)] [(.int (3 : Int32))])) rfl (hb hby d2_44) rfl (by decide) (cap := 3) (by decide +kernel) (by decide +kernel) (by decide +kernel) (by decide +kernel)
  obtain ⟨b101, g101⟩ : ∃ z, z = h0.size := ⟨_, rfl⟩
  rw [← g101] at A101 st101
  have n_b101 : n0 ≤ b101 := Nat.le_trans (own_oldle O0) (Nat.le_of_eq g101.symm)
  have O101 : Old Z n0 h101 := O0.ext E101
  have sz_b101 : h0.size ≤ b101 := Nat.le_trans KC0.1 (Nat.le_of_eq g101.symm)
  have KC101 : Keep h0 h101 [] := KC0.ext E101
  have V101 : Arv Z h101 b101 k101 .char (3 : Int32) [(.int (0 : Int32)), (.int (0 : Int32)), (.int (0 : Int32))] (.int (0 : Int32)) := (Arv.new A101 (by decide)).pad (pad_rep [] (.int (0 : Int32)) 3)
  refine OW.st (B := T101.setTop (mkF m 49 #[.val (.int (3 : Int32)), .val (.int c0), .val (.int c1), .val (.int c2), .val (.int c3), .val (.int c4)] [(.int c0), (.int (0 : Int32)), (.ref b101), (.ref b101)])) (fun _ kk_ => st101 _ (XS.dup X101.here hx rfl (hb hby d2_46) rfl rfl (XS.iconst X101.here hx rfl (hb hby d2_47) (XS.iloadN X101.here hx rfl (hb hby d2_48) rfl kk_)))) ?_
  obtain ⟨cl102, Ar102, q102, S102, Ng102, Hs102, G102⟩ := id V101
  have hin102 : ¬ ((0 : Int32) < 0 ∨ cl102.slots.size ≤ ((0 : Int32)).toNatClampNeg) := inb_of S102 ⟨by decide, by decide⟩
  obtain ⟨T103, h103, X103, e103, W103, st103⟩ := stC X101 hx hZ e101 Ar102 (j := (0 : Int32)) hin102 (g := (mkF m 49 #[.val (.int (3 : Int32)), .val (.int c0), .val (.int c1), .val (.int c2), .val (.int c3), .val (.int c4)] [(.int c0), (.int (0 : Int32)), (.ref b101), (.ref b101)])) rfl rfl (hb hby d2_49)
  rw [hnc0] at W103
  have N103 := Fr.snoc X103 N0 n_b101
  have O103 : Old Z n0 h103 := O101.wr W103 n_b101
  have KC103 : Keep h0 h103 [] := KC101.wr W103 (Or.inr sz_b101)
  have V103 : Arv Z h103 b101 k101 .char (3 : Int32) [(.int c0), (.int (0 : Int32)), (.int (0 : Int32))] (.int (0 : Int32)) := Arv.set Ar102 q102 S102 Ng102 Hs102 G102 (hnc0 ▸ (fits_nar_char _)) W103 0 rfl (Nat.le_of_ble_eq_true rfl)
  refine OW.st (B := T103.setTop (mkF m 53 #[.val (.int (3 : Int32)), .val (.int c0), .val (.int c1), .val (.int c2), .val (.int c3), .val (.int c4)] [(.int c1), (.int (1 : Int32)), (.ref b101), (.ref b101)])) (fun _ kk_ => st103 _ (XS.dup X103.here hx rfl (hb hby d2_50) rfl rfl (XS.iconst X103.here hx rfl (hb hby d2_51) (XS.iloadN X103.here hx rfl (hb hby d2_52) rfl kk_)))) ?_
  obtain ⟨cl104, Ar104, q104, S104, Ng104, Hs104, G104⟩ := id V103
  have hin104 : ¬ ((1 : Int32) < 0 ∨ cl104.slots.size ≤ ((1 : Int32)).toNatClampNeg) := inb_of S104 ⟨by decide, by decide⟩
  obtain ⟨T105, h105, X105, e105, W105, st105⟩ := stC X103 hx hZ e103 Ar104 (j := (1 : Int32)) hin104 (g := (mkF m 53 #[.val (.int (3 : Int32)), .val (.int c0), .val (.int c1), .val (.int c2), .val (.int c3), .val (.int c4)] [(.int c1), (.int (1 : Int32)), (.ref b101), (.ref b101)])) rfl rfl (hb hby d2_53)
  rw [hnc1] at W105
  have N105 := Fr.snoc X105 N103 n_b101
  have O105 : Old Z n0 h105 := O103.wr W105 n_b101
  have KC105 : Keep h0 h105 [] := KC103.wr W105 (Or.inr sz_b101)
  have V105 : Arv Z h105 b101 k101 .char (3 : Int32) [(.int c0), (.int c1), (.int (0 : Int32))] (.int (0 : Int32)) := Arv.set Ar104 q104 S104 Ng104 Hs104 G104 (hnc1 ▸ (fits_nar_char _)) W105 1 rfl (Nat.le_of_ble_eq_true rfl)
  refine OW.st (B := T105.setTop (mkF m 57 #[.val (.int (3 : Int32)), .val (.int c0), .val (.int c1), .val (.int c2), .val (.int c3), .val (.int c4)] [(.int c2), (.int (2 : Int32)), (.ref b101), (.ref b101)])) (fun _ kk_ => st105 _ (XS.dup X105.here hx rfl (hb hby d2_54) rfl rfl (XS.iconst X105.here hx rfl (hb hby d2_55) (XS.iloadN X105.here hx rfl (hb hby d2_56) rfl kk_)))) ?_
  obtain ⟨cl106, Ar106, q106, S106, Ng106, Hs106, G106⟩ := id V105
  have hin106 : ¬ ((2 : Int32) < 0 ∨ cl106.slots.size ≤ ((2 : Int32)).toNatClampNeg) := inb_of S106 ⟨by decide, by decide⟩
  obtain ⟨T107, h107, X107, e107, W107, st107⟩ := stC X105 hx hZ e105 Ar106 (j := (2 : Int32)) hin106 (g := (mkF m 57 #[.val (.int (3 : Int32)), .val (.int c0), .val (.int c1), .val (.int c2), .val (.int c3), .val (.int c4)] [(.int c2), (.int (2 : Int32)), (.ref b101), (.ref b101)])) rfl rfl (hb hby d2_57)
  rw [hnc2] at W107
  have N107 := Fr.snoc X107 N105 n_b101
  have O107 : Old Z n0 h107 := O105.wr W107 n_b101
  have KC107 : Keep h0 h107 [] := KC105.wr W107 (Or.inr sz_b101)
  have V107 : Arv Z h107 b101 k101 .char (3 : Int32) [(.int c0), (.int c1), (.int c2)] (.int (0 : Int32)) := Arv.set Ar106 q106 S106 Ng106 Hs106 G106 (hnc2 ▸ (fits_nar_char _)) W107 2 rfl (Nat.le_of_ble_eq_true rfl)
  refine OW.st (B := T107.setTop (mkF m 58 #[.val (.int (3 : Int32)), .val (.int c0), .val (.int c1), .val (.int c2), .val (.int c3), .val (.int c4)] [(.ref b101)])) (fun _ kk_ => st107 _ kk_) ?_
  exact OW.ret X107 hx hlk (i := .areturn) Bd.returns rfl (Or.inr (Or.inr (Or.inr (Or.inr ⟨rfl, rfl, rfl⟩)))) (hb hby d2_58) e107 (by decide) (by decide) ⟨b101, k101, rfl, N107, KC107, n_b101, sz_b101, V107⟩
theorem ef_CR4 (m : MethodId) (x0 : Int32) (x1 : Int32) (x2 : Int32) (x3 : Int32) (x4 : Int32) (x5 : Int32) : entryFrame m #[(.int x0), (.int x1), (.int x2), (.int x3), (.int x4), (.int x5)] 6 = mkF m 0 #[.val (.int x0), .val (.int x1), .val (.int x2), .val (.int x3), .val (.int x4), .val (.int x5)] [] := by first | (simp [entryFrame, mkF, argsToLocals, Value.category]; done) | rfl
def QCR4 (Z : State) (c0 : Int32) (c1 : Int32) (c2 : Int32) (c3 : Int32) (c4 : Int32) (h0 : Heap) (n0 : Nat) (v : Option Value) (h : Heap) (L : List Loc) : Prop := ∃ (b : Addr) (kb : ClassId), v = some (.ref b) ∧ Fr n0 L ∧ Keep h0 h [] ∧ n0 ≤ b ∧ h0.size ≤ b ∧ Arv Z h b kb .char (4 : Int32) [(.int c0), (.int c1), (.int c2), (.int c3)] (.int (0 : Int32))
set_option maxRecDepth 65536 in
set_option maxHeartbeats 40000000 in
theorem rmCR4 (l : Launch) (Z : State) (a0 : Array Value) (hw : ∀ d ∈ tables_1, d.before a0 Z = true) (ws : List Jvm.Cond) (c0 : Int32) (c1 : Int32) (c2 : Int32) (c3 : Int32) (c4 : Int32) (h0 : Heap) (n0 : Nat) (O0 : Old Z n0 h0) (hnc0 : nar .char c0 = c0) (hnc1 : nar .char c1 = c1) (hnc2 : nar .char c2 = c2) (hnc3 : nar .char c3 = c3) :
    MetFree l (⟨"com/example/cartulary/cartulary/entity/FootprintOfPinLaw", "chars", "(ICCCCC)[C"⟩ : MethodName) (head1 (Jvm.Cond.code (⟨"com/example/cartulary/cartulary/entity/FootprintOfPinLaw", "chars", "(ICCCCC)[C"⟩ : MethodName) method_3_code 6 (some (.array .char)) :: ws) ({ frames := 0, cells := 1, slots := 4, locals := 0 } : Room)) (fun aa_ UU_ => aa_ = #[(.int (4 : Int32)), (.int c0), (.int c1), (.int c2), (.int c3), (.int c4)] ∧ Z.Warmed39 UU_.vm ∧ UU_.heap = h0) (fun _ _ _ _ _ => True) (fun _ UU_ oo_ UV_ => ∃ vv_ LL_, oo_ = .returned vv_ ∧ QCR4 Z c0 c1 c2 c3 c4 h0 n0 vv_ UV_.heap LL_ ∧ FrameEnd UU_ oo_ UV_ LL_ ({ frames := 0, cells := 1, slots := 4, locals := 0 } : Room).cells ({ frames := 0, cells := 1, slots := 4, locals := 0 } : Room).slots) := by
  refine MetFree.of_bodySF (plainFor_of_name pn_4) hisR ?_
  intro p e s m args below meth c s₁ Bd hml0 hP hK
  obtain ⟨rfl, hZ, hh⟩ := hP
  have hx := Bd.exec
  have hby := Bd.bytes
  have hlk := BodyLoose.notSynchronized Bd
  have hml : c.maxLocals = 6 := hml0
  have hown : s.vm.findClass "com/example/cartulary/cartulary/entity/FootprintOfPinLaw" = some m.cls := findClass_of_methodNamed Bd.named
  have hnm := (name_of_methodNamed Bd.named Bd.method).1
  have X0 : Stand p l e ({ frames := 0, cells := 1, slots := 4, locals := 0 } : Room) s m #[(.int (4 : Int32)), (.int c0), (.int c1), (.int c2), (.int c3), (.int c4)] below meth c s₁ [] 0 0 := Stand.of_body Bd
  have e0 : s₁.heap = h0 := by rw [← hh, Bd.state]; rfl
  have N0 := Fr.nil n0
  have KC0 : Keep h0 h0 [] := Keep.refl _ _
  suffices hOW : OW p e below s (QCR4 Z c0 c1 c2 c3 c4 h0 n0) 1 4 (s₁.setTop (mkF m 0 #[.val (.int (4 : Int32)), .val (.int c0), .val (.int c1), .val (.int c2), .val (.int c3), .val (.int c4)] [])) by
    obtain ⟨oq1_, oq2_, oq3_, oq4_⟩ := hOW
    exact ⟨oq1_, oq2_, castTop (ef_CR4 m (4 : Int32) c0 c1 c2 c3 c4) oq3_, oq4_⟩
  refine OW.st (B := s₁.setTop (mkF m 40 #[.val (.int (4 : Int32)), .val (.int c0), .val (.int c1), .val (.int c2), .val (.int c3), .val (.int c4)] [(.int (3 : Int32)), (.int (4 : Int32))])) (fun _ kk_ => XS.iloadN X0.here hx rfl (hb hby d2_0) rfl (XS.ifYes X0.here hx rfl (pc0 := 1) (pc' := 8) rfl (hb hby d2_1) rfl ((if0 _ _).trans (feq (by decide)).2) (by decide) (by decide) (XS.iloadN X0.here hx rfl (hb hby d2_8) rfl (XS.iconst X0.here hx rfl (hb hby d2_9) (XS.icmpYes X0.here hx rfl (pc0 := 10) (pc' := 21) rfl (hb hby d2_10) rfl (feq (by decide)).2 (by decide) (by decide) (XS.iloadN X0.here hx rfl (hb hby d2_21) rfl (XS.iconst X0.here hx rfl (hb hby d2_22) (XS.icmpYes X0.here hx rfl (pc0 := 23) (pc' := 38) rfl (hb hby d2_23) rfl (feq (by decide)).2 (by decide) (by decide) (XS.iloadN X0.here hx rfl (hb hby d2_38) rfl (XS.iconst X0.here hx rfl (hb hby d2_39) kk_)))))))))) ?_
  refine OW.st (B := s₁.setTop (mkF m 65 #[.val (.int (4 : Int32)), .val (.int c0), .val (.int c1), .val (.int c2), .val (.int c3), .val (.int c4)] [(.int (4 : Int32))])) (fun _ kk_ => XS.icmpYes X0.here hx rfl (pc0 := 40) (pc' := 59) rfl (hb hby d2_40) rfl (feq (by decide)).2 (by decide) (by decide) (XS.iloadN X0.here hx rfl (hb hby d2_59) rfl (XS.iconst X0.here hx rfl (hb hby d2_60) (XS.icmpNo X0.here hx rfl (hb hby d2_61) rfl (teq (by decide)).2 (XS.iconst X0.here hx rfl (hb hby d2_64) kk_))))) ?_
  obtain ⟨T108, h108, k108, X108, e108, E108, A108, st108⟩ := newP (aty := .char) X0 hx hZ (w_12 hw) e0 (g := (mkF m 65 #[.val (.int (4 : Int32)), .val (.int c0), .val (.int c1), .val (.int c2), .val (.int c3), .val (.int c4)] [(.int (4 : Int32))])) rfl (hb hby d2_65) rfl (by decide) (cap := 4) (by decide +kernel) (by decide +kernel) (by decide +kernel) (by decide +kernel)
  obtain ⟨b108, g108⟩ : ∃ z, z = h0.size := ⟨_, rfl⟩
  rw [← g108] at A108 st108
  have n_b108 : n0 ≤ b108 := Nat.le_trans (own_oldle O0) (Nat.le_of_eq g108.symm)
  have O108 : Old Z n0 h108 := O0.ext E108
  have sz_b108 : h0.size ≤ b108 := Nat.le_trans KC0.1 (Nat.le_of_eq g108.symm)
  have KC108 : Keep h0 h108 [] := KC0.ext E108
  have V108 : Arv Z h108 b108 k108 .char (4 : Int32) [(.int (0 : Int32)), (.int (0 : Int32)), (.int (0 : Int32)), (.int (0 : Int32))] (.int (0 : Int32)) := (Arv.new A108 (by decide)).pad (pad_rep [] (.int (0 : Int32)) 4)
  refine OW.st (B := T108.setTop (mkF m 70 #[.val (.int (4 : Int32)), .val (.int c0), .val (.int c1), .val (.int c2), .val (.int c3), .val (.int c4)] [(.int c0), (.int (0 : Int32)), (.ref b108), (.ref b108)])) (fun _ kk_ => st108 _ (XS.dup X108.here hx rfl (hb hby d2_67) rfl rfl (XS.iconst X108.here hx rfl (hb hby d2_68) (XS.iloadN X108.here hx rfl (hb hby d2_69) rfl kk_)))) ?_
  obtain ⟨cl109, Ar109, q109, S109, Ng109, Hs109, G109⟩ := id V108
  have hin109 : ¬ ((0 : Int32) < 0 ∨ cl109.slots.size ≤ ((0 : Int32)).toNatClampNeg) := inb_of S109 ⟨by decide, by decide⟩
  obtain ⟨T110, h110, X110, e110, W110, st110⟩ := stC X108 hx hZ e108 Ar109 (j := (0 : Int32)) hin109 (g := (mkF m 70 #[.val (.int (4 : Int32)), .val (.int c0), .val (.int c1), .val (.int c2), .val (.int c3), .val (.int c4)] [(.int c0), (.int (0 : Int32)), (.ref b108), (.ref b108)])) rfl rfl (hb hby d2_70)
  rw [hnc0] at W110
  have N110 := Fr.snoc X110 N0 n_b108
  have O110 : Old Z n0 h110 := O108.wr W110 n_b108
  have KC110 : Keep h0 h110 [] := KC108.wr W110 (Or.inr sz_b108)
  have V110 : Arv Z h110 b108 k108 .char (4 : Int32) [(.int c0), (.int (0 : Int32)), (.int (0 : Int32)), (.int (0 : Int32))] (.int (0 : Int32)) := Arv.set Ar109 q109 S109 Ng109 Hs109 G109 (hnc0 ▸ (fits_nar_char _)) W110 0 rfl (Nat.le_of_ble_eq_true rfl)
  refine OW.st (B := T110.setTop (mkF m 74 #[.val (.int (4 : Int32)), .val (.int c0), .val (.int c1), .val (.int c2), .val (.int c3), .val (.int c4)] [(.int c1), (.int (1 : Int32)), (.ref b108), (.ref b108)])) (fun _ kk_ => st110 _ (XS.dup X110.here hx rfl (hb hby d2_71) rfl rfl (XS.iconst X110.here hx rfl (hb hby d2_72) (XS.iloadN X110.here hx rfl (hb hby d2_73) rfl kk_)))) ?_
  obtain ⟨cl111, Ar111, q111, S111, Ng111, Hs111, G111⟩ := id V110
  have hin111 : ¬ ((1 : Int32) < 0 ∨ cl111.slots.size ≤ ((1 : Int32)).toNatClampNeg) := inb_of S111 ⟨by decide, by decide⟩
  obtain ⟨T112, h112, X112, e112, W112, st112⟩ := stC X110 hx hZ e110 Ar111 (j := (1 : Int32)) hin111 (g := (mkF m 74 #[.val (.int (4 : Int32)), .val (.int c0), .val (.int c1), .val (.int c2), .val (.int c3), .val (.int c4)] [(.int c1), (.int (1 : Int32)), (.ref b108), (.ref b108)])) rfl rfl (hb hby d2_74)
  rw [hnc1] at W112
  have N112 := Fr.snoc X112 N110 n_b108
  have O112 : Old Z n0 h112 := O110.wr W112 n_b108
  have KC112 : Keep h0 h112 [] := KC110.wr W112 (Or.inr sz_b108)
  have V112 : Arv Z h112 b108 k108 .char (4 : Int32) [(.int c0), (.int c1), (.int (0 : Int32)), (.int (0 : Int32))] (.int (0 : Int32)) := Arv.set Ar111 q111 S111 Ng111 Hs111 G111 (hnc1 ▸ (fits_nar_char _)) W112 1 rfl (Nat.le_of_ble_eq_true rfl)
  refine OW.st (B := T112.setTop (mkF m 78 #[.val (.int (4 : Int32)), .val (.int c0), .val (.int c1), .val (.int c2), .val (.int c3), .val (.int c4)] [(.int c2), (.int (2 : Int32)), (.ref b108), (.ref b108)])) (fun _ kk_ => st112 _ (XS.dup X112.here hx rfl (hb hby d2_75) rfl rfl (XS.iconst X112.here hx rfl (hb hby d2_76) (XS.iloadN X112.here hx rfl (hb hby d2_77) rfl kk_)))) ?_
  obtain ⟨cl113, Ar113, q113, S113, Ng113, Hs113, G113⟩ := id V112
  have hin113 : ¬ ((2 : Int32) < 0 ∨ cl113.slots.size ≤ ((2 : Int32)).toNatClampNeg) := inb_of S113 ⟨by decide, by decide⟩
  obtain ⟨T114, h114, X114, e114, W114, st114⟩ := stC X112 hx hZ e112 Ar113 (j := (2 : Int32)) hin113 (g := (mkF m 78 #[.val (.int (4 : Int32)), .val (.int c0), .val (.int c1), .val (.int c2), .val (.int c3), .val (.int c4)] [(.int c2), (.int (2 : Int32)), (.ref b108), (.ref b108)])) rfl rfl (hb hby d2_78)
  rw [hnc2] at W114
  have N114 := Fr.snoc X114 N112 n_b108
  have O114 : Old Z n0 h114 := O112.wr W114 n_b108
  have KC114 : Keep h0 h114 [] := KC112.wr W114 (Or.inr sz_b108)
  have V114 : Arv Z h114 b108 k108 .char (4 : Int32) [(.int c0), (.int c1), (.int c2), (.int (0 : Int32))] (.int (0 : Int32)) := Arv.set Ar113 q113 S113 Ng113 Hs113 G113 (hnc2 ▸ (fits_nar_char _)) W114 2 rfl (Nat.le_of_ble_eq_true rfl)
  refine OW.st (B := T114.setTop (mkF m 83 #[.val (.int (4 : Int32)), .val (.int c0), .val (.int c1), .val (.int c2), .val (.int c3), .val (.int c4)] [(.int c3), (.int (3 : Int32)), (.ref b108), (.ref b108)])) (fun _ kk_ => st114 _ (XS.dup X114.here hx rfl (hb hby d2_79) rfl rfl (XS.iconst X114.here hx rfl (hb hby d2_80) (XS.iload X114.here hx rfl (hb hby d2_81) rfl kk_)))) ?_
  obtain ⟨cl115, Ar115, q115, S115, Ng115, Hs115, G115⟩ := id V114
  have hin115 : ¬ ((3 : Int32) < 0 ∨ cl115.slots.size ≤ ((3 : Int32)).toNatClampNeg) := inb_of S115 ⟨by decide, by decide⟩
  obtain ⟨T116, h116, X116, e116, W116, st116⟩ := stC X114 hx hZ e114 Ar115 (j := (3 : Int32)) hin115 (g := (mkF m 83 #[.val (.int (4 : Int32)), .val (.int c0), .val (.int c1), .val (.int c2), .val (.int c3), .val (.int c4)] [(.int c3), (.int (3 : Int32)), (.ref b108), (.ref b108)])) rfl rfl (hb hby d2_83)
  rw [hnc3] at W116
  have N116 := Fr.snoc X116 N114 n_b108
  have O116 : Old Z n0 h116 := O114.wr W116 n_b108
  have KC116 : Keep h0 h116 [] := KC114.wr W116 (Or.inr sz_b108)
  have V116 : Arv Z h116 b108 k108 .char (4 : Int32) [(.int c0), (.int c1), (.int c2), (.int c3)] (.int (0 : Int32)) := Arv.set Ar115 q115 S115 Ng115 Hs115 G115 (hnc3 ▸ (fits_nar_char _)) W116 3 rfl (Nat.le_of_ble_eq_true rfl)
  refine OW.st (B := T116.setTop (mkF m 84 #[.val (.int (4 : Int32)), .val (.int c0), .val (.int c1), .val (.int c2), .val (.int c3), .val (.int c4)] [(.ref b108)])) (fun _ kk_ => st116 _ kk_) ?_
  exact OW.ret X116 hx hlk (i := .areturn) Bd.returns rfl (Or.inr (Or.inr (Or.inr (Or.inr ⟨rfl, rfl, rfl⟩)))) (hb hby d2_84) e116 (by decide) (by decide) ⟨b108, k108, rfl, N116, KC116, n_b108, sz_b108, V116⟩
theorem ef_CR5 (m : MethodId) (x0 : Int32) (x1 : Int32) (x2 : Int32) (x3 : Int32) (x4 : Int32) (x5 : Int32) : entryFrame m #[(.int x0), (.int x1), (.int x2), (.int x3), (.int x4), (.int x5)] 6 = mkF m 0 #[.val (.int x0), .val (.int x1), .val (.int x2), .val (.int x3), .val (.int x4), .val (.int x5)] [] := by first | (simp [entryFrame, mkF, argsToLocals, Value.category]; done) | rfl
def QCR5 (Z : State) (c0 : Int32) (c1 : Int32) (c2 : Int32) (c3 : Int32) (c4 : Int32) (h0 : Heap) (n0 : Nat) (v : Option Value) (h : Heap) (L : List Loc) : Prop := ∃ (b : Addr) (kb : ClassId), v = some (.ref b) ∧ Fr n0 L ∧ Keep h0 h [] ∧ n0 ≤ b ∧ h0.size ≤ b ∧ Arv Z h b kb .char (5 : Int32) [(.int c0), (.int c1), (.int c2), (.int c3), (.int c4)] (.int (0 : Int32))
set_option maxRecDepth 65536 in
set_option maxHeartbeats 40000000 in
theorem rmCR5 (l : Launch) (Z : State) (a0 : Array Value) (hw : ∀ d ∈ tables_1, d.before a0 Z = true) (ws : List Jvm.Cond) (c0 : Int32) (c1 : Int32) (c2 : Int32) (c3 : Int32) (c4 : Int32) (h0 : Heap) (n0 : Nat) (O0 : Old Z n0 h0) (hnc0 : nar .char c0 = c0) (hnc1 : nar .char c1 = c1) (hnc2 : nar .char c2 = c2) (hnc3 : nar .char c3 = c3) (hnc4 : nar .char c4 = c4) :
    MetFree l (⟨"com/example/cartulary/cartulary/entity/FootprintOfPinLaw", "chars", "(ICCCCC)[C"⟩ : MethodName) (head1 (Jvm.Cond.code (⟨"com/example/cartulary/cartulary/entity/FootprintOfPinLaw", "chars", "(ICCCCC)[C"⟩ : MethodName) method_3_code 6 (some (.array .char)) :: ws) ({ frames := 0, cells := 1, slots := 5, locals := 0 } : Room)) (fun aa_ UU_ => aa_ = #[(.int (5 : Int32)), (.int c0), (.int c1), (.int c2), (.int c3), (.int c4)] ∧ Z.Warmed39 UU_.vm ∧ UU_.heap = h0) (fun _ _ _ _ _ => True) (fun _ UU_ oo_ UV_ => ∃ vv_ LL_, oo_ = .returned vv_ ∧ QCR5 Z c0 c1 c2 c3 c4 h0 n0 vv_ UV_.heap LL_ ∧ FrameEnd UU_ oo_ UV_ LL_ ({ frames := 0, cells := 1, slots := 5, locals := 0 } : Room).cells ({ frames := 0, cells := 1, slots := 5, locals := 0 } : Room).slots) := by
  refine MetFree.of_bodySF (plainFor_of_name pn_4) hisR ?_
  intro p e s m args below meth c s₁ Bd hml0 hP hK
  obtain ⟨rfl, hZ, hh⟩ := hP
  have hx := Bd.exec
  have hby := Bd.bytes
  have hlk := BodyLoose.notSynchronized Bd
  have hml : c.maxLocals = 6 := hml0
  have hown : s.vm.findClass "com/example/cartulary/cartulary/entity/FootprintOfPinLaw" = some m.cls := findClass_of_methodNamed Bd.named
  have hnm := (name_of_methodNamed Bd.named Bd.method).1
  have X0 : Stand p l e ({ frames := 0, cells := 1, slots := 5, locals := 0 } : Room) s m #[(.int (5 : Int32)), (.int c0), (.int c1), (.int c2), (.int c3), (.int c4)] below meth c s₁ [] 0 0 := Stand.of_body Bd
  have e0 : s₁.heap = h0 := by rw [← hh, Bd.state]; rfl
  have N0 := Fr.nil n0
  have KC0 : Keep h0 h0 [] := Keep.refl _ _
  suffices hOW : OW p e below s (QCR5 Z c0 c1 c2 c3 c4 h0 n0) 1 5 (s₁.setTop (mkF m 0 #[.val (.int (5 : Int32)), .val (.int c0), .val (.int c1), .val (.int c2), .val (.int c3), .val (.int c4)] [])) by
    obtain ⟨oq1_, oq2_, oq3_, oq4_⟩ := hOW
    exact ⟨oq1_, oq2_, castTop (ef_CR5 m (5 : Int32) c0 c1 c2 c3 c4) oq3_, oq4_⟩
  refine OW.st (B := s₁.setTop (mkF m 40 #[.val (.int (5 : Int32)), .val (.int c0), .val (.int c1), .val (.int c2), .val (.int c3), .val (.int c4)] [(.int (3 : Int32)), (.int (5 : Int32))])) (fun _ kk_ => XS.iloadN X0.here hx rfl (hb hby d2_0) rfl (XS.ifYes X0.here hx rfl (pc0 := 1) (pc' := 8) rfl (hb hby d2_1) rfl ((if0 _ _).trans (feq (by decide)).2) (by decide) (by decide) (XS.iloadN X0.here hx rfl (hb hby d2_8) rfl (XS.iconst X0.here hx rfl (hb hby d2_9) (XS.icmpYes X0.here hx rfl (pc0 := 10) (pc' := 21) rfl (hb hby d2_10) rfl (feq (by decide)).2 (by decide) (by decide) (XS.iloadN X0.here hx rfl (hb hby d2_21) rfl (XS.iconst X0.here hx rfl (hb hby d2_22) (XS.icmpYes X0.here hx rfl (pc0 := 23) (pc' := 38) rfl (hb hby d2_23) rfl (feq (by decide)).2 (by decide) (by decide) (XS.iloadN X0.here hx rfl (hb hby d2_38) rfl (XS.iconst X0.here hx rfl (hb hby d2_39) kk_)))))))))) ?_
  refine OW.st (B := s₁.setTop (mkF m 86 #[.val (.int (5 : Int32)), .val (.int c0), .val (.int c1), .val (.int c2), .val (.int c3), .val (.int c4)] [(.int (5 : Int32))])) (fun _ kk_ => XS.icmpYes X0.here hx rfl (pc0 := 40) (pc' := 59) rfl (hb hby d2_40) rfl (feq (by decide)).2 (by decide) (by decide) (XS.iloadN X0.here hx rfl (hb hby d2_59) rfl (XS.iconst X0.here hx rfl (hb hby d2_60) (XS.icmpYes X0.here hx rfl (pc0 := 61) (pc' := 85) rfl (hb hby d2_61) rfl (feq (by decide)).2 (by decide) (by decide) (XS.iconst X0.here hx rfl (hb hby d2_85) kk_))))) ?_
  obtain ⟨T117, h117, k117, X117, e117, E117, A117, st117⟩ := newP (aty := .char) X0 hx hZ (w_12 hw) e0 (g := (mkF m 86 #[.val (.int (5 : Int32)), .val (.int c0), .val (.int c1), .val (.int c2), .val (.int c3), .val (.int c4)] [(.int (5 : Int32))])) rfl (hb hby d2_86) rfl (by decide) (cap := 5) (by decide +kernel) (by decide +kernel) (by decide +kernel) (by decide +kernel)
  obtain ⟨b117, g117⟩ : ∃ z, z = h0.size := ⟨_, rfl⟩
  rw [← g117] at A117 st117
  have n_b117 : n0 ≤ b117 := Nat.le_trans (own_oldle O0) (Nat.le_of_eq g117.symm)
  have O117 : Old Z n0 h117 := O0.ext E117
  have sz_b117 : h0.size ≤ b117 := Nat.le_trans KC0.1 (Nat.le_of_eq g117.symm)
  have KC117 : Keep h0 h117 [] := KC0.ext E117
  have V117 : Arv Z h117 b117 k117 .char (5 : Int32) [(.int (0 : Int32)), (.int (0 : Int32)), (.int (0 : Int32)), (.int (0 : Int32)), (.int (0 : Int32))] (.int (0 : Int32)) := (Arv.new A117 (by decide)).pad (pad_rep [] (.int (0 : Int32)) 5)
  refine OW.st (B := T117.setTop (mkF m 91 #[.val (.int (5 : Int32)), .val (.int c0), .val (.int c1), .val (.int c2), .val (.int c3), .val (.int c4)] [(.int c0), (.int (0 : Int32)), (.ref b117), (.ref b117)])) (fun _ kk_ => st117 _ (XS.dup X117.here hx rfl (hb hby d2_88) rfl rfl (XS.iconst X117.here hx rfl (hb hby d2_89) (XS.iloadN X117.here hx rfl (hb hby d2_90) rfl kk_)))) ?_
  obtain ⟨cl118, Ar118, q118, S118, Ng118, Hs118, G118⟩ := id V117
  have hin118 : ¬ ((0 : Int32) < 0 ∨ cl118.slots.size ≤ ((0 : Int32)).toNatClampNeg) := inb_of S118 ⟨by decide, by decide⟩
  obtain ⟨T119, h119, X119, e119, W119, st119⟩ := stC X117 hx hZ e117 Ar118 (j := (0 : Int32)) hin118 (g := (mkF m 91 #[.val (.int (5 : Int32)), .val (.int c0), .val (.int c1), .val (.int c2), .val (.int c3), .val (.int c4)] [(.int c0), (.int (0 : Int32)), (.ref b117), (.ref b117)])) rfl rfl (hb hby d2_91)
  rw [hnc0] at W119
  have N119 := Fr.snoc X119 N0 n_b117
  have O119 : Old Z n0 h119 := O117.wr W119 n_b117
  have KC119 : Keep h0 h119 [] := KC117.wr W119 (Or.inr sz_b117)
  have V119 : Arv Z h119 b117 k117 .char (5 : Int32) [(.int c0), (.int (0 : Int32)), (.int (0 : Int32)), (.int (0 : Int32)), (.int (0 : Int32))] (.int (0 : Int32)) := Arv.set Ar118 q118 S118 Ng118 Hs118 G118 (hnc0 ▸ (fits_nar_char _)) W119 0 rfl (Nat.le_of_ble_eq_true rfl)
  refine OW.st (B := T119.setTop (mkF m 95 #[.val (.int (5 : Int32)), .val (.int c0), .val (.int c1), .val (.int c2), .val (.int c3), .val (.int c4)] [(.int c1), (.int (1 : Int32)), (.ref b117), (.ref b117)])) (fun _ kk_ => st119 _ (XS.dup X119.here hx rfl (hb hby d2_92) rfl rfl (XS.iconst X119.here hx rfl (hb hby d2_93) (XS.iloadN X119.here hx rfl (hb hby d2_94) rfl kk_)))) ?_
  obtain ⟨cl120, Ar120, q120, S120, Ng120, Hs120, G120⟩ := id V119
  have hin120 : ¬ ((1 : Int32) < 0 ∨ cl120.slots.size ≤ ((1 : Int32)).toNatClampNeg) := inb_of S120 ⟨by decide, by decide⟩
  obtain ⟨T121, h121, X121, e121, W121, st121⟩ := stC X119 hx hZ e119 Ar120 (j := (1 : Int32)) hin120 (g := (mkF m 95 #[.val (.int (5 : Int32)), .val (.int c0), .val (.int c1), .val (.int c2), .val (.int c3), .val (.int c4)] [(.int c1), (.int (1 : Int32)), (.ref b117), (.ref b117)])) rfl rfl (hb hby d2_95)
  rw [hnc1] at W121
  have N121 := Fr.snoc X121 N119 n_b117
  have O121 : Old Z n0 h121 := O119.wr W121 n_b117
  have KC121 : Keep h0 h121 [] := KC119.wr W121 (Or.inr sz_b117)
  have V121 : Arv Z h121 b117 k117 .char (5 : Int32) [(.int c0), (.int c1), (.int (0 : Int32)), (.int (0 : Int32)), (.int (0 : Int32))] (.int (0 : Int32)) := Arv.set Ar120 q120 S120 Ng120 Hs120 G120 (hnc1 ▸ (fits_nar_char _)) W121 1 rfl (Nat.le_of_ble_eq_true rfl)
  refine OW.st (B := T121.setTop (mkF m 99 #[.val (.int (5 : Int32)), .val (.int c0), .val (.int c1), .val (.int c2), .val (.int c3), .val (.int c4)] [(.int c2), (.int (2 : Int32)), (.ref b117), (.ref b117)])) (fun _ kk_ => st121 _ (XS.dup X121.here hx rfl (hb hby d2_96) rfl rfl (XS.iconst X121.here hx rfl (hb hby d2_97) (XS.iloadN X121.here hx rfl (hb hby d2_98) rfl kk_)))) ?_
  obtain ⟨cl122, Ar122, q122, S122, Ng122, Hs122, G122⟩ := id V121
  have hin122 : ¬ ((2 : Int32) < 0 ∨ cl122.slots.size ≤ ((2 : Int32)).toNatClampNeg) := inb_of S122 ⟨by decide, by decide⟩
  obtain ⟨T123, h123, X123, e123, W123, st123⟩ := stC X121 hx hZ e121 Ar122 (j := (2 : Int32)) hin122 (g := (mkF m 99 #[.val (.int (5 : Int32)), .val (.int c0), .val (.int c1), .val (.int c2), .val (.int c3), .val (.int c4)] [(.int c2), (.int (2 : Int32)), (.ref b117), (.ref b117)])) rfl rfl (hb hby d2_99)
  rw [hnc2] at W123
  have N123 := Fr.snoc X123 N121 n_b117
  have O123 : Old Z n0 h123 := O121.wr W123 n_b117
  have KC123 : Keep h0 h123 [] := KC121.wr W123 (Or.inr sz_b117)
  have V123 : Arv Z h123 b117 k117 .char (5 : Int32) [(.int c0), (.int c1), (.int c2), (.int (0 : Int32)), (.int (0 : Int32))] (.int (0 : Int32)) := Arv.set Ar122 q122 S122 Ng122 Hs122 G122 (hnc2 ▸ (fits_nar_char _)) W123 2 rfl (Nat.le_of_ble_eq_true rfl)
  refine OW.st (B := T123.setTop (mkF m 104 #[.val (.int (5 : Int32)), .val (.int c0), .val (.int c1), .val (.int c2), .val (.int c3), .val (.int c4)] [(.int c3), (.int (3 : Int32)), (.ref b117), (.ref b117)])) (fun _ kk_ => st123 _ (XS.dup X123.here hx rfl (hb hby d2_100) rfl rfl (XS.iconst X123.here hx rfl (hb hby d2_101) (XS.iload X123.here hx rfl (hb hby d2_102) rfl kk_)))) ?_
  obtain ⟨cl124, Ar124, q124, S124, Ng124, Hs124, G124⟩ := id V123
  have hin124 : ¬ ((3 : Int32) < 0 ∨ cl124.slots.size ≤ ((3 : Int32)).toNatClampNeg) := inb_of S124 ⟨by decide, by decide⟩
  obtain ⟨T125, h125, X125, e125, W125, st125⟩ := stC X123 hx hZ e123 Ar124 (j := (3 : Int32)) hin124 (g := (mkF m 104 #[.val (.int (5 : Int32)), .val (.int c0), .val (.int c1), .val (.int c2), .val (.int c3), .val (.int c4)] [(.int c3), (.int (3 : Int32)), (.ref b117), (.ref b117)])) rfl rfl (hb hby d2_104)
  rw [hnc3] at W125
  have N125 := Fr.snoc X125 N123 n_b117
  have O125 : Old Z n0 h125 := O123.wr W125 n_b117
  have KC125 : Keep h0 h125 [] := KC123.wr W125 (Or.inr sz_b117)
  have V125 : Arv Z h125 b117 k117 .char (5 : Int32) [(.int c0), (.int c1), (.int c2), (.int c3), (.int (0 : Int32))] (.int (0 : Int32)) := Arv.set Ar124 q124 S124 Ng124 Hs124 G124 (hnc3 ▸ (fits_nar_char _)) W125 3 rfl (Nat.le_of_ble_eq_true rfl)
  refine OW.st (B := T125.setTop (mkF m 109 #[.val (.int (5 : Int32)), .val (.int c0), .val (.int c1), .val (.int c2), .val (.int c3), .val (.int c4)] [(.int c4), (.int (4 : Int32)), (.ref b117), (.ref b117)])) (fun _ kk_ => st125 _ (XS.dup X125.here hx rfl (hb hby d2_105) rfl rfl (XS.iconst X125.here hx rfl (hb hby d2_106) (XS.iload X125.here hx rfl (hb hby d2_107) rfl kk_)))) ?_
  obtain ⟨cl126, Ar126, q126, S126, Ng126, Hs126, G126⟩ := id V125
  have hin126 : ¬ ((4 : Int32) < 0 ∨ cl126.slots.size ≤ ((4 : Int32)).toNatClampNeg) := inb_of S126 ⟨by decide, by decide⟩
  obtain ⟨T127, h127, X127, e127, W127, st127⟩ := stC X125 hx hZ e125 Ar126 (j := (4 : Int32)) hin126 (g := (mkF m 109 #[.val (.int (5 : Int32)), .val (.int c0), .val (.int c1), .val (.int c2), .val (.int c3), .val (.int c4)] [(.int c4), (.int (4 : Int32)), (.ref b117), (.ref b117)])) rfl rfl (hb hby d2_109)
  rw [hnc4] at W127
  have N127 := Fr.snoc X127 N125 n_b117
  have O127 : Old Z n0 h127 := O125.wr W127 n_b117
  have KC127 : Keep h0 h127 [] := KC125.wr W127 (Or.inr sz_b117)
  have V127 : Arv Z h127 b117 k117 .char (5 : Int32) [(.int c0), (.int c1), (.int c2), (.int c3), (.int c4)] (.int (0 : Int32)) := Arv.set Ar126 q126 S126 Ng126 Hs126 G126 (hnc4 ▸ (fits_nar_char _)) W127 4 rfl (Nat.le_of_ble_eq_true rfl)
  refine OW.st (B := T127.setTop (mkF m 110 #[.val (.int (5 : Int32)), .val (.int c0), .val (.int c1), .val (.int c2), .val (.int c3), .val (.int c4)] [(.ref b117)])) (fun _ kk_ => st127 _ kk_) ?_
  exact OW.ret X127 hx hlk (i := .areturn) Bd.returns rfl (Or.inr (Or.inr (Or.inr (Or.inr ⟨rfl, rfl, rfl⟩)))) (hb hby d2_110) e127 (by decide) (by decide) ⟨b117, k117, rfl, N127, KC127, n_b117, sz_b117, V127⟩
theorem ef_OF0 (m : MethodId) (x0 : Addr) : entryFrame m #[(.ref x0)] 3 = mkF m 0 #[.val (.ref x0), .unset, .unset] [] := by first | (simp [entryFrame, mkF, argsToLocals, Value.category]; done) | rfl
def QOF0 (Z : State) (b : Addr) (ba : Addr) (kb : ClassId) (zb : Int32) (cs : List Int32) (zr : Int32) (i_COMPACT_STRINGS : Int32) (v_SIOOBE_FORMATTER : Value) (h0 : Heap) (n0 : Nat) (v : Option Value) (h : Heap) (L : List Loc) : Prop := v = some (.long ((40 : Int64) + ((1 : Int64) * (zr.toInt64)))) ∧ Fr n0 L ∧ h = h0
set_option maxRecDepth 65536 in
set_option maxHeartbeats 40000000 in
theorem rmOF0 (l : Launch) (Z : State) (a0 : Array Value) (hw : ∀ d ∈ tables_1, d.before a0 Z = true) (ws : List Jvm.Cond) (b : Addr) (ba : Addr) (kb : ClassId) (zb : Int32) (cs : List Int32) (zr : Int32) (i_COMPACT_STRINGS : Int32) (v_SIOOBE_FORMATTER : Value) (h0 : Heap) (n0 : Nat) (O0 : Old Z n0 h0) (E : Exa Z h0 b "java/lang/String") (F1 : Fld Z h0 b "java/lang/String" "value" "[B" (.ref ba)) (F2 : Fld Z h0 b "java/lang/String" "coder" "B" (.int (0 : Int32))) (B : Arv Z h0 ba kb .byte zb (OwnL cs) (.int (0 : Int32))) (hzb : zb.toInt = ((cs.length : Nat) : Int)) (hr : (zb >>> ((0 : Int32) &&& 31)) = zr) (hlen : zr.toInt = (cs.length : Int)) (hmax : cs.length ≤ 10) (hch : OwnChs cs) (hlat : OwnLat cs) (hS : OwnS Z i_COMPACT_STRINGS v_SIOOBE_FORMATTER) :
    MetFree l (⟨"com/example/cartulary/cartulary/entity/Footprint", "of", "(Ljava/lang/String;)J"⟩ : MethodName) (head1 (Jvm.Cond.code (⟨"com/example/cartulary/cartulary/entity/Footprint", "of", "(Ljava/lang/String;)J"⟩ : MethodName) prog_25_method_3_code 3 (some .long) :: ws) ({ frames := 4, cells := 0, slots := 0, locals := 53 } : Room)) (fun aa_ UU_ => aa_ = #[(.ref b)] ∧ Z.Warmed39 UU_.vm ∧ UU_.heap = h0) (fun _ _ _ _ _ => True) (fun _ UU_ oo_ UV_ => ∃ vv_ LL_, oo_ = .returned vv_ ∧ QOF0 Z b ba kb zb cs zr i_COMPACT_STRINGS v_SIOOBE_FORMATTER h0 n0 vv_ UV_.heap LL_ ∧ FrameEnd UU_ oo_ UV_ LL_ ({ frames := 4, cells := 0, slots := 0, locals := 53 } : Room).cells ({ frames := 4, cells := 0, slots := 0, locals := 53 } : Room).slots) := by
  refine MetFree.of_bodySF (plainFor_of_name pn_5) hisR ?_
  intro p e s m args below meth c s₁ Bd hml0 hP hK
  obtain ⟨rfl, hZ, hh⟩ := hP
  have hx := Bd.exec
  have hby := Bd.bytes
  have hlk := BodyLoose.notSynchronized Bd
  have hml : c.maxLocals = 3 := hml0
  have hown : s.vm.findClass "com/example/cartulary/cartulary/entity/Footprint" = some m.cls := findClass_of_methodNamed Bd.named
  have hnm := (name_of_methodNamed Bd.named Bd.method).1
  have X0 : Stand p l e ({ frames := 4, cells := 0, slots := 0, locals := 53 } : Room) s m #[(.ref b)] below meth c s₁ [] 0 0 := Stand.of_body Bd
  have e0 : s₁.heap = h0 := by rw [← hh, Bd.state]; rfl
  have N0 := Fr.nil n0
  suffices hOW : OW p e below s (QOF0 Z b ba kb zb cs zr i_COMPACT_STRINGS v_SIOOBE_FORMATTER h0 n0) 0 0 (s₁.setTop (mkF m 0 #[.val (.ref b), .unset, .unset] [])) by
    obtain ⟨oq1_, oq2_, oq3_, oq4_⟩ := hOW
    exact ⟨oq1_, oq2_, castTop (ef_OF0 m b) oq3_, oq4_⟩
  have hS' := hS
  obtain ⟨Si_COMPACT_STRINGS, Sv_SIOOBE_FORMATTER, Rv_SIOOBE_FORMATTER, S__assertionsDisabled, S_HI_BYTE_SHIFT, S_LO_BYTE_SHIFT, Pi_COMPACT_STRINGS⟩ := hS'
  refine OW.st (B := s₁.setTop (mkF m 4 #[.val (.ref b), .val (.int (1 : Int32)), .val (.int (0 : Int32))] [])) (fun _ kk_ => XS.iconst X0.here hx rfl (hb hby d6_0) (XS.istoreN X0.here hx rfl (hb hby d6_1) rfl (l' := #[.val (.ref b), .val (.int (1 : Int32)), .unset]) rfl (XS.iconst X0.here hx rfl (hb hby d6_2) (XS.istoreN X0.here hx rfl (hb hby d6_3) rfl (l' := #[.val (.ref b), .val (.int (1 : Int32)), .val (.int (0 : Int32))]) rfl kk_)))) ?_
  have J128 : ∀ (f : Nat) (T128 : State) (L128 : List Loc) (h128 : Heap) (X128 : Stand p l e ({ frames := 4, cells := 0, slots := 0, locals := 53 } : Room) s m #[(.ref b)] below meth c T128 L128 0 0) (N128 : Fr n0 L128) (e128 : T128.heap = h128) (O128 : Old Z n0 h128) (i : Int32) (mm : Nat), (h0 = h128) → (i.toInt = (mm : Int)) → (mm + f = cs.length) → (∀ j : Nat, j < mm → ∀ c : Int32, cs[j]? = some c → ¬ ((255 : Int32) < c)) → OW p e below s (QOF0 Z b ba kb zb cs zr i_COMPACT_STRINGS v_SIOOBE_FORMATTER h0 n0) 0 0 (T128.setTop (mkF m 4 #[.val (.ref b), .val (.int (1 : Int32)), .val (.int i)] [])) := by
    intro f
    induction f with
    | zero =>
      intro T128 L128 h128 X128 N128 e128 O128 i mm hH hi hm hl
      subst hH
      have hmm : mm = cs.length := by omega
      subst hmm
      refine OW.st (B := T128.setTop (mkF m 6 #[.val (.ref b), .val (.int (1 : Int32)), .val (.int i)] [(.ref b), (.int i)])) (fun _ kk_ => XS.iloadN X128.here hx rfl (hb hby d6_4) rfl (XS.aloadN X128.here hx rfl (hb hby d6_5) rfl rfl kk_)) ?_
      obtain ⟨cq129, kq129, q129a, q129b, q129c⟩ := isOf hZ e128 E
      obtain ⟨_, _, ⟨T129, L129, k129, n129⟩, -, X129, ⟨Lc129, hQ129, l129, y129, z129⟩, st129⟩ := X128.virtualBack hx (y := (⟨"java/lang/String", "length", "()I"⟩ : MethodName)) (z := (⟨"java/lang/String", "length", "()I"⟩ : MethodName)) hown (mvT hZ (w_35 hw)) (mvT hZ (w_36 hw)) (notFace_of_selects (args := #[]) (mvT hZ (w_38 hw))) (mvT hZ (w_38 hw)) (mvT hZ (w_37 hw)) (by decide) (backOf (W := 1) (rmLE0 l Z a0 hw [] b ba kb zb cs zr i_COMPACT_STRINGS v_SIOOBE_FORMATTER h0 n0 O128 E F1 F2 B hr hS) hZ (w_39 hw) (w_8 hw) (by decide) (by decide)) q129a q129c (g := (mkF m 6 #[.val (.ref b), .val (.int (1 : Int32)), .val (.int i)] [(.ref b), (.int i)])) rfl (by rw [hml]; rfl) (Steps.refl _) (argsL := []) (rest := [(.int i)]) (lenOf pd_14 rfl) rfl (by show 2 * 0 + _ ≤ _; exact Nat.le_of_eq rfl) (hb hby d6_6) (fun _ _ => ⟨rfl, e128, (by decide : 0 + 0 ≤ _), (by decide : 0 + 0 ≤ _)⟩)
      dsimp only [Pt.U, Pt.locs, Pt.cells, Pt.slots] at X129 l129 y129 z129 st129 hQ129
      subst l129 y129 z129
      obtain ⟨rfl, Nq129, e129⟩ := hQ129
      have N129 := Fr.app N128 Nq129
      refine OW.tr (B := T129.setTop (mkF m 9 #[.val (.ref b), .val (.int (1 : Int32)), .val (.int i)] [(.int zr), (.int i)])) (st129) ?_
      refine OW.st (B := T129.setTop (mkF m 54 #[.val (.ref b), .val (.int (1 : Int32)), .val (.int i)] [(.ref b), (.long (1 : Int64)), (.long (40 : Int64))])) (fun _ kk_ => XS.icmpYes X129.here hx rfl (pc0 := 9) (pc' := 39) rfl (hb hby d6_9) rfl (flt (own_nltI hi hlen (by omega))).2.1 (by decide) (by decide) ((X129.ldc2Long hx hown (mvT hZ (w_46 hw)) (g := (mkF m 39 #[.val (.ref b), .val (.int (1 : Int32)), .val (.int i)] [])) rfl (hb hby d6_39)) _ (XS.iloadN X129.here hx rfl (hb hby d6_42) rfl (XS.ifNo X129.here hx rfl (hb hby d6_43) rfl ((if0 _ _).trans (feq (by decide)).1) (XS.lconst X129.here hx rfl (hb hby d6_46) (XS.goto X129.here hx rfl (pc0 := 47) (pc' := 53) rfl (hb hby d6_47) (by decide) (by decide) (XS.aloadN X129.here hx rfl (hb hby d6_53) rfl rfl kk_))))))) ?_
      obtain ⟨cq130, kq130, q130a, q130b, q130c⟩ := isOf hZ e129 E
      obtain ⟨_, _, ⟨T130, L130, k130, n130⟩, -, X130, ⟨Lc130, hQ130, l130, y130, z130⟩, st130⟩ := X129.virtualBack hx (y := (⟨"java/lang/String", "length", "()I"⟩ : MethodName)) (z := (⟨"java/lang/String", "length", "()I"⟩ : MethodName)) hown (mvT hZ (w_35 hw)) (mvT hZ (w_36 hw)) (notFace_of_selects (args := #[]) (mvT hZ (w_38 hw))) (mvT hZ (w_38 hw)) (mvT hZ (w_37 hw)) (by decide) (backOf (W := 4) (rmLE0 l Z a0 hw [] b ba kb zb cs zr i_COMPACT_STRINGS v_SIOOBE_FORMATTER h0 n0 O128 E F1 F2 B hr hS) hZ (w_39 hw) (w_8 hw) (by decide) (by decide)) q130a q130c (g := (mkF m 54 #[.val (.ref b), .val (.int (1 : Int32)), .val (.int i)] [(.ref b), (.long (1 : Int64)), (.long (40 : Int64))])) rfl (by rw [hml]; rfl) (Steps.refl _) (argsL := []) (rest := [(.long (1 : Int64)), (.long (40 : Int64))]) (lenOf pd_14 rfl) rfl (by show 2 * 0 + _ ≤ _; exact Nat.le_of_eq rfl) (hb hby d6_54) (fun _ _ => ⟨rfl, e129, (by decide : 0 + 0 ≤ _), (by decide : 0 + 0 ≤ _)⟩)
      dsimp only [Pt.U, Pt.locs, Pt.cells, Pt.slots] at X130 l130 y130 z130 st130 hQ130
      subst l130 y130 z130
      obtain ⟨rfl, Nq130, e130⟩ := hQ130
      have N130 := Fr.app N129 Nq130
      refine OW.tr (B := T130.setTop (mkF m 57 #[.val (.ref b), .val (.int (1 : Int32)), .val (.int i)] [(.int zr), (.long (1 : Int64)), (.long (40 : Int64))])) (st130) ?_
      refine OW.st (B := T130.setTop (mkF m 60 #[.val (.ref b), .val (.int (1 : Int32)), .val (.int i)] [(.long ((40 : Int64) + ((1 : Int64) * (zr.toInt64))))])) (fun _ kk_ => XS.i2l X130.here hx rfl (hb hby d6_57) rfl (XS.lmul X130.here hx rfl (hb hby d6_58) rfl (XS.ladd X130.here hx rfl (hb hby d6_59) rfl kk_))) ?_
      exact OW.ret X130 hx hlk (i := .lreturn) Bd.returns rfl (Or.inr (Or.inl ⟨rfl, rfl, _, rfl⟩)) (hb hby d6_60) e130 (by decide) (by decide) ⟨rfl, N130, rfl⟩
    | succ f ih =>
      intro T128 L128 h128 X128 N128 e128 O128 i mm hH hi hm hl
      subst hH
      obtain ⟨cc, hcc⟩ : ∃ cc, cs[mm]? = some cc := ⟨_, List.getElem?_eq_getElem (by omega)⟩
      have hcl := hlat cc (List.mem_of_getElem? hcc)
      refine OW.st (B := T128.setTop (mkF m 6 #[.val (.ref b), .val (.int (1 : Int32)), .val (.int i)] [(.ref b), (.int i)])) (fun _ kk_ => XS.iloadN X128.here hx rfl (hb hby d6_4) rfl (XS.aloadN X128.here hx rfl (hb hby d6_5) rfl rfl kk_)) ?_
      obtain ⟨cq131, kq131, q131a, q131b, q131c⟩ := isOf hZ e128 E
      obtain ⟨_, _, ⟨T131, L131, k131, n131⟩, -, X131, ⟨Lc131, hQ131, l131, y131, z131⟩, st131⟩ := X128.virtualBack hx (y := (⟨"java/lang/String", "length", "()I"⟩ : MethodName)) (z := (⟨"java/lang/String", "length", "()I"⟩ : MethodName)) hown (mvT hZ (w_35 hw)) (mvT hZ (w_36 hw)) (notFace_of_selects (args := #[]) (mvT hZ (w_38 hw))) (mvT hZ (w_38 hw)) (mvT hZ (w_37 hw)) (by decide) (backOf (W := 1) (rmLE0 l Z a0 hw [] b ba kb zb cs zr i_COMPACT_STRINGS v_SIOOBE_FORMATTER h0 n0 O128 E F1 F2 B hr hS) hZ (w_39 hw) (w_8 hw) (by decide) (by decide)) q131a q131c (g := (mkF m 6 #[.val (.ref b), .val (.int (1 : Int32)), .val (.int i)] [(.ref b), (.int i)])) rfl (by rw [hml]; rfl) (Steps.refl _) (argsL := []) (rest := [(.int i)]) (lenOf pd_14 rfl) rfl (by show 2 * 0 + _ ≤ _; exact Nat.le_of_eq rfl) (hb hby d6_6) (fun _ _ => ⟨rfl, e128, (by decide : 0 + 0 ≤ _), (by decide : 0 + 0 ≤ _)⟩)
      dsimp only [Pt.U, Pt.locs, Pt.cells, Pt.slots] at X131 l131 y131 z131 st131 hQ131
      subst l131 y131 z131
      obtain ⟨rfl, Nq131, e131⟩ := hQ131
      have N131 := Fr.app N128 Nq131
      refine OW.tr (B := T131.setTop (mkF m 9 #[.val (.ref b), .val (.int (1 : Int32)), .val (.int i)] [(.int zr), (.int i)])) (st131) ?_
      refine OW.st (B := T131.setTop (mkF m 18 #[.val (.ref b), .val (.int (1 : Int32)), .val (.int i)] [(.int i), (.ref b)])) (fun _ kk_ => XS.icmpNo X131.here hx rfl (hb hby d6_9) rfl (tlt (own_ltI hi hlen (by omega))).2.1 (XS.iloadN X131.here hx rfl (hb hby d6_12) rfl (XS.ifNo X131.here hx rfl (hb hby d6_13) rfl ((if0 _ _).trans (feq (by decide)).1) (XS.aloadN X131.here hx rfl (hb hby d6_16) rfl rfl (XS.iloadN X131.here hx rfl (hb hby d6_17) rfl kk_))))) ?_
      obtain ⟨cq132, kq132, q132a, q132b, q132c⟩ := isOf hZ e131 E
      obtain ⟨_, _, ⟨T132, L132, k132, n132⟩, -, X132, ⟨Lc132, hQ132, l132, y132, z132⟩, st132⟩ := X131.virtualBack hx (y := (⟨"java/lang/String", "charAt", "(I)C"⟩ : MethodName)) (z := (⟨"java/lang/String", "charAt", "(I)C"⟩ : MethodName)) hown (mvT hZ (w_58 hw)) (mvT hZ (w_59 hw)) (notFace_of_selects (args := #[]) (mvT hZ (w_61 hw))) (mvT hZ (w_61 hw)) (mvT hZ (w_60 hw)) (by decide) (backOf (W := 0) (rmCA0 l Z a0 hw [] b ba kb zb cs i mm cc i_COMPACT_STRINGS v_SIOOBE_FORMATTER h0 n0 O128 E F1 F2 B hzb hmax hi hcc (hch _ (List.mem_of_getElem? hcc)) hcl hS) hZ (w_62 hw) (w_8 hw) (by decide) (by decide)) q132a q132c (g := (mkF m 18 #[.val (.ref b), .val (.int (1 : Int32)), .val (.int i)] [(.int i), (.ref b)])) rfl (by rw [hml]; rfl) (Steps.refl _) (argsL := [(.int i)]) (rest := []) (lenOf pd_15 rfl) rfl (by show 2 * 0 + _ ≤ _; exact Nat.le_of_eq rfl) (hb hby d6_18) (fun _ _ => ⟨rfl, e131, (by decide : 0 + 0 ≤ _), (by decide : 0 + 0 ≤ _)⟩)
      dsimp only [Pt.U, Pt.locs, Pt.cells, Pt.slots] at X132 l132 y132 z132 st132 hQ132
      subst l132 y132 z132
      obtain ⟨rfl, Nq132, e132⟩ := hQ132
      have N132 := Fr.app N131 Nq132
      refine OW.tr (B := T132.setTop (mkF m 21 #[.val (.ref b), .val (.int (1 : Int32)), .val (.int i)] [(.int cc)])) (st132) ?_
      refine OW.st (B := T132.setTop (mkF m 4 #[.val (.ref b), .val (.int (1 : Int32)), .val (.int (i + (1 : Int32)))] [])) (fun _ kk_ => XS.sipush X132.here hx rfl (hb hby d6_21) (XS.icmpNo X132.here hx rfl (hb hby d6_24) rfl (flt hcl).2.2.1 (XS.iconst X132.here hx rfl (hb hby d6_27) (XS.goto X132.here hx rfl (pc0 := 28) (pc' := 32) rfl (hb hby d6_28) (by decide) (by decide) (XS.istoreN X132.here hx rfl (hb hby d6_32) rfl (l' := #[.val (.ref b), .val (.int (1 : Int32)), .val (.int i)]) rfl (XS.iinc X132.here hx rfl (hb hby d6_33) rfl (l' := #[.val (.ref b), .val (.int (1 : Int32)), .val (.int (i + (1 : Int32)))]) rfl (XS.goto X132.here hx rfl (pc0 := 36) (pc' := 4) rfl (hb hby d6_36) (by decide) (by decide) kk_))))))) ?_
      exact ih _ _ _ X132 N132 e132 O128 _ (mm + 1) rfl (own_suc hi (by omega)) (by omega) (fun j hj c hc => by rcases Nat.lt_succ_iff_lt_or_eq.mp hj with q | rfl; exact hl j q c hc; rw [hcc] at hc; cases hc; exact hcl)
  exact J128 cs.length _ _ _ X0 N0 e0 O0 _ 0 rfl rfl (Nat.zero_add _) (fun j hj => absurd hj (Nat.not_lt_zero _))
theorem ef_OF1 (m : MethodId) (x0 : Addr) : entryFrame m #[(.ref x0)] 3 = mkF m 0 #[.val (.ref x0), .unset, .unset] [] := by first | (simp [entryFrame, mkF, argsToLocals, Value.category]; done) | rfl
def QOF1 (Z : State) (b : Addr) (ba : Addr) (kb : ClassId) (zb : Int32) (cs : List Int32) (zr : Int32) (i_COMPACT_STRINGS : Int32) (v_SIOOBE_FORMATTER : Value) (h0 : Heap) (n0 : Nat) (v : Option Value) (h : Heap) (L : List Loc) : Prop := v = some (.long ((40 : Int64) + ((2 : Int64) * (zr.toInt64)))) ∧ Fr n0 L ∧ h = h0
set_option maxRecDepth 65536 in
set_option maxHeartbeats 40000000 in
theorem rmOF1 (l : Launch) (Z : State) (a0 : Array Value) (hw : ∀ d ∈ tables_1, d.before a0 Z = true) (ws : List Jvm.Cond) (b : Addr) (ba : Addr) (kb : ClassId) (zb : Int32) (cs : List Int32) (zr : Int32) (i_COMPACT_STRINGS : Int32) (v_SIOOBE_FORMATTER : Value) (h0 : Heap) (n0 : Nat) (O0 : Old Z n0 h0) (E : Exa Z h0 b "java/lang/String") (F1 : Fld Z h0 b "java/lang/String" "value" "[B" (.ref ba)) (F2 : Fld Z h0 b "java/lang/String" "coder" "B" (.int (1 : Int32))) (B : Arv Z h0 ba kb .byte zb (OwnU cs) (.int (0 : Int32))) (hzb : zb.toInt = ((2 * cs.length : Nat) : Int)) (hr : (zb >>> ((1 : Int32) &&& 31)) = zr) (hlen : zr.toInt = (cs.length : Int)) (hmax : cs.length ≤ 10) (hch : OwnChs cs) (hhi : OwnHi cs) (hS : OwnS Z i_COMPACT_STRINGS v_SIOOBE_FORMATTER) :
    MetFree l (⟨"com/example/cartulary/cartulary/entity/Footprint", "of", "(Ljava/lang/String;)J"⟩ : MethodName) (head1 (Jvm.Cond.code (⟨"com/example/cartulary/cartulary/entity/Footprint", "of", "(Ljava/lang/String;)J"⟩ : MethodName) prog_25_method_3_code 3 (some .long) :: ws) ({ frames := 5, cells := 0, slots := 0, locals := 66 } : Room)) (fun aa_ UU_ => aa_ = #[(.ref b)] ∧ Z.Warmed39 UU_.vm ∧ UU_.heap = h0) (fun _ _ _ _ _ => True) (fun _ UU_ oo_ UV_ => ∃ vv_ LL_, oo_ = .returned vv_ ∧ QOF1 Z b ba kb zb cs zr i_COMPACT_STRINGS v_SIOOBE_FORMATTER h0 n0 vv_ UV_.heap LL_ ∧ FrameEnd UU_ oo_ UV_ LL_ ({ frames := 5, cells := 0, slots := 0, locals := 66 } : Room).cells ({ frames := 5, cells := 0, slots := 0, locals := 66 } : Room).slots) := by
  refine MetFree.of_bodySF (plainFor_of_name pn_5) hisR ?_
  intro p e s m args below meth c s₁ Bd hml0 hP hK
  obtain ⟨rfl, hZ, hh⟩ := hP
  have hx := Bd.exec
  have hby := Bd.bytes
  have hlk := BodyLoose.notSynchronized Bd
  have hml : c.maxLocals = 3 := hml0
  have hown : s.vm.findClass "com/example/cartulary/cartulary/entity/Footprint" = some m.cls := findClass_of_methodNamed Bd.named
  have hnm := (name_of_methodNamed Bd.named Bd.method).1
  have X0 : Stand p l e ({ frames := 5, cells := 0, slots := 0, locals := 66 } : Room) s m #[(.ref b)] below meth c s₁ [] 0 0 := Stand.of_body Bd
  have e0 : s₁.heap = h0 := by rw [← hh, Bd.state]; rfl
  have N0 := Fr.nil n0
  suffices hOW : OW p e below s (QOF1 Z b ba kb zb cs zr i_COMPACT_STRINGS v_SIOOBE_FORMATTER h0 n0) 0 0 (s₁.setTop (mkF m 0 #[.val (.ref b), .unset, .unset] [])) by
    obtain ⟨oq1_, oq2_, oq3_, oq4_⟩ := hOW
    exact ⟨oq1_, oq2_, castTop (ef_OF1 m b) oq3_, oq4_⟩
  have hS' := hS
  obtain ⟨Si_COMPACT_STRINGS, Sv_SIOOBE_FORMATTER, Rv_SIOOBE_FORMATTER, S__assertionsDisabled, S_HI_BYTE_SHIFT, S_LO_BYTE_SHIFT, Pi_COMPACT_STRINGS⟩ := hS'
  refine OW.st (B := s₁.setTop (mkF m 4 #[.val (.ref b), .val (.int (1 : Int32)), .val (.int (0 : Int32))] [])) (fun _ kk_ => XS.iconst X0.here hx rfl (hb hby d6_0) (XS.istoreN X0.here hx rfl (hb hby d6_1) rfl (l' := #[.val (.ref b), .val (.int (1 : Int32)), .unset]) rfl (XS.iconst X0.here hx rfl (hb hby d6_2) (XS.istoreN X0.here hx rfl (hb hby d6_3) rfl (l' := #[.val (.ref b), .val (.int (1 : Int32)), .val (.int (0 : Int32))]) rfl kk_)))) ?_
  have J133 : ∀ (f : Nat) (T133 : State) (L133 : List Loc) (h133 : Heap) (X133 : Stand p l e ({ frames := 5, cells := 0, slots := 0, locals := 66 } : Room) s m #[(.ref b)] below meth c T133 L133 0 0) (N133 : Fr n0 L133) (e133 : T133.heap = h133) (O133 : Old Z n0 h133) (i : Int32) (mm : Nat), (h0 = h133) → (i.toInt = (mm : Int)) → (mm + f = cs.length) → (∀ j : Nat, j < mm → ∀ c : Int32, cs[j]? = some c → ¬ ((255 : Int32) < c)) → OW p e below s (QOF1 Z b ba kb zb cs zr i_COMPACT_STRINGS v_SIOOBE_FORMATTER h0 n0) 0 0 (T133.setTop (mkF m 4 #[.val (.ref b), .val (.int (1 : Int32)), .val (.int i)] [])) := by
    intro f
    induction f with
    | zero =>
      intro T133 L133 h133 X133 N133 e133 O133 i mm hH hi hm hl
      subst hH
      have hmm : mm = cs.length := by omega
      subst hmm
      exact (hhi.not fun j c hc => hl j (List.getElem?_eq_some_iff.mp hc).1 c hc).elim
    | succ f ih =>
      intro T133 L133 h133 X133 N133 e133 O133 i mm hH hi hm hl
      subst hH
      obtain ⟨cc, hcc⟩ : ∃ cc, cs[mm]? = some cc := ⟨_, List.getElem?_eq_getElem (by omega)⟩
      refine OW.st (B := T133.setTop (mkF m 6 #[.val (.ref b), .val (.int (1 : Int32)), .val (.int i)] [(.ref b), (.int i)])) (fun _ kk_ => XS.iloadN X133.here hx rfl (hb hby d6_4) rfl (XS.aloadN X133.here hx rfl (hb hby d6_5) rfl rfl kk_)) ?_
      obtain ⟨cq134, kq134, q134a, q134b, q134c⟩ := isOf hZ e133 E
      obtain ⟨_, _, ⟨T134, L134, k134, n134⟩, -, X134, ⟨Lc134, hQ134, l134, y134, z134⟩, st134⟩ := X133.virtualBack hx (y := (⟨"java/lang/String", "length", "()I"⟩ : MethodName)) (z := (⟨"java/lang/String", "length", "()I"⟩ : MethodName)) hown (mvT hZ (w_35 hw)) (mvT hZ (w_36 hw)) (notFace_of_selects (args := #[]) (mvT hZ (w_38 hw))) (mvT hZ (w_38 hw)) (mvT hZ (w_37 hw)) (by decide) (backOf (W := 1) (rmLE1 l Z a0 hw [] b ba kb zb cs zr i_COMPACT_STRINGS v_SIOOBE_FORMATTER h0 n0 O133 E F1 F2 B hr hS) hZ (w_39 hw) (w_8 hw) (by decide) (by decide)) q134a q134c (g := (mkF m 6 #[.val (.ref b), .val (.int (1 : Int32)), .val (.int i)] [(.ref b), (.int i)])) rfl (by rw [hml]; rfl) (Steps.refl _) (argsL := []) (rest := [(.int i)]) (lenOf pd_14 rfl) rfl (by show 2 * 0 + _ ≤ _; exact Nat.le_of_eq rfl) (hb hby d6_6) (fun _ _ => ⟨rfl, e133, (by decide : 0 + 0 ≤ _), (by decide : 0 + 0 ≤ _)⟩)
      dsimp only [Pt.U, Pt.locs, Pt.cells, Pt.slots] at X134 l134 y134 z134 st134 hQ134
      subst l134 y134 z134
      obtain ⟨rfl, Nq134, e134⟩ := hQ134
      have N134 := Fr.app N133 Nq134
      refine OW.tr (B := T134.setTop (mkF m 9 #[.val (.ref b), .val (.int (1 : Int32)), .val (.int i)] [(.int zr), (.int i)])) (st134) ?_
      refine OW.st (B := T134.setTop (mkF m 18 #[.val (.ref b), .val (.int (1 : Int32)), .val (.int i)] [(.int i), (.ref b)])) (fun _ kk_ => XS.icmpNo X134.here hx rfl (hb hby d6_9) rfl (tlt (own_ltI hi hlen (by omega))).2.1 (XS.iloadN X134.here hx rfl (hb hby d6_12) rfl (XS.ifNo X134.here hx rfl (hb hby d6_13) rfl ((if0 _ _).trans (feq (by decide)).1) (XS.aloadN X134.here hx rfl (hb hby d6_16) rfl rfl (XS.iloadN X134.here hx rfl (hb hby d6_17) rfl kk_))))) ?_
      obtain ⟨cq135, kq135, q135a, q135b, q135c⟩ := isOf hZ e134 E
      obtain ⟨_, _, ⟨T135, L135, k135, n135⟩, -, X135, ⟨Lc135, hQ135, l135, y135, z135⟩, st135⟩ := X134.virtualBack hx (y := (⟨"java/lang/String", "charAt", "(I)C"⟩ : MethodName)) (z := (⟨"java/lang/String", "charAt", "(I)C"⟩ : MethodName)) hown (mvT hZ (w_58 hw)) (mvT hZ (w_59 hw)) (notFace_of_selects (args := #[]) (mvT hZ (w_61 hw))) (mvT hZ (w_61 hw)) (mvT hZ (w_60 hw)) (by decide) (backOf (W := 0) (rmCA1 l Z a0 hw [] b ba kb zb cs i mm cc i_COMPACT_STRINGS v_SIOOBE_FORMATTER h0 n0 O133 E F1 F2 B hzb hmax hi hcc (hch _ (List.mem_of_getElem? hcc)) hS) hZ (w_62 hw) (w_8 hw) (by decide) (by decide)) q135a q135c (g := (mkF m 18 #[.val (.ref b), .val (.int (1 : Int32)), .val (.int i)] [(.int i), (.ref b)])) rfl (by rw [hml]; rfl) (Steps.refl _) (argsL := [(.int i)]) (rest := []) (lenOf pd_15 rfl) rfl (by show 2 * 0 + _ ≤ _; exact Nat.le_of_eq rfl) (hb hby d6_18) (fun _ _ => ⟨rfl, e134, (by decide : 0 + 0 ≤ _), (by decide : 0 + 0 ≤ _)⟩)
      dsimp only [Pt.U, Pt.locs, Pt.cells, Pt.slots] at X135 l135 y135 z135 st135 hQ135
      subst l135 y135 z135
      obtain ⟨rfl, Nq135, e135⟩ := hQ135
      have N135 := Fr.app N134 Nq135
      refine OW.tr (B := T135.setTop (mkF m 21 #[.val (.ref b), .val (.int (1 : Int32)), .val (.int i)] [(.int cc)])) (st135) ?_
      refine OW.st (B := T135.setTop (mkF m 24 #[.val (.ref b), .val (.int (1 : Int32)), .val (.int i)] [(.int (255 : Int32)), (.int cc)])) (fun _ kk_ => XS.sipush X135.here hx rfl (hb hby d6_21) kk_) ?_
      by_cases hc136 : (255 : Int32) < cc
      · refine OW.st (B := T135.setTop (mkF m 6 #[.val (.ref b), .val (.int (0 : Int32)), .val (.int (i + (1 : Int32)))] [(.ref b), (.int (i + (1 : Int32)))])) (fun _ kk_ => XS.icmpYes X135.here hx rfl (pc0 := 24) (pc' := 31) rfl (hb hby d6_24) rfl (tlt hc136).2.2.1 (by decide) (by decide) (XS.iconst X135.here hx rfl (hb hby d6_31) (XS.istoreN X135.here hx rfl (hb hby d6_32) rfl (l' := #[.val (.ref b), .val (.int (0 : Int32)), .val (.int i)]) rfl (XS.iinc X135.here hx rfl (hb hby d6_33) rfl (l' := #[.val (.ref b), .val (.int (0 : Int32)), .val (.int (i + (1 : Int32)))]) rfl (XS.goto X135.here hx rfl (pc0 := 36) (pc' := 4) rfl (hb hby d6_36) (by decide) (by decide) (XS.iloadN X135.here hx rfl (hb hby d6_4) rfl (XS.aloadN X135.here hx rfl (hb hby d6_5) rfl rfl kk_))))))) ?_
        obtain ⟨cq137, kq137, q137a, q137b, q137c⟩ := isOf hZ e135 E
        obtain ⟨_, _, ⟨T137, L137, k137, n137⟩, -, X137, ⟨Lc137, hQ137, l137, y137, z137⟩, st137⟩ := X135.virtualBack hx (y := (⟨"java/lang/String", "length", "()I"⟩ : MethodName)) (z := (⟨"java/lang/String", "length", "()I"⟩ : MethodName)) hown (mvT hZ (w_35 hw)) (mvT hZ (w_36 hw)) (notFace_of_selects (args := #[]) (mvT hZ (w_38 hw))) (mvT hZ (w_38 hw)) (mvT hZ (w_37 hw)) (by decide) (backOf (W := 1) (rmLE1 l Z a0 hw [] b ba kb zb cs zr i_COMPACT_STRINGS v_SIOOBE_FORMATTER h0 n0 O133 E F1 F2 B hr hS) hZ (w_39 hw) (w_8 hw) (by decide) (by decide)) q137a q137c (g := (mkF m 6 #[.val (.ref b), .val (.int (0 : Int32)), .val (.int (i + (1 : Int32)))] [(.ref b), (.int (i + (1 : Int32)))])) rfl (by rw [hml]; rfl) (Steps.refl _) (argsL := []) (rest := [(.int (i + (1 : Int32)))]) (lenOf pd_14 rfl) rfl (by show 2 * 0 + _ ≤ _; exact Nat.le_of_eq rfl) (hb hby d6_6) (fun _ _ => ⟨rfl, e135, (by decide : 0 + 0 ≤ _), (by decide : 0 + 0 ≤ _)⟩)
        dsimp only [Pt.U, Pt.locs, Pt.cells, Pt.slots] at X137 l137 y137 z137 st137 hQ137
        subst l137 y137 z137
        obtain ⟨rfl, Nq137, e137⟩ := hQ137
        have N137 := Fr.app N135 Nq137
        refine OW.tr (B := T137.setTop (mkF m 9 #[.val (.ref b), .val (.int (0 : Int32)), .val (.int (i + (1 : Int32)))] [(.int zr), (.int (i + (1 : Int32)))])) (st137) ?_
        by_cases hc138 : (i + (1 : Int32)) < zr
        · refine OW.st (B := T137.setTop (mkF m 54 #[.val (.ref b), .val (.int (0 : Int32)), .val (.int (i + (1 : Int32)))] [(.ref b), (.long (2 : Int64)), (.long (40 : Int64))])) (fun _ kk_ => XS.icmpNo X137.here hx rfl (hb hby d6_9) rfl (tlt hc138).2.1 (XS.iloadN X137.here hx rfl (hb hby d6_12) rfl (XS.ifYes X137.here hx rfl (pc0 := 13) (pc' := 39) rfl (hb hby d6_13) rfl ((if0 _ _).trans (teq (by decide)).1) (by decide) (by decide) ((X137.ldc2Long hx hown (mvT hZ (w_46 hw)) (g := (mkF m 39 #[.val (.ref b), .val (.int (0 : Int32)), .val (.int (i + (1 : Int32)))] [])) rfl (hb hby d6_39)) _ (XS.iloadN X137.here hx rfl (hb hby d6_42) rfl (XS.ifYes X137.here hx rfl (pc0 := 43) (pc' := 50) rfl (hb hby d6_43) rfl ((if0 _ _).trans (teq (by decide)).1) (by decide) (by decide) ((X137.ldc2Long hx hown (mvT hZ (w_109 hw)) (g := (mkF m 50 #[.val (.ref b), .val (.int (0 : Int32)), .val (.int (i + (1 : Int32)))] [(.long (40 : Int64))])) rfl (hb hby d6_50)) _ (XS.aloadN X137.here hx rfl (hb hby d6_53) rfl rfl kk_)))))))) ?_
          obtain ⟨cq139, kq139, q139a, q139b, q139c⟩ := isOf hZ e137 E
          obtain ⟨_, _, ⟨T139, L139, k139, n139⟩, -, X139, ⟨Lc139, hQ139, l139, y139, z139⟩, st139⟩ := X137.virtualBack hx (y := (⟨"java/lang/String", "length", "()I"⟩ : MethodName)) (z := (⟨"java/lang/String", "length", "()I"⟩ : MethodName)) hown (mvT hZ (w_35 hw)) (mvT hZ (w_36 hw)) (notFace_of_selects (args := #[]) (mvT hZ (w_38 hw))) (mvT hZ (w_38 hw)) (mvT hZ (w_37 hw)) (by decide) (backOf (W := 4) (rmLE1 l Z a0 hw [] b ba kb zb cs zr i_COMPACT_STRINGS v_SIOOBE_FORMATTER h0 n0 O133 E F1 F2 B hr hS) hZ (w_39 hw) (w_8 hw) (by decide) (by decide)) q139a q139c (g := (mkF m 54 #[.val (.ref b), .val (.int (0 : Int32)), .val (.int (i + (1 : Int32)))] [(.ref b), (.long (2 : Int64)), (.long (40 : Int64))])) rfl (by rw [hml]; rfl) (Steps.refl _) (argsL := []) (rest := [(.long (2 : Int64)), (.long (40 : Int64))]) (lenOf pd_14 rfl) rfl (by show 2 * 0 + _ ≤ _; exact Nat.le_of_eq rfl) (hb hby d6_54) (fun _ _ => ⟨rfl, e137, (by decide : 0 + 0 ≤ _), (by decide : 0 + 0 ≤ _)⟩)
          dsimp only [Pt.U, Pt.locs, Pt.cells, Pt.slots] at X139 l139 y139 z139 st139 hQ139
          subst l139 y139 z139
          obtain ⟨rfl, Nq139, e139⟩ := hQ139
          have N139 := Fr.app N137 Nq139
          refine OW.tr (B := T139.setTop (mkF m 57 #[.val (.ref b), .val (.int (0 : Int32)), .val (.int (i + (1 : Int32)))] [(.int zr), (.long (2 : Int64)), (.long (40 : Int64))])) (st139) ?_
          refine OW.st (B := T139.setTop (mkF m 60 #[.val (.ref b), .val (.int (0 : Int32)), .val (.int (i + (1 : Int32)))] [(.long ((40 : Int64) + ((2 : Int64) * (zr.toInt64))))])) (fun _ kk_ => XS.i2l X139.here hx rfl (hb hby d6_57) rfl (XS.lmul X139.here hx rfl (hb hby d6_58) rfl (XS.ladd X139.here hx rfl (hb hby d6_59) rfl kk_))) ?_
          exact OW.ret X139 hx hlk (i := .lreturn) Bd.returns rfl (Or.inr (Or.inl ⟨rfl, rfl, _, rfl⟩)) (hb hby d6_60) e139 (by decide) (by decide) ⟨rfl, N139, rfl⟩
        · refine OW.st (B := T137.setTop (mkF m 54 #[.val (.ref b), .val (.int (0 : Int32)), .val (.int (i + (1 : Int32)))] [(.ref b), (.long (2 : Int64)), (.long (40 : Int64))])) (fun _ kk_ => XS.icmpYes X137.here hx rfl (pc0 := 9) (pc' := 39) rfl (hb hby d6_9) rfl (flt hc138).2.1 (by decide) (by decide) ((X137.ldc2Long hx hown (mvT hZ (w_46 hw)) (g := (mkF m 39 #[.val (.ref b), .val (.int (0 : Int32)), .val (.int (i + (1 : Int32)))] [])) rfl (hb hby d6_39)) _ (XS.iloadN X137.here hx rfl (hb hby d6_42) rfl (XS.ifYes X137.here hx rfl (pc0 := 43) (pc' := 50) rfl (hb hby d6_43) rfl ((if0 _ _).trans (teq (by decide)).1) (by decide) (by decide) ((X137.ldc2Long hx hown (mvT hZ (w_109 hw)) (g := (mkF m 50 #[.val (.ref b), .val (.int (0 : Int32)), .val (.int (i + (1 : Int32)))] [(.long (40 : Int64))])) rfl (hb hby d6_50)) _ (XS.aloadN X137.here hx rfl (hb hby d6_53) rfl rfl kk_)))))) ?_
          obtain ⟨cq140, kq140, q140a, q140b, q140c⟩ := isOf hZ e137 E
          obtain ⟨_, _, ⟨T140, L140, k140, n140⟩, -, X140, ⟨Lc140, hQ140, l140, y140, z140⟩, st140⟩ := X137.virtualBack hx (y := (⟨"java/lang/String", "length", "()I"⟩ : MethodName)) (z := (⟨"java/lang/String", "length", "()I"⟩ : MethodName)) hown (mvT hZ (w_35 hw)) (mvT hZ (w_36 hw)) (notFace_of_selects (args := #[]) (mvT hZ (w_38 hw))) (mvT hZ (w_38 hw)) (mvT hZ (w_37 hw)) (by decide) (backOf (W := 4) (rmLE1 l Z a0 hw [] b ba kb zb cs zr i_COMPACT_STRINGS v_SIOOBE_FORMATTER h0 n0 O133 E F1 F2 B hr hS) hZ (w_39 hw) (w_8 hw) (by decide) (by decide)) q140a q140c (g := (mkF m 54 #[.val (.ref b), .val (.int (0 : Int32)), .val (.int (i + (1 : Int32)))] [(.ref b), (.long (2 : Int64)), (.long (40 : Int64))])) rfl (by rw [hml]; rfl) (Steps.refl _) (argsL := []) (rest := [(.long (2 : Int64)), (.long (40 : Int64))]) (lenOf pd_14 rfl) rfl (by show 2 * 0 + _ ≤ _; exact Nat.le_of_eq rfl) (hb hby d6_54) (fun _ _ => ⟨rfl, e137, (by decide : 0 + 0 ≤ _), (by decide : 0 + 0 ≤ _)⟩)
          dsimp only [Pt.U, Pt.locs, Pt.cells, Pt.slots] at X140 l140 y140 z140 st140 hQ140
          subst l140 y140 z140
          obtain ⟨rfl, Nq140, e140⟩ := hQ140
          have N140 := Fr.app N137 Nq140
          refine OW.tr (B := T140.setTop (mkF m 57 #[.val (.ref b), .val (.int (0 : Int32)), .val (.int (i + (1 : Int32)))] [(.int zr), (.long (2 : Int64)), (.long (40 : Int64))])) (st140) ?_
          refine OW.st (B := T140.setTop (mkF m 60 #[.val (.ref b), .val (.int (0 : Int32)), .val (.int (i + (1 : Int32)))] [(.long ((40 : Int64) + ((2 : Int64) * (zr.toInt64))))])) (fun _ kk_ => XS.i2l X140.here hx rfl (hb hby d6_57) rfl (XS.lmul X140.here hx rfl (hb hby d6_58) rfl (XS.ladd X140.here hx rfl (hb hby d6_59) rfl kk_))) ?_
          exact OW.ret X140 hx hlk (i := .lreturn) Bd.returns rfl (Or.inr (Or.inl ⟨rfl, rfl, _, rfl⟩)) (hb hby d6_60) e140 (by decide) (by decide) ⟨rfl, N140, rfl⟩
      · refine OW.st (B := T135.setTop (mkF m 4 #[.val (.ref b), .val (.int (1 : Int32)), .val (.int (i + (1 : Int32)))] [])) (fun _ kk_ => XS.icmpNo X135.here hx rfl (hb hby d6_24) rfl (flt hc136).2.2.1 (XS.iconst X135.here hx rfl (hb hby d6_27) (XS.goto X135.here hx rfl (pc0 := 28) (pc' := 32) rfl (hb hby d6_28) (by decide) (by decide) (XS.istoreN X135.here hx rfl (hb hby d6_32) rfl (l' := #[.val (.ref b), .val (.int (1 : Int32)), .val (.int i)]) rfl (XS.iinc X135.here hx rfl (hb hby d6_33) rfl (l' := #[.val (.ref b), .val (.int (1 : Int32)), .val (.int (i + (1 : Int32)))]) rfl (XS.goto X135.here hx rfl (pc0 := 36) (pc' := 4) rfl (hb hby d6_36) (by decide) (by decide) kk_)))))) ?_
        exact ih _ _ _ X135 N135 e135 O133 _ (mm + 1) rfl (own_suc hi (by omega)) (by omega) (fun j hj c hc => by rcases Nat.lt_succ_iff_lt_or_eq.mp hj with q | rfl; exact hl j q c hc; rw [hcc] at hc; cases hc; exact hc136)
  exact J133 cs.length _ _ _ X0 N0 e0 O0 _ 0 rfl rfl (Nat.zero_add _) (fun j hj => absurd hj (Nat.not_lt_zero _))
theorem ef_0 (m : MethodId) (x0 : Int32) (x1 : Int32) (x2 : Int32) (x3 : Int32) (x4 : Int32) (x5 : Int32) : entryFrame m #[(.int x0), (.int x1), (.int x2), (.int x3), (.int x4), (.int x5)] maxLocals = mkF m 0 #[.val (.int x0), .val (.int x1), .val (.int x2), .val (.int x3), .val (.int x4), .val (.int x5), .unset, .unset, .unset, .unset, .unset, .unset, .unset, .unset, .unset, .unset, .unset, .unset] [] := by first | (simp [entryFrame, mkF, argsToLocals, Value.category, maxLocals]; done) | rfl
def Q0 (Z : State) (n1 : Int32) (n2 : Int32) (n3 : Int32) (n4 : Int32) (n5 : Int32) (n6 : Int32) (i_COMPACT_STRINGS : Int32) (v_SIOOBE_FORMATTER : Value) (h0 : Heap) (n0 : Nat) (v : Option Value) (h : Heap) (L : List Loc) : Prop := v = some (.int 1) ∧ Fr n0 L
set_option maxRecDepth 65536 in
set_option maxHeartbeats 40000000 in
theorem rm0 (l : Launch) (Z : State) (a0 : Array Value) (hw : ∀ d ∈ tables_1, d.before a0 Z = true) (ws : List Jvm.Cond) (n1 : Int32) (n2 : Int32) (n3 : Int32) (n4 : Int32) (n5 : Int32) (n6 : Int32) (i_COMPACT_STRINGS : Int32) (v_SIOOBE_FORMATTER : Value) (h0 : Heap) (n0 : Nat) (O0 : Old Z n0 h0) (hS : OwnS Z i_COMPACT_STRINGS v_SIOOBE_FORMATTER) :
    MetFree l x (head1 (Jvm.Cond.code x code maxLocals ret :: ws) room_1) (fun aa_ UU_ => aa_ = #[(.int n1), (.int n2), (.int n3), (.int n4), (.int n5), (.int n6)] ∧ Z.Warmed39 UU_.vm ∧ UU_.heap = h0 ∧ CHv Z consts_1 UU_.vm h0) (fun _ _ _ _ _ => True) (fun _ UU_ oo_ UV_ => ∃ vv_ LL_, oo_ = .returned vv_ ∧ Q0 Z n1 n2 n3 n4 n5 n6 i_COMPACT_STRINGS v_SIOOBE_FORMATTER h0 n0 vv_ UV_.heap LL_ ∧ CHr Z consts_1 UU_.vm UU_.heap UV_.vm UV_.heap ∧ ReturnedEndW UU_ oo_ UV_ LL_ 6 39) := by
  refine MetFree.of_bodySF (plainFor_of_name pn_4) hisR ?_
  intro p e s m args below meth c s₁ Bd hml0 hP hK
  obtain ⟨rfl, hZ, hh, hCH⟩ := hP
  have hx := Bd.exec
  have hby := Bd.bytes
  have hlk := BodyLoose.notSynchronized Bd
  have hml : c.maxLocals = 18 := hml0
  have hown : s.vm.findClass "com/example/cartulary/cartulary/entity/FootprintOfPinLaw" = some m.cls := findClass_of_methodNamed Bd.named
  have hnm := (name_of_methodNamed Bd.named Bd.method).1
  have X0 : Stand p l e room_1 s m #[(.int n1), (.int n2), (.int n3), (.int n4), (.int n5), (.int n6)] below meth c s₁ [] 0 0 := Stand.of_body Bd
  have e0 : s₁.heap = h0 := by rw [← hh, Bd.state]; rfl
  have N0 := Fr.nil n0
  have hS0 : s.Since s.vm 0 := (State.WarmedH.refl s).since 0
  have hk0 : 0 ≤ h0.size := Nat.zero_le _
  have CR0 : CHr Z consts_1 s.vm h0 s.vm h0 := CHr.refl hCH
  suffices hOW : OWH Z consts_1 h0 p e below s (Q0 Z n1 n2 n3 n4 n5 n6 i_COMPACT_STRINGS v_SIOOBE_FORMATTER h0 n0) 6 39 (s₁.setTop (mkF m 0 #[.val (.int n1), .val (.int n2), .val (.int n3), .val (.int n4), .val (.int n5), .val (.int n6), .unset, .unset, .unset, .unset, .unset, .unset, .unset, .unset, .unset, .unset, .unset, .unset] [])) by
    obtain ⟨oq1_, oq2_, oq3_, oq4_⟩ := hOW
    obtain ⟨oq5_, oq6_, oq7_, oq8_, oq9_, or1_, or2_, or3_⟩ := oq4_
    exact ⟨oq1_, oq2_, castTop (ef_0 m n1 n2 n3 n4 n5 n6) oq3_, oq5_, oq6_, oq7_, oq8_, oq9_, or1_, by rw [hh]; exact or2_, or3_⟩
  have hS' := hS
  obtain ⟨Si_COMPACT_STRINGS, Sv_SIOOBE_FORMATTER, Rv_SIOOBE_FORMATTER, S__assertionsDisabled, S_HI_BYTE_SHIFT, S_LO_BYTE_SHIFT, Pi_COMPACT_STRINGS⟩ := hS'
  refine OWH.st (B := s₁.setTop (mkF m 7 #[.val (.int n1), .val (.int n2), .val (.int n3), .val (.int n4), .val (.int n5), .val (.int n6), .unset, .unset, .unset, .unset, .unset, .unset, .unset, .unset, .unset, .unset, .unset, .unset] [(.int ((n1 &&& (2147483647 : Int32)) % (6 : Int32)))])) (fun _ kk_ => XS.iloadN X0.here hx rfl (hb hby at_0) rfl ((X0.ldcInt hx hown (mvT hZ (w_0 hw)) (g := (mkF m 1 #[.val (.int n1), .val (.int n2), .val (.int n3), .val (.int n4), .val (.int n5), .val (.int n6), .unset, .unset, .unset, .unset, .unset, .unset, .unset, .unset, .unset, .unset, .unset, .unset] [(.int n1)])) rfl (hb hby at_1)) _ (XS.iand X0.here hx rfl (hb hby at_3) rfl (XS.bipush X0.here hx rfl (hb hby at_4) (iremM X0 hx rfl (hb hby at_6) rfl (by decide) kk_))))) ?_
  suffices J : ∀ k : Int32, (k = 0 ∨ k = 1 ∨ k = 2 ∨ k = 3 ∨ k = 4 ∨ k = 5) → OWH Z consts_1 h0 p e below s (Q0 Z n1 n2 n3 n4 n5 n6 i_COMPACT_STRINGS v_SIOOBE_FORMATTER h0 n0) 6 39 (s₁.setTop (mkF m 7 #[.val (.int n1), .val (.int n2), .val (.int n3), .val (.int n4), .val (.int n5), .val (.int n6), .unset, .unset, .unset, .unset, .unset, .unset, .unset, .unset, .unset, .unset, .unset, .unset] [(.int k)])) from J _ (own_rem6 n1)
  intro k hk
  refine OWH.st (B := s₁.setTop (mkF m 10 #[.val (.int n1), .val (.int n2), .val (.int n3), .val (.int n4), .val (.int n5), .val (.int n6), .val (.int k), .unset, .unset, .unset, .unset, .unset, .unset, .unset, .unset, .unset, .unset, .unset] [(.int n2)])) (fun _ kk_ => XS.istore X0.here hx rfl (hb hby at_7) rfl (l' := #[.val (.int n1), .val (.int n2), .val (.int n3), .val (.int n4), .val (.int n5), .val (.int n6), .val (.int k), .unset, .unset, .unset, .unset, .unset, .unset, .unset, .unset, .unset, .unset, .unset]) rfl (XS.iloadN X0.here hx rfl (hb hby at_9) rfl kk_)) ?_
  obtain ⟨_, _, ⟨T141, L141, k141, n141⟩, -, X141, ⟨Lc141, hQ141, l141, y141, z141⟩, st141⟩ := Jvm.LawKit.callS X0 hx (y := (⟨"com/example/cartulary/cartulary/entity/FootprintOfPinLaw", "ch", "(I)C"⟩ : MethodName)) hown (mvT hZ (w_1 hw)) (mvT hZ (w_2 hw)) (mvT hZ (w_3 hw)) (mvT hZ (w_4 hw)) (by decide) (backOf (W := 0) (rmCH l Z a0 hw [] n2 h0 n0 O0 ) hZ (w_4 hw) (w_3 hw) (by decide) (by decide)) (g := (mkF m 10 #[.val (.int n1), .val (.int n2), .val (.int n3), .val (.int n4), .val (.int n5), .val (.int n6), .val (.int k), .unset, .unset, .unset, .unset, .unset, .unset, .unset, .unset, .unset, .unset, .unset] [(.int n2)])) rfl (by rw [hml]; rfl) (argsL := [(.int n2)]) (rest := []) (lenOf pd_15 rfl) rfl (by show 2 * 0 + _ ≤ _; exact Nat.le_of_eq rfl) (hb hby at_10) (fun _ _ => ⟨rfl, e0, (by decide : 0 + 0 ≤ _), (by decide : 0 + 0 ≤ _)⟩)
  dsimp only [Pt.U, Pt.locs, Pt.cells, Pt.slots] at X141 l141 y141 z141 st141 hQ141
  subst l141 y141 z141
  obtain ⟨u141, rfl, Nq141, e141, hn141⟩ := hQ141
  have N141 := Fr.app N0 Nq141
  refine OWH.st (B := T141.setTop (mkF m 16 #[.val (.int n1), .val (.int n2), .val (.int n3), .val (.int n4), .val (.int n5), .val (.int n6), .val (.int k), .val (.int u141), .unset, .unset, .unset, .unset, .unset, .unset, .unset, .unset, .unset, .unset] [(.int n3)])) (fun _ kk_ => st141 _ (XS.istore X141.here hx rfl (hb hby at_13) rfl (l' := #[.val (.int n1), .val (.int n2), .val (.int n3), .val (.int n4), .val (.int n5), .val (.int n6), .val (.int k), .val (.int u141), .unset, .unset, .unset, .unset, .unset, .unset, .unset, .unset, .unset, .unset]) rfl (XS.iloadN X141.here hx rfl (hb hby at_15) rfl kk_))) ?_
  obtain ⟨_, _, ⟨T142, L142, k142, n142⟩, -, X142, ⟨Lc142, hQ142, l142, y142, z142⟩, st142⟩ := Jvm.LawKit.callS X141 hx (y := (⟨"com/example/cartulary/cartulary/entity/FootprintOfPinLaw", "ch", "(I)C"⟩ : MethodName)) hown (mvT hZ (w_1 hw)) (mvT hZ (w_2 hw)) (mvT hZ (w_3 hw)) (mvT hZ (w_4 hw)) (by decide) (backOf (W := 0) (rmCH l Z a0 hw [] n3 h0 n0 O0 ) hZ (w_4 hw) (w_3 hw) (by decide) (by decide)) (g := (mkF m 16 #[.val (.int n1), .val (.int n2), .val (.int n3), .val (.int n4), .val (.int n5), .val (.int n6), .val (.int k), .val (.int u141), .unset, .unset, .unset, .unset, .unset, .unset, .unset, .unset, .unset, .unset] [(.int n3)])) rfl (by rw [hml]; rfl) (argsL := [(.int n3)]) (rest := []) (lenOf pd_15 rfl) rfl (by show 2 * 0 + _ ≤ _; exact Nat.le_of_eq rfl) (hb hby at_16) (fun _ _ => ⟨rfl, e141, (by decide : 0 + 0 ≤ _), (by decide : 0 + 0 ≤ _)⟩)
  dsimp only [Pt.U, Pt.locs, Pt.cells, Pt.slots] at X142 l142 y142 z142 st142 hQ142
  subst l142 y142 z142
  obtain ⟨u142, rfl, Nq142, e142, hn142⟩ := hQ142
  have N142 := Fr.app N141 Nq142
  refine OWH.st (B := T142.setTop (mkF m 22 #[.val (.int n1), .val (.int n2), .val (.int n3), .val (.int n4), .val (.int n5), .val (.int n6), .val (.int k), .val (.int u141), .val (.int u142), .unset, .unset, .unset, .unset, .unset, .unset, .unset, .unset, .unset] [(.int n4)])) (fun _ kk_ => st142 _ (XS.istore X142.here hx rfl (hb hby at_19) rfl (l' := #[.val (.int n1), .val (.int n2), .val (.int n3), .val (.int n4), .val (.int n5), .val (.int n6), .val (.int k), .val (.int u141), .val (.int u142), .unset, .unset, .unset, .unset, .unset, .unset, .unset, .unset, .unset]) rfl (XS.iloadN X142.here hx rfl (hb hby at_21) rfl kk_))) ?_
  obtain ⟨_, _, ⟨T143, L143, k143, n143⟩, -, X143, ⟨Lc143, hQ143, l143, y143, z143⟩, st143⟩ := Jvm.LawKit.callS X142 hx (y := (⟨"com/example/cartulary/cartulary/entity/FootprintOfPinLaw", "ch", "(I)C"⟩ : MethodName)) hown (mvT hZ (w_1 hw)) (mvT hZ (w_2 hw)) (mvT hZ (w_3 hw)) (mvT hZ (w_4 hw)) (by decide) (backOf (W := 0) (rmCH l Z a0 hw [] n4 h0 n0 O0 ) hZ (w_4 hw) (w_3 hw) (by decide) (by decide)) (g := (mkF m 22 #[.val (.int n1), .val (.int n2), .val (.int n3), .val (.int n4), .val (.int n5), .val (.int n6), .val (.int k), .val (.int u141), .val (.int u142), .unset, .unset, .unset, .unset, .unset, .unset, .unset, .unset, .unset] [(.int n4)])) rfl (by rw [hml]; rfl) (argsL := [(.int n4)]) (rest := []) (lenOf pd_15 rfl) rfl (by show 2 * 0 + _ ≤ _; exact Nat.le_of_eq rfl) (hb hby at_22) (fun _ _ => ⟨rfl, e142, (by decide : 0 + 0 ≤ _), (by decide : 0 + 0 ≤ _)⟩)
  dsimp only [Pt.U, Pt.locs, Pt.cells, Pt.slots] at X143 l143 y143 z143 st143 hQ143
  subst l143 y143 z143
  obtain ⟨u143, rfl, Nq143, e143, hn143⟩ := hQ143
  have N143 := Fr.app N142 Nq143
  refine OWH.st (B := T143.setTop (mkF m 29 #[.val (.int n1), .val (.int n2), .val (.int n3), .val (.int n4), .val (.int n5), .val (.int n6), .val (.int k), .val (.int u141), .val (.int u142), .val (.int u143), .unset, .unset, .unset, .unset, .unset, .unset, .unset, .unset] [(.int n5)])) (fun _ kk_ => st143 _ (XS.istore X143.here hx rfl (hb hby at_25) rfl (l' := #[.val (.int n1), .val (.int n2), .val (.int n3), .val (.int n4), .val (.int n5), .val (.int n6), .val (.int k), .val (.int u141), .val (.int u142), .val (.int u143), .unset, .unset, .unset, .unset, .unset, .unset, .unset, .unset]) rfl (XS.iload X143.here hx rfl (hb hby at_27) rfl kk_))) ?_
  obtain ⟨_, _, ⟨T144, L144, k144, n144⟩, -, X144, ⟨Lc144, hQ144, l144, y144, z144⟩, st144⟩ := Jvm.LawKit.callS X143 hx (y := (⟨"com/example/cartulary/cartulary/entity/FootprintOfPinLaw", "ch", "(I)C"⟩ : MethodName)) hown (mvT hZ (w_1 hw)) (mvT hZ (w_2 hw)) (mvT hZ (w_3 hw)) (mvT hZ (w_4 hw)) (by decide) (backOf (W := 0) (rmCH l Z a0 hw [] n5 h0 n0 O0 ) hZ (w_4 hw) (w_3 hw) (by decide) (by decide)) (g := (mkF m 29 #[.val (.int n1), .val (.int n2), .val (.int n3), .val (.int n4), .val (.int n5), .val (.int n6), .val (.int k), .val (.int u141), .val (.int u142), .val (.int u143), .unset, .unset, .unset, .unset, .unset, .unset, .unset, .unset] [(.int n5)])) rfl (by rw [hml]; rfl) (argsL := [(.int n5)]) (rest := []) (lenOf pd_15 rfl) rfl (by show 2 * 0 + _ ≤ _; exact Nat.le_of_eq rfl) (hb hby at_29) (fun _ _ => ⟨rfl, e143, (by decide : 0 + 0 ≤ _), (by decide : 0 + 0 ≤ _)⟩)
  dsimp only [Pt.U, Pt.locs, Pt.cells, Pt.slots] at X144 l144 y144 z144 st144 hQ144
  subst l144 y144 z144
  obtain ⟨u144, rfl, Nq144, e144, hn144⟩ := hQ144
  have N144 := Fr.app N143 Nq144
  refine OWH.st (B := T144.setTop (mkF m 36 #[.val (.int n1), .val (.int n2), .val (.int n3), .val (.int n4), .val (.int n5), .val (.int n6), .val (.int k), .val (.int u141), .val (.int u142), .val (.int u143), .val (.int u144), .unset, .unset, .unset, .unset, .unset, .unset, .unset] [(.int n6)])) (fun _ kk_ => st144 _ (XS.istore X144.here hx rfl (hb hby at_32) rfl (l' := #[.val (.int n1), .val (.int n2), .val (.int n3), .val (.int n4), .val (.int n5), .val (.int n6), .val (.int k), .val (.int u141), .val (.int u142), .val (.int u143), .val (.int u144), .unset, .unset, .unset, .unset, .unset, .unset, .unset]) rfl (XS.iload X144.here hx rfl (hb hby at_34) rfl kk_))) ?_
  obtain ⟨_, _, ⟨T145, L145, k145, n145⟩, -, X145, ⟨Lc145, hQ145, l145, y145, z145⟩, st145⟩ := Jvm.LawKit.callS X144 hx (y := (⟨"com/example/cartulary/cartulary/entity/FootprintOfPinLaw", "ch", "(I)C"⟩ : MethodName)) hown (mvT hZ (w_1 hw)) (mvT hZ (w_2 hw)) (mvT hZ (w_3 hw)) (mvT hZ (w_4 hw)) (by decide) (backOf (W := 0) (rmCH l Z a0 hw [] n6 h0 n0 O0 ) hZ (w_4 hw) (w_3 hw) (by decide) (by decide)) (g := (mkF m 36 #[.val (.int n1), .val (.int n2), .val (.int n3), .val (.int n4), .val (.int n5), .val (.int n6), .val (.int k), .val (.int u141), .val (.int u142), .val (.int u143), .val (.int u144), .unset, .unset, .unset, .unset, .unset, .unset, .unset] [(.int n6)])) rfl (by rw [hml]; rfl) (argsL := [(.int n6)]) (rest := []) (lenOf pd_15 rfl) rfl (by show 2 * 0 + _ ≤ _; exact Nat.le_of_eq rfl) (hb hby at_36) (fun _ _ => ⟨rfl, e144, (by decide : 0 + 0 ≤ _), (by decide : 0 + 0 ≤ _)⟩)
  dsimp only [Pt.U, Pt.locs, Pt.cells, Pt.slots] at X145 l145 y145 z145 st145 hQ145
  subst l145 y145 z145
  obtain ⟨u145, rfl, Nq145, e145, hn145⟩ := hQ145
  have N145 := Fr.app N144 Nq145
  refine OWH.st (B := T145.setTop (mkF m 41 #[.val (.int n1), .val (.int n2), .val (.int n3), .val (.int n4), .val (.int n5), .val (.int n6), .val (.int k), .val (.int u141), .val (.int u142), .val (.int u143), .val (.int u144), .val (.int u145), .unset, .unset, .unset, .unset, .unset, .unset] [])) (fun _ kk_ => st145 _ (XS.istore X145.here hx rfl (hb hby at_39) rfl (l' := #[.val (.int n1), .val (.int n2), .val (.int n3), .val (.int n4), .val (.int n5), .val (.int n6), .val (.int k), .val (.int u141), .val (.int u142), .val (.int u143), .val (.int u144), .val (.int u145), .unset, .unset, .unset, .unset, .unset, .unset]) rfl kk_)) ?_
  rcases hk with rfl | rfl | rfl | rfl | rfl | rfl
  · obtain ⟨T146, h146, X146, e146, E146, A146, D146, -, st146⟩ := newO X145 hx hZ hown (w_6 hw) (w_7 hw) (w_8 hw) e145 (g := (mkF m 41 #[.val (.int n1), .val (.int n2), .val (.int n3), .val (.int n4), .val (.int n5), .val (.int n6), .val (.int (0 : Int32)), .val (.int u141), .val (.int u142), .val (.int u143), .val (.int u144), .val (.int u145), .unset, .unset, .unset, .unset, .unset, .unset] [])) rfl (hb hby at_41) (by decide) (by decide)
    obtain ⟨b146, g146⟩ : ∃ z, z = h0.size := ⟨_, rfl⟩
    rw [← g146] at A146 D146 st146
    have n_b146 : n0 ≤ b146 := Nat.le_trans (own_oldle O0) (Nat.le_of_eq g146.symm)
    have O146 : Old Z n0 h146 := O0.ext E146
    have CS146 : CHr Z consts_1 s.vm h0 s.vm h146 := CHr.ext E146 CR0.1
    have CR146 := CHr.trans CR0 CS146
    have Sf146_b146 : Safe Z consts_1 s.vm h146 b146 := Safe.ext E146 CR0.1 (Safe.new (Nat.le_of_eq g146.symm))
    have F146_25 : Fld Z h146 b146 "java/lang/String" "value" "[B" .null := D146 (Or.inr (w_25 hw)) (ty := (.array .byte)) (by decide)
    have F146_26 : Fld Z h146 b146 "java/lang/String" "coder" "B" (.int (0 : Int32)) := D146 (Or.inr (w_26 hw)) (ty := .byte) (by decide)
    refine OWH.st (B := T146.setTop (mkF m 57 #[.val (.int n1), .val (.int n2), .val (.int n3), .val (.int n4), .val (.int n5), .val (.int n6), .val (.int (0 : Int32)), .val (.int u141), .val (.int u142), .val (.int u143), .val (.int u144), .val (.int u145), .unset, .unset, .unset, .unset, .unset, .unset] [(.int u145), (.int u144), (.int u143), (.int u142), (.int u141), (.int (0 : Int32)), (.ref b146), (.ref b146)])) (fun _ kk_ => st146 _ (XS.dup X146.here hx rfl (hb hby at_44) rfl rfl (XS.iload X146.here hx rfl (hb hby at_45) rfl (XS.iload X146.here hx rfl (hb hby at_47) rfl (XS.iload X146.here hx rfl (hb hby at_49) rfl (XS.iload X146.here hx rfl (hb hby at_51) rfl (XS.iload X146.here hx rfl (hb hby at_53) rfl (XS.iload X146.here hx rfl (hb hby at_55) rfl kk_)))))))) ?_
    obtain ⟨_, _, ⟨T147, L147, k147, n147⟩, -, X147, ⟨Lc147, hQ147, l147, y147, z147⟩, st147⟩ := Jvm.LawKit.callS X146 hx (y := (⟨"com/example/cartulary/cartulary/entity/FootprintOfPinLaw", "chars", "(ICCCCC)[C"⟩ : MethodName)) hown (mvT hZ (w_9 hw)) (mvT hZ (w_10 hw)) (mvT hZ (w_3 hw)) (mvT hZ (w_11 hw)) (by decide) (backOf (W := 2) (rmCR0 l Z a0 hw [] u141 u142 u143 u144 u145 h146 n0 O146 ) hZ (w_11 hw) (w_3 hw) (by decide) (by decide)) (g := (mkF m 57 #[.val (.int n1), .val (.int n2), .val (.int n3), .val (.int n4), .val (.int n5), .val (.int n6), .val (.int (0 : Int32)), .val (.int u141), .val (.int u142), .val (.int u143), .val (.int u144), .val (.int u145), .unset, .unset, .unset, .unset, .unset, .unset] [(.int u145), (.int u144), (.int u143), (.int u142), (.int u141), (.int (0 : Int32)), (.ref b146), (.ref b146)])) rfl (by rw [hml]; rfl) (argsL := [(.int (0 : Int32)), (.int u141), (.int u142), (.int u143), (.int u144), (.int u145)]) (rest := [(.ref b146), (.ref b146)]) (lenOf pd_16 rfl) rfl (by show 2 * 0 + _ ≤ _; exact Nat.le_of_eq rfl) (hb hby at_57) (fun _ _ => ⟨rfl, e146, (by decide : 1 + 1 ≤ _), (by decide : 4 + 0 ≤ _)⟩)
    dsimp only [Pt.U, Pt.locs, Pt.cells, Pt.slots] at X147 l147 y147 z147 st147 hQ147
    subst l147 y147 z147
    obtain ⟨b147, kb147, rfl, Nq147, K147, gb147, zb147, Vb147⟩ := hQ147
    have N147 := Fr.app N145 Nq147
    have O147 : Old Z n0 T147.heap := O146.keep K147 all0
    have CS147 : CHr Z consts_1 s.vm h146 s.vm T147.heap := CHr.keep K147 all0 CR146.1
    have Sf147_b146 := CHr.safe CS147 A146.lt Sf146_b146
    have CR147 := CHr.trans CR146 CS147
    have Sf147_b147 : Safe Z consts_1 s.vm T147.heap b147 := Safe.keep K147 all0 CR146.1 (Safe.new zb147)
    refine OWH.st (B := T147.setTop (mkF m 60 #[.val (.int n1), .val (.int n2), .val (.int n3), .val (.int n4), .val (.int n5), .val (.int n6), .val (.int (0 : Int32)), .val (.int u141), .val (.int u142), .val (.int u143), .val (.int u144), .val (.int u145), .unset, .unset, .unset, .unset, .unset, .unset] [(.ref b147), (.ref b146), (.ref b146)])) (fun _ kk_ => st147 _ kk_) ?_
    obtain ⟨_, _, ⟨T148, L148, k148, n148⟩, -, X148, hs148, hsz148, ⟨Lc148, hQ148, l148, y148, z148, CQ148⟩, st148⟩ := X147.specialBackS hx (y := (⟨"java/lang/String", "<init>", "([C)V"⟩ : MethodName)) rfl hown (mvT hZ (w_13 hw)) (mvT hZ (w_14 hw)) (mvT hZ (w_15 hw)) (by decide) (backOfSH (W := 1) (rmS0_0 l Z a0 hw [] b146 b147 kb147 T147.heap n0 O147 (A146.keep K147) (F146_25.keep K147 nin0) (F146_26.keep K147 nin0) n_b146 Vb147) hZ (w_15 hw) (w_8 hw) (by decide) (by decide) (own_EW hw) CR147.1) (g := (mkF m 60 #[.val (.int n1), .val (.int n2), .val (.int n3), .val (.int n4), .val (.int n5), .val (.int n6), .val (.int (0 : Int32)), .val (.int u141), .val (.int u142), .val (.int u143), .val (.int u144), .val (.int u145), .unset, .unset, .unset, .unset, .unset, .unset] [(.ref b147), (.ref b146), (.ref b146)])) rfl (by rw [hml]; rfl) (Steps.refl _) (a := b146) (argsL := [(.ref b147)]) (rest := [(.ref b146)]) (lenOf pd_17 rfl) rfl (by show 2 * 0 + _ ≤ _; exact Nat.le_of_eq rfl) (hb hby at_60) (fun _ _ => ⟨rfl, rfl, (by decide : 2 + 4 ≤ _), (by decide : 4 + 8 ≤ _)⟩)
    dsimp only [Pt.U, Pt.locs, Pt.cells, Pt.slots] at hs148 hsz148
    have hS148 := foldS hS0 (Nat.le_trans (Nat.le_trans hk0 E146.1) K147.1) hs148 hsz148
    have hZ148 : Z.Warmed39 (s.setVm T148.vm).vm := State.Warmed39.trans (t := s) hZ hs148.1
    have hown148 : (s.setVm T148.vm).vm.findClass "com/example/cartulary/cartulary/entity/FootprintOfPinLaw" = some m.cls := by rw [show (s.setVm T148.vm).vm = T148.vm from rfl, hs148.1.alike.findClass]; exact hown
    dsimp only [Pt.U, Pt.locs, Pt.cells, Pt.slots] at X148 l148 y148 z148 st148 hQ148 CQ148
    subst l148 y148 z148
    obtain ⟨rfl, Nq148, K148, Es148, ba148, kb148, Fc148, Fv148, Vs148⟩ := hQ148
    have N148 := Fr.app N147 Nq148
    have O148 : Old Z n0 T148.heap := O147.keep K148 (allS n_b146 all0)
    have CS148 : CHr Z consts_1 s.vm T147.heap T148.vm T148.heap := CQ148
    have Sf148_b146 := CHr.safe CS148 (A146.keep K147).lt Sf147_b146
    have Sf148_b147 := CHr.safe CS148 Vb147.lt Sf147_b147
    have CR148 := CHr.trans CR147 CS148
    have hk148 : T148.heap.size ≤ T148.heap.size := Nat.le_of_eq (by rfl)
    refine OWH.tr (B := T148.setTop (mkF m 63 #[.val (.int n1), .val (.int n2), .val (.int n3), .val (.int n4), .val (.int n5), .val (.int n6), .val (.int (0 : Int32)), .val (.int u141), .val (.int u142), .val (.int u143), .val (.int u144), .val (.int u145), .unset, .unset, .unset, .unset, .unset, .unset] [(.ref b146)])) (st148) ?_
    refine OWH.st (B := T148.setTop (mkF m 67 #[.val (.int n1), .val (.int n2), .val (.int n3), .val (.int n4), .val (.int n5), .val (.int n6), .val (.int (0 : Int32)), .val (.int u141), .val (.int u142), .val (.int u143), .val (.int u144), .val (.int u145), .val (.ref b146), .unset, .unset, .unset, .unset, .unset] [(.ref b146)])) (fun _ kk_ => XS.astore X148.here hx rfl (hb hby at_63) rfl rfl (l' := #[.val (.int n1), .val (.int n2), .val (.int n3), .val (.int n4), .val (.int n5), .val (.int n6), .val (.int (0 : Int32)), .val (.int u141), .val (.int u142), .val (.int u143), .val (.int u144), .val (.int u145), .val (.ref b146), .unset, .unset, .unset, .unset, .unset]) rfl (XS.aload X148.here hx rfl (hb hby at_65) rfl rfl kk_)) ?_
    obtain ⟨_, _, ⟨T149, L149, k149, n149⟩, -, X149, ⟨Lc149, hQ149, l149, y149, z149⟩, st149⟩ := Jvm.LawKit.callS X148 hx (y := (⟨"com/example/cartulary/cartulary/entity/Footprint", "of", "(Ljava/lang/String;)J"⟩ : MethodName)) hown148 (mvT hZ148 (w_31 hw)) (mvT hZ148 (w_32 hw)) (mvT hZ148 (w_33 hw)) (mvT hZ148 (w_34 hw)) (by decide) (backOf (W := 0) (rmOF0 l Z a0 hw [] b146 ba148 kb148 (0 : Int32) [] (0 : Int32) i_COMPACT_STRINGS v_SIOOBE_FORMATTER T148.heap n0 O148 ((A146.keep K147).keep K148) Fv148 Fc148 Vs148 rfl (by decide) rfl (Nat.le_of_ble_eq_true rfl) OwnChs.nil OwnLat.nil hS) hZ148 (w_34 hw) (w_33 hw) (by decide) (by decide)) (g := (mkF m 67 #[.val (.int n1), .val (.int n2), .val (.int n3), .val (.int n4), .val (.int n5), .val (.int n6), .val (.int (0 : Int32)), .val (.int u141), .val (.int u142), .val (.int u143), .val (.int u144), .val (.int u145), .val (.ref b146), .unset, .unset, .unset, .unset, .unset] [(.ref b146)])) rfl (by rw [hml]; rfl) (argsL := [(.ref b146)]) (rest := []) (lenOf pd_18 rfl) rfl (by show 2 * 0 + _ ≤ _; exact Nat.le_of_eq rfl) (hb hby at_67) (fun _ _ => ⟨rfl, rfl, (by decide : 6 + 0 ≤ _), (by decide : 12 + 0 ≤ _)⟩)
    dsimp only [Pt.U, Pt.locs, Pt.cells, Pt.slots] at X149 l149 y149 z149 st149 hQ149
    subst l149 y149 z149
    obtain ⟨rfl, Nq149, e149⟩ := hQ149
    have N149 := Fr.app N148 Nq149
    refine OWH.st (B := T149.setTop (mkF m 103 #[.val (.int n1), .val (.int n2), .val (.int n3), .val (.int n4), .val (.int n5), .val (.int n6), .val (.int (0 : Int32)), .val (.int u141), .val (.int u142), .val (.int u143), .val (.int u144), .val (.int u145), .val (.ref b146), .val (.long ((40 : Int64) + ((1 : Int64) * ((0 : Int32).toInt64)))), .second, .unset, .unset, .unset] [(.int (3 : Int32)), (.int (0 : Int32))])) (fun _ kk_ => st149 _ (XS.lstore X149.here hx rfl (hb hby at_70) rfl (l' := #[.val (.int n1), .val (.int n2), .val (.int n3), .val (.int n4), .val (.int n5), .val (.int n6), .val (.int (0 : Int32)), .val (.int u141), .val (.int u142), .val (.int u143), .val (.int u144), .val (.int u145), .val (.ref b146), .val (.long ((40 : Int64) + ((1 : Int64) * ((0 : Int32).toInt64)))), .second, .unset, .unset, .unset]) rfl (XS.iload X149.here hx rfl (hb hby at_72) rfl (XS.iconst X149.here hx rfl (hb hby at_74) (XS.icmpYes X149.here hx rfl (pc0 := 75) (pc' := 86) rfl (hb hby at_75) rfl (tlt (by decide)).1 (by decide) (by decide) (XS.iload X149.here hx rfl (hb hby at_86) rfl (XS.iconst X149.here hx rfl (hb hby at_88) (XS.icmpYes X149.here hx rfl (pc0 := 89) (pc' := 100) rfl (hb hby at_89) rfl (tlt (by decide)).1 (by decide) (by decide) (XS.iload X149.here hx rfl (hb hby at_100) rfl (XS.iconst X149.here hx rfl (hb hby at_102) kk_)))))))))) ?_
    refine OWH.st (B := T149.setTop (mkF m 149 #[.val (.int n1), .val (.int n2), .val (.int n3), .val (.int n4), .val (.int n5), .val (.int n6), .val (.int (0 : Int32)), .val (.int u141), .val (.int u142), .val (.int u143), .val (.int u144), .val (.int u145), .val (.ref b146), .val (.long ((40 : Int64) + ((1 : Int64) * ((0 : Int32).toInt64)))), .second, .val (.int (1 : Int32)), .unset, .unset] [])) (fun _ kk_ => XS.icmpYes X149.here hx rfl (pc0 := 103) (pc' := 114) rfl (hb hby at_103) rfl (tlt (by decide)).1 (by decide) (by decide) (XS.iload X149.here hx rfl (hb hby at_114) rfl (XS.iconst X149.here hx rfl (hb hby at_116) (XS.icmpYes X149.here hx rfl (pc0 := 117) (pc' := 128) rfl (hb hby at_117) rfl (tlt (by decide)).1 (by decide) (by decide) (XS.iload X149.here hx rfl (hb hby at_128) rfl (XS.iconst X149.here hx rfl (hb hby at_130) (XS.icmpYes X149.here hx rfl (pc0 := 131) (pc' := 142) rfl (hb hby at_131) rfl (tlt (by decide)).1 (by decide) (by decide) (XS.iconst X149.here hx rfl (hb hby at_142) (XS.goto X149.here hx rfl (pc0 := 143) (pc' := 147) rfl (hb hby at_143) (by decide) (by decide) (XS.istore X149.here hx rfl (hb hby at_147) rfl (l' := #[.val (.int n1), .val (.int n2), .val (.int n3), .val (.int n4), .val (.int n5), .val (.int n6), .val (.int (0 : Int32)), .val (.int u141), .val (.int u142), .val (.int u143), .val (.int u144), .val (.int u145), .val (.ref b146), .val (.long ((40 : Int64) + ((1 : Int64) * ((0 : Int32).toInt64)))), .second, .val (.int (1 : Int32)), .unset, .unset]) rfl kk_)))))))))) ?_
    refine OWH.st (B := T149.setTop (mkF m 171 #[.val (.int n1), .val (.int n2), .val (.int n3), .val (.int n4), .val (.int n5), .val (.int n6), .val (.int (0 : Int32)), .val (.int u141), .val (.int u142), .val (.int u143), .val (.int u144), .val (.int u145), .val (.ref b146), .val (.long ((40 : Int64) + ((1 : Int64) * ((0 : Int32).toInt64)))), .second, .val (.int (1 : Int32)), .val (.long ((40 : Int64) + ((1 : Int64) * ((0 : Int32).toInt64)))), .second] [])) (fun _ kk_ => (X149.ldc2Long hx hown148 (mvT hZ148 (w_47 hw)) (g := (mkF m 149 #[.val (.int n1), .val (.int n2), .val (.int n3), .val (.int n4), .val (.int n5), .val (.int n6), .val (.int (0 : Int32)), .val (.int u141), .val (.int u142), .val (.int u143), .val (.int u144), .val (.int u145), .val (.ref b146), .val (.long ((40 : Int64) + ((1 : Int64) * ((0 : Int32).toInt64)))), .second, .val (.int (1 : Int32)), .unset, .unset] [])) rfl (hb hby at_149)) _ (XS.iload X149.here hx rfl (hb hby at_152) rfl (XS.ifNo X149.here hx rfl (hb hby at_154) rfl ((if0 _ _).trans (feq (by decide)).1) (XS.lconst X149.here hx rfl (hb hby at_157) (XS.goto X149.here hx rfl (pc0 := 158) (pc' := 164) rfl (hb hby at_158) (by decide) (by decide) (XS.iload X149.here hx rfl (hb hby at_164) rfl (XS.i2l X149.here hx rfl (hb hby at_166) rfl (XS.lmul X149.here hx rfl (hb hby at_167) rfl (XS.ladd X149.here hx rfl (hb hby at_168) rfl (XS.lstore X149.here hx rfl (hb hby at_169) rfl (l' := #[.val (.int n1), .val (.int n2), .val (.int n3), .val (.int n4), .val (.int n5), .val (.int n6), .val (.int (0 : Int32)), .val (.int u141), .val (.int u142), .val (.int u143), .val (.int u144), .val (.int u145), .val (.ref b146), .val (.long ((40 : Int64) + ((1 : Int64) * ((0 : Int32).toInt64)))), .second, .val (.int (1 : Int32)), .val (.long ((40 : Int64) + ((1 : Int64) * ((0 : Int32).toInt64)))), .second]) rfl kk_)))))))))) ?_
    refine OWH.st (B := T149.setTop (mkF m 184 #[.val (.int n1), .val (.int n2), .val (.int n3), .val (.int n4), .val (.int n5), .val (.int n6), .val (.int (0 : Int32)), .val (.int u141), .val (.int u142), .val (.int u143), .val (.int u144), .val (.int u145), .val (.ref b146), .val (.long ((40 : Int64) + ((1 : Int64) * ((0 : Int32).toInt64)))), .second, .val (.int (1 : Int32)), .val (.long ((40 : Int64) + ((1 : Int64) * ((0 : Int32).toInt64)))), .second] [(.int (1 : Int32))])) (fun _ kk_ => XS.lload X149.here hx rfl (hb hby at_171) rfl (XS.lload X149.here hx rfl (hb hby at_173) rfl (XS.lcmp X149.here hx rfl (hb hby at_175) rfl (XS.ifNo X149.here hx rfl (hb hby at_176) rfl ((if0 _ _).trans (teq (by decide +kernel)).2) (XS.iconst X149.here hx rfl (hb hby at_179) (XS.goto X149.here hx rfl (pc0 := 180) (pc' := 184) rfl (hb hby at_180) (by decide) (by decide) kk_)))))) ?_
    exact OWH.ret X149 (s := s) (vm0 := T148.vm) hS148 hk148 hx hlk CR148 hZ148 (own_EW hw) (i := .ireturn) Bd.returns rfl (Or.inl ⟨rfl, Or.inr (Or.inl rfl), _, rfl⟩) (hb hby at_184) e149 (by decide) (by decide) ⟨rfl, N149⟩
  · rcases own_lu1 u141 with hu150 | hl150_0
    · obtain ⟨T151, h151, X151, e151, E151, A151, D151, -, st151⟩ := newO X145 hx hZ hown (w_6 hw) (w_7 hw) (w_8 hw) e145 (g := (mkF m 41 #[.val (.int n1), .val (.int n2), .val (.int n3), .val (.int n4), .val (.int n5), .val (.int n6), .val (.int (1 : Int32)), .val (.int u141), .val (.int u142), .val (.int u143), .val (.int u144), .val (.int u145), .unset, .unset, .unset, .unset, .unset, .unset] [])) rfl (hb hby at_41) (by decide) (by decide)
      obtain ⟨b151, g151⟩ : ∃ z, z = h0.size := ⟨_, rfl⟩
      rw [← g151] at A151 D151 st151
      have n_b151 : n0 ≤ b151 := Nat.le_trans (own_oldle O0) (Nat.le_of_eq g151.symm)
      have O151 : Old Z n0 h151 := O0.ext E151
      have CS151 : CHr Z consts_1 s.vm h0 s.vm h151 := CHr.ext E151 CR0.1
      have CR151 := CHr.trans CR0 CS151
      have Sf151_b151 : Safe Z consts_1 s.vm h151 b151 := Safe.ext E151 CR0.1 (Safe.new (Nat.le_of_eq g151.symm))
      have F151_25 : Fld Z h151 b151 "java/lang/String" "value" "[B" .null := D151 (Or.inr (w_25 hw)) (ty := (.array .byte)) (by decide)
      have F151_26 : Fld Z h151 b151 "java/lang/String" "coder" "B" (.int (0 : Int32)) := D151 (Or.inr (w_26 hw)) (ty := .byte) (by decide)
      refine OWH.st (B := T151.setTop (mkF m 57 #[.val (.int n1), .val (.int n2), .val (.int n3), .val (.int n4), .val (.int n5), .val (.int n6), .val (.int (1 : Int32)), .val (.int u141), .val (.int u142), .val (.int u143), .val (.int u144), .val (.int u145), .unset, .unset, .unset, .unset, .unset, .unset] [(.int u145), (.int u144), (.int u143), (.int u142), (.int u141), (.int (1 : Int32)), (.ref b151), (.ref b151)])) (fun _ kk_ => st151 _ (XS.dup X151.here hx rfl (hb hby at_44) rfl rfl (XS.iload X151.here hx rfl (hb hby at_45) rfl (XS.iload X151.here hx rfl (hb hby at_47) rfl (XS.iload X151.here hx rfl (hb hby at_49) rfl (XS.iload X151.here hx rfl (hb hby at_51) rfl (XS.iload X151.here hx rfl (hb hby at_53) rfl (XS.iload X151.here hx rfl (hb hby at_55) rfl kk_)))))))) ?_
      obtain ⟨_, _, ⟨T152, L152, k152, n152⟩, -, X152, ⟨Lc152, hQ152, l152, y152, z152⟩, st152⟩ := Jvm.LawKit.callS X151 hx (y := (⟨"com/example/cartulary/cartulary/entity/FootprintOfPinLaw", "chars", "(ICCCCC)[C"⟩ : MethodName)) hown (mvT hZ (w_9 hw)) (mvT hZ (w_10 hw)) (mvT hZ (w_3 hw)) (mvT hZ (w_11 hw)) (by decide) (backOf (W := 2) (rmCR1 l Z a0 hw [] u141 u142 u143 u144 u145 h151 n0 O151 hn141) hZ (w_11 hw) (w_3 hw) (by decide) (by decide)) (g := (mkF m 57 #[.val (.int n1), .val (.int n2), .val (.int n3), .val (.int n4), .val (.int n5), .val (.int n6), .val (.int (1 : Int32)), .val (.int u141), .val (.int u142), .val (.int u143), .val (.int u144), .val (.int u145), .unset, .unset, .unset, .unset, .unset, .unset] [(.int u145), (.int u144), (.int u143), (.int u142), (.int u141), (.int (1 : Int32)), (.ref b151), (.ref b151)])) rfl (by rw [hml]; rfl) (argsL := [(.int (1 : Int32)), (.int u141), (.int u142), (.int u143), (.int u144), (.int u145)]) (rest := [(.ref b151), (.ref b151)]) (lenOf pd_16 rfl) rfl (by show 2 * 0 + _ ≤ _; exact Nat.le_of_eq rfl) (hb hby at_57) (fun _ _ => ⟨rfl, e151, (by decide : 1 + 1 ≤ _), (by decide : 4 + 1 ≤ _)⟩)
      dsimp only [Pt.U, Pt.locs, Pt.cells, Pt.slots] at X152 l152 y152 z152 st152 hQ152
      subst l152 y152 z152
      obtain ⟨b152, kb152, rfl, Nq152, K152, gb152, zb152, Vb152⟩ := hQ152
      have N152 := Fr.app N145 Nq152
      have O152 : Old Z n0 T152.heap := O151.keep K152 all0
      have CS152 : CHr Z consts_1 s.vm h151 s.vm T152.heap := CHr.keep K152 all0 CR151.1
      have Sf152_b151 := CHr.safe CS152 A151.lt Sf151_b151
      have CR152 := CHr.trans CR151 CS152
      have Sf152_b152 : Safe Z consts_1 s.vm T152.heap b152 := Safe.keep K152 all0 CR151.1 (Safe.new zb152)
      refine OWH.st (B := T152.setTop (mkF m 60 #[.val (.int n1), .val (.int n2), .val (.int n3), .val (.int n4), .val (.int n5), .val (.int n6), .val (.int (1 : Int32)), .val (.int u141), .val (.int u142), .val (.int u143), .val (.int u144), .val (.int u145), .unset, .unset, .unset, .unset, .unset, .unset] [(.ref b152), (.ref b151), (.ref b151)])) (fun _ kk_ => st152 _ kk_) ?_
      obtain ⟨_, _, ⟨T153, L153, k153, n153⟩, -, X153, ⟨Lc153, hQ153, l153, y153, z153⟩, st153⟩ := X152.specialBack hx (y := (⟨"java/lang/String", "<init>", "([C)V"⟩ : MethodName)) rfl hown (mvT hZ (w_13 hw)) (mvT hZ (w_14 hw)) (mvT hZ (w_15 hw)) (by decide) (backOf (W := 1) (rmS01 l Z a0 hw [] b151 b152 kb152 (1 : Int32) [u141] i_COMPACT_STRINGS v_SIOOBE_FORMATTER T152.heap n0 O152 (A151.keep K152) (F151_25.keep K152 nin0) (F151_26.keep K152 nin0) n_b151 Vb152 rfl (Nat.le_of_ble_eq_true rfl) (Nat.zero_lt_succ _) (OwnChs.cons hn141 OwnChs.nil) (OwnHi.here hu150) hS) hZ (w_15 hw) (w_8 hw) (by decide) (by decide)) (g := (mkF m 60 #[.val (.int n1), .val (.int n2), .val (.int n3), .val (.int n4), .val (.int n5), .val (.int n6), .val (.int (1 : Int32)), .val (.int u141), .val (.int u142), .val (.int u143), .val (.int u144), .val (.int u145), .unset, .unset, .unset, .unset, .unset, .unset] [(.ref b152), (.ref b151), (.ref b151)])) rfl (by rw [hml]; rfl) (Steps.refl _) (a := b151) (argsL := [(.ref b152)]) (rest := [(.ref b151)]) (lenOf pd_17 rfl) rfl (by show 2 * 0 + _ ≤ _; exact Nat.le_of_eq rfl) (hb hby at_60) (fun _ _ => ⟨rfl, rfl, (by decide : 2 + 2 ≤ _), (by decide : 5 + 30 ≤ _)⟩)
      dsimp only [Pt.U, Pt.locs, Pt.cells, Pt.slots] at X153 l153 y153 z153 st153 hQ153
      subst l153 y153 z153
      obtain ⟨rfl, Nq153, K153, Es153, ba153, kb153, gba153, nba153, Fc153, Fv153, Vs153⟩ := hQ153
      have N153 := Fr.app N152 Nq153
      have O153 : Old Z n0 T153.heap := O152.keep K153 (allS n_b151 all0)
      have CS153 : CHr Z consts_1 s.vm T152.heap s.vm T153.heap := CHr.keep K153 (allS Sf152_b151 all0) CR152.1
      have Sf153_b151 := CHr.safe CS153 (A151.keep K152).lt Sf152_b151
      have Sf153_b152 := CHr.safe CS153 Vb152.lt Sf152_b152
      have CR153 := CHr.trans CR152 CS153
      refine OWH.tr (B := T153.setTop (mkF m 63 #[.val (.int n1), .val (.int n2), .val (.int n3), .val (.int n4), .val (.int n5), .val (.int n6), .val (.int (1 : Int32)), .val (.int u141), .val (.int u142), .val (.int u143), .val (.int u144), .val (.int u145), .unset, .unset, .unset, .unset, .unset, .unset] [(.ref b151)])) (st153) ?_
      refine OWH.st (B := T153.setTop (mkF m 67 #[.val (.int n1), .val (.int n2), .val (.int n3), .val (.int n4), .val (.int n5), .val (.int n6), .val (.int (1 : Int32)), .val (.int u141), .val (.int u142), .val (.int u143), .val (.int u144), .val (.int u145), .val (.ref b151), .unset, .unset, .unset, .unset, .unset] [(.ref b151)])) (fun _ kk_ => XS.astore X153.here hx rfl (hb hby at_63) rfl rfl (l' := #[.val (.int n1), .val (.int n2), .val (.int n3), .val (.int n4), .val (.int n5), .val (.int n6), .val (.int (1 : Int32)), .val (.int u141), .val (.int u142), .val (.int u143), .val (.int u144), .val (.int u145), .val (.ref b151), .unset, .unset, .unset, .unset, .unset]) rfl (XS.aload X153.here hx rfl (hb hby at_65) rfl rfl kk_)) ?_
      obtain ⟨_, _, ⟨T154, L154, k154, n154⟩, -, X154, ⟨Lc154, hQ154, l154, y154, z154⟩, st154⟩ := Jvm.LawKit.callS X153 hx (y := (⟨"com/example/cartulary/cartulary/entity/Footprint", "of", "(Ljava/lang/String;)J"⟩ : MethodName)) hown (mvT hZ (w_31 hw)) (mvT hZ (w_32 hw)) (mvT hZ (w_33 hw)) (mvT hZ (w_34 hw)) (by decide) (backOf (W := 0) (rmOF1 l Z a0 hw [] b151 ba153 kb153 (2 : Int32) [u141] (1 : Int32) i_COMPACT_STRINGS v_SIOOBE_FORMATTER T153.heap n0 O153 ((A151.keep K152).keep K153) Fv153 Fc153 Vs153 rfl (by decide) rfl (Nat.le_of_ble_eq_true rfl) (OwnChs.cons hn141 OwnChs.nil) (OwnHi.here hu150) hS) hZ (w_34 hw) (w_33 hw) (by decide) (by decide)) (g := (mkF m 67 #[.val (.int n1), .val (.int n2), .val (.int n3), .val (.int n4), .val (.int n5), .val (.int n6), .val (.int (1 : Int32)), .val (.int u141), .val (.int u142), .val (.int u143), .val (.int u144), .val (.int u145), .val (.ref b151), .unset, .unset, .unset, .unset, .unset] [(.ref b151)])) rfl (by rw [hml]; rfl) (argsL := [(.ref b151)]) (rest := []) (lenOf pd_18 rfl) rfl (by show 2 * 0 + _ ≤ _; exact Nat.le_of_eq rfl) (hb hby at_67) (fun _ _ => ⟨rfl, rfl, (by decide : 4 + 0 ≤ _), (by decide : 35 + 0 ≤ _)⟩)
      dsimp only [Pt.U, Pt.locs, Pt.cells, Pt.slots] at X154 l154 y154 z154 st154 hQ154
      subst l154 y154 z154
      obtain ⟨rfl, Nq154, e154⟩ := hQ154
      have N154 := Fr.app N153 Nq154
      refine OWH.st (B := T154.setTop (mkF m 149 #[.val (.int n1), .val (.int n2), .val (.int n3), .val (.int n4), .val (.int n5), .val (.int n6), .val (.int (1 : Int32)), .val (.int u141), .val (.int u142), .val (.int u143), .val (.int u144), .val (.int u145), .val (.ref b151), .val (.long ((40 : Int64) + ((2 : Int64) * ((1 : Int32).toInt64)))), .second, .val (.int (0 : Int32)), .unset, .unset] [])) (fun _ kk_ => st154 _ (XS.lstore X154.here hx rfl (hb hby at_70) rfl (l' := #[.val (.int n1), .val (.int n2), .val (.int n3), .val (.int n4), .val (.int n5), .val (.int n6), .val (.int (1 : Int32)), .val (.int u141), .val (.int u142), .val (.int u143), .val (.int u144), .val (.int u145), .val (.ref b151), .val (.long ((40 : Int64) + ((2 : Int64) * ((1 : Int32).toInt64)))), .second, .unset, .unset, .unset]) rfl (XS.iload X154.here hx rfl (hb hby at_72) rfl (XS.iconst X154.here hx rfl (hb hby at_74) (XS.icmpNo X154.here hx rfl (hb hby at_75) rfl (flt (by decide)).1 (XS.iload X154.here hx rfl (hb hby at_78) rfl (XS.sipush X154.here hx rfl (hb hby at_80) (XS.icmpYes X154.here hx rfl (pc0 := 83) (pc' := 146) rfl (hb hby at_83) rfl (tlt hu150).2.2.1 (by decide) (by decide) (XS.iconst X154.here hx rfl (hb hby at_146) (XS.istore X154.here hx rfl (hb hby at_147) rfl (l' := #[.val (.int n1), .val (.int n2), .val (.int n3), .val (.int n4), .val (.int n5), .val (.int n6), .val (.int (1 : Int32)), .val (.int u141), .val (.int u142), .val (.int u143), .val (.int u144), .val (.int u145), .val (.ref b151), .val (.long ((40 : Int64) + ((2 : Int64) * ((1 : Int32).toInt64)))), .second, .val (.int (0 : Int32)), .unset, .unset]) rfl kk_)))))))))) ?_
      refine OWH.st (B := T154.setTop (mkF m 173 #[.val (.int n1), .val (.int n2), .val (.int n3), .val (.int n4), .val (.int n5), .val (.int n6), .val (.int (1 : Int32)), .val (.int u141), .val (.int u142), .val (.int u143), .val (.int u144), .val (.int u145), .val (.ref b151), .val (.long ((40 : Int64) + ((2 : Int64) * ((1 : Int32).toInt64)))), .second, .val (.int (0 : Int32)), .val (.long ((40 : Int64) + ((2 : Int64) * ((1 : Int32).toInt64)))), .second] [(.long ((40 : Int64) + ((2 : Int64) * ((1 : Int32).toInt64))))])) (fun _ kk_ => (X154.ldc2Long hx hown (mvT hZ (w_47 hw)) (g := (mkF m 149 #[.val (.int n1), .val (.int n2), .val (.int n3), .val (.int n4), .val (.int n5), .val (.int n6), .val (.int (1 : Int32)), .val (.int u141), .val (.int u142), .val (.int u143), .val (.int u144), .val (.int u145), .val (.ref b151), .val (.long ((40 : Int64) + ((2 : Int64) * ((1 : Int32).toInt64)))), .second, .val (.int (0 : Int32)), .unset, .unset] [])) rfl (hb hby at_149)) _ (XS.iload X154.here hx rfl (hb hby at_152) rfl (XS.ifYes X154.here hx rfl (pc0 := 154) (pc' := 161) rfl (hb hby at_154) rfl ((if0 _ _).trans (teq (by decide)).1) (by decide) (by decide) ((X154.ldc2Long hx hown (mvT hZ (w_110 hw)) (g := (mkF m 161 #[.val (.int n1), .val (.int n2), .val (.int n3), .val (.int n4), .val (.int n5), .val (.int n6), .val (.int (1 : Int32)), .val (.int u141), .val (.int u142), .val (.int u143), .val (.int u144), .val (.int u145), .val (.ref b151), .val (.long ((40 : Int64) + ((2 : Int64) * ((1 : Int32).toInt64)))), .second, .val (.int (0 : Int32)), .unset, .unset] [(.long (40 : Int64))])) rfl (hb hby at_161)) _ (XS.iload X154.here hx rfl (hb hby at_164) rfl (XS.i2l X154.here hx rfl (hb hby at_166) rfl (XS.lmul X154.here hx rfl (hb hby at_167) rfl (XS.ladd X154.here hx rfl (hb hby at_168) rfl (XS.lstore X154.here hx rfl (hb hby at_169) rfl (l' := #[.val (.int n1), .val (.int n2), .val (.int n3), .val (.int n4), .val (.int n5), .val (.int n6), .val (.int (1 : Int32)), .val (.int u141), .val (.int u142), .val (.int u143), .val (.int u144), .val (.int u145), .val (.ref b151), .val (.long ((40 : Int64) + ((2 : Int64) * ((1 : Int32).toInt64)))), .second, .val (.int (0 : Int32)), .val (.long ((40 : Int64) + ((2 : Int64) * ((1 : Int32).toInt64)))), .second]) rfl (XS.lload X154.here hx rfl (hb hby at_171) rfl kk_)))))))))) ?_
      refine OWH.st (B := T154.setTop (mkF m 184 #[.val (.int n1), .val (.int n2), .val (.int n3), .val (.int n4), .val (.int n5), .val (.int n6), .val (.int (1 : Int32)), .val (.int u141), .val (.int u142), .val (.int u143), .val (.int u144), .val (.int u145), .val (.ref b151), .val (.long ((40 : Int64) + ((2 : Int64) * ((1 : Int32).toInt64)))), .second, .val (.int (0 : Int32)), .val (.long ((40 : Int64) + ((2 : Int64) * ((1 : Int32).toInt64)))), .second] [(.int (1 : Int32))])) (fun _ kk_ => XS.lload X154.here hx rfl (hb hby at_173) rfl (XS.lcmp X154.here hx rfl (hb hby at_175) rfl (XS.ifNo X154.here hx rfl (hb hby at_176) rfl ((if0 _ _).trans (teq (by decide +kernel)).2) (XS.iconst X154.here hx rfl (hb hby at_179) (XS.goto X154.here hx rfl (pc0 := 180) (pc' := 184) rfl (hb hby at_180) (by decide) (by decide) kk_))))) ?_
      exact OWH.ret X154 (s := s) (vm0 := s.vm) hS0 (Nat.le_trans (Nat.le_trans (Nat.le_trans hk0 E151.1) K152.1) K153.1) hx hlk CR153 hZ (own_EW hw) (i := .ireturn) Bd.returns rfl (Or.inl ⟨rfl, Or.inr (Or.inl rfl), _, rfl⟩) (hb hby at_184) e154 (by decide) (by decide) ⟨rfl, N154⟩
    · obtain ⟨T155, h155, X155, e155, E155, A155, D155, -, st155⟩ := newO X145 hx hZ hown (w_6 hw) (w_7 hw) (w_8 hw) e145 (g := (mkF m 41 #[.val (.int n1), .val (.int n2), .val (.int n3), .val (.int n4), .val (.int n5), .val (.int n6), .val (.int (1 : Int32)), .val (.int u141), .val (.int u142), .val (.int u143), .val (.int u144), .val (.int u145), .unset, .unset, .unset, .unset, .unset, .unset] [])) rfl (hb hby at_41) (by decide) (by decide)
      obtain ⟨b155, g155⟩ : ∃ z, z = h0.size := ⟨_, rfl⟩
      rw [← g155] at A155 D155 st155
      have n_b155 : n0 ≤ b155 := Nat.le_trans (own_oldle O0) (Nat.le_of_eq g155.symm)
      have O155 : Old Z n0 h155 := O0.ext E155
      have CS155 : CHr Z consts_1 s.vm h0 s.vm h155 := CHr.ext E155 CR0.1
      have CR155 := CHr.trans CR0 CS155
      have Sf155_b155 : Safe Z consts_1 s.vm h155 b155 := Safe.ext E155 CR0.1 (Safe.new (Nat.le_of_eq g155.symm))
      have F155_25 : Fld Z h155 b155 "java/lang/String" "value" "[B" .null := D155 (Or.inr (w_25 hw)) (ty := (.array .byte)) (by decide)
      have F155_26 : Fld Z h155 b155 "java/lang/String" "coder" "B" (.int (0 : Int32)) := D155 (Or.inr (w_26 hw)) (ty := .byte) (by decide)
      refine OWH.st (B := T155.setTop (mkF m 57 #[.val (.int n1), .val (.int n2), .val (.int n3), .val (.int n4), .val (.int n5), .val (.int n6), .val (.int (1 : Int32)), .val (.int u141), .val (.int u142), .val (.int u143), .val (.int u144), .val (.int u145), .unset, .unset, .unset, .unset, .unset, .unset] [(.int u145), (.int u144), (.int u143), (.int u142), (.int u141), (.int (1 : Int32)), (.ref b155), (.ref b155)])) (fun _ kk_ => st155 _ (XS.dup X155.here hx rfl (hb hby at_44) rfl rfl (XS.iload X155.here hx rfl (hb hby at_45) rfl (XS.iload X155.here hx rfl (hb hby at_47) rfl (XS.iload X155.here hx rfl (hb hby at_49) rfl (XS.iload X155.here hx rfl (hb hby at_51) rfl (XS.iload X155.here hx rfl (hb hby at_53) rfl (XS.iload X155.here hx rfl (hb hby at_55) rfl kk_)))))))) ?_
      obtain ⟨_, _, ⟨T156, L156, k156, n156⟩, -, X156, ⟨Lc156, hQ156, l156, y156, z156⟩, st156⟩ := Jvm.LawKit.callS X155 hx (y := (⟨"com/example/cartulary/cartulary/entity/FootprintOfPinLaw", "chars", "(ICCCCC)[C"⟩ : MethodName)) hown (mvT hZ (w_9 hw)) (mvT hZ (w_10 hw)) (mvT hZ (w_3 hw)) (mvT hZ (w_11 hw)) (by decide) (backOf (W := 2) (rmCR1 l Z a0 hw [] u141 u142 u143 u144 u145 h155 n0 O155 hn141) hZ (w_11 hw) (w_3 hw) (by decide) (by decide)) (g := (mkF m 57 #[.val (.int n1), .val (.int n2), .val (.int n3), .val (.int n4), .val (.int n5), .val (.int n6), .val (.int (1 : Int32)), .val (.int u141), .val (.int u142), .val (.int u143), .val (.int u144), .val (.int u145), .unset, .unset, .unset, .unset, .unset, .unset] [(.int u145), (.int u144), (.int u143), (.int u142), (.int u141), (.int (1 : Int32)), (.ref b155), (.ref b155)])) rfl (by rw [hml]; rfl) (argsL := [(.int (1 : Int32)), (.int u141), (.int u142), (.int u143), (.int u144), (.int u145)]) (rest := [(.ref b155), (.ref b155)]) (lenOf pd_16 rfl) rfl (by show 2 * 0 + _ ≤ _; exact Nat.le_of_eq rfl) (hb hby at_57) (fun _ _ => ⟨rfl, e155, (by decide : 1 + 1 ≤ _), (by decide : 4 + 1 ≤ _)⟩)
      dsimp only [Pt.U, Pt.locs, Pt.cells, Pt.slots] at X156 l156 y156 z156 st156 hQ156
      subst l156 y156 z156
      obtain ⟨b156, kb156, rfl, Nq156, K156, gb156, zb156, Vb156⟩ := hQ156
      have N156 := Fr.app N145 Nq156
      have O156 : Old Z n0 T156.heap := O155.keep K156 all0
      have CS156 : CHr Z consts_1 s.vm h155 s.vm T156.heap := CHr.keep K156 all0 CR155.1
      have Sf156_b155 := CHr.safe CS156 A155.lt Sf155_b155
      have CR156 := CHr.trans CR155 CS156
      have Sf156_b156 : Safe Z consts_1 s.vm T156.heap b156 := Safe.keep K156 all0 CR155.1 (Safe.new zb156)
      refine OWH.st (B := T156.setTop (mkF m 60 #[.val (.int n1), .val (.int n2), .val (.int n3), .val (.int n4), .val (.int n5), .val (.int n6), .val (.int (1 : Int32)), .val (.int u141), .val (.int u142), .val (.int u143), .val (.int u144), .val (.int u145), .unset, .unset, .unset, .unset, .unset, .unset] [(.ref b156), (.ref b155), (.ref b155)])) (fun _ kk_ => st156 _ kk_) ?_
      obtain ⟨_, _, ⟨T157, L157, k157, n157⟩, -, X157, ⟨Lc157, hQ157, l157, y157, z157⟩, st157⟩ := X156.specialBack hx (y := (⟨"java/lang/String", "<init>", "([C)V"⟩ : MethodName)) rfl hown (mvT hZ (w_13 hw)) (mvT hZ (w_14 hw)) (mvT hZ (w_15 hw)) (by decide) (backOf (W := 1) (rmS00 l Z a0 hw [] b155 b156 kb156 (1 : Int32) [u141] i_COMPACT_STRINGS v_SIOOBE_FORMATTER T156.heap n0 O156 (A155.keep K156) (F155_25.keep K156 nin0) (F155_26.keep K156 nin0) n_b155 Vb156 rfl (Nat.le_of_ble_eq_true rfl) (Nat.zero_lt_succ _) (OwnChs.cons hn141 OwnChs.nil) (OwnLat.cons hl150_0 OwnLat.nil) hS) hZ (w_15 hw) (w_8 hw) (by decide) (by decide)) (g := (mkF m 60 #[.val (.int n1), .val (.int n2), .val (.int n3), .val (.int n4), .val (.int n5), .val (.int n6), .val (.int (1 : Int32)), .val (.int u141), .val (.int u142), .val (.int u143), .val (.int u144), .val (.int u145), .unset, .unset, .unset, .unset, .unset, .unset] [(.ref b156), (.ref b155), (.ref b155)])) rfl (by rw [hml]; rfl) (Steps.refl _) (a := b155) (argsL := [(.ref b156)]) (rest := [(.ref b155)]) (lenOf pd_17 rfl) rfl (by show 2 * 0 + _ ≤ _; exact Nat.le_of_eq rfl) (hb hby at_60) (fun _ _ => ⟨rfl, rfl, (by decide : 2 + 1 ≤ _), (by decide : 5 + 10 ≤ _)⟩)
      dsimp only [Pt.U, Pt.locs, Pt.cells, Pt.slots] at X157 l157 y157 z157 st157 hQ157
      subst l157 y157 z157
      obtain ⟨rfl, Nq157, K157, Es157, ba157, kb157, gba157, nba157, Fc157, Fv157, Vs157⟩ := hQ157
      have N157 := Fr.app N156 Nq157
      have O157 : Old Z n0 T157.heap := O156.keep K157 (allS n_b155 all0)
      have CS157 : CHr Z consts_1 s.vm T156.heap s.vm T157.heap := CHr.keep K157 (allS Sf156_b155 all0) CR156.1
      have Sf157_b155 := CHr.safe CS157 (A155.keep K156).lt Sf156_b155
      have Sf157_b156 := CHr.safe CS157 Vb156.lt Sf156_b156
      have CR157 := CHr.trans CR156 CS157
      refine OWH.tr (B := T157.setTop (mkF m 63 #[.val (.int n1), .val (.int n2), .val (.int n3), .val (.int n4), .val (.int n5), .val (.int n6), .val (.int (1 : Int32)), .val (.int u141), .val (.int u142), .val (.int u143), .val (.int u144), .val (.int u145), .unset, .unset, .unset, .unset, .unset, .unset] [(.ref b155)])) (st157) ?_
      refine OWH.st (B := T157.setTop (mkF m 67 #[.val (.int n1), .val (.int n2), .val (.int n3), .val (.int n4), .val (.int n5), .val (.int n6), .val (.int (1 : Int32)), .val (.int u141), .val (.int u142), .val (.int u143), .val (.int u144), .val (.int u145), .val (.ref b155), .unset, .unset, .unset, .unset, .unset] [(.ref b155)])) (fun _ kk_ => XS.astore X157.here hx rfl (hb hby at_63) rfl rfl (l' := #[.val (.int n1), .val (.int n2), .val (.int n3), .val (.int n4), .val (.int n5), .val (.int n6), .val (.int (1 : Int32)), .val (.int u141), .val (.int u142), .val (.int u143), .val (.int u144), .val (.int u145), .val (.ref b155), .unset, .unset, .unset, .unset, .unset]) rfl (XS.aload X157.here hx rfl (hb hby at_65) rfl rfl kk_)) ?_
      obtain ⟨_, _, ⟨T158, L158, k158, n158⟩, -, X158, ⟨Lc158, hQ158, l158, y158, z158⟩, st158⟩ := Jvm.LawKit.callS X157 hx (y := (⟨"com/example/cartulary/cartulary/entity/Footprint", "of", "(Ljava/lang/String;)J"⟩ : MethodName)) hown (mvT hZ (w_31 hw)) (mvT hZ (w_32 hw)) (mvT hZ (w_33 hw)) (mvT hZ (w_34 hw)) (by decide) (backOf (W := 0) (rmOF0 l Z a0 hw [] b155 ba157 kb157 (1 : Int32) [u141] (1 : Int32) i_COMPACT_STRINGS v_SIOOBE_FORMATTER T157.heap n0 O157 ((A155.keep K156).keep K157) Fv157 Fc157 Vs157 rfl (by decide) rfl (Nat.le_of_ble_eq_true rfl) (OwnChs.cons hn141 OwnChs.nil) (OwnLat.cons hl150_0 OwnLat.nil) hS) hZ (w_34 hw) (w_33 hw) (by decide) (by decide)) (g := (mkF m 67 #[.val (.int n1), .val (.int n2), .val (.int n3), .val (.int n4), .val (.int n5), .val (.int n6), .val (.int (1 : Int32)), .val (.int u141), .val (.int u142), .val (.int u143), .val (.int u144), .val (.int u145), .val (.ref b155), .unset, .unset, .unset, .unset, .unset] [(.ref b155)])) rfl (by rw [hml]; rfl) (argsL := [(.ref b155)]) (rest := []) (lenOf pd_18 rfl) rfl (by show 2 * 0 + _ ≤ _; exact Nat.le_of_eq rfl) (hb hby at_67) (fun _ _ => ⟨rfl, rfl, (by decide : 3 + 0 ≤ _), (by decide : 15 + 0 ≤ _)⟩)
      dsimp only [Pt.U, Pt.locs, Pt.cells, Pt.slots] at X158 l158 y158 z158 st158 hQ158
      subst l158 y158 z158
      obtain ⟨rfl, Nq158, e158⟩ := hQ158
      have N158 := Fr.app N157 Nq158
      refine OWH.st (B := T158.setTop (mkF m 89 #[.val (.int n1), .val (.int n2), .val (.int n3), .val (.int n4), .val (.int n5), .val (.int n6), .val (.int (1 : Int32)), .val (.int u141), .val (.int u142), .val (.int u143), .val (.int u144), .val (.int u145), .val (.ref b155), .val (.long ((40 : Int64) + ((1 : Int64) * ((1 : Int32).toInt64)))), .second, .unset, .unset, .unset] [(.int (2 : Int32)), (.int (1 : Int32))])) (fun _ kk_ => st158 _ (XS.lstore X158.here hx rfl (hb hby at_70) rfl (l' := #[.val (.int n1), .val (.int n2), .val (.int n3), .val (.int n4), .val (.int n5), .val (.int n6), .val (.int (1 : Int32)), .val (.int u141), .val (.int u142), .val (.int u143), .val (.int u144), .val (.int u145), .val (.ref b155), .val (.long ((40 : Int64) + ((1 : Int64) * ((1 : Int32).toInt64)))), .second, .unset, .unset, .unset]) rfl (XS.iload X158.here hx rfl (hb hby at_72) rfl (XS.iconst X158.here hx rfl (hb hby at_74) (XS.icmpNo X158.here hx rfl (hb hby at_75) rfl (flt (by decide)).1 (XS.iload X158.here hx rfl (hb hby at_78) rfl (XS.sipush X158.here hx rfl (hb hby at_80) (XS.icmpNo X158.here hx rfl (hb hby at_83) rfl (flt hl150_0).2.2.1 (XS.iload X158.here hx rfl (hb hby at_86) rfl (XS.iconst X158.here hx rfl (hb hby at_88) kk_)))))))))) ?_
      refine OWH.st (B := T158.setTop (mkF m 142 #[.val (.int n1), .val (.int n2), .val (.int n3), .val (.int n4), .val (.int n5), .val (.int n6), .val (.int (1 : Int32)), .val (.int u141), .val (.int u142), .val (.int u143), .val (.int u144), .val (.int u145), .val (.ref b155), .val (.long ((40 : Int64) + ((1 : Int64) * ((1 : Int32).toInt64)))), .second, .unset, .unset, .unset] [])) (fun _ kk_ => XS.icmpYes X158.here hx rfl (pc0 := 89) (pc' := 100) rfl (hb hby at_89) rfl (tlt (by decide)).1 (by decide) (by decide) (XS.iload X158.here hx rfl (hb hby at_100) rfl (XS.iconst X158.here hx rfl (hb hby at_102) (XS.icmpYes X158.here hx rfl (pc0 := 103) (pc' := 114) rfl (hb hby at_103) rfl (tlt (by decide)).1 (by decide) (by decide) (XS.iload X158.here hx rfl (hb hby at_114) rfl (XS.iconst X158.here hx rfl (hb hby at_116) (XS.icmpYes X158.here hx rfl (pc0 := 117) (pc' := 128) rfl (hb hby at_117) rfl (tlt (by decide)).1 (by decide) (by decide) (XS.iload X158.here hx rfl (hb hby at_128) rfl (XS.iconst X158.here hx rfl (hb hby at_130) (XS.icmpYes X158.here hx rfl (pc0 := 131) (pc' := 142) rfl (hb hby at_131) rfl (tlt (by decide)).1 (by decide) (by decide) kk_)))))))))) ?_
      refine OWH.st (B := T158.setTop (mkF m 167 #[.val (.int n1), .val (.int n2), .val (.int n3), .val (.int n4), .val (.int n5), .val (.int n6), .val (.int (1 : Int32)), .val (.int u141), .val (.int u142), .val (.int u143), .val (.int u144), .val (.int u145), .val (.ref b155), .val (.long ((40 : Int64) + ((1 : Int64) * ((1 : Int32).toInt64)))), .second, .val (.int (1 : Int32)), .unset, .unset] [(.long ((1 : Int32).toInt64)), (.long (1 : Int64)), (.long (40 : Int64))])) (fun _ kk_ => XS.iconst X158.here hx rfl (hb hby at_142) (XS.goto X158.here hx rfl (pc0 := 143) (pc' := 147) rfl (hb hby at_143) (by decide) (by decide) (XS.istore X158.here hx rfl (hb hby at_147) rfl (l' := #[.val (.int n1), .val (.int n2), .val (.int n3), .val (.int n4), .val (.int n5), .val (.int n6), .val (.int (1 : Int32)), .val (.int u141), .val (.int u142), .val (.int u143), .val (.int u144), .val (.int u145), .val (.ref b155), .val (.long ((40 : Int64) + ((1 : Int64) * ((1 : Int32).toInt64)))), .second, .val (.int (1 : Int32)), .unset, .unset]) rfl ((X158.ldc2Long hx hown (mvT hZ (w_47 hw)) (g := (mkF m 149 #[.val (.int n1), .val (.int n2), .val (.int n3), .val (.int n4), .val (.int n5), .val (.int n6), .val (.int (1 : Int32)), .val (.int u141), .val (.int u142), .val (.int u143), .val (.int u144), .val (.int u145), .val (.ref b155), .val (.long ((40 : Int64) + ((1 : Int64) * ((1 : Int32).toInt64)))), .second, .val (.int (1 : Int32)), .unset, .unset] [])) rfl (hb hby at_149)) _ (XS.iload X158.here hx rfl (hb hby at_152) rfl (XS.ifNo X158.here hx rfl (hb hby at_154) rfl ((if0 _ _).trans (feq (by decide)).1) (XS.lconst X158.here hx rfl (hb hby at_157) (XS.goto X158.here hx rfl (pc0 := 158) (pc' := 164) rfl (hb hby at_158) (by decide) (by decide) (XS.iload X158.here hx rfl (hb hby at_164) rfl (XS.i2l X158.here hx rfl (hb hby at_166) rfl kk_)))))))))) ?_
      refine OWH.st (B := T158.setTop (mkF m 184 #[.val (.int n1), .val (.int n2), .val (.int n3), .val (.int n4), .val (.int n5), .val (.int n6), .val (.int (1 : Int32)), .val (.int u141), .val (.int u142), .val (.int u143), .val (.int u144), .val (.int u145), .val (.ref b155), .val (.long ((40 : Int64) + ((1 : Int64) * ((1 : Int32).toInt64)))), .second, .val (.int (1 : Int32)), .val (.long ((40 : Int64) + ((1 : Int64) * ((1 : Int32).toInt64)))), .second] [(.int (1 : Int32))])) (fun _ kk_ => XS.lmul X158.here hx rfl (hb hby at_167) rfl (XS.ladd X158.here hx rfl (hb hby at_168) rfl (XS.lstore X158.here hx rfl (hb hby at_169) rfl (l' := #[.val (.int n1), .val (.int n2), .val (.int n3), .val (.int n4), .val (.int n5), .val (.int n6), .val (.int (1 : Int32)), .val (.int u141), .val (.int u142), .val (.int u143), .val (.int u144), .val (.int u145), .val (.ref b155), .val (.long ((40 : Int64) + ((1 : Int64) * ((1 : Int32).toInt64)))), .second, .val (.int (1 : Int32)), .val (.long ((40 : Int64) + ((1 : Int64) * ((1 : Int32).toInt64)))), .second]) rfl (XS.lload X158.here hx rfl (hb hby at_171) rfl (XS.lload X158.here hx rfl (hb hby at_173) rfl (XS.lcmp X158.here hx rfl (hb hby at_175) rfl (XS.ifNo X158.here hx rfl (hb hby at_176) rfl ((if0 _ _).trans (teq (by decide +kernel)).2) (XS.iconst X158.here hx rfl (hb hby at_179) (XS.goto X158.here hx rfl (pc0 := 180) (pc' := 184) rfl (hb hby at_180) (by decide) (by decide) kk_))))))))) ?_
      exact OWH.ret X158 (s := s) (vm0 := s.vm) hS0 (Nat.le_trans (Nat.le_trans (Nat.le_trans hk0 E155.1) K156.1) K157.1) hx hlk CR157 hZ (own_EW hw) (i := .ireturn) Bd.returns rfl (Or.inl ⟨rfl, Or.inr (Or.inl rfl), _, rfl⟩) (hb hby at_184) e158 (by decide) (by decide) ⟨rfl, N158⟩
  · rcases own_lu2 u141 u142 with hu159 | ⟨hl159_0, hl159_1⟩
    · obtain ⟨T160, h160, X160, e160, E160, A160, D160, -, st160⟩ := newO X145 hx hZ hown (w_6 hw) (w_7 hw) (w_8 hw) e145 (g := (mkF m 41 #[.val (.int n1), .val (.int n2), .val (.int n3), .val (.int n4), .val (.int n5), .val (.int n6), .val (.int (2 : Int32)), .val (.int u141), .val (.int u142), .val (.int u143), .val (.int u144), .val (.int u145), .unset, .unset, .unset, .unset, .unset, .unset] [])) rfl (hb hby at_41) (by decide) (by decide)
      obtain ⟨b160, g160⟩ : ∃ z, z = h0.size := ⟨_, rfl⟩
      rw [← g160] at A160 D160 st160
      have n_b160 : n0 ≤ b160 := Nat.le_trans (own_oldle O0) (Nat.le_of_eq g160.symm)
      have O160 : Old Z n0 h160 := O0.ext E160
      have CS160 : CHr Z consts_1 s.vm h0 s.vm h160 := CHr.ext E160 CR0.1
      have CR160 := CHr.trans CR0 CS160
      have Sf160_b160 : Safe Z consts_1 s.vm h160 b160 := Safe.ext E160 CR0.1 (Safe.new (Nat.le_of_eq g160.symm))
      have F160_25 : Fld Z h160 b160 "java/lang/String" "value" "[B" .null := D160 (Or.inr (w_25 hw)) (ty := (.array .byte)) (by decide)
      have F160_26 : Fld Z h160 b160 "java/lang/String" "coder" "B" (.int (0 : Int32)) := D160 (Or.inr (w_26 hw)) (ty := .byte) (by decide)
      refine OWH.st (B := T160.setTop (mkF m 57 #[.val (.int n1), .val (.int n2), .val (.int n3), .val (.int n4), .val (.int n5), .val (.int n6), .val (.int (2 : Int32)), .val (.int u141), .val (.int u142), .val (.int u143), .val (.int u144), .val (.int u145), .unset, .unset, .unset, .unset, .unset, .unset] [(.int u145), (.int u144), (.int u143), (.int u142), (.int u141), (.int (2 : Int32)), (.ref b160), (.ref b160)])) (fun _ kk_ => st160 _ (XS.dup X160.here hx rfl (hb hby at_44) rfl rfl (XS.iload X160.here hx rfl (hb hby at_45) rfl (XS.iload X160.here hx rfl (hb hby at_47) rfl (XS.iload X160.here hx rfl (hb hby at_49) rfl (XS.iload X160.here hx rfl (hb hby at_51) rfl (XS.iload X160.here hx rfl (hb hby at_53) rfl (XS.iload X160.here hx rfl (hb hby at_55) rfl kk_)))))))) ?_
      obtain ⟨_, _, ⟨T161, L161, k161, n161⟩, -, X161, ⟨Lc161, hQ161, l161, y161, z161⟩, st161⟩ := Jvm.LawKit.callS X160 hx (y := (⟨"com/example/cartulary/cartulary/entity/FootprintOfPinLaw", "chars", "(ICCCCC)[C"⟩ : MethodName)) hown (mvT hZ (w_9 hw)) (mvT hZ (w_10 hw)) (mvT hZ (w_3 hw)) (mvT hZ (w_11 hw)) (by decide) (backOf (W := 2) (rmCR2 l Z a0 hw [] u141 u142 u143 u144 u145 h160 n0 O160 hn141 hn142) hZ (w_11 hw) (w_3 hw) (by decide) (by decide)) (g := (mkF m 57 #[.val (.int n1), .val (.int n2), .val (.int n3), .val (.int n4), .val (.int n5), .val (.int n6), .val (.int (2 : Int32)), .val (.int u141), .val (.int u142), .val (.int u143), .val (.int u144), .val (.int u145), .unset, .unset, .unset, .unset, .unset, .unset] [(.int u145), (.int u144), (.int u143), (.int u142), (.int u141), (.int (2 : Int32)), (.ref b160), (.ref b160)])) rfl (by rw [hml]; rfl) (argsL := [(.int (2 : Int32)), (.int u141), (.int u142), (.int u143), (.int u144), (.int u145)]) (rest := [(.ref b160), (.ref b160)]) (lenOf pd_16 rfl) rfl (by show 2 * 0 + _ ≤ _; exact Nat.le_of_eq rfl) (hb hby at_57) (fun _ _ => ⟨rfl, e160, (by decide : 1 + 1 ≤ _), (by decide : 4 + 2 ≤ _)⟩)
      dsimp only [Pt.U, Pt.locs, Pt.cells, Pt.slots] at X161 l161 y161 z161 st161 hQ161
      subst l161 y161 z161
      obtain ⟨b161, kb161, rfl, Nq161, K161, gb161, zb161, Vb161⟩ := hQ161
      have N161 := Fr.app N145 Nq161
      have O161 : Old Z n0 T161.heap := O160.keep K161 all0
      have CS161 : CHr Z consts_1 s.vm h160 s.vm T161.heap := CHr.keep K161 all0 CR160.1
      have Sf161_b160 := CHr.safe CS161 A160.lt Sf160_b160
      have CR161 := CHr.trans CR160 CS161
      have Sf161_b161 : Safe Z consts_1 s.vm T161.heap b161 := Safe.keep K161 all0 CR160.1 (Safe.new zb161)
      refine OWH.st (B := T161.setTop (mkF m 60 #[.val (.int n1), .val (.int n2), .val (.int n3), .val (.int n4), .val (.int n5), .val (.int n6), .val (.int (2 : Int32)), .val (.int u141), .val (.int u142), .val (.int u143), .val (.int u144), .val (.int u145), .unset, .unset, .unset, .unset, .unset, .unset] [(.ref b161), (.ref b160), (.ref b160)])) (fun _ kk_ => st161 _ kk_) ?_
      obtain ⟨_, _, ⟨T162, L162, k162, n162⟩, -, X162, ⟨Lc162, hQ162, l162, y162, z162⟩, st162⟩ := X161.specialBack hx (y := (⟨"java/lang/String", "<init>", "([C)V"⟩ : MethodName)) rfl hown (mvT hZ (w_13 hw)) (mvT hZ (w_14 hw)) (mvT hZ (w_15 hw)) (by decide) (backOf (W := 1) (rmS01 l Z a0 hw [] b160 b161 kb161 (2 : Int32) [u141, u142] i_COMPACT_STRINGS v_SIOOBE_FORMATTER T161.heap n0 O161 (A160.keep K161) (F160_25.keep K161 nin0) (F160_26.keep K161 nin0) n_b160 Vb161 rfl (Nat.le_of_ble_eq_true rfl) (Nat.zero_lt_succ _) (OwnChs.cons hn141 (OwnChs.cons hn142 OwnChs.nil)) (hu159.elim OwnHi.here (fun q0 => OwnHi.there (OwnHi.here q0))) hS) hZ (w_15 hw) (w_8 hw) (by decide) (by decide)) (g := (mkF m 60 #[.val (.int n1), .val (.int n2), .val (.int n3), .val (.int n4), .val (.int n5), .val (.int n6), .val (.int (2 : Int32)), .val (.int u141), .val (.int u142), .val (.int u143), .val (.int u144), .val (.int u145), .unset, .unset, .unset, .unset, .unset, .unset] [(.ref b161), (.ref b160), (.ref b160)])) rfl (by rw [hml]; rfl) (Steps.refl _) (a := b160) (argsL := [(.ref b161)]) (rest := [(.ref b160)]) (lenOf pd_17 rfl) rfl (by show 2 * 0 + _ ≤ _; exact Nat.le_of_eq rfl) (hb hby at_60) (fun _ _ => ⟨rfl, rfl, (by decide : 2 + 2 ≤ _), (by decide : 6 + 30 ≤ _)⟩)
      dsimp only [Pt.U, Pt.locs, Pt.cells, Pt.slots] at X162 l162 y162 z162 st162 hQ162
      subst l162 y162 z162
      obtain ⟨rfl, Nq162, K162, Es162, ba162, kb162, gba162, nba162, Fc162, Fv162, Vs162⟩ := hQ162
      have N162 := Fr.app N161 Nq162
      have O162 : Old Z n0 T162.heap := O161.keep K162 (allS n_b160 all0)
      have CS162 : CHr Z consts_1 s.vm T161.heap s.vm T162.heap := CHr.keep K162 (allS Sf161_b160 all0) CR161.1
      have Sf162_b160 := CHr.safe CS162 (A160.keep K161).lt Sf161_b160
      have Sf162_b161 := CHr.safe CS162 Vb161.lt Sf161_b161
      have CR162 := CHr.trans CR161 CS162
      refine OWH.tr (B := T162.setTop (mkF m 63 #[.val (.int n1), .val (.int n2), .val (.int n3), .val (.int n4), .val (.int n5), .val (.int n6), .val (.int (2 : Int32)), .val (.int u141), .val (.int u142), .val (.int u143), .val (.int u144), .val (.int u145), .unset, .unset, .unset, .unset, .unset, .unset] [(.ref b160)])) (st162) ?_
      refine OWH.st (B := T162.setTop (mkF m 67 #[.val (.int n1), .val (.int n2), .val (.int n3), .val (.int n4), .val (.int n5), .val (.int n6), .val (.int (2 : Int32)), .val (.int u141), .val (.int u142), .val (.int u143), .val (.int u144), .val (.int u145), .val (.ref b160), .unset, .unset, .unset, .unset, .unset] [(.ref b160)])) (fun _ kk_ => XS.astore X162.here hx rfl (hb hby at_63) rfl rfl (l' := #[.val (.int n1), .val (.int n2), .val (.int n3), .val (.int n4), .val (.int n5), .val (.int n6), .val (.int (2 : Int32)), .val (.int u141), .val (.int u142), .val (.int u143), .val (.int u144), .val (.int u145), .val (.ref b160), .unset, .unset, .unset, .unset, .unset]) rfl (XS.aload X162.here hx rfl (hb hby at_65) rfl rfl kk_)) ?_
      obtain ⟨_, _, ⟨T163, L163, k163, n163⟩, -, X163, ⟨Lc163, hQ163, l163, y163, z163⟩, st163⟩ := Jvm.LawKit.callS X162 hx (y := (⟨"com/example/cartulary/cartulary/entity/Footprint", "of", "(Ljava/lang/String;)J"⟩ : MethodName)) hown (mvT hZ (w_31 hw)) (mvT hZ (w_32 hw)) (mvT hZ (w_33 hw)) (mvT hZ (w_34 hw)) (by decide) (backOf (W := 0) (rmOF1 l Z a0 hw [] b160 ba162 kb162 (4 : Int32) [u141, u142] (2 : Int32) i_COMPACT_STRINGS v_SIOOBE_FORMATTER T162.heap n0 O162 ((A160.keep K161).keep K162) Fv162 Fc162 Vs162 rfl (by decide) rfl (Nat.le_of_ble_eq_true rfl) (OwnChs.cons hn141 (OwnChs.cons hn142 OwnChs.nil)) (hu159.elim OwnHi.here (fun q0 => OwnHi.there (OwnHi.here q0))) hS) hZ (w_34 hw) (w_33 hw) (by decide) (by decide)) (g := (mkF m 67 #[.val (.int n1), .val (.int n2), .val (.int n3), .val (.int n4), .val (.int n5), .val (.int n6), .val (.int (2 : Int32)), .val (.int u141), .val (.int u142), .val (.int u143), .val (.int u144), .val (.int u145), .val (.ref b160), .unset, .unset, .unset, .unset, .unset] [(.ref b160)])) rfl (by rw [hml]; rfl) (argsL := [(.ref b160)]) (rest := []) (lenOf pd_18 rfl) rfl (by show 2 * 0 + _ ≤ _; exact Nat.le_of_eq rfl) (hb hby at_67) (fun _ _ => ⟨rfl, rfl, (by decide : 4 + 0 ≤ _), (by decide : 36 + 0 ≤ _)⟩)
      dsimp only [Pt.U, Pt.locs, Pt.cells, Pt.slots] at X163 l163 y163 z163 st163 hQ163
      subst l163 y163 z163
      obtain ⟨rfl, Nq163, e163⟩ := hQ163
      have N163 := Fr.app N162 Nq163
      refine OWH.st (B := T163.setTop (mkF m 83 #[.val (.int n1), .val (.int n2), .val (.int n3), .val (.int n4), .val (.int n5), .val (.int n6), .val (.int (2 : Int32)), .val (.int u141), .val (.int u142), .val (.int u143), .val (.int u144), .val (.int u145), .val (.ref b160), .val (.long ((40 : Int64) + ((2 : Int64) * ((2 : Int32).toInt64)))), .second, .unset, .unset, .unset] [(.int (255 : Int32)), (.int u141)])) (fun _ kk_ => st163 _ (XS.lstore X163.here hx rfl (hb hby at_70) rfl (l' := #[.val (.int n1), .val (.int n2), .val (.int n3), .val (.int n4), .val (.int n5), .val (.int n6), .val (.int (2 : Int32)), .val (.int u141), .val (.int u142), .val (.int u143), .val (.int u144), .val (.int u145), .val (.ref b160), .val (.long ((40 : Int64) + ((2 : Int64) * ((2 : Int32).toInt64)))), .second, .unset, .unset, .unset]) rfl (XS.iload X163.here hx rfl (hb hby at_72) rfl (XS.iconst X163.here hx rfl (hb hby at_74) (XS.icmpNo X163.here hx rfl (hb hby at_75) rfl (flt (by decide)).1 (XS.iload X163.here hx rfl (hb hby at_78) rfl (XS.sipush X163.here hx rfl (hb hby at_80) kk_))))))) ?_
      by_cases hc164 : (255 : Int32) < u141
      · refine OWH.st (B := T163.setTop (mkF m 168 #[.val (.int n1), .val (.int n2), .val (.int n3), .val (.int n4), .val (.int n5), .val (.int n6), .val (.int (2 : Int32)), .val (.int u141), .val (.int u142), .val (.int u143), .val (.int u144), .val (.int u145), .val (.ref b160), .val (.long ((40 : Int64) + ((2 : Int64) * ((2 : Int32).toInt64)))), .second, .val (.int (0 : Int32)), .unset, .unset] [(.long ((2 : Int64) * ((2 : Int32).toInt64))), (.long (40 : Int64))])) (fun _ kk_ => XS.icmpYes X163.here hx rfl (pc0 := 83) (pc' := 146) rfl (hb hby at_83) rfl (tlt hc164).2.2.1 (by decide) (by decide) (XS.iconst X163.here hx rfl (hb hby at_146) (XS.istore X163.here hx rfl (hb hby at_147) rfl (l' := #[.val (.int n1), .val (.int n2), .val (.int n3), .val (.int n4), .val (.int n5), .val (.int n6), .val (.int (2 : Int32)), .val (.int u141), .val (.int u142), .val (.int u143), .val (.int u144), .val (.int u145), .val (.ref b160), .val (.long ((40 : Int64) + ((2 : Int64) * ((2 : Int32).toInt64)))), .second, .val (.int (0 : Int32)), .unset, .unset]) rfl ((X163.ldc2Long hx hown (mvT hZ (w_47 hw)) (g := (mkF m 149 #[.val (.int n1), .val (.int n2), .val (.int n3), .val (.int n4), .val (.int n5), .val (.int n6), .val (.int (2 : Int32)), .val (.int u141), .val (.int u142), .val (.int u143), .val (.int u144), .val (.int u145), .val (.ref b160), .val (.long ((40 : Int64) + ((2 : Int64) * ((2 : Int32).toInt64)))), .second, .val (.int (0 : Int32)), .unset, .unset] [])) rfl (hb hby at_149)) _ (XS.iload X163.here hx rfl (hb hby at_152) rfl (XS.ifYes X163.here hx rfl (pc0 := 154) (pc' := 161) rfl (hb hby at_154) rfl ((if0 _ _).trans (teq (by decide)).1) (by decide) (by decide) ((X163.ldc2Long hx hown (mvT hZ (w_110 hw)) (g := (mkF m 161 #[.val (.int n1), .val (.int n2), .val (.int n3), .val (.int n4), .val (.int n5), .val (.int n6), .val (.int (2 : Int32)), .val (.int u141), .val (.int u142), .val (.int u143), .val (.int u144), .val (.int u145), .val (.ref b160), .val (.long ((40 : Int64) + ((2 : Int64) * ((2 : Int32).toInt64)))), .second, .val (.int (0 : Int32)), .unset, .unset] [(.long (40 : Int64))])) rfl (hb hby at_161)) _ (XS.iload X163.here hx rfl (hb hby at_164) rfl (XS.i2l X163.here hx rfl (hb hby at_166) rfl (XS.lmul X163.here hx rfl (hb hby at_167) rfl kk_)))))))))) ?_
        refine OWH.st (B := T163.setTop (mkF m 184 #[.val (.int n1), .val (.int n2), .val (.int n3), .val (.int n4), .val (.int n5), .val (.int n6), .val (.int (2 : Int32)), .val (.int u141), .val (.int u142), .val (.int u143), .val (.int u144), .val (.int u145), .val (.ref b160), .val (.long ((40 : Int64) + ((2 : Int64) * ((2 : Int32).toInt64)))), .second, .val (.int (0 : Int32)), .val (.long ((40 : Int64) + ((2 : Int64) * ((2 : Int32).toInt64)))), .second] [(.int (1 : Int32))])) (fun _ kk_ => XS.ladd X163.here hx rfl (hb hby at_168) rfl (XS.lstore X163.here hx rfl (hb hby at_169) rfl (l' := #[.val (.int n1), .val (.int n2), .val (.int n3), .val (.int n4), .val (.int n5), .val (.int n6), .val (.int (2 : Int32)), .val (.int u141), .val (.int u142), .val (.int u143), .val (.int u144), .val (.int u145), .val (.ref b160), .val (.long ((40 : Int64) + ((2 : Int64) * ((2 : Int32).toInt64)))), .second, .val (.int (0 : Int32)), .val (.long ((40 : Int64) + ((2 : Int64) * ((2 : Int32).toInt64)))), .second]) rfl (XS.lload X163.here hx rfl (hb hby at_171) rfl (XS.lload X163.here hx rfl (hb hby at_173) rfl (XS.lcmp X163.here hx rfl (hb hby at_175) rfl (XS.ifNo X163.here hx rfl (hb hby at_176) rfl ((if0 _ _).trans (teq (by decide +kernel)).2) (XS.iconst X163.here hx rfl (hb hby at_179) (XS.goto X163.here hx rfl (pc0 := 180) (pc' := 184) rfl (hb hby at_180) (by decide) (by decide) kk_)))))))) ?_
        exact OWH.ret X163 (s := s) (vm0 := s.vm) hS0 (Nat.le_trans (Nat.le_trans (Nat.le_trans hk0 E160.1) K161.1) K162.1) hx hlk CR162 hZ (own_EW hw) (i := .ireturn) Bd.returns rfl (Or.inl ⟨rfl, Or.inr (Or.inl rfl), _, rfl⟩) (hb hby at_184) e163 (by decide) (by decide) ⟨rfl, N163⟩
      · refine OWH.st (B := T163.setTop (mkF m 152 #[.val (.int n1), .val (.int n2), .val (.int n3), .val (.int n4), .val (.int n5), .val (.int n6), .val (.int (2 : Int32)), .val (.int u141), .val (.int u142), .val (.int u143), .val (.int u144), .val (.int u145), .val (.ref b160), .val (.long ((40 : Int64) + ((2 : Int64) * ((2 : Int32).toInt64)))), .second, .val (.int (0 : Int32)), .unset, .unset] [(.long (40 : Int64))])) (fun _ kk_ => XS.icmpNo X163.here hx rfl (hb hby at_83) rfl (flt hc164).2.2.1 (XS.iload X163.here hx rfl (hb hby at_86) rfl (XS.iconst X163.here hx rfl (hb hby at_88) (XS.icmpNo X163.here hx rfl (hb hby at_89) rfl (flt (by decide)).1 (XS.iload X163.here hx rfl (hb hby at_92) rfl (XS.sipush X163.here hx rfl (hb hby at_94) (XS.icmpYes X163.here hx rfl (pc0 := 97) (pc' := 146) rfl (hb hby at_97) rfl (tlt (hu159.resolve_left hc164)).2.2.1 (by decide) (by decide) (XS.iconst X163.here hx rfl (hb hby at_146) (XS.istore X163.here hx rfl (hb hby at_147) rfl (l' := #[.val (.int n1), .val (.int n2), .val (.int n3), .val (.int n4), .val (.int n5), .val (.int n6), .val (.int (2 : Int32)), .val (.int u141), .val (.int u142), .val (.int u143), .val (.int u144), .val (.int u145), .val (.ref b160), .val (.long ((40 : Int64) + ((2 : Int64) * ((2 : Int32).toInt64)))), .second, .val (.int (0 : Int32)), .unset, .unset]) rfl ((X163.ldc2Long hx hown (mvT hZ (w_47 hw)) (g := (mkF m 149 #[.val (.int n1), .val (.int n2), .val (.int n3), .val (.int n4), .val (.int n5), .val (.int n6), .val (.int (2 : Int32)), .val (.int u141), .val (.int u142), .val (.int u143), .val (.int u144), .val (.int u145), .val (.ref b160), .val (.long ((40 : Int64) + ((2 : Int64) * ((2 : Int32).toInt64)))), .second, .val (.int (0 : Int32)), .unset, .unset] [])) rfl (hb hby at_149)) _ kk_)))))))))) ?_
        refine OWH.st (B := T163.setTop (mkF m 175 #[.val (.int n1), .val (.int n2), .val (.int n3), .val (.int n4), .val (.int n5), .val (.int n6), .val (.int (2 : Int32)), .val (.int u141), .val (.int u142), .val (.int u143), .val (.int u144), .val (.int u145), .val (.ref b160), .val (.long ((40 : Int64) + ((2 : Int64) * ((2 : Int32).toInt64)))), .second, .val (.int (0 : Int32)), .val (.long ((40 : Int64) + ((2 : Int64) * ((2 : Int32).toInt64)))), .second] [(.long ((40 : Int64) + ((2 : Int64) * ((2 : Int32).toInt64)))), (.long ((40 : Int64) + ((2 : Int64) * ((2 : Int32).toInt64))))])) (fun _ kk_ => XS.iload X163.here hx rfl (hb hby at_152) rfl (XS.ifYes X163.here hx rfl (pc0 := 154) (pc' := 161) rfl (hb hby at_154) rfl ((if0 _ _).trans (teq (by decide)).1) (by decide) (by decide) ((X163.ldc2Long hx hown (mvT hZ (w_110 hw)) (g := (mkF m 161 #[.val (.int n1), .val (.int n2), .val (.int n3), .val (.int n4), .val (.int n5), .val (.int n6), .val (.int (2 : Int32)), .val (.int u141), .val (.int u142), .val (.int u143), .val (.int u144), .val (.int u145), .val (.ref b160), .val (.long ((40 : Int64) + ((2 : Int64) * ((2 : Int32).toInt64)))), .second, .val (.int (0 : Int32)), .unset, .unset] [(.long (40 : Int64))])) rfl (hb hby at_161)) _ (XS.iload X163.here hx rfl (hb hby at_164) rfl (XS.i2l X163.here hx rfl (hb hby at_166) rfl (XS.lmul X163.here hx rfl (hb hby at_167) rfl (XS.ladd X163.here hx rfl (hb hby at_168) rfl (XS.lstore X163.here hx rfl (hb hby at_169) rfl (l' := #[.val (.int n1), .val (.int n2), .val (.int n3), .val (.int n4), .val (.int n5), .val (.int n6), .val (.int (2 : Int32)), .val (.int u141), .val (.int u142), .val (.int u143), .val (.int u144), .val (.int u145), .val (.ref b160), .val (.long ((40 : Int64) + ((2 : Int64) * ((2 : Int32).toInt64)))), .second, .val (.int (0 : Int32)), .val (.long ((40 : Int64) + ((2 : Int64) * ((2 : Int32).toInt64)))), .second]) rfl (XS.lload X163.here hx rfl (hb hby at_171) rfl (XS.lload X163.here hx rfl (hb hby at_173) rfl kk_)))))))))) ?_
        refine OWH.st (B := T163.setTop (mkF m 184 #[.val (.int n1), .val (.int n2), .val (.int n3), .val (.int n4), .val (.int n5), .val (.int n6), .val (.int (2 : Int32)), .val (.int u141), .val (.int u142), .val (.int u143), .val (.int u144), .val (.int u145), .val (.ref b160), .val (.long ((40 : Int64) + ((2 : Int64) * ((2 : Int32).toInt64)))), .second, .val (.int (0 : Int32)), .val (.long ((40 : Int64) + ((2 : Int64) * ((2 : Int32).toInt64)))), .second] [(.int (1 : Int32))])) (fun _ kk_ => XS.lcmp X163.here hx rfl (hb hby at_175) rfl (XS.ifNo X163.here hx rfl (hb hby at_176) rfl ((if0 _ _).trans (teq (by decide +kernel)).2) (XS.iconst X163.here hx rfl (hb hby at_179) (XS.goto X163.here hx rfl (pc0 := 180) (pc' := 184) rfl (hb hby at_180) (by decide) (by decide) kk_)))) ?_
        exact OWH.ret X163 (s := s) (vm0 := s.vm) hS0 (Nat.le_trans (Nat.le_trans (Nat.le_trans hk0 E160.1) K161.1) K162.1) hx hlk CR162 hZ (own_EW hw) (i := .ireturn) Bd.returns rfl (Or.inl ⟨rfl, Or.inr (Or.inl rfl), _, rfl⟩) (hb hby at_184) e163 (by decide) (by decide) ⟨rfl, N163⟩
    · obtain ⟨T165, h165, X165, e165, E165, A165, D165, -, st165⟩ := newO X145 hx hZ hown (w_6 hw) (w_7 hw) (w_8 hw) e145 (g := (mkF m 41 #[.val (.int n1), .val (.int n2), .val (.int n3), .val (.int n4), .val (.int n5), .val (.int n6), .val (.int (2 : Int32)), .val (.int u141), .val (.int u142), .val (.int u143), .val (.int u144), .val (.int u145), .unset, .unset, .unset, .unset, .unset, .unset] [])) rfl (hb hby at_41) (by decide) (by decide)
      obtain ⟨b165, g165⟩ : ∃ z, z = h0.size := ⟨_, rfl⟩
      rw [← g165] at A165 D165 st165
      have n_b165 : n0 ≤ b165 := Nat.le_trans (own_oldle O0) (Nat.le_of_eq g165.symm)
      have O165 : Old Z n0 h165 := O0.ext E165
      have CS165 : CHr Z consts_1 s.vm h0 s.vm h165 := CHr.ext E165 CR0.1
      have CR165 := CHr.trans CR0 CS165
      have Sf165_b165 : Safe Z consts_1 s.vm h165 b165 := Safe.ext E165 CR0.1 (Safe.new (Nat.le_of_eq g165.symm))
      have F165_25 : Fld Z h165 b165 "java/lang/String" "value" "[B" .null := D165 (Or.inr (w_25 hw)) (ty := (.array .byte)) (by decide)
      have F165_26 : Fld Z h165 b165 "java/lang/String" "coder" "B" (.int (0 : Int32)) := D165 (Or.inr (w_26 hw)) (ty := .byte) (by decide)
      refine OWH.st (B := T165.setTop (mkF m 57 #[.val (.int n1), .val (.int n2), .val (.int n3), .val (.int n4), .val (.int n5), .val (.int n6), .val (.int (2 : Int32)), .val (.int u141), .val (.int u142), .val (.int u143), .val (.int u144), .val (.int u145), .unset, .unset, .unset, .unset, .unset, .unset] [(.int u145), (.int u144), (.int u143), (.int u142), (.int u141), (.int (2 : Int32)), (.ref b165), (.ref b165)])) (fun _ kk_ => st165 _ (XS.dup X165.here hx rfl (hb hby at_44) rfl rfl (XS.iload X165.here hx rfl (hb hby at_45) rfl (XS.iload X165.here hx rfl (hb hby at_47) rfl (XS.iload X165.here hx rfl (hb hby at_49) rfl (XS.iload X165.here hx rfl (hb hby at_51) rfl (XS.iload X165.here hx rfl (hb hby at_53) rfl (XS.iload X165.here hx rfl (hb hby at_55) rfl kk_)))))))) ?_
      obtain ⟨_, _, ⟨T166, L166, k166, n166⟩, -, X166, ⟨Lc166, hQ166, l166, y166, z166⟩, st166⟩ := Jvm.LawKit.callS X165 hx (y := (⟨"com/example/cartulary/cartulary/entity/FootprintOfPinLaw", "chars", "(ICCCCC)[C"⟩ : MethodName)) hown (mvT hZ (w_9 hw)) (mvT hZ (w_10 hw)) (mvT hZ (w_3 hw)) (mvT hZ (w_11 hw)) (by decide) (backOf (W := 2) (rmCR2 l Z a0 hw [] u141 u142 u143 u144 u145 h165 n0 O165 hn141 hn142) hZ (w_11 hw) (w_3 hw) (by decide) (by decide)) (g := (mkF m 57 #[.val (.int n1), .val (.int n2), .val (.int n3), .val (.int n4), .val (.int n5), .val (.int n6), .val (.int (2 : Int32)), .val (.int u141), .val (.int u142), .val (.int u143), .val (.int u144), .val (.int u145), .unset, .unset, .unset, .unset, .unset, .unset] [(.int u145), (.int u144), (.int u143), (.int u142), (.int u141), (.int (2 : Int32)), (.ref b165), (.ref b165)])) rfl (by rw [hml]; rfl) (argsL := [(.int (2 : Int32)), (.int u141), (.int u142), (.int u143), (.int u144), (.int u145)]) (rest := [(.ref b165), (.ref b165)]) (lenOf pd_16 rfl) rfl (by show 2 * 0 + _ ≤ _; exact Nat.le_of_eq rfl) (hb hby at_57) (fun _ _ => ⟨rfl, e165, (by decide : 1 + 1 ≤ _), (by decide : 4 + 2 ≤ _)⟩)
      dsimp only [Pt.U, Pt.locs, Pt.cells, Pt.slots] at X166 l166 y166 z166 st166 hQ166
      subst l166 y166 z166
      obtain ⟨b166, kb166, rfl, Nq166, K166, gb166, zb166, Vb166⟩ := hQ166
      have N166 := Fr.app N145 Nq166
      have O166 : Old Z n0 T166.heap := O165.keep K166 all0
      have CS166 : CHr Z consts_1 s.vm h165 s.vm T166.heap := CHr.keep K166 all0 CR165.1
      have Sf166_b165 := CHr.safe CS166 A165.lt Sf165_b165
      have CR166 := CHr.trans CR165 CS166
      have Sf166_b166 : Safe Z consts_1 s.vm T166.heap b166 := Safe.keep K166 all0 CR165.1 (Safe.new zb166)
      refine OWH.st (B := T166.setTop (mkF m 60 #[.val (.int n1), .val (.int n2), .val (.int n3), .val (.int n4), .val (.int n5), .val (.int n6), .val (.int (2 : Int32)), .val (.int u141), .val (.int u142), .val (.int u143), .val (.int u144), .val (.int u145), .unset, .unset, .unset, .unset, .unset, .unset] [(.ref b166), (.ref b165), (.ref b165)])) (fun _ kk_ => st166 _ kk_) ?_
      obtain ⟨_, _, ⟨T167, L167, k167, n167⟩, -, X167, ⟨Lc167, hQ167, l167, y167, z167⟩, st167⟩ := X166.specialBack hx (y := (⟨"java/lang/String", "<init>", "([C)V"⟩ : MethodName)) rfl hown (mvT hZ (w_13 hw)) (mvT hZ (w_14 hw)) (mvT hZ (w_15 hw)) (by decide) (backOf (W := 1) (rmS00 l Z a0 hw [] b165 b166 kb166 (2 : Int32) [u141, u142] i_COMPACT_STRINGS v_SIOOBE_FORMATTER T166.heap n0 O166 (A165.keep K166) (F165_25.keep K166 nin0) (F165_26.keep K166 nin0) n_b165 Vb166 rfl (Nat.le_of_ble_eq_true rfl) (Nat.zero_lt_succ _) (OwnChs.cons hn141 (OwnChs.cons hn142 OwnChs.nil)) (OwnLat.cons hl159_0 (OwnLat.cons hl159_1 OwnLat.nil)) hS) hZ (w_15 hw) (w_8 hw) (by decide) (by decide)) (g := (mkF m 60 #[.val (.int n1), .val (.int n2), .val (.int n3), .val (.int n4), .val (.int n5), .val (.int n6), .val (.int (2 : Int32)), .val (.int u141), .val (.int u142), .val (.int u143), .val (.int u144), .val (.int u145), .unset, .unset, .unset, .unset, .unset, .unset] [(.ref b166), (.ref b165), (.ref b165)])) rfl (by rw [hml]; rfl) (Steps.refl _) (a := b165) (argsL := [(.ref b166)]) (rest := [(.ref b165)]) (lenOf pd_17 rfl) rfl (by show 2 * 0 + _ ≤ _; exact Nat.le_of_eq rfl) (hb hby at_60) (fun _ _ => ⟨rfl, rfl, (by decide : 2 + 1 ≤ _), (by decide : 6 + 10 ≤ _)⟩)
      dsimp only [Pt.U, Pt.locs, Pt.cells, Pt.slots] at X167 l167 y167 z167 st167 hQ167
      subst l167 y167 z167
      obtain ⟨rfl, Nq167, K167, Es167, ba167, kb167, gba167, nba167, Fc167, Fv167, Vs167⟩ := hQ167
      have N167 := Fr.app N166 Nq167
      have O167 : Old Z n0 T167.heap := O166.keep K167 (allS n_b165 all0)
      have CS167 : CHr Z consts_1 s.vm T166.heap s.vm T167.heap := CHr.keep K167 (allS Sf166_b165 all0) CR166.1
      have Sf167_b165 := CHr.safe CS167 (A165.keep K166).lt Sf166_b165
      have Sf167_b166 := CHr.safe CS167 Vb166.lt Sf166_b166
      have CR167 := CHr.trans CR166 CS167
      refine OWH.tr (B := T167.setTop (mkF m 63 #[.val (.int n1), .val (.int n2), .val (.int n3), .val (.int n4), .val (.int n5), .val (.int n6), .val (.int (2 : Int32)), .val (.int u141), .val (.int u142), .val (.int u143), .val (.int u144), .val (.int u145), .unset, .unset, .unset, .unset, .unset, .unset] [(.ref b165)])) (st167) ?_
      refine OWH.st (B := T167.setTop (mkF m 67 #[.val (.int n1), .val (.int n2), .val (.int n3), .val (.int n4), .val (.int n5), .val (.int n6), .val (.int (2 : Int32)), .val (.int u141), .val (.int u142), .val (.int u143), .val (.int u144), .val (.int u145), .val (.ref b165), .unset, .unset, .unset, .unset, .unset] [(.ref b165)])) (fun _ kk_ => XS.astore X167.here hx rfl (hb hby at_63) rfl rfl (l' := #[.val (.int n1), .val (.int n2), .val (.int n3), .val (.int n4), .val (.int n5), .val (.int n6), .val (.int (2 : Int32)), .val (.int u141), .val (.int u142), .val (.int u143), .val (.int u144), .val (.int u145), .val (.ref b165), .unset, .unset, .unset, .unset, .unset]) rfl (XS.aload X167.here hx rfl (hb hby at_65) rfl rfl kk_)) ?_
      obtain ⟨_, _, ⟨T168, L168, k168, n168⟩, -, X168, ⟨Lc168, hQ168, l168, y168, z168⟩, st168⟩ := Jvm.LawKit.callS X167 hx (y := (⟨"com/example/cartulary/cartulary/entity/Footprint", "of", "(Ljava/lang/String;)J"⟩ : MethodName)) hown (mvT hZ (w_31 hw)) (mvT hZ (w_32 hw)) (mvT hZ (w_33 hw)) (mvT hZ (w_34 hw)) (by decide) (backOf (W := 0) (rmOF0 l Z a0 hw [] b165 ba167 kb167 (2 : Int32) [u141, u142] (2 : Int32) i_COMPACT_STRINGS v_SIOOBE_FORMATTER T167.heap n0 O167 ((A165.keep K166).keep K167) Fv167 Fc167 Vs167 rfl (by decide) rfl (Nat.le_of_ble_eq_true rfl) (OwnChs.cons hn141 (OwnChs.cons hn142 OwnChs.nil)) (OwnLat.cons hl159_0 (OwnLat.cons hl159_1 OwnLat.nil)) hS) hZ (w_34 hw) (w_33 hw) (by decide) (by decide)) (g := (mkF m 67 #[.val (.int n1), .val (.int n2), .val (.int n3), .val (.int n4), .val (.int n5), .val (.int n6), .val (.int (2 : Int32)), .val (.int u141), .val (.int u142), .val (.int u143), .val (.int u144), .val (.int u145), .val (.ref b165), .unset, .unset, .unset, .unset, .unset] [(.ref b165)])) rfl (by rw [hml]; rfl) (argsL := [(.ref b165)]) (rest := []) (lenOf pd_18 rfl) rfl (by show 2 * 0 + _ ≤ _; exact Nat.le_of_eq rfl) (hb hby at_67) (fun _ _ => ⟨rfl, rfl, (by decide : 3 + 0 ≤ _), (by decide : 16 + 0 ≤ _)⟩)
      dsimp only [Pt.U, Pt.locs, Pt.cells, Pt.slots] at X168 l168 y168 z168 st168 hQ168
      subst l168 y168 z168
      obtain ⟨rfl, Nq168, e168⟩ := hQ168
      have N168 := Fr.app N167 Nq168
      refine OWH.st (B := T168.setTop (mkF m 89 #[.val (.int n1), .val (.int n2), .val (.int n3), .val (.int n4), .val (.int n5), .val (.int n6), .val (.int (2 : Int32)), .val (.int u141), .val (.int u142), .val (.int u143), .val (.int u144), .val (.int u145), .val (.ref b165), .val (.long ((40 : Int64) + ((1 : Int64) * ((2 : Int32).toInt64)))), .second, .unset, .unset, .unset] [(.int (2 : Int32)), (.int (2 : Int32))])) (fun _ kk_ => st168 _ (XS.lstore X168.here hx rfl (hb hby at_70) rfl (l' := #[.val (.int n1), .val (.int n2), .val (.int n3), .val (.int n4), .val (.int n5), .val (.int n6), .val (.int (2 : Int32)), .val (.int u141), .val (.int u142), .val (.int u143), .val (.int u144), .val (.int u145), .val (.ref b165), .val (.long ((40 : Int64) + ((1 : Int64) * ((2 : Int32).toInt64)))), .second, .unset, .unset, .unset]) rfl (XS.iload X168.here hx rfl (hb hby at_72) rfl (XS.iconst X168.here hx rfl (hb hby at_74) (XS.icmpNo X168.here hx rfl (hb hby at_75) rfl (flt (by decide)).1 (XS.iload X168.here hx rfl (hb hby at_78) rfl (XS.sipush X168.here hx rfl (hb hby at_80) (XS.icmpNo X168.here hx rfl (hb hby at_83) rfl (flt hl159_0).2.2.1 (XS.iload X168.here hx rfl (hb hby at_86) rfl (XS.iconst X168.here hx rfl (hb hby at_88) kk_)))))))))) ?_
      refine OWH.st (B := T168.setTop (mkF m 128 #[.val (.int n1), .val (.int n2), .val (.int n3), .val (.int n4), .val (.int n5), .val (.int n6), .val (.int (2 : Int32)), .val (.int u141), .val (.int u142), .val (.int u143), .val (.int u144), .val (.int u145), .val (.ref b165), .val (.long ((40 : Int64) + ((1 : Int64) * ((2 : Int32).toInt64)))), .second, .unset, .unset, .unset] [])) (fun _ kk_ => XS.icmpNo X168.here hx rfl (hb hby at_89) rfl (flt (by decide)).1 (XS.iload X168.here hx rfl (hb hby at_92) rfl (XS.sipush X168.here hx rfl (hb hby at_94) (XS.icmpNo X168.here hx rfl (hb hby at_97) rfl (flt hl159_1).2.2.1 (XS.iload X168.here hx rfl (hb hby at_100) rfl (XS.iconst X168.here hx rfl (hb hby at_102) (XS.icmpYes X168.here hx rfl (pc0 := 103) (pc' := 114) rfl (hb hby at_103) rfl (tlt (by decide)).1 (by decide) (by decide) (XS.iload X168.here hx rfl (hb hby at_114) rfl (XS.iconst X168.here hx rfl (hb hby at_116) (XS.icmpYes X168.here hx rfl (pc0 := 117) (pc' := 128) rfl (hb hby at_117) rfl (tlt (by decide)).1 (by decide) (by decide) kk_)))))))))) ?_
      refine OWH.st (B := T168.setTop (mkF m 158 #[.val (.int n1), .val (.int n2), .val (.int n3), .val (.int n4), .val (.int n5), .val (.int n6), .val (.int (2 : Int32)), .val (.int u141), .val (.int u142), .val (.int u143), .val (.int u144), .val (.int u145), .val (.ref b165), .val (.long ((40 : Int64) + ((1 : Int64) * ((2 : Int32).toInt64)))), .second, .val (.int (1 : Int32)), .unset, .unset] [(.long (1 : Int64)), (.long (40 : Int64))])) (fun _ kk_ => XS.iload X168.here hx rfl (hb hby at_128) rfl (XS.iconst X168.here hx rfl (hb hby at_130) (XS.icmpYes X168.here hx rfl (pc0 := 131) (pc' := 142) rfl (hb hby at_131) rfl (tlt (by decide)).1 (by decide) (by decide) (XS.iconst X168.here hx rfl (hb hby at_142) (XS.goto X168.here hx rfl (pc0 := 143) (pc' := 147) rfl (hb hby at_143) (by decide) (by decide) (XS.istore X168.here hx rfl (hb hby at_147) rfl (l' := #[.val (.int n1), .val (.int n2), .val (.int n3), .val (.int n4), .val (.int n5), .val (.int n6), .val (.int (2 : Int32)), .val (.int u141), .val (.int u142), .val (.int u143), .val (.int u144), .val (.int u145), .val (.ref b165), .val (.long ((40 : Int64) + ((1 : Int64) * ((2 : Int32).toInt64)))), .second, .val (.int (1 : Int32)), .unset, .unset]) rfl ((X168.ldc2Long hx hown (mvT hZ (w_47 hw)) (g := (mkF m 149 #[.val (.int n1), .val (.int n2), .val (.int n3), .val (.int n4), .val (.int n5), .val (.int n6), .val (.int (2 : Int32)), .val (.int u141), .val (.int u142), .val (.int u143), .val (.int u144), .val (.int u145), .val (.ref b165), .val (.long ((40 : Int64) + ((1 : Int64) * ((2 : Int32).toInt64)))), .second, .val (.int (1 : Int32)), .unset, .unset] [])) rfl (hb hby at_149)) _ (XS.iload X168.here hx rfl (hb hby at_152) rfl (XS.ifNo X168.here hx rfl (hb hby at_154) rfl ((if0 _ _).trans (feq (by decide)).1) (XS.lconst X168.here hx rfl (hb hby at_157) kk_)))))))))) ?_
      refine OWH.st (B := T168.setTop (mkF m 179 #[.val (.int n1), .val (.int n2), .val (.int n3), .val (.int n4), .val (.int n5), .val (.int n6), .val (.int (2 : Int32)), .val (.int u141), .val (.int u142), .val (.int u143), .val (.int u144), .val (.int u145), .val (.ref b165), .val (.long ((40 : Int64) + ((1 : Int64) * ((2 : Int32).toInt64)))), .second, .val (.int (1 : Int32)), .val (.long ((40 : Int64) + ((1 : Int64) * ((2 : Int32).toInt64)))), .second] [])) (fun _ kk_ => XS.goto X168.here hx rfl (pc0 := 158) (pc' := 164) rfl (hb hby at_158) (by decide) (by decide) (XS.iload X168.here hx rfl (hb hby at_164) rfl (XS.i2l X168.here hx rfl (hb hby at_166) rfl (XS.lmul X168.here hx rfl (hb hby at_167) rfl (XS.ladd X168.here hx rfl (hb hby at_168) rfl (XS.lstore X168.here hx rfl (hb hby at_169) rfl (l' := #[.val (.int n1), .val (.int n2), .val (.int n3), .val (.int n4), .val (.int n5), .val (.int n6), .val (.int (2 : Int32)), .val (.int u141), .val (.int u142), .val (.int u143), .val (.int u144), .val (.int u145), .val (.ref b165), .val (.long ((40 : Int64) + ((1 : Int64) * ((2 : Int32).toInt64)))), .second, .val (.int (1 : Int32)), .val (.long ((40 : Int64) + ((1 : Int64) * ((2 : Int32).toInt64)))), .second]) rfl (XS.lload X168.here hx rfl (hb hby at_171) rfl (XS.lload X168.here hx rfl (hb hby at_173) rfl (XS.lcmp X168.here hx rfl (hb hby at_175) rfl (XS.ifNo X168.here hx rfl (hb hby at_176) rfl ((if0 _ _).trans (teq (by decide +kernel)).2) kk_)))))))))) ?_
      refine OWH.st (B := T168.setTop (mkF m 184 #[.val (.int n1), .val (.int n2), .val (.int n3), .val (.int n4), .val (.int n5), .val (.int n6), .val (.int (2 : Int32)), .val (.int u141), .val (.int u142), .val (.int u143), .val (.int u144), .val (.int u145), .val (.ref b165), .val (.long ((40 : Int64) + ((1 : Int64) * ((2 : Int32).toInt64)))), .second, .val (.int (1 : Int32)), .val (.long ((40 : Int64) + ((1 : Int64) * ((2 : Int32).toInt64)))), .second] [(.int (1 : Int32))])) (fun _ kk_ => XS.iconst X168.here hx rfl (hb hby at_179) (XS.goto X168.here hx rfl (pc0 := 180) (pc' := 184) rfl (hb hby at_180) (by decide) (by decide) kk_)) ?_
      exact OWH.ret X168 (s := s) (vm0 := s.vm) hS0 (Nat.le_trans (Nat.le_trans (Nat.le_trans hk0 E165.1) K166.1) K167.1) hx hlk CR167 hZ (own_EW hw) (i := .ireturn) Bd.returns rfl (Or.inl ⟨rfl, Or.inr (Or.inl rfl), _, rfl⟩) (hb hby at_184) e168 (by decide) (by decide) ⟨rfl, N168⟩
  · rcases own_lu3 u141 u142 u143 with hu169 | ⟨hl169_0, hl169_1, hl169_2⟩
    · obtain ⟨T170, h170, X170, e170, E170, A170, D170, -, st170⟩ := newO X145 hx hZ hown (w_6 hw) (w_7 hw) (w_8 hw) e145 (g := (mkF m 41 #[.val (.int n1), .val (.int n2), .val (.int n3), .val (.int n4), .val (.int n5), .val (.int n6), .val (.int (3 : Int32)), .val (.int u141), .val (.int u142), .val (.int u143), .val (.int u144), .val (.int u145), .unset, .unset, .unset, .unset, .unset, .unset] [])) rfl (hb hby at_41) (by decide) (by decide)
      obtain ⟨b170, g170⟩ : ∃ z, z = h0.size := ⟨_, rfl⟩
      rw [← g170] at A170 D170 st170
      have n_b170 : n0 ≤ b170 := Nat.le_trans (own_oldle O0) (Nat.le_of_eq g170.symm)
      have O170 : Old Z n0 h170 := O0.ext E170
      have CS170 : CHr Z consts_1 s.vm h0 s.vm h170 := CHr.ext E170 CR0.1
      have CR170 := CHr.trans CR0 CS170
      have Sf170_b170 : Safe Z consts_1 s.vm h170 b170 := Safe.ext E170 CR0.1 (Safe.new (Nat.le_of_eq g170.symm))
      have F170_25 : Fld Z h170 b170 "java/lang/String" "value" "[B" .null := D170 (Or.inr (w_25 hw)) (ty := (.array .byte)) (by decide)
      have F170_26 : Fld Z h170 b170 "java/lang/String" "coder" "B" (.int (0 : Int32)) := D170 (Or.inr (w_26 hw)) (ty := .byte) (by decide)
      refine OWH.st (B := T170.setTop (mkF m 57 #[.val (.int n1), .val (.int n2), .val (.int n3), .val (.int n4), .val (.int n5), .val (.int n6), .val (.int (3 : Int32)), .val (.int u141), .val (.int u142), .val (.int u143), .val (.int u144), .val (.int u145), .unset, .unset, .unset, .unset, .unset, .unset] [(.int u145), (.int u144), (.int u143), (.int u142), (.int u141), (.int (3 : Int32)), (.ref b170), (.ref b170)])) (fun _ kk_ => st170 _ (XS.dup X170.here hx rfl (hb hby at_44) rfl rfl (XS.iload X170.here hx rfl (hb hby at_45) rfl (XS.iload X170.here hx rfl (hb hby at_47) rfl (XS.iload X170.here hx rfl (hb hby at_49) rfl (XS.iload X170.here hx rfl (hb hby at_51) rfl (XS.iload X170.here hx rfl (hb hby at_53) rfl (XS.iload X170.here hx rfl (hb hby at_55) rfl kk_)))))))) ?_
      obtain ⟨_, _, ⟨T171, L171, k171, n171⟩, -, X171, ⟨Lc171, hQ171, l171, y171, z171⟩, st171⟩ := Jvm.LawKit.callS X170 hx (y := (⟨"com/example/cartulary/cartulary/entity/FootprintOfPinLaw", "chars", "(ICCCCC)[C"⟩ : MethodName)) hown (mvT hZ (w_9 hw)) (mvT hZ (w_10 hw)) (mvT hZ (w_3 hw)) (mvT hZ (w_11 hw)) (by decide) (backOf (W := 2) (rmCR3 l Z a0 hw [] u141 u142 u143 u144 u145 h170 n0 O170 hn141 hn142 hn143) hZ (w_11 hw) (w_3 hw) (by decide) (by decide)) (g := (mkF m 57 #[.val (.int n1), .val (.int n2), .val (.int n3), .val (.int n4), .val (.int n5), .val (.int n6), .val (.int (3 : Int32)), .val (.int u141), .val (.int u142), .val (.int u143), .val (.int u144), .val (.int u145), .unset, .unset, .unset, .unset, .unset, .unset] [(.int u145), (.int u144), (.int u143), (.int u142), (.int u141), (.int (3 : Int32)), (.ref b170), (.ref b170)])) rfl (by rw [hml]; rfl) (argsL := [(.int (3 : Int32)), (.int u141), (.int u142), (.int u143), (.int u144), (.int u145)]) (rest := [(.ref b170), (.ref b170)]) (lenOf pd_16 rfl) rfl (by show 2 * 0 + _ ≤ _; exact Nat.le_of_eq rfl) (hb hby at_57) (fun _ _ => ⟨rfl, e170, (by decide : 1 + 1 ≤ _), (by decide : 4 + 3 ≤ _)⟩)
      dsimp only [Pt.U, Pt.locs, Pt.cells, Pt.slots] at X171 l171 y171 z171 st171 hQ171
      subst l171 y171 z171
      obtain ⟨b171, kb171, rfl, Nq171, K171, gb171, zb171, Vb171⟩ := hQ171
      have N171 := Fr.app N145 Nq171
      have O171 : Old Z n0 T171.heap := O170.keep K171 all0
      have CS171 : CHr Z consts_1 s.vm h170 s.vm T171.heap := CHr.keep K171 all0 CR170.1
      have Sf171_b170 := CHr.safe CS171 A170.lt Sf170_b170
      have CR171 := CHr.trans CR170 CS171
      have Sf171_b171 : Safe Z consts_1 s.vm T171.heap b171 := Safe.keep K171 all0 CR170.1 (Safe.new zb171)
      refine OWH.st (B := T171.setTop (mkF m 60 #[.val (.int n1), .val (.int n2), .val (.int n3), .val (.int n4), .val (.int n5), .val (.int n6), .val (.int (3 : Int32)), .val (.int u141), .val (.int u142), .val (.int u143), .val (.int u144), .val (.int u145), .unset, .unset, .unset, .unset, .unset, .unset] [(.ref b171), (.ref b170), (.ref b170)])) (fun _ kk_ => st171 _ kk_) ?_
      obtain ⟨_, _, ⟨T172, L172, k172, n172⟩, -, X172, ⟨Lc172, hQ172, l172, y172, z172⟩, st172⟩ := X171.specialBack hx (y := (⟨"java/lang/String", "<init>", "([C)V"⟩ : MethodName)) rfl hown (mvT hZ (w_13 hw)) (mvT hZ (w_14 hw)) (mvT hZ (w_15 hw)) (by decide) (backOf (W := 1) (rmS01 l Z a0 hw [] b170 b171 kb171 (3 : Int32) [u141, u142, u143] i_COMPACT_STRINGS v_SIOOBE_FORMATTER T171.heap n0 O171 (A170.keep K171) (F170_25.keep K171 nin0) (F170_26.keep K171 nin0) n_b170 Vb171 rfl (Nat.le_of_ble_eq_true rfl) (Nat.zero_lt_succ _) (OwnChs.cons hn141 (OwnChs.cons hn142 (OwnChs.cons hn143 OwnChs.nil))) (hu169.elim OwnHi.here (fun q0 => OwnHi.there (q0.elim OwnHi.here (fun q1 => OwnHi.there (OwnHi.here q1))))) hS) hZ (w_15 hw) (w_8 hw) (by decide) (by decide)) (g := (mkF m 60 #[.val (.int n1), .val (.int n2), .val (.int n3), .val (.int n4), .val (.int n5), .val (.int n6), .val (.int (3 : Int32)), .val (.int u141), .val (.int u142), .val (.int u143), .val (.int u144), .val (.int u145), .unset, .unset, .unset, .unset, .unset, .unset] [(.ref b171), (.ref b170), (.ref b170)])) rfl (by rw [hml]; rfl) (Steps.refl _) (a := b170) (argsL := [(.ref b171)]) (rest := [(.ref b170)]) (lenOf pd_17 rfl) rfl (by show 2 * 0 + _ ≤ _; exact Nat.le_of_eq rfl) (hb hby at_60) (fun _ _ => ⟨rfl, rfl, (by decide : 2 + 2 ≤ _), (by decide : 7 + 30 ≤ _)⟩)
      dsimp only [Pt.U, Pt.locs, Pt.cells, Pt.slots] at X172 l172 y172 z172 st172 hQ172
      subst l172 y172 z172
      obtain ⟨rfl, Nq172, K172, Es172, ba172, kb172, gba172, nba172, Fc172, Fv172, Vs172⟩ := hQ172
      have N172 := Fr.app N171 Nq172
      have O172 : Old Z n0 T172.heap := O171.keep K172 (allS n_b170 all0)
      have CS172 : CHr Z consts_1 s.vm T171.heap s.vm T172.heap := CHr.keep K172 (allS Sf171_b170 all0) CR171.1
      have Sf172_b170 := CHr.safe CS172 (A170.keep K171).lt Sf171_b170
      have Sf172_b171 := CHr.safe CS172 Vb171.lt Sf171_b171
      have CR172 := CHr.trans CR171 CS172
      refine OWH.tr (B := T172.setTop (mkF m 63 #[.val (.int n1), .val (.int n2), .val (.int n3), .val (.int n4), .val (.int n5), .val (.int n6), .val (.int (3 : Int32)), .val (.int u141), .val (.int u142), .val (.int u143), .val (.int u144), .val (.int u145), .unset, .unset, .unset, .unset, .unset, .unset] [(.ref b170)])) (st172) ?_
      refine OWH.st (B := T172.setTop (mkF m 67 #[.val (.int n1), .val (.int n2), .val (.int n3), .val (.int n4), .val (.int n5), .val (.int n6), .val (.int (3 : Int32)), .val (.int u141), .val (.int u142), .val (.int u143), .val (.int u144), .val (.int u145), .val (.ref b170), .unset, .unset, .unset, .unset, .unset] [(.ref b170)])) (fun _ kk_ => XS.astore X172.here hx rfl (hb hby at_63) rfl rfl (l' := #[.val (.int n1), .val (.int n2), .val (.int n3), .val (.int n4), .val (.int n5), .val (.int n6), .val (.int (3 : Int32)), .val (.int u141), .val (.int u142), .val (.int u143), .val (.int u144), .val (.int u145), .val (.ref b170), .unset, .unset, .unset, .unset, .unset]) rfl (XS.aload X172.here hx rfl (hb hby at_65) rfl rfl kk_)) ?_
      obtain ⟨_, _, ⟨T173, L173, k173, n173⟩, -, X173, ⟨Lc173, hQ173, l173, y173, z173⟩, st173⟩ := Jvm.LawKit.callS X172 hx (y := (⟨"com/example/cartulary/cartulary/entity/Footprint", "of", "(Ljava/lang/String;)J"⟩ : MethodName)) hown (mvT hZ (w_31 hw)) (mvT hZ (w_32 hw)) (mvT hZ (w_33 hw)) (mvT hZ (w_34 hw)) (by decide) (backOf (W := 0) (rmOF1 l Z a0 hw [] b170 ba172 kb172 (6 : Int32) [u141, u142, u143] (3 : Int32) i_COMPACT_STRINGS v_SIOOBE_FORMATTER T172.heap n0 O172 ((A170.keep K171).keep K172) Fv172 Fc172 Vs172 rfl (by decide) rfl (Nat.le_of_ble_eq_true rfl) (OwnChs.cons hn141 (OwnChs.cons hn142 (OwnChs.cons hn143 OwnChs.nil))) (hu169.elim OwnHi.here (fun q0 => OwnHi.there (q0.elim OwnHi.here (fun q1 => OwnHi.there (OwnHi.here q1))))) hS) hZ (w_34 hw) (w_33 hw) (by decide) (by decide)) (g := (mkF m 67 #[.val (.int n1), .val (.int n2), .val (.int n3), .val (.int n4), .val (.int n5), .val (.int n6), .val (.int (3 : Int32)), .val (.int u141), .val (.int u142), .val (.int u143), .val (.int u144), .val (.int u145), .val (.ref b170), .unset, .unset, .unset, .unset, .unset] [(.ref b170)])) rfl (by rw [hml]; rfl) (argsL := [(.ref b170)]) (rest := []) (lenOf pd_18 rfl) rfl (by show 2 * 0 + _ ≤ _; exact Nat.le_of_eq rfl) (hb hby at_67) (fun _ _ => ⟨rfl, rfl, (by decide : 4 + 0 ≤ _), (by decide : 37 + 0 ≤ _)⟩)
      dsimp only [Pt.U, Pt.locs, Pt.cells, Pt.slots] at X173 l173 y173 z173 st173 hQ173
      subst l173 y173 z173
      obtain ⟨rfl, Nq173, e173⟩ := hQ173
      have N173 := Fr.app N172 Nq173
      refine OWH.st (B := T173.setTop (mkF m 83 #[.val (.int n1), .val (.int n2), .val (.int n3), .val (.int n4), .val (.int n5), .val (.int n6), .val (.int (3 : Int32)), .val (.int u141), .val (.int u142), .val (.int u143), .val (.int u144), .val (.int u145), .val (.ref b170), .val (.long ((40 : Int64) + ((2 : Int64) * ((3 : Int32).toInt64)))), .second, .unset, .unset, .unset] [(.int (255 : Int32)), (.int u141)])) (fun _ kk_ => st173 _ (XS.lstore X173.here hx rfl (hb hby at_70) rfl (l' := #[.val (.int n1), .val (.int n2), .val (.int n3), .val (.int n4), .val (.int n5), .val (.int n6), .val (.int (3 : Int32)), .val (.int u141), .val (.int u142), .val (.int u143), .val (.int u144), .val (.int u145), .val (.ref b170), .val (.long ((40 : Int64) + ((2 : Int64) * ((3 : Int32).toInt64)))), .second, .unset, .unset, .unset]) rfl (XS.iload X173.here hx rfl (hb hby at_72) rfl (XS.iconst X173.here hx rfl (hb hby at_74) (XS.icmpNo X173.here hx rfl (hb hby at_75) rfl (flt (by decide)).1 (XS.iload X173.here hx rfl (hb hby at_78) rfl (XS.sipush X173.here hx rfl (hb hby at_80) kk_))))))) ?_
      by_cases hc174 : (255 : Int32) < u141
      · refine OWH.st (B := T173.setTop (mkF m 168 #[.val (.int n1), .val (.int n2), .val (.int n3), .val (.int n4), .val (.int n5), .val (.int n6), .val (.int (3 : Int32)), .val (.int u141), .val (.int u142), .val (.int u143), .val (.int u144), .val (.int u145), .val (.ref b170), .val (.long ((40 : Int64) + ((2 : Int64) * ((3 : Int32).toInt64)))), .second, .val (.int (0 : Int32)), .unset, .unset] [(.long ((2 : Int64) * ((3 : Int32).toInt64))), (.long (40 : Int64))])) (fun _ kk_ => XS.icmpYes X173.here hx rfl (pc0 := 83) (pc' := 146) rfl (hb hby at_83) rfl (tlt hc174).2.2.1 (by decide) (by decide) (XS.iconst X173.here hx rfl (hb hby at_146) (XS.istore X173.here hx rfl (hb hby at_147) rfl (l' := #[.val (.int n1), .val (.int n2), .val (.int n3), .val (.int n4), .val (.int n5), .val (.int n6), .val (.int (3 : Int32)), .val (.int u141), .val (.int u142), .val (.int u143), .val (.int u144), .val (.int u145), .val (.ref b170), .val (.long ((40 : Int64) + ((2 : Int64) * ((3 : Int32).toInt64)))), .second, .val (.int (0 : Int32)), .unset, .unset]) rfl ((X173.ldc2Long hx hown (mvT hZ (w_47 hw)) (g := (mkF m 149 #[.val (.int n1), .val (.int n2), .val (.int n3), .val (.int n4), .val (.int n5), .val (.int n6), .val (.int (3 : Int32)), .val (.int u141), .val (.int u142), .val (.int u143), .val (.int u144), .val (.int u145), .val (.ref b170), .val (.long ((40 : Int64) + ((2 : Int64) * ((3 : Int32).toInt64)))), .second, .val (.int (0 : Int32)), .unset, .unset] [])) rfl (hb hby at_149)) _ (XS.iload X173.here hx rfl (hb hby at_152) rfl (XS.ifYes X173.here hx rfl (pc0 := 154) (pc' := 161) rfl (hb hby at_154) rfl ((if0 _ _).trans (teq (by decide)).1) (by decide) (by decide) ((X173.ldc2Long hx hown (mvT hZ (w_110 hw)) (g := (mkF m 161 #[.val (.int n1), .val (.int n2), .val (.int n3), .val (.int n4), .val (.int n5), .val (.int n6), .val (.int (3 : Int32)), .val (.int u141), .val (.int u142), .val (.int u143), .val (.int u144), .val (.int u145), .val (.ref b170), .val (.long ((40 : Int64) + ((2 : Int64) * ((3 : Int32).toInt64)))), .second, .val (.int (0 : Int32)), .unset, .unset] [(.long (40 : Int64))])) rfl (hb hby at_161)) _ (XS.iload X173.here hx rfl (hb hby at_164) rfl (XS.i2l X173.here hx rfl (hb hby at_166) rfl (XS.lmul X173.here hx rfl (hb hby at_167) rfl kk_)))))))))) ?_
        refine OWH.st (B := T173.setTop (mkF m 184 #[.val (.int n1), .val (.int n2), .val (.int n3), .val (.int n4), .val (.int n5), .val (.int n6), .val (.int (3 : Int32)), .val (.int u141), .val (.int u142), .val (.int u143), .val (.int u144), .val (.int u145), .val (.ref b170), .val (.long ((40 : Int64) + ((2 : Int64) * ((3 : Int32).toInt64)))), .second, .val (.int (0 : Int32)), .val (.long ((40 : Int64) + ((2 : Int64) * ((3 : Int32).toInt64)))), .second] [(.int (1 : Int32))])) (fun _ kk_ => XS.ladd X173.here hx rfl (hb hby at_168) rfl (XS.lstore X173.here hx rfl (hb hby at_169) rfl (l' := #[.val (.int n1), .val (.int n2), .val (.int n3), .val (.int n4), .val (.int n5), .val (.int n6), .val (.int (3 : Int32)), .val (.int u141), .val (.int u142), .val (.int u143), .val (.int u144), .val (.int u145), .val (.ref b170), .val (.long ((40 : Int64) + ((2 : Int64) * ((3 : Int32).toInt64)))), .second, .val (.int (0 : Int32)), .val (.long ((40 : Int64) + ((2 : Int64) * ((3 : Int32).toInt64)))), .second]) rfl (XS.lload X173.here hx rfl (hb hby at_171) rfl (XS.lload X173.here hx rfl (hb hby at_173) rfl (XS.lcmp X173.here hx rfl (hb hby at_175) rfl (XS.ifNo X173.here hx rfl (hb hby at_176) rfl ((if0 _ _).trans (teq (by decide +kernel)).2) (XS.iconst X173.here hx rfl (hb hby at_179) (XS.goto X173.here hx rfl (pc0 := 180) (pc' := 184) rfl (hb hby at_180) (by decide) (by decide) kk_)))))))) ?_
        exact OWH.ret X173 (s := s) (vm0 := s.vm) hS0 (Nat.le_trans (Nat.le_trans (Nat.le_trans hk0 E170.1) K171.1) K172.1) hx hlk CR172 hZ (own_EW hw) (i := .ireturn) Bd.returns rfl (Or.inl ⟨rfl, Or.inr (Or.inl rfl), _, rfl⟩) (hb hby at_184) e173 (by decide) (by decide) ⟨rfl, N173⟩
      · refine OWH.st (B := T173.setTop (mkF m 97 #[.val (.int n1), .val (.int n2), .val (.int n3), .val (.int n4), .val (.int n5), .val (.int n6), .val (.int (3 : Int32)), .val (.int u141), .val (.int u142), .val (.int u143), .val (.int u144), .val (.int u145), .val (.ref b170), .val (.long ((40 : Int64) + ((2 : Int64) * ((3 : Int32).toInt64)))), .second, .unset, .unset, .unset] [(.int (255 : Int32)), (.int u142)])) (fun _ kk_ => XS.icmpNo X173.here hx rfl (hb hby at_83) rfl (flt hc174).2.2.1 (XS.iload X173.here hx rfl (hb hby at_86) rfl (XS.iconst X173.here hx rfl (hb hby at_88) (XS.icmpNo X173.here hx rfl (hb hby at_89) rfl (flt (by decide)).1 (XS.iload X173.here hx rfl (hb hby at_92) rfl (XS.sipush X173.here hx rfl (hb hby at_94) kk_)))))) ?_
        by_cases hc175 : (255 : Int32) < u142
        · refine OWH.st (B := T173.setTop (mkF m 168 #[.val (.int n1), .val (.int n2), .val (.int n3), .val (.int n4), .val (.int n5), .val (.int n6), .val (.int (3 : Int32)), .val (.int u141), .val (.int u142), .val (.int u143), .val (.int u144), .val (.int u145), .val (.ref b170), .val (.long ((40 : Int64) + ((2 : Int64) * ((3 : Int32).toInt64)))), .second, .val (.int (0 : Int32)), .unset, .unset] [(.long ((2 : Int64) * ((3 : Int32).toInt64))), (.long (40 : Int64))])) (fun _ kk_ => XS.icmpYes X173.here hx rfl (pc0 := 97) (pc' := 146) rfl (hb hby at_97) rfl (tlt hc175).2.2.1 (by decide) (by decide) (XS.iconst X173.here hx rfl (hb hby at_146) (XS.istore X173.here hx rfl (hb hby at_147) rfl (l' := #[.val (.int n1), .val (.int n2), .val (.int n3), .val (.int n4), .val (.int n5), .val (.int n6), .val (.int (3 : Int32)), .val (.int u141), .val (.int u142), .val (.int u143), .val (.int u144), .val (.int u145), .val (.ref b170), .val (.long ((40 : Int64) + ((2 : Int64) * ((3 : Int32).toInt64)))), .second, .val (.int (0 : Int32)), .unset, .unset]) rfl ((X173.ldc2Long hx hown (mvT hZ (w_47 hw)) (g := (mkF m 149 #[.val (.int n1), .val (.int n2), .val (.int n3), .val (.int n4), .val (.int n5), .val (.int n6), .val (.int (3 : Int32)), .val (.int u141), .val (.int u142), .val (.int u143), .val (.int u144), .val (.int u145), .val (.ref b170), .val (.long ((40 : Int64) + ((2 : Int64) * ((3 : Int32).toInt64)))), .second, .val (.int (0 : Int32)), .unset, .unset] [])) rfl (hb hby at_149)) _ (XS.iload X173.here hx rfl (hb hby at_152) rfl (XS.ifYes X173.here hx rfl (pc0 := 154) (pc' := 161) rfl (hb hby at_154) rfl ((if0 _ _).trans (teq (by decide)).1) (by decide) (by decide) ((X173.ldc2Long hx hown (mvT hZ (w_110 hw)) (g := (mkF m 161 #[.val (.int n1), .val (.int n2), .val (.int n3), .val (.int n4), .val (.int n5), .val (.int n6), .val (.int (3 : Int32)), .val (.int u141), .val (.int u142), .val (.int u143), .val (.int u144), .val (.int u145), .val (.ref b170), .val (.long ((40 : Int64) + ((2 : Int64) * ((3 : Int32).toInt64)))), .second, .val (.int (0 : Int32)), .unset, .unset] [(.long (40 : Int64))])) rfl (hb hby at_161)) _ (XS.iload X173.here hx rfl (hb hby at_164) rfl (XS.i2l X173.here hx rfl (hb hby at_166) rfl (XS.lmul X173.here hx rfl (hb hby at_167) rfl kk_)))))))))) ?_
          refine OWH.st (B := T173.setTop (mkF m 184 #[.val (.int n1), .val (.int n2), .val (.int n3), .val (.int n4), .val (.int n5), .val (.int n6), .val (.int (3 : Int32)), .val (.int u141), .val (.int u142), .val (.int u143), .val (.int u144), .val (.int u145), .val (.ref b170), .val (.long ((40 : Int64) + ((2 : Int64) * ((3 : Int32).toInt64)))), .second, .val (.int (0 : Int32)), .val (.long ((40 : Int64) + ((2 : Int64) * ((3 : Int32).toInt64)))), .second] [(.int (1 : Int32))])) (fun _ kk_ => XS.ladd X173.here hx rfl (hb hby at_168) rfl (XS.lstore X173.here hx rfl (hb hby at_169) rfl (l' := #[.val (.int n1), .val (.int n2), .val (.int n3), .val (.int n4), .val (.int n5), .val (.int n6), .val (.int (3 : Int32)), .val (.int u141), .val (.int u142), .val (.int u143), .val (.int u144), .val (.int u145), .val (.ref b170), .val (.long ((40 : Int64) + ((2 : Int64) * ((3 : Int32).toInt64)))), .second, .val (.int (0 : Int32)), .val (.long ((40 : Int64) + ((2 : Int64) * ((3 : Int32).toInt64)))), .second]) rfl (XS.lload X173.here hx rfl (hb hby at_171) rfl (XS.lload X173.here hx rfl (hb hby at_173) rfl (XS.lcmp X173.here hx rfl (hb hby at_175) rfl (XS.ifNo X173.here hx rfl (hb hby at_176) rfl ((if0 _ _).trans (teq (by decide +kernel)).2) (XS.iconst X173.here hx rfl (hb hby at_179) (XS.goto X173.here hx rfl (pc0 := 180) (pc' := 184) rfl (hb hby at_180) (by decide) (by decide) kk_)))))))) ?_
          exact OWH.ret X173 (s := s) (vm0 := s.vm) hS0 (Nat.le_trans (Nat.le_trans (Nat.le_trans hk0 E170.1) K171.1) K172.1) hx hlk CR172 hZ (own_EW hw) (i := .ireturn) Bd.returns rfl (Or.inl ⟨rfl, Or.inr (Or.inl rfl), _, rfl⟩) (hb hby at_184) e173 (by decide) (by decide) ⟨rfl, N173⟩
        · refine OWH.st (B := T173.setTop (mkF m 152 #[.val (.int n1), .val (.int n2), .val (.int n3), .val (.int n4), .val (.int n5), .val (.int n6), .val (.int (3 : Int32)), .val (.int u141), .val (.int u142), .val (.int u143), .val (.int u144), .val (.int u145), .val (.ref b170), .val (.long ((40 : Int64) + ((2 : Int64) * ((3 : Int32).toInt64)))), .second, .val (.int (0 : Int32)), .unset, .unset] [(.long (40 : Int64))])) (fun _ kk_ => XS.icmpNo X173.here hx rfl (hb hby at_97) rfl (flt hc175).2.2.1 (XS.iload X173.here hx rfl (hb hby at_100) rfl (XS.iconst X173.here hx rfl (hb hby at_102) (XS.icmpNo X173.here hx rfl (hb hby at_103) rfl (flt (by decide)).1 (XS.iload X173.here hx rfl (hb hby at_106) rfl (XS.sipush X173.here hx rfl (hb hby at_108) (XS.icmpYes X173.here hx rfl (pc0 := 111) (pc' := 146) rfl (hb hby at_111) rfl (tlt ((hu169.resolve_left hc174).resolve_left hc175)).2.2.1 (by decide) (by decide) (XS.iconst X173.here hx rfl (hb hby at_146) (XS.istore X173.here hx rfl (hb hby at_147) rfl (l' := #[.val (.int n1), .val (.int n2), .val (.int n3), .val (.int n4), .val (.int n5), .val (.int n6), .val (.int (3 : Int32)), .val (.int u141), .val (.int u142), .val (.int u143), .val (.int u144), .val (.int u145), .val (.ref b170), .val (.long ((40 : Int64) + ((2 : Int64) * ((3 : Int32).toInt64)))), .second, .val (.int (0 : Int32)), .unset, .unset]) rfl ((X173.ldc2Long hx hown (mvT hZ (w_47 hw)) (g := (mkF m 149 #[.val (.int n1), .val (.int n2), .val (.int n3), .val (.int n4), .val (.int n5), .val (.int n6), .val (.int (3 : Int32)), .val (.int u141), .val (.int u142), .val (.int u143), .val (.int u144), .val (.int u145), .val (.ref b170), .val (.long ((40 : Int64) + ((2 : Int64) * ((3 : Int32).toInt64)))), .second, .val (.int (0 : Int32)), .unset, .unset] [])) rfl (hb hby at_149)) _ kk_)))))))))) ?_
          refine OWH.st (B := T173.setTop (mkF m 175 #[.val (.int n1), .val (.int n2), .val (.int n3), .val (.int n4), .val (.int n5), .val (.int n6), .val (.int (3 : Int32)), .val (.int u141), .val (.int u142), .val (.int u143), .val (.int u144), .val (.int u145), .val (.ref b170), .val (.long ((40 : Int64) + ((2 : Int64) * ((3 : Int32).toInt64)))), .second, .val (.int (0 : Int32)), .val (.long ((40 : Int64) + ((2 : Int64) * ((3 : Int32).toInt64)))), .second] [(.long ((40 : Int64) + ((2 : Int64) * ((3 : Int32).toInt64)))), (.long ((40 : Int64) + ((2 : Int64) * ((3 : Int32).toInt64))))])) (fun _ kk_ => XS.iload X173.here hx rfl (hb hby at_152) rfl (XS.ifYes X173.here hx rfl (pc0 := 154) (pc' := 161) rfl (hb hby at_154) rfl ((if0 _ _).trans (teq (by decide)).1) (by decide) (by decide) ((X173.ldc2Long hx hown (mvT hZ (w_110 hw)) (g := (mkF m 161 #[.val (.int n1), .val (.int n2), .val (.int n3), .val (.int n4), .val (.int n5), .val (.int n6), .val (.int (3 : Int32)), .val (.int u141), .val (.int u142), .val (.int u143), .val (.int u144), .val (.int u145), .val (.ref b170), .val (.long ((40 : Int64) + ((2 : Int64) * ((3 : Int32).toInt64)))), .second, .val (.int (0 : Int32)), .unset, .unset] [(.long (40 : Int64))])) rfl (hb hby at_161)) _ (XS.iload X173.here hx rfl (hb hby at_164) rfl (XS.i2l X173.here hx rfl (hb hby at_166) rfl (XS.lmul X173.here hx rfl (hb hby at_167) rfl (XS.ladd X173.here hx rfl (hb hby at_168) rfl (XS.lstore X173.here hx rfl (hb hby at_169) rfl (l' := #[.val (.int n1), .val (.int n2), .val (.int n3), .val (.int n4), .val (.int n5), .val (.int n6), .val (.int (3 : Int32)), .val (.int u141), .val (.int u142), .val (.int u143), .val (.int u144), .val (.int u145), .val (.ref b170), .val (.long ((40 : Int64) + ((2 : Int64) * ((3 : Int32).toInt64)))), .second, .val (.int (0 : Int32)), .val (.long ((40 : Int64) + ((2 : Int64) * ((3 : Int32).toInt64)))), .second]) rfl (XS.lload X173.here hx rfl (hb hby at_171) rfl (XS.lload X173.here hx rfl (hb hby at_173) rfl kk_)))))))))) ?_
          refine OWH.st (B := T173.setTop (mkF m 184 #[.val (.int n1), .val (.int n2), .val (.int n3), .val (.int n4), .val (.int n5), .val (.int n6), .val (.int (3 : Int32)), .val (.int u141), .val (.int u142), .val (.int u143), .val (.int u144), .val (.int u145), .val (.ref b170), .val (.long ((40 : Int64) + ((2 : Int64) * ((3 : Int32).toInt64)))), .second, .val (.int (0 : Int32)), .val (.long ((40 : Int64) + ((2 : Int64) * ((3 : Int32).toInt64)))), .second] [(.int (1 : Int32))])) (fun _ kk_ => XS.lcmp X173.here hx rfl (hb hby at_175) rfl (XS.ifNo X173.here hx rfl (hb hby at_176) rfl ((if0 _ _).trans (teq (by decide +kernel)).2) (XS.iconst X173.here hx rfl (hb hby at_179) (XS.goto X173.here hx rfl (pc0 := 180) (pc' := 184) rfl (hb hby at_180) (by decide) (by decide) kk_)))) ?_
          exact OWH.ret X173 (s := s) (vm0 := s.vm) hS0 (Nat.le_trans (Nat.le_trans (Nat.le_trans hk0 E170.1) K171.1) K172.1) hx hlk CR172 hZ (own_EW hw) (i := .ireturn) Bd.returns rfl (Or.inl ⟨rfl, Or.inr (Or.inl rfl), _, rfl⟩) (hb hby at_184) e173 (by decide) (by decide) ⟨rfl, N173⟩
    · obtain ⟨T176, h176, X176, e176, E176, A176, D176, -, st176⟩ := newO X145 hx hZ hown (w_6 hw) (w_7 hw) (w_8 hw) e145 (g := (mkF m 41 #[.val (.int n1), .val (.int n2), .val (.int n3), .val (.int n4), .val (.int n5), .val (.int n6), .val (.int (3 : Int32)), .val (.int u141), .val (.int u142), .val (.int u143), .val (.int u144), .val (.int u145), .unset, .unset, .unset, .unset, .unset, .unset] [])) rfl (hb hby at_41) (by decide) (by decide)
      obtain ⟨b176, g176⟩ : ∃ z, z = h0.size := ⟨_, rfl⟩
      rw [← g176] at A176 D176 st176
      have n_b176 : n0 ≤ b176 := Nat.le_trans (own_oldle O0) (Nat.le_of_eq g176.symm)
      have O176 : Old Z n0 h176 := O0.ext E176
      have CS176 : CHr Z consts_1 s.vm h0 s.vm h176 := CHr.ext E176 CR0.1
      have CR176 := CHr.trans CR0 CS176
      have Sf176_b176 : Safe Z consts_1 s.vm h176 b176 := Safe.ext E176 CR0.1 (Safe.new (Nat.le_of_eq g176.symm))
      have F176_25 : Fld Z h176 b176 "java/lang/String" "value" "[B" .null := D176 (Or.inr (w_25 hw)) (ty := (.array .byte)) (by decide)
      have F176_26 : Fld Z h176 b176 "java/lang/String" "coder" "B" (.int (0 : Int32)) := D176 (Or.inr (w_26 hw)) (ty := .byte) (by decide)
      refine OWH.st (B := T176.setTop (mkF m 57 #[.val (.int n1), .val (.int n2), .val (.int n3), .val (.int n4), .val (.int n5), .val (.int n6), .val (.int (3 : Int32)), .val (.int u141), .val (.int u142), .val (.int u143), .val (.int u144), .val (.int u145), .unset, .unset, .unset, .unset, .unset, .unset] [(.int u145), (.int u144), (.int u143), (.int u142), (.int u141), (.int (3 : Int32)), (.ref b176), (.ref b176)])) (fun _ kk_ => st176 _ (XS.dup X176.here hx rfl (hb hby at_44) rfl rfl (XS.iload X176.here hx rfl (hb hby at_45) rfl (XS.iload X176.here hx rfl (hb hby at_47) rfl (XS.iload X176.here hx rfl (hb hby at_49) rfl (XS.iload X176.here hx rfl (hb hby at_51) rfl (XS.iload X176.here hx rfl (hb hby at_53) rfl (XS.iload X176.here hx rfl (hb hby at_55) rfl kk_)))))))) ?_
      obtain ⟨_, _, ⟨T177, L177, k177, n177⟩, -, X177, ⟨Lc177, hQ177, l177, y177, z177⟩, st177⟩ := Jvm.LawKit.callS X176 hx (y := (⟨"com/example/cartulary/cartulary/entity/FootprintOfPinLaw", "chars", "(ICCCCC)[C"⟩ : MethodName)) hown (mvT hZ (w_9 hw)) (mvT hZ (w_10 hw)) (mvT hZ (w_3 hw)) (mvT hZ (w_11 hw)) (by decide) (backOf (W := 2) (rmCR3 l Z a0 hw [] u141 u142 u143 u144 u145 h176 n0 O176 hn141 hn142 hn143) hZ (w_11 hw) (w_3 hw) (by decide) (by decide)) (g := (mkF m 57 #[.val (.int n1), .val (.int n2), .val (.int n3), .val (.int n4), .val (.int n5), .val (.int n6), .val (.int (3 : Int32)), .val (.int u141), .val (.int u142), .val (.int u143), .val (.int u144), .val (.int u145), .unset, .unset, .unset, .unset, .unset, .unset] [(.int u145), (.int u144), (.int u143), (.int u142), (.int u141), (.int (3 : Int32)), (.ref b176), (.ref b176)])) rfl (by rw [hml]; rfl) (argsL := [(.int (3 : Int32)), (.int u141), (.int u142), (.int u143), (.int u144), (.int u145)]) (rest := [(.ref b176), (.ref b176)]) (lenOf pd_16 rfl) rfl (by show 2 * 0 + _ ≤ _; exact Nat.le_of_eq rfl) (hb hby at_57) (fun _ _ => ⟨rfl, e176, (by decide : 1 + 1 ≤ _), (by decide : 4 + 3 ≤ _)⟩)
      dsimp only [Pt.U, Pt.locs, Pt.cells, Pt.slots] at X177 l177 y177 z177 st177 hQ177
      subst l177 y177 z177
      obtain ⟨b177, kb177, rfl, Nq177, K177, gb177, zb177, Vb177⟩ := hQ177
      have N177 := Fr.app N145 Nq177
      have O177 : Old Z n0 T177.heap := O176.keep K177 all0
      have CS177 : CHr Z consts_1 s.vm h176 s.vm T177.heap := CHr.keep K177 all0 CR176.1
      have Sf177_b176 := CHr.safe CS177 A176.lt Sf176_b176
      have CR177 := CHr.trans CR176 CS177
      have Sf177_b177 : Safe Z consts_1 s.vm T177.heap b177 := Safe.keep K177 all0 CR176.1 (Safe.new zb177)
      refine OWH.st (B := T177.setTop (mkF m 60 #[.val (.int n1), .val (.int n2), .val (.int n3), .val (.int n4), .val (.int n5), .val (.int n6), .val (.int (3 : Int32)), .val (.int u141), .val (.int u142), .val (.int u143), .val (.int u144), .val (.int u145), .unset, .unset, .unset, .unset, .unset, .unset] [(.ref b177), (.ref b176), (.ref b176)])) (fun _ kk_ => st177 _ kk_) ?_
      obtain ⟨_, _, ⟨T178, L178, k178, n178⟩, -, X178, ⟨Lc178, hQ178, l178, y178, z178⟩, st178⟩ := X177.specialBack hx (y := (⟨"java/lang/String", "<init>", "([C)V"⟩ : MethodName)) rfl hown (mvT hZ (w_13 hw)) (mvT hZ (w_14 hw)) (mvT hZ (w_15 hw)) (by decide) (backOf (W := 1) (rmS00 l Z a0 hw [] b176 b177 kb177 (3 : Int32) [u141, u142, u143] i_COMPACT_STRINGS v_SIOOBE_FORMATTER T177.heap n0 O177 (A176.keep K177) (F176_25.keep K177 nin0) (F176_26.keep K177 nin0) n_b176 Vb177 rfl (Nat.le_of_ble_eq_true rfl) (Nat.zero_lt_succ _) (OwnChs.cons hn141 (OwnChs.cons hn142 (OwnChs.cons hn143 OwnChs.nil))) (OwnLat.cons hl169_0 (OwnLat.cons hl169_1 (OwnLat.cons hl169_2 OwnLat.nil))) hS) hZ (w_15 hw) (w_8 hw) (by decide) (by decide)) (g := (mkF m 60 #[.val (.int n1), .val (.int n2), .val (.int n3), .val (.int n4), .val (.int n5), .val (.int n6), .val (.int (3 : Int32)), .val (.int u141), .val (.int u142), .val (.int u143), .val (.int u144), .val (.int u145), .unset, .unset, .unset, .unset, .unset, .unset] [(.ref b177), (.ref b176), (.ref b176)])) rfl (by rw [hml]; rfl) (Steps.refl _) (a := b176) (argsL := [(.ref b177)]) (rest := [(.ref b176)]) (lenOf pd_17 rfl) rfl (by show 2 * 0 + _ ≤ _; exact Nat.le_of_eq rfl) (hb hby at_60) (fun _ _ => ⟨rfl, rfl, (by decide : 2 + 1 ≤ _), (by decide : 7 + 10 ≤ _)⟩)
      dsimp only [Pt.U, Pt.locs, Pt.cells, Pt.slots] at X178 l178 y178 z178 st178 hQ178
      subst l178 y178 z178
      obtain ⟨rfl, Nq178, K178, Es178, ba178, kb178, gba178, nba178, Fc178, Fv178, Vs178⟩ := hQ178
      have N178 := Fr.app N177 Nq178
      have O178 : Old Z n0 T178.heap := O177.keep K178 (allS n_b176 all0)
      have CS178 : CHr Z consts_1 s.vm T177.heap s.vm T178.heap := CHr.keep K178 (allS Sf177_b176 all0) CR177.1
      have Sf178_b176 := CHr.safe CS178 (A176.keep K177).lt Sf177_b176
      have Sf178_b177 := CHr.safe CS178 Vb177.lt Sf177_b177
      have CR178 := CHr.trans CR177 CS178
      refine OWH.tr (B := T178.setTop (mkF m 63 #[.val (.int n1), .val (.int n2), .val (.int n3), .val (.int n4), .val (.int n5), .val (.int n6), .val (.int (3 : Int32)), .val (.int u141), .val (.int u142), .val (.int u143), .val (.int u144), .val (.int u145), .unset, .unset, .unset, .unset, .unset, .unset] [(.ref b176)])) (st178) ?_
      refine OWH.st (B := T178.setTop (mkF m 67 #[.val (.int n1), .val (.int n2), .val (.int n3), .val (.int n4), .val (.int n5), .val (.int n6), .val (.int (3 : Int32)), .val (.int u141), .val (.int u142), .val (.int u143), .val (.int u144), .val (.int u145), .val (.ref b176), .unset, .unset, .unset, .unset, .unset] [(.ref b176)])) (fun _ kk_ => XS.astore X178.here hx rfl (hb hby at_63) rfl rfl (l' := #[.val (.int n1), .val (.int n2), .val (.int n3), .val (.int n4), .val (.int n5), .val (.int n6), .val (.int (3 : Int32)), .val (.int u141), .val (.int u142), .val (.int u143), .val (.int u144), .val (.int u145), .val (.ref b176), .unset, .unset, .unset, .unset, .unset]) rfl (XS.aload X178.here hx rfl (hb hby at_65) rfl rfl kk_)) ?_
      obtain ⟨_, _, ⟨T179, L179, k179, n179⟩, -, X179, ⟨Lc179, hQ179, l179, y179, z179⟩, st179⟩ := Jvm.LawKit.callS X178 hx (y := (⟨"com/example/cartulary/cartulary/entity/Footprint", "of", "(Ljava/lang/String;)J"⟩ : MethodName)) hown (mvT hZ (w_31 hw)) (mvT hZ (w_32 hw)) (mvT hZ (w_33 hw)) (mvT hZ (w_34 hw)) (by decide) (backOf (W := 0) (rmOF0 l Z a0 hw [] b176 ba178 kb178 (3 : Int32) [u141, u142, u143] (3 : Int32) i_COMPACT_STRINGS v_SIOOBE_FORMATTER T178.heap n0 O178 ((A176.keep K177).keep K178) Fv178 Fc178 Vs178 rfl (by decide) rfl (Nat.le_of_ble_eq_true rfl) (OwnChs.cons hn141 (OwnChs.cons hn142 (OwnChs.cons hn143 OwnChs.nil))) (OwnLat.cons hl169_0 (OwnLat.cons hl169_1 (OwnLat.cons hl169_2 OwnLat.nil))) hS) hZ (w_34 hw) (w_33 hw) (by decide) (by decide)) (g := (mkF m 67 #[.val (.int n1), .val (.int n2), .val (.int n3), .val (.int n4), .val (.int n5), .val (.int n6), .val (.int (3 : Int32)), .val (.int u141), .val (.int u142), .val (.int u143), .val (.int u144), .val (.int u145), .val (.ref b176), .unset, .unset, .unset, .unset, .unset] [(.ref b176)])) rfl (by rw [hml]; rfl) (argsL := [(.ref b176)]) (rest := []) (lenOf pd_18 rfl) rfl (by show 2 * 0 + _ ≤ _; exact Nat.le_of_eq rfl) (hb hby at_67) (fun _ _ => ⟨rfl, rfl, (by decide : 3 + 0 ≤ _), (by decide : 17 + 0 ≤ _)⟩)
      dsimp only [Pt.U, Pt.locs, Pt.cells, Pt.slots] at X179 l179 y179 z179 st179 hQ179
      subst l179 y179 z179
      obtain ⟨rfl, Nq179, e179⟩ := hQ179
      have N179 := Fr.app N178 Nq179
      refine OWH.st (B := T179.setTop (mkF m 89 #[.val (.int n1), .val (.int n2), .val (.int n3), .val (.int n4), .val (.int n5), .val (.int n6), .val (.int (3 : Int32)), .val (.int u141), .val (.int u142), .val (.int u143), .val (.int u144), .val (.int u145), .val (.ref b176), .val (.long ((40 : Int64) + ((1 : Int64) * ((3 : Int32).toInt64)))), .second, .unset, .unset, .unset] [(.int (2 : Int32)), (.int (3 : Int32))])) (fun _ kk_ => st179 _ (XS.lstore X179.here hx rfl (hb hby at_70) rfl (l' := #[.val (.int n1), .val (.int n2), .val (.int n3), .val (.int n4), .val (.int n5), .val (.int n6), .val (.int (3 : Int32)), .val (.int u141), .val (.int u142), .val (.int u143), .val (.int u144), .val (.int u145), .val (.ref b176), .val (.long ((40 : Int64) + ((1 : Int64) * ((3 : Int32).toInt64)))), .second, .unset, .unset, .unset]) rfl (XS.iload X179.here hx rfl (hb hby at_72) rfl (XS.iconst X179.here hx rfl (hb hby at_74) (XS.icmpNo X179.here hx rfl (hb hby at_75) rfl (flt (by decide)).1 (XS.iload X179.here hx rfl (hb hby at_78) rfl (XS.sipush X179.here hx rfl (hb hby at_80) (XS.icmpNo X179.here hx rfl (hb hby at_83) rfl (flt hl169_0).2.2.1 (XS.iload X179.here hx rfl (hb hby at_86) rfl (XS.iconst X179.here hx rfl (hb hby at_88) kk_)))))))))) ?_
      refine OWH.st (B := T179.setTop (mkF m 114 #[.val (.int n1), .val (.int n2), .val (.int n3), .val (.int n4), .val (.int n5), .val (.int n6), .val (.int (3 : Int32)), .val (.int u141), .val (.int u142), .val (.int u143), .val (.int u144), .val (.int u145), .val (.ref b176), .val (.long ((40 : Int64) + ((1 : Int64) * ((3 : Int32).toInt64)))), .second, .unset, .unset, .unset] [])) (fun _ kk_ => XS.icmpNo X179.here hx rfl (hb hby at_89) rfl (flt (by decide)).1 (XS.iload X179.here hx rfl (hb hby at_92) rfl (XS.sipush X179.here hx rfl (hb hby at_94) (XS.icmpNo X179.here hx rfl (hb hby at_97) rfl (flt hl169_1).2.2.1 (XS.iload X179.here hx rfl (hb hby at_100) rfl (XS.iconst X179.here hx rfl (hb hby at_102) (XS.icmpNo X179.here hx rfl (hb hby at_103) rfl (flt (by decide)).1 (XS.iload X179.here hx rfl (hb hby at_106) rfl (XS.sipush X179.here hx rfl (hb hby at_108) (XS.icmpNo X179.here hx rfl (hb hby at_111) rfl (flt hl169_2).2.2.1 kk_)))))))))) ?_
      refine OWH.st (B := T179.setTop (mkF m 152 #[.val (.int n1), .val (.int n2), .val (.int n3), .val (.int n4), .val (.int n5), .val (.int n6), .val (.int (3 : Int32)), .val (.int u141), .val (.int u142), .val (.int u143), .val (.int u144), .val (.int u145), .val (.ref b176), .val (.long ((40 : Int64) + ((1 : Int64) * ((3 : Int32).toInt64)))), .second, .val (.int (1 : Int32)), .unset, .unset] [(.long (40 : Int64))])) (fun _ kk_ => XS.iload X179.here hx rfl (hb hby at_114) rfl (XS.iconst X179.here hx rfl (hb hby at_116) (XS.icmpYes X179.here hx rfl (pc0 := 117) (pc' := 128) rfl (hb hby at_117) rfl (tlt (by decide)).1 (by decide) (by decide) (XS.iload X179.here hx rfl (hb hby at_128) rfl (XS.iconst X179.here hx rfl (hb hby at_130) (XS.icmpYes X179.here hx rfl (pc0 := 131) (pc' := 142) rfl (hb hby at_131) rfl (tlt (by decide)).1 (by decide) (by decide) (XS.iconst X179.here hx rfl (hb hby at_142) (XS.goto X179.here hx rfl (pc0 := 143) (pc' := 147) rfl (hb hby at_143) (by decide) (by decide) (XS.istore X179.here hx rfl (hb hby at_147) rfl (l' := #[.val (.int n1), .val (.int n2), .val (.int n3), .val (.int n4), .val (.int n5), .val (.int n6), .val (.int (3 : Int32)), .val (.int u141), .val (.int u142), .val (.int u143), .val (.int u144), .val (.int u145), .val (.ref b176), .val (.long ((40 : Int64) + ((1 : Int64) * ((3 : Int32).toInt64)))), .second, .val (.int (1 : Int32)), .unset, .unset]) rfl ((X179.ldc2Long hx hown (mvT hZ (w_47 hw)) (g := (mkF m 149 #[.val (.int n1), .val (.int n2), .val (.int n3), .val (.int n4), .val (.int n5), .val (.int n6), .val (.int (3 : Int32)), .val (.int u141), .val (.int u142), .val (.int u143), .val (.int u144), .val (.int u145), .val (.ref b176), .val (.long ((40 : Int64) + ((1 : Int64) * ((3 : Int32).toInt64)))), .second, .val (.int (1 : Int32)), .unset, .unset] [])) rfl (hb hby at_149)) _ kk_)))))))))) ?_
      refine OWH.st (B := T179.setTop (mkF m 173 #[.val (.int n1), .val (.int n2), .val (.int n3), .val (.int n4), .val (.int n5), .val (.int n6), .val (.int (3 : Int32)), .val (.int u141), .val (.int u142), .val (.int u143), .val (.int u144), .val (.int u145), .val (.ref b176), .val (.long ((40 : Int64) + ((1 : Int64) * ((3 : Int32).toInt64)))), .second, .val (.int (1 : Int32)), .val (.long ((40 : Int64) + ((1 : Int64) * ((3 : Int32).toInt64)))), .second] [(.long ((40 : Int64) + ((1 : Int64) * ((3 : Int32).toInt64))))])) (fun _ kk_ => XS.iload X179.here hx rfl (hb hby at_152) rfl (XS.ifNo X179.here hx rfl (hb hby at_154) rfl ((if0 _ _).trans (feq (by decide)).1) (XS.lconst X179.here hx rfl (hb hby at_157) (XS.goto X179.here hx rfl (pc0 := 158) (pc' := 164) rfl (hb hby at_158) (by decide) (by decide) (XS.iload X179.here hx rfl (hb hby at_164) rfl (XS.i2l X179.here hx rfl (hb hby at_166) rfl (XS.lmul X179.here hx rfl (hb hby at_167) rfl (XS.ladd X179.here hx rfl (hb hby at_168) rfl (XS.lstore X179.here hx rfl (hb hby at_169) rfl (l' := #[.val (.int n1), .val (.int n2), .val (.int n3), .val (.int n4), .val (.int n5), .val (.int n6), .val (.int (3 : Int32)), .val (.int u141), .val (.int u142), .val (.int u143), .val (.int u144), .val (.int u145), .val (.ref b176), .val (.long ((40 : Int64) + ((1 : Int64) * ((3 : Int32).toInt64)))), .second, .val (.int (1 : Int32)), .val (.long ((40 : Int64) + ((1 : Int64) * ((3 : Int32).toInt64)))), .second]) rfl (XS.lload X179.here hx rfl (hb hby at_171) rfl kk_)))))))))) ?_
      refine OWH.st (B := T179.setTop (mkF m 184 #[.val (.int n1), .val (.int n2), .val (.int n3), .val (.int n4), .val (.int n5), .val (.int n6), .val (.int (3 : Int32)), .val (.int u141), .val (.int u142), .val (.int u143), .val (.int u144), .val (.int u145), .val (.ref b176), .val (.long ((40 : Int64) + ((1 : Int64) * ((3 : Int32).toInt64)))), .second, .val (.int (1 : Int32)), .val (.long ((40 : Int64) + ((1 : Int64) * ((3 : Int32).toInt64)))), .second] [(.int (1 : Int32))])) (fun _ kk_ => XS.lload X179.here hx rfl (hb hby at_173) rfl (XS.lcmp X179.here hx rfl (hb hby at_175) rfl (XS.ifNo X179.here hx rfl (hb hby at_176) rfl ((if0 _ _).trans (teq (by decide +kernel)).2) (XS.iconst X179.here hx rfl (hb hby at_179) (XS.goto X179.here hx rfl (pc0 := 180) (pc' := 184) rfl (hb hby at_180) (by decide) (by decide) kk_))))) ?_
      exact OWH.ret X179 (s := s) (vm0 := s.vm) hS0 (Nat.le_trans (Nat.le_trans (Nat.le_trans hk0 E176.1) K177.1) K178.1) hx hlk CR178 hZ (own_EW hw) (i := .ireturn) Bd.returns rfl (Or.inl ⟨rfl, Or.inr (Or.inl rfl), _, rfl⟩) (hb hby at_184) e179 (by decide) (by decide) ⟨rfl, N179⟩
  · rcases own_lu4 u141 u142 u143 u144 with hu180 | ⟨hl180_0, hl180_1, hl180_2, hl180_3⟩
    · obtain ⟨T181, h181, X181, e181, E181, A181, D181, -, st181⟩ := newO X145 hx hZ hown (w_6 hw) (w_7 hw) (w_8 hw) e145 (g := (mkF m 41 #[.val (.int n1), .val (.int n2), .val (.int n3), .val (.int n4), .val (.int n5), .val (.int n6), .val (.int (4 : Int32)), .val (.int u141), .val (.int u142), .val (.int u143), .val (.int u144), .val (.int u145), .unset, .unset, .unset, .unset, .unset, .unset] [])) rfl (hb hby at_41) (by decide) (by decide)
      obtain ⟨b181, g181⟩ : ∃ z, z = h0.size := ⟨_, rfl⟩
      rw [← g181] at A181 D181 st181
      have n_b181 : n0 ≤ b181 := Nat.le_trans (own_oldle O0) (Nat.le_of_eq g181.symm)
      have O181 : Old Z n0 h181 := O0.ext E181
      have CS181 : CHr Z consts_1 s.vm h0 s.vm h181 := CHr.ext E181 CR0.1
      have CR181 := CHr.trans CR0 CS181
      have Sf181_b181 : Safe Z consts_1 s.vm h181 b181 := Safe.ext E181 CR0.1 (Safe.new (Nat.le_of_eq g181.symm))
      have F181_25 : Fld Z h181 b181 "java/lang/String" "value" "[B" .null := D181 (Or.inr (w_25 hw)) (ty := (.array .byte)) (by decide)
      have F181_26 : Fld Z h181 b181 "java/lang/String" "coder" "B" (.int (0 : Int32)) := D181 (Or.inr (w_26 hw)) (ty := .byte) (by decide)
      refine OWH.st (B := T181.setTop (mkF m 57 #[.val (.int n1), .val (.int n2), .val (.int n3), .val (.int n4), .val (.int n5), .val (.int n6), .val (.int (4 : Int32)), .val (.int u141), .val (.int u142), .val (.int u143), .val (.int u144), .val (.int u145), .unset, .unset, .unset, .unset, .unset, .unset] [(.int u145), (.int u144), (.int u143), (.int u142), (.int u141), (.int (4 : Int32)), (.ref b181), (.ref b181)])) (fun _ kk_ => st181 _ (XS.dup X181.here hx rfl (hb hby at_44) rfl rfl (XS.iload X181.here hx rfl (hb hby at_45) rfl (XS.iload X181.here hx rfl (hb hby at_47) rfl (XS.iload X181.here hx rfl (hb hby at_49) rfl (XS.iload X181.here hx rfl (hb hby at_51) rfl (XS.iload X181.here hx rfl (hb hby at_53) rfl (XS.iload X181.here hx rfl (hb hby at_55) rfl kk_)))))))) ?_
      obtain ⟨_, _, ⟨T182, L182, k182, n182⟩, -, X182, ⟨Lc182, hQ182, l182, y182, z182⟩, st182⟩ := Jvm.LawKit.callS X181 hx (y := (⟨"com/example/cartulary/cartulary/entity/FootprintOfPinLaw", "chars", "(ICCCCC)[C"⟩ : MethodName)) hown (mvT hZ (w_9 hw)) (mvT hZ (w_10 hw)) (mvT hZ (w_3 hw)) (mvT hZ (w_11 hw)) (by decide) (backOf (W := 2) (rmCR4 l Z a0 hw [] u141 u142 u143 u144 u145 h181 n0 O181 hn141 hn142 hn143 hn144) hZ (w_11 hw) (w_3 hw) (by decide) (by decide)) (g := (mkF m 57 #[.val (.int n1), .val (.int n2), .val (.int n3), .val (.int n4), .val (.int n5), .val (.int n6), .val (.int (4 : Int32)), .val (.int u141), .val (.int u142), .val (.int u143), .val (.int u144), .val (.int u145), .unset, .unset, .unset, .unset, .unset, .unset] [(.int u145), (.int u144), (.int u143), (.int u142), (.int u141), (.int (4 : Int32)), (.ref b181), (.ref b181)])) rfl (by rw [hml]; rfl) (argsL := [(.int (4 : Int32)), (.int u141), (.int u142), (.int u143), (.int u144), (.int u145)]) (rest := [(.ref b181), (.ref b181)]) (lenOf pd_16 rfl) rfl (by show 2 * 0 + _ ≤ _; exact Nat.le_of_eq rfl) (hb hby at_57) (fun _ _ => ⟨rfl, e181, (by decide : 1 + 1 ≤ _), (by decide : 4 + 4 ≤ _)⟩)
      dsimp only [Pt.U, Pt.locs, Pt.cells, Pt.slots] at X182 l182 y182 z182 st182 hQ182
      subst l182 y182 z182
      obtain ⟨b182, kb182, rfl, Nq182, K182, gb182, zb182, Vb182⟩ := hQ182
      have N182 := Fr.app N145 Nq182
      have O182 : Old Z n0 T182.heap := O181.keep K182 all0
      have CS182 : CHr Z consts_1 s.vm h181 s.vm T182.heap := CHr.keep K182 all0 CR181.1
      have Sf182_b181 := CHr.safe CS182 A181.lt Sf181_b181
      have CR182 := CHr.trans CR181 CS182
      have Sf182_b182 : Safe Z consts_1 s.vm T182.heap b182 := Safe.keep K182 all0 CR181.1 (Safe.new zb182)
      refine OWH.st (B := T182.setTop (mkF m 60 #[.val (.int n1), .val (.int n2), .val (.int n3), .val (.int n4), .val (.int n5), .val (.int n6), .val (.int (4 : Int32)), .val (.int u141), .val (.int u142), .val (.int u143), .val (.int u144), .val (.int u145), .unset, .unset, .unset, .unset, .unset, .unset] [(.ref b182), (.ref b181), (.ref b181)])) (fun _ kk_ => st182 _ kk_) ?_
      obtain ⟨_, _, ⟨T183, L183, k183, n183⟩, -, X183, ⟨Lc183, hQ183, l183, y183, z183⟩, st183⟩ := X182.specialBack hx (y := (⟨"java/lang/String", "<init>", "([C)V"⟩ : MethodName)) rfl hown (mvT hZ (w_13 hw)) (mvT hZ (w_14 hw)) (mvT hZ (w_15 hw)) (by decide) (backOf (W := 1) (rmS01 l Z a0 hw [] b181 b182 kb182 (4 : Int32) [u141, u142, u143, u144] i_COMPACT_STRINGS v_SIOOBE_FORMATTER T182.heap n0 O182 (A181.keep K182) (F181_25.keep K182 nin0) (F181_26.keep K182 nin0) n_b181 Vb182 rfl (Nat.le_of_ble_eq_true rfl) (Nat.zero_lt_succ _) (OwnChs.cons hn141 (OwnChs.cons hn142 (OwnChs.cons hn143 (OwnChs.cons hn144 OwnChs.nil)))) (hu180.elim OwnHi.here (fun q0 => OwnHi.there (q0.elim OwnHi.here (fun q1 => OwnHi.there (q1.elim OwnHi.here (fun q2 => OwnHi.there (OwnHi.here q2))))))) hS) hZ (w_15 hw) (w_8 hw) (by decide) (by decide)) (g := (mkF m 60 #[.val (.int n1), .val (.int n2), .val (.int n3), .val (.int n4), .val (.int n5), .val (.int n6), .val (.int (4 : Int32)), .val (.int u141), .val (.int u142), .val (.int u143), .val (.int u144), .val (.int u145), .unset, .unset, .unset, .unset, .unset, .unset] [(.ref b182), (.ref b181), (.ref b181)])) rfl (by rw [hml]; rfl) (Steps.refl _) (a := b181) (argsL := [(.ref b182)]) (rest := [(.ref b181)]) (lenOf pd_17 rfl) rfl (by show 2 * 0 + _ ≤ _; exact Nat.le_of_eq rfl) (hb hby at_60) (fun _ _ => ⟨rfl, rfl, (by decide : 2 + 2 ≤ _), (by decide : 8 + 30 ≤ _)⟩)
      dsimp only [Pt.U, Pt.locs, Pt.cells, Pt.slots] at X183 l183 y183 z183 st183 hQ183
      subst l183 y183 z183
      obtain ⟨rfl, Nq183, K183, Es183, ba183, kb183, gba183, nba183, Fc183, Fv183, Vs183⟩ := hQ183
      have N183 := Fr.app N182 Nq183
      have O183 : Old Z n0 T183.heap := O182.keep K183 (allS n_b181 all0)
      have CS183 : CHr Z consts_1 s.vm T182.heap s.vm T183.heap := CHr.keep K183 (allS Sf182_b181 all0) CR182.1
      have Sf183_b181 := CHr.safe CS183 (A181.keep K182).lt Sf182_b181
      have Sf183_b182 := CHr.safe CS183 Vb182.lt Sf182_b182
      have CR183 := CHr.trans CR182 CS183
      refine OWH.tr (B := T183.setTop (mkF m 63 #[.val (.int n1), .val (.int n2), .val (.int n3), .val (.int n4), .val (.int n5), .val (.int n6), .val (.int (4 : Int32)), .val (.int u141), .val (.int u142), .val (.int u143), .val (.int u144), .val (.int u145), .unset, .unset, .unset, .unset, .unset, .unset] [(.ref b181)])) (st183) ?_
      refine OWH.st (B := T183.setTop (mkF m 67 #[.val (.int n1), .val (.int n2), .val (.int n3), .val (.int n4), .val (.int n5), .val (.int n6), .val (.int (4 : Int32)), .val (.int u141), .val (.int u142), .val (.int u143), .val (.int u144), .val (.int u145), .val (.ref b181), .unset, .unset, .unset, .unset, .unset] [(.ref b181)])) (fun _ kk_ => XS.astore X183.here hx rfl (hb hby at_63) rfl rfl (l' := #[.val (.int n1), .val (.int n2), .val (.int n3), .val (.int n4), .val (.int n5), .val (.int n6), .val (.int (4 : Int32)), .val (.int u141), .val (.int u142), .val (.int u143), .val (.int u144), .val (.int u145), .val (.ref b181), .unset, .unset, .unset, .unset, .unset]) rfl (XS.aload X183.here hx rfl (hb hby at_65) rfl rfl kk_)) ?_
      obtain ⟨_, _, ⟨T184, L184, k184, n184⟩, -, X184, ⟨Lc184, hQ184, l184, y184, z184⟩, st184⟩ := Jvm.LawKit.callS X183 hx (y := (⟨"com/example/cartulary/cartulary/entity/Footprint", "of", "(Ljava/lang/String;)J"⟩ : MethodName)) hown (mvT hZ (w_31 hw)) (mvT hZ (w_32 hw)) (mvT hZ (w_33 hw)) (mvT hZ (w_34 hw)) (by decide) (backOf (W := 0) (rmOF1 l Z a0 hw [] b181 ba183 kb183 (8 : Int32) [u141, u142, u143, u144] (4 : Int32) i_COMPACT_STRINGS v_SIOOBE_FORMATTER T183.heap n0 O183 ((A181.keep K182).keep K183) Fv183 Fc183 Vs183 rfl (by decide) rfl (Nat.le_of_ble_eq_true rfl) (OwnChs.cons hn141 (OwnChs.cons hn142 (OwnChs.cons hn143 (OwnChs.cons hn144 OwnChs.nil)))) (hu180.elim OwnHi.here (fun q0 => OwnHi.there (q0.elim OwnHi.here (fun q1 => OwnHi.there (q1.elim OwnHi.here (fun q2 => OwnHi.there (OwnHi.here q2))))))) hS) hZ (w_34 hw) (w_33 hw) (by decide) (by decide)) (g := (mkF m 67 #[.val (.int n1), .val (.int n2), .val (.int n3), .val (.int n4), .val (.int n5), .val (.int n6), .val (.int (4 : Int32)), .val (.int u141), .val (.int u142), .val (.int u143), .val (.int u144), .val (.int u145), .val (.ref b181), .unset, .unset, .unset, .unset, .unset] [(.ref b181)])) rfl (by rw [hml]; rfl) (argsL := [(.ref b181)]) (rest := []) (lenOf pd_18 rfl) rfl (by show 2 * 0 + _ ≤ _; exact Nat.le_of_eq rfl) (hb hby at_67) (fun _ _ => ⟨rfl, rfl, (by decide : 4 + 0 ≤ _), (by decide : 38 + 0 ≤ _)⟩)
      dsimp only [Pt.U, Pt.locs, Pt.cells, Pt.slots] at X184 l184 y184 z184 st184 hQ184
      subst l184 y184 z184
      obtain ⟨rfl, Nq184, e184⟩ := hQ184
      have N184 := Fr.app N183 Nq184
      refine OWH.st (B := T184.setTop (mkF m 83 #[.val (.int n1), .val (.int n2), .val (.int n3), .val (.int n4), .val (.int n5), .val (.int n6), .val (.int (4 : Int32)), .val (.int u141), .val (.int u142), .val (.int u143), .val (.int u144), .val (.int u145), .val (.ref b181), .val (.long ((40 : Int64) + ((2 : Int64) * ((4 : Int32).toInt64)))), .second, .unset, .unset, .unset] [(.int (255 : Int32)), (.int u141)])) (fun _ kk_ => st184 _ (XS.lstore X184.here hx rfl (hb hby at_70) rfl (l' := #[.val (.int n1), .val (.int n2), .val (.int n3), .val (.int n4), .val (.int n5), .val (.int n6), .val (.int (4 : Int32)), .val (.int u141), .val (.int u142), .val (.int u143), .val (.int u144), .val (.int u145), .val (.ref b181), .val (.long ((40 : Int64) + ((2 : Int64) * ((4 : Int32).toInt64)))), .second, .unset, .unset, .unset]) rfl (XS.iload X184.here hx rfl (hb hby at_72) rfl (XS.iconst X184.here hx rfl (hb hby at_74) (XS.icmpNo X184.here hx rfl (hb hby at_75) rfl (flt (by decide)).1 (XS.iload X184.here hx rfl (hb hby at_78) rfl (XS.sipush X184.here hx rfl (hb hby at_80) kk_))))))) ?_
      by_cases hc185 : (255 : Int32) < u141
      · refine OWH.st (B := T184.setTop (mkF m 168 #[.val (.int n1), .val (.int n2), .val (.int n3), .val (.int n4), .val (.int n5), .val (.int n6), .val (.int (4 : Int32)), .val (.int u141), .val (.int u142), .val (.int u143), .val (.int u144), .val (.int u145), .val (.ref b181), .val (.long ((40 : Int64) + ((2 : Int64) * ((4 : Int32).toInt64)))), .second, .val (.int (0 : Int32)), .unset, .unset] [(.long ((2 : Int64) * ((4 : Int32).toInt64))), (.long (40 : Int64))])) (fun _ kk_ => XS.icmpYes X184.here hx rfl (pc0 := 83) (pc' := 146) rfl (hb hby at_83) rfl (tlt hc185).2.2.1 (by decide) (by decide) (XS.iconst X184.here hx rfl (hb hby at_146) (XS.istore X184.here hx rfl (hb hby at_147) rfl (l' := #[.val (.int n1), .val (.int n2), .val (.int n3), .val (.int n4), .val (.int n5), .val (.int n6), .val (.int (4 : Int32)), .val (.int u141), .val (.int u142), .val (.int u143), .val (.int u144), .val (.int u145), .val (.ref b181), .val (.long ((40 : Int64) + ((2 : Int64) * ((4 : Int32).toInt64)))), .second, .val (.int (0 : Int32)), .unset, .unset]) rfl ((X184.ldc2Long hx hown (mvT hZ (w_47 hw)) (g := (mkF m 149 #[.val (.int n1), .val (.int n2), .val (.int n3), .val (.int n4), .val (.int n5), .val (.int n6), .val (.int (4 : Int32)), .val (.int u141), .val (.int u142), .val (.int u143), .val (.int u144), .val (.int u145), .val (.ref b181), .val (.long ((40 : Int64) + ((2 : Int64) * ((4 : Int32).toInt64)))), .second, .val (.int (0 : Int32)), .unset, .unset] [])) rfl (hb hby at_149)) _ (XS.iload X184.here hx rfl (hb hby at_152) rfl (XS.ifYes X184.here hx rfl (pc0 := 154) (pc' := 161) rfl (hb hby at_154) rfl ((if0 _ _).trans (teq (by decide)).1) (by decide) (by decide) ((X184.ldc2Long hx hown (mvT hZ (w_110 hw)) (g := (mkF m 161 #[.val (.int n1), .val (.int n2), .val (.int n3), .val (.int n4), .val (.int n5), .val (.int n6), .val (.int (4 : Int32)), .val (.int u141), .val (.int u142), .val (.int u143), .val (.int u144), .val (.int u145), .val (.ref b181), .val (.long ((40 : Int64) + ((2 : Int64) * ((4 : Int32).toInt64)))), .second, .val (.int (0 : Int32)), .unset, .unset] [(.long (40 : Int64))])) rfl (hb hby at_161)) _ (XS.iload X184.here hx rfl (hb hby at_164) rfl (XS.i2l X184.here hx rfl (hb hby at_166) rfl (XS.lmul X184.here hx rfl (hb hby at_167) rfl kk_)))))))))) ?_
        refine OWH.st (B := T184.setTop (mkF m 184 #[.val (.int n1), .val (.int n2), .val (.int n3), .val (.int n4), .val (.int n5), .val (.int n6), .val (.int (4 : Int32)), .val (.int u141), .val (.int u142), .val (.int u143), .val (.int u144), .val (.int u145), .val (.ref b181), .val (.long ((40 : Int64) + ((2 : Int64) * ((4 : Int32).toInt64)))), .second, .val (.int (0 : Int32)), .val (.long ((40 : Int64) + ((2 : Int64) * ((4 : Int32).toInt64)))), .second] [(.int (1 : Int32))])) (fun _ kk_ => XS.ladd X184.here hx rfl (hb hby at_168) rfl (XS.lstore X184.here hx rfl (hb hby at_169) rfl (l' := #[.val (.int n1), .val (.int n2), .val (.int n3), .val (.int n4), .val (.int n5), .val (.int n6), .val (.int (4 : Int32)), .val (.int u141), .val (.int u142), .val (.int u143), .val (.int u144), .val (.int u145), .val (.ref b181), .val (.long ((40 : Int64) + ((2 : Int64) * ((4 : Int32).toInt64)))), .second, .val (.int (0 : Int32)), .val (.long ((40 : Int64) + ((2 : Int64) * ((4 : Int32).toInt64)))), .second]) rfl (XS.lload X184.here hx rfl (hb hby at_171) rfl (XS.lload X184.here hx rfl (hb hby at_173) rfl (XS.lcmp X184.here hx rfl (hb hby at_175) rfl (XS.ifNo X184.here hx rfl (hb hby at_176) rfl ((if0 _ _).trans (teq (by decide +kernel)).2) (XS.iconst X184.here hx rfl (hb hby at_179) (XS.goto X184.here hx rfl (pc0 := 180) (pc' := 184) rfl (hb hby at_180) (by decide) (by decide) kk_)))))))) ?_
        exact OWH.ret X184 (s := s) (vm0 := s.vm) hS0 (Nat.le_trans (Nat.le_trans (Nat.le_trans hk0 E181.1) K182.1) K183.1) hx hlk CR183 hZ (own_EW hw) (i := .ireturn) Bd.returns rfl (Or.inl ⟨rfl, Or.inr (Or.inl rfl), _, rfl⟩) (hb hby at_184) e184 (by decide) (by decide) ⟨rfl, N184⟩
      · refine OWH.st (B := T184.setTop (mkF m 97 #[.val (.int n1), .val (.int n2), .val (.int n3), .val (.int n4), .val (.int n5), .val (.int n6), .val (.int (4 : Int32)), .val (.int u141), .val (.int u142), .val (.int u143), .val (.int u144), .val (.int u145), .val (.ref b181), .val (.long ((40 : Int64) + ((2 : Int64) * ((4 : Int32).toInt64)))), .second, .unset, .unset, .unset] [(.int (255 : Int32)), (.int u142)])) (fun _ kk_ => XS.icmpNo X184.here hx rfl (hb hby at_83) rfl (flt hc185).2.2.1 (XS.iload X184.here hx rfl (hb hby at_86) rfl (XS.iconst X184.here hx rfl (hb hby at_88) (XS.icmpNo X184.here hx rfl (hb hby at_89) rfl (flt (by decide)).1 (XS.iload X184.here hx rfl (hb hby at_92) rfl (XS.sipush X184.here hx rfl (hb hby at_94) kk_)))))) ?_
        by_cases hc186 : (255 : Int32) < u142
        · refine OWH.st (B := T184.setTop (mkF m 168 #[.val (.int n1), .val (.int n2), .val (.int n3), .val (.int n4), .val (.int n5), .val (.int n6), .val (.int (4 : Int32)), .val (.int u141), .val (.int u142), .val (.int u143), .val (.int u144), .val (.int u145), .val (.ref b181), .val (.long ((40 : Int64) + ((2 : Int64) * ((4 : Int32).toInt64)))), .second, .val (.int (0 : Int32)), .unset, .unset] [(.long ((2 : Int64) * ((4 : Int32).toInt64))), (.long (40 : Int64))])) (fun _ kk_ => XS.icmpYes X184.here hx rfl (pc0 := 97) (pc' := 146) rfl (hb hby at_97) rfl (tlt hc186).2.2.1 (by decide) (by decide) (XS.iconst X184.here hx rfl (hb hby at_146) (XS.istore X184.here hx rfl (hb hby at_147) rfl (l' := #[.val (.int n1), .val (.int n2), .val (.int n3), .val (.int n4), .val (.int n5), .val (.int n6), .val (.int (4 : Int32)), .val (.int u141), .val (.int u142), .val (.int u143), .val (.int u144), .val (.int u145), .val (.ref b181), .val (.long ((40 : Int64) + ((2 : Int64) * ((4 : Int32).toInt64)))), .second, .val (.int (0 : Int32)), .unset, .unset]) rfl ((X184.ldc2Long hx hown (mvT hZ (w_47 hw)) (g := (mkF m 149 #[.val (.int n1), .val (.int n2), .val (.int n3), .val (.int n4), .val (.int n5), .val (.int n6), .val (.int (4 : Int32)), .val (.int u141), .val (.int u142), .val (.int u143), .val (.int u144), .val (.int u145), .val (.ref b181), .val (.long ((40 : Int64) + ((2 : Int64) * ((4 : Int32).toInt64)))), .second, .val (.int (0 : Int32)), .unset, .unset] [])) rfl (hb hby at_149)) _ (XS.iload X184.here hx rfl (hb hby at_152) rfl (XS.ifYes X184.here hx rfl (pc0 := 154) (pc' := 161) rfl (hb hby at_154) rfl ((if0 _ _).trans (teq (by decide)).1) (by decide) (by decide) ((X184.ldc2Long hx hown (mvT hZ (w_110 hw)) (g := (mkF m 161 #[.val (.int n1), .val (.int n2), .val (.int n3), .val (.int n4), .val (.int n5), .val (.int n6), .val (.int (4 : Int32)), .val (.int u141), .val (.int u142), .val (.int u143), .val (.int u144), .val (.int u145), .val (.ref b181), .val (.long ((40 : Int64) + ((2 : Int64) * ((4 : Int32).toInt64)))), .second, .val (.int (0 : Int32)), .unset, .unset] [(.long (40 : Int64))])) rfl (hb hby at_161)) _ (XS.iload X184.here hx rfl (hb hby at_164) rfl (XS.i2l X184.here hx rfl (hb hby at_166) rfl (XS.lmul X184.here hx rfl (hb hby at_167) rfl kk_)))))))))) ?_
          refine OWH.st (B := T184.setTop (mkF m 184 #[.val (.int n1), .val (.int n2), .val (.int n3), .val (.int n4), .val (.int n5), .val (.int n6), .val (.int (4 : Int32)), .val (.int u141), .val (.int u142), .val (.int u143), .val (.int u144), .val (.int u145), .val (.ref b181), .val (.long ((40 : Int64) + ((2 : Int64) * ((4 : Int32).toInt64)))), .second, .val (.int (0 : Int32)), .val (.long ((40 : Int64) + ((2 : Int64) * ((4 : Int32).toInt64)))), .second] [(.int (1 : Int32))])) (fun _ kk_ => XS.ladd X184.here hx rfl (hb hby at_168) rfl (XS.lstore X184.here hx rfl (hb hby at_169) rfl (l' := #[.val (.int n1), .val (.int n2), .val (.int n3), .val (.int n4), .val (.int n5), .val (.int n6), .val (.int (4 : Int32)), .val (.int u141), .val (.int u142), .val (.int u143), .val (.int u144), .val (.int u145), .val (.ref b181), .val (.long ((40 : Int64) + ((2 : Int64) * ((4 : Int32).toInt64)))), .second, .val (.int (0 : Int32)), .val (.long ((40 : Int64) + ((2 : Int64) * ((4 : Int32).toInt64)))), .second]) rfl (XS.lload X184.here hx rfl (hb hby at_171) rfl (XS.lload X184.here hx rfl (hb hby at_173) rfl (XS.lcmp X184.here hx rfl (hb hby at_175) rfl (XS.ifNo X184.here hx rfl (hb hby at_176) rfl ((if0 _ _).trans (teq (by decide +kernel)).2) (XS.iconst X184.here hx rfl (hb hby at_179) (XS.goto X184.here hx rfl (pc0 := 180) (pc' := 184) rfl (hb hby at_180) (by decide) (by decide) kk_)))))))) ?_
          exact OWH.ret X184 (s := s) (vm0 := s.vm) hS0 (Nat.le_trans (Nat.le_trans (Nat.le_trans hk0 E181.1) K182.1) K183.1) hx hlk CR183 hZ (own_EW hw) (i := .ireturn) Bd.returns rfl (Or.inl ⟨rfl, Or.inr (Or.inl rfl), _, rfl⟩) (hb hby at_184) e184 (by decide) (by decide) ⟨rfl, N184⟩
        · refine OWH.st (B := T184.setTop (mkF m 111 #[.val (.int n1), .val (.int n2), .val (.int n3), .val (.int n4), .val (.int n5), .val (.int n6), .val (.int (4 : Int32)), .val (.int u141), .val (.int u142), .val (.int u143), .val (.int u144), .val (.int u145), .val (.ref b181), .val (.long ((40 : Int64) + ((2 : Int64) * ((4 : Int32).toInt64)))), .second, .unset, .unset, .unset] [(.int (255 : Int32)), (.int u143)])) (fun _ kk_ => XS.icmpNo X184.here hx rfl (hb hby at_97) rfl (flt hc186).2.2.1 (XS.iload X184.here hx rfl (hb hby at_100) rfl (XS.iconst X184.here hx rfl (hb hby at_102) (XS.icmpNo X184.here hx rfl (hb hby at_103) rfl (flt (by decide)).1 (XS.iload X184.here hx rfl (hb hby at_106) rfl (XS.sipush X184.here hx rfl (hb hby at_108) kk_)))))) ?_
          by_cases hc187 : (255 : Int32) < u143
          · refine OWH.st (B := T184.setTop (mkF m 168 #[.val (.int n1), .val (.int n2), .val (.int n3), .val (.int n4), .val (.int n5), .val (.int n6), .val (.int (4 : Int32)), .val (.int u141), .val (.int u142), .val (.int u143), .val (.int u144), .val (.int u145), .val (.ref b181), .val (.long ((40 : Int64) + ((2 : Int64) * ((4 : Int32).toInt64)))), .second, .val (.int (0 : Int32)), .unset, .unset] [(.long ((2 : Int64) * ((4 : Int32).toInt64))), (.long (40 : Int64))])) (fun _ kk_ => XS.icmpYes X184.here hx rfl (pc0 := 111) (pc' := 146) rfl (hb hby at_111) rfl (tlt hc187).2.2.1 (by decide) (by decide) (XS.iconst X184.here hx rfl (hb hby at_146) (XS.istore X184.here hx rfl (hb hby at_147) rfl (l' := #[.val (.int n1), .val (.int n2), .val (.int n3), .val (.int n4), .val (.int n5), .val (.int n6), .val (.int (4 : Int32)), .val (.int u141), .val (.int u142), .val (.int u143), .val (.int u144), .val (.int u145), .val (.ref b181), .val (.long ((40 : Int64) + ((2 : Int64) * ((4 : Int32).toInt64)))), .second, .val (.int (0 : Int32)), .unset, .unset]) rfl ((X184.ldc2Long hx hown (mvT hZ (w_47 hw)) (g := (mkF m 149 #[.val (.int n1), .val (.int n2), .val (.int n3), .val (.int n4), .val (.int n5), .val (.int n6), .val (.int (4 : Int32)), .val (.int u141), .val (.int u142), .val (.int u143), .val (.int u144), .val (.int u145), .val (.ref b181), .val (.long ((40 : Int64) + ((2 : Int64) * ((4 : Int32).toInt64)))), .second, .val (.int (0 : Int32)), .unset, .unset] [])) rfl (hb hby at_149)) _ (XS.iload X184.here hx rfl (hb hby at_152) rfl (XS.ifYes X184.here hx rfl (pc0 := 154) (pc' := 161) rfl (hb hby at_154) rfl ((if0 _ _).trans (teq (by decide)).1) (by decide) (by decide) ((X184.ldc2Long hx hown (mvT hZ (w_110 hw)) (g := (mkF m 161 #[.val (.int n1), .val (.int n2), .val (.int n3), .val (.int n4), .val (.int n5), .val (.int n6), .val (.int (4 : Int32)), .val (.int u141), .val (.int u142), .val (.int u143), .val (.int u144), .val (.int u145), .val (.ref b181), .val (.long ((40 : Int64) + ((2 : Int64) * ((4 : Int32).toInt64)))), .second, .val (.int (0 : Int32)), .unset, .unset] [(.long (40 : Int64))])) rfl (hb hby at_161)) _ (XS.iload X184.here hx rfl (hb hby at_164) rfl (XS.i2l X184.here hx rfl (hb hby at_166) rfl (XS.lmul X184.here hx rfl (hb hby at_167) rfl kk_)))))))))) ?_
            refine OWH.st (B := T184.setTop (mkF m 184 #[.val (.int n1), .val (.int n2), .val (.int n3), .val (.int n4), .val (.int n5), .val (.int n6), .val (.int (4 : Int32)), .val (.int u141), .val (.int u142), .val (.int u143), .val (.int u144), .val (.int u145), .val (.ref b181), .val (.long ((40 : Int64) + ((2 : Int64) * ((4 : Int32).toInt64)))), .second, .val (.int (0 : Int32)), .val (.long ((40 : Int64) + ((2 : Int64) * ((4 : Int32).toInt64)))), .second] [(.int (1 : Int32))])) (fun _ kk_ => XS.ladd X184.here hx rfl (hb hby at_168) rfl (XS.lstore X184.here hx rfl (hb hby at_169) rfl (l' := #[.val (.int n1), .val (.int n2), .val (.int n3), .val (.int n4), .val (.int n5), .val (.int n6), .val (.int (4 : Int32)), .val (.int u141), .val (.int u142), .val (.int u143), .val (.int u144), .val (.int u145), .val (.ref b181), .val (.long ((40 : Int64) + ((2 : Int64) * ((4 : Int32).toInt64)))), .second, .val (.int (0 : Int32)), .val (.long ((40 : Int64) + ((2 : Int64) * ((4 : Int32).toInt64)))), .second]) rfl (XS.lload X184.here hx rfl (hb hby at_171) rfl (XS.lload X184.here hx rfl (hb hby at_173) rfl (XS.lcmp X184.here hx rfl (hb hby at_175) rfl (XS.ifNo X184.here hx rfl (hb hby at_176) rfl ((if0 _ _).trans (teq (by decide +kernel)).2) (XS.iconst X184.here hx rfl (hb hby at_179) (XS.goto X184.here hx rfl (pc0 := 180) (pc' := 184) rfl (hb hby at_180) (by decide) (by decide) kk_)))))))) ?_
            exact OWH.ret X184 (s := s) (vm0 := s.vm) hS0 (Nat.le_trans (Nat.le_trans (Nat.le_trans hk0 E181.1) K182.1) K183.1) hx hlk CR183 hZ (own_EW hw) (i := .ireturn) Bd.returns rfl (Or.inl ⟨rfl, Or.inr (Or.inl rfl), _, rfl⟩) (hb hby at_184) e184 (by decide) (by decide) ⟨rfl, N184⟩
          · refine OWH.st (B := T184.setTop (mkF m 152 #[.val (.int n1), .val (.int n2), .val (.int n3), .val (.int n4), .val (.int n5), .val (.int n6), .val (.int (4 : Int32)), .val (.int u141), .val (.int u142), .val (.int u143), .val (.int u144), .val (.int u145), .val (.ref b181), .val (.long ((40 : Int64) + ((2 : Int64) * ((4 : Int32).toInt64)))), .second, .val (.int (0 : Int32)), .unset, .unset] [(.long (40 : Int64))])) (fun _ kk_ => XS.icmpNo X184.here hx rfl (hb hby at_111) rfl (flt hc187).2.2.1 (XS.iload X184.here hx rfl (hb hby at_114) rfl (XS.iconst X184.here hx rfl (hb hby at_116) (XS.icmpNo X184.here hx rfl (hb hby at_117) rfl (flt (by decide)).1 (XS.iload X184.here hx rfl (hb hby at_120) rfl (XS.sipush X184.here hx rfl (hb hby at_122) (XS.icmpYes X184.here hx rfl (pc0 := 125) (pc' := 146) rfl (hb hby at_125) rfl (tlt (((hu180.resolve_left hc185).resolve_left hc186).resolve_left hc187)).2.2.1 (by decide) (by decide) (XS.iconst X184.here hx rfl (hb hby at_146) (XS.istore X184.here hx rfl (hb hby at_147) rfl (l' := #[.val (.int n1), .val (.int n2), .val (.int n3), .val (.int n4), .val (.int n5), .val (.int n6), .val (.int (4 : Int32)), .val (.int u141), .val (.int u142), .val (.int u143), .val (.int u144), .val (.int u145), .val (.ref b181), .val (.long ((40 : Int64) + ((2 : Int64) * ((4 : Int32).toInt64)))), .second, .val (.int (0 : Int32)), .unset, .unset]) rfl ((X184.ldc2Long hx hown (mvT hZ (w_47 hw)) (g := (mkF m 149 #[.val (.int n1), .val (.int n2), .val (.int n3), .val (.int n4), .val (.int n5), .val (.int n6), .val (.int (4 : Int32)), .val (.int u141), .val (.int u142), .val (.int u143), .val (.int u144), .val (.int u145), .val (.ref b181), .val (.long ((40 : Int64) + ((2 : Int64) * ((4 : Int32).toInt64)))), .second, .val (.int (0 : Int32)), .unset, .unset] [])) rfl (hb hby at_149)) _ kk_)))))))))) ?_
            refine OWH.st (B := T184.setTop (mkF m 175 #[.val (.int n1), .val (.int n2), .val (.int n3), .val (.int n4), .val (.int n5), .val (.int n6), .val (.int (4 : Int32)), .val (.int u141), .val (.int u142), .val (.int u143), .val (.int u144), .val (.int u145), .val (.ref b181), .val (.long ((40 : Int64) + ((2 : Int64) * ((4 : Int32).toInt64)))), .second, .val (.int (0 : Int32)), .val (.long ((40 : Int64) + ((2 : Int64) * ((4 : Int32).toInt64)))), .second] [(.long ((40 : Int64) + ((2 : Int64) * ((4 : Int32).toInt64)))), (.long ((40 : Int64) + ((2 : Int64) * ((4 : Int32).toInt64))))])) (fun _ kk_ => XS.iload X184.here hx rfl (hb hby at_152) rfl (XS.ifYes X184.here hx rfl (pc0 := 154) (pc' := 161) rfl (hb hby at_154) rfl ((if0 _ _).trans (teq (by decide)).1) (by decide) (by decide) ((X184.ldc2Long hx hown (mvT hZ (w_110 hw)) (g := (mkF m 161 #[.val (.int n1), .val (.int n2), .val (.int n3), .val (.int n4), .val (.int n5), .val (.int n6), .val (.int (4 : Int32)), .val (.int u141), .val (.int u142), .val (.int u143), .val (.int u144), .val (.int u145), .val (.ref b181), .val (.long ((40 : Int64) + ((2 : Int64) * ((4 : Int32).toInt64)))), .second, .val (.int (0 : Int32)), .unset, .unset] [(.long (40 : Int64))])) rfl (hb hby at_161)) _ (XS.iload X184.here hx rfl (hb hby at_164) rfl (XS.i2l X184.here hx rfl (hb hby at_166) rfl (XS.lmul X184.here hx rfl (hb hby at_167) rfl (XS.ladd X184.here hx rfl (hb hby at_168) rfl (XS.lstore X184.here hx rfl (hb hby at_169) rfl (l' := #[.val (.int n1), .val (.int n2), .val (.int n3), .val (.int n4), .val (.int n5), .val (.int n6), .val (.int (4 : Int32)), .val (.int u141), .val (.int u142), .val (.int u143), .val (.int u144), .val (.int u145), .val (.ref b181), .val (.long ((40 : Int64) + ((2 : Int64) * ((4 : Int32).toInt64)))), .second, .val (.int (0 : Int32)), .val (.long ((40 : Int64) + ((2 : Int64) * ((4 : Int32).toInt64)))), .second]) rfl (XS.lload X184.here hx rfl (hb hby at_171) rfl (XS.lload X184.here hx rfl (hb hby at_173) rfl kk_)))))))))) ?_
            refine OWH.st (B := T184.setTop (mkF m 184 #[.val (.int n1), .val (.int n2), .val (.int n3), .val (.int n4), .val (.int n5), .val (.int n6), .val (.int (4 : Int32)), .val (.int u141), .val (.int u142), .val (.int u143), .val (.int u144), .val (.int u145), .val (.ref b181), .val (.long ((40 : Int64) + ((2 : Int64) * ((4 : Int32).toInt64)))), .second, .val (.int (0 : Int32)), .val (.long ((40 : Int64) + ((2 : Int64) * ((4 : Int32).toInt64)))), .second] [(.int (1 : Int32))])) (fun _ kk_ => XS.lcmp X184.here hx rfl (hb hby at_175) rfl (XS.ifNo X184.here hx rfl (hb hby at_176) rfl ((if0 _ _).trans (teq (by decide +kernel)).2) (XS.iconst X184.here hx rfl (hb hby at_179) (XS.goto X184.here hx rfl (pc0 := 180) (pc' := 184) rfl (hb hby at_180) (by decide) (by decide) kk_)))) ?_
            exact OWH.ret X184 (s := s) (vm0 := s.vm) hS0 (Nat.le_trans (Nat.le_trans (Nat.le_trans hk0 E181.1) K182.1) K183.1) hx hlk CR183 hZ (own_EW hw) (i := .ireturn) Bd.returns rfl (Or.inl ⟨rfl, Or.inr (Or.inl rfl), _, rfl⟩) (hb hby at_184) e184 (by decide) (by decide) ⟨rfl, N184⟩
    · obtain ⟨T188, h188, X188, e188, E188, A188, D188, -, st188⟩ := newO X145 hx hZ hown (w_6 hw) (w_7 hw) (w_8 hw) e145 (g := (mkF m 41 #[.val (.int n1), .val (.int n2), .val (.int n3), .val (.int n4), .val (.int n5), .val (.int n6), .val (.int (4 : Int32)), .val (.int u141), .val (.int u142), .val (.int u143), .val (.int u144), .val (.int u145), .unset, .unset, .unset, .unset, .unset, .unset] [])) rfl (hb hby at_41) (by decide) (by decide)
      obtain ⟨b188, g188⟩ : ∃ z, z = h0.size := ⟨_, rfl⟩
      rw [← g188] at A188 D188 st188
      have n_b188 : n0 ≤ b188 := Nat.le_trans (own_oldle O0) (Nat.le_of_eq g188.symm)
      have O188 : Old Z n0 h188 := O0.ext E188
      have CS188 : CHr Z consts_1 s.vm h0 s.vm h188 := CHr.ext E188 CR0.1
      have CR188 := CHr.trans CR0 CS188
      have Sf188_b188 : Safe Z consts_1 s.vm h188 b188 := Safe.ext E188 CR0.1 (Safe.new (Nat.le_of_eq g188.symm))
      have F188_25 : Fld Z h188 b188 "java/lang/String" "value" "[B" .null := D188 (Or.inr (w_25 hw)) (ty := (.array .byte)) (by decide)
      have F188_26 : Fld Z h188 b188 "java/lang/String" "coder" "B" (.int (0 : Int32)) := D188 (Or.inr (w_26 hw)) (ty := .byte) (by decide)
      refine OWH.st (B := T188.setTop (mkF m 57 #[.val (.int n1), .val (.int n2), .val (.int n3), .val (.int n4), .val (.int n5), .val (.int n6), .val (.int (4 : Int32)), .val (.int u141), .val (.int u142), .val (.int u143), .val (.int u144), .val (.int u145), .unset, .unset, .unset, .unset, .unset, .unset] [(.int u145), (.int u144), (.int u143), (.int u142), (.int u141), (.int (4 : Int32)), (.ref b188), (.ref b188)])) (fun _ kk_ => st188 _ (XS.dup X188.here hx rfl (hb hby at_44) rfl rfl (XS.iload X188.here hx rfl (hb hby at_45) rfl (XS.iload X188.here hx rfl (hb hby at_47) rfl (XS.iload X188.here hx rfl (hb hby at_49) rfl (XS.iload X188.here hx rfl (hb hby at_51) rfl (XS.iload X188.here hx rfl (hb hby at_53) rfl (XS.iload X188.here hx rfl (hb hby at_55) rfl kk_)))))))) ?_
      obtain ⟨_, _, ⟨T189, L189, k189, n189⟩, -, X189, ⟨Lc189, hQ189, l189, y189, z189⟩, st189⟩ := Jvm.LawKit.callS X188 hx (y := (⟨"com/example/cartulary/cartulary/entity/FootprintOfPinLaw", "chars", "(ICCCCC)[C"⟩ : MethodName)) hown (mvT hZ (w_9 hw)) (mvT hZ (w_10 hw)) (mvT hZ (w_3 hw)) (mvT hZ (w_11 hw)) (by decide) (backOf (W := 2) (rmCR4 l Z a0 hw [] u141 u142 u143 u144 u145 h188 n0 O188 hn141 hn142 hn143 hn144) hZ (w_11 hw) (w_3 hw) (by decide) (by decide)) (g := (mkF m 57 #[.val (.int n1), .val (.int n2), .val (.int n3), .val (.int n4), .val (.int n5), .val (.int n6), .val (.int (4 : Int32)), .val (.int u141), .val (.int u142), .val (.int u143), .val (.int u144), .val (.int u145), .unset, .unset, .unset, .unset, .unset, .unset] [(.int u145), (.int u144), (.int u143), (.int u142), (.int u141), (.int (4 : Int32)), (.ref b188), (.ref b188)])) rfl (by rw [hml]; rfl) (argsL := [(.int (4 : Int32)), (.int u141), (.int u142), (.int u143), (.int u144), (.int u145)]) (rest := [(.ref b188), (.ref b188)]) (lenOf pd_16 rfl) rfl (by show 2 * 0 + _ ≤ _; exact Nat.le_of_eq rfl) (hb hby at_57) (fun _ _ => ⟨rfl, e188, (by decide : 1 + 1 ≤ _), (by decide : 4 + 4 ≤ _)⟩)
      dsimp only [Pt.U, Pt.locs, Pt.cells, Pt.slots] at X189 l189 y189 z189 st189 hQ189
      subst l189 y189 z189
      obtain ⟨b189, kb189, rfl, Nq189, K189, gb189, zb189, Vb189⟩ := hQ189
      have N189 := Fr.app N145 Nq189
      have O189 : Old Z n0 T189.heap := O188.keep K189 all0
      have CS189 : CHr Z consts_1 s.vm h188 s.vm T189.heap := CHr.keep K189 all0 CR188.1
      have Sf189_b188 := CHr.safe CS189 A188.lt Sf188_b188
      have CR189 := CHr.trans CR188 CS189
      have Sf189_b189 : Safe Z consts_1 s.vm T189.heap b189 := Safe.keep K189 all0 CR188.1 (Safe.new zb189)
      refine OWH.st (B := T189.setTop (mkF m 60 #[.val (.int n1), .val (.int n2), .val (.int n3), .val (.int n4), .val (.int n5), .val (.int n6), .val (.int (4 : Int32)), .val (.int u141), .val (.int u142), .val (.int u143), .val (.int u144), .val (.int u145), .unset, .unset, .unset, .unset, .unset, .unset] [(.ref b189), (.ref b188), (.ref b188)])) (fun _ kk_ => st189 _ kk_) ?_
      obtain ⟨_, _, ⟨T190, L190, k190, n190⟩, -, X190, ⟨Lc190, hQ190, l190, y190, z190⟩, st190⟩ := X189.specialBack hx (y := (⟨"java/lang/String", "<init>", "([C)V"⟩ : MethodName)) rfl hown (mvT hZ (w_13 hw)) (mvT hZ (w_14 hw)) (mvT hZ (w_15 hw)) (by decide) (backOf (W := 1) (rmS00 l Z a0 hw [] b188 b189 kb189 (4 : Int32) [u141, u142, u143, u144] i_COMPACT_STRINGS v_SIOOBE_FORMATTER T189.heap n0 O189 (A188.keep K189) (F188_25.keep K189 nin0) (F188_26.keep K189 nin0) n_b188 Vb189 rfl (Nat.le_of_ble_eq_true rfl) (Nat.zero_lt_succ _) (OwnChs.cons hn141 (OwnChs.cons hn142 (OwnChs.cons hn143 (OwnChs.cons hn144 OwnChs.nil)))) (OwnLat.cons hl180_0 (OwnLat.cons hl180_1 (OwnLat.cons hl180_2 (OwnLat.cons hl180_3 OwnLat.nil)))) hS) hZ (w_15 hw) (w_8 hw) (by decide) (by decide)) (g := (mkF m 60 #[.val (.int n1), .val (.int n2), .val (.int n3), .val (.int n4), .val (.int n5), .val (.int n6), .val (.int (4 : Int32)), .val (.int u141), .val (.int u142), .val (.int u143), .val (.int u144), .val (.int u145), .unset, .unset, .unset, .unset, .unset, .unset] [(.ref b189), (.ref b188), (.ref b188)])) rfl (by rw [hml]; rfl) (Steps.refl _) (a := b188) (argsL := [(.ref b189)]) (rest := [(.ref b188)]) (lenOf pd_17 rfl) rfl (by show 2 * 0 + _ ≤ _; exact Nat.le_of_eq rfl) (hb hby at_60) (fun _ _ => ⟨rfl, rfl, (by decide : 2 + 1 ≤ _), (by decide : 8 + 10 ≤ _)⟩)
      dsimp only [Pt.U, Pt.locs, Pt.cells, Pt.slots] at X190 l190 y190 z190 st190 hQ190
      subst l190 y190 z190
      obtain ⟨rfl, Nq190, K190, Es190, ba190, kb190, gba190, nba190, Fc190, Fv190, Vs190⟩ := hQ190
      have N190 := Fr.app N189 Nq190
      have O190 : Old Z n0 T190.heap := O189.keep K190 (allS n_b188 all0)
      have CS190 : CHr Z consts_1 s.vm T189.heap s.vm T190.heap := CHr.keep K190 (allS Sf189_b188 all0) CR189.1
      have Sf190_b188 := CHr.safe CS190 (A188.keep K189).lt Sf189_b188
      have Sf190_b189 := CHr.safe CS190 Vb189.lt Sf189_b189
      have CR190 := CHr.trans CR189 CS190
      refine OWH.tr (B := T190.setTop (mkF m 63 #[.val (.int n1), .val (.int n2), .val (.int n3), .val (.int n4), .val (.int n5), .val (.int n6), .val (.int (4 : Int32)), .val (.int u141), .val (.int u142), .val (.int u143), .val (.int u144), .val (.int u145), .unset, .unset, .unset, .unset, .unset, .unset] [(.ref b188)])) (st190) ?_
      refine OWH.st (B := T190.setTop (mkF m 67 #[.val (.int n1), .val (.int n2), .val (.int n3), .val (.int n4), .val (.int n5), .val (.int n6), .val (.int (4 : Int32)), .val (.int u141), .val (.int u142), .val (.int u143), .val (.int u144), .val (.int u145), .val (.ref b188), .unset, .unset, .unset, .unset, .unset] [(.ref b188)])) (fun _ kk_ => XS.astore X190.here hx rfl (hb hby at_63) rfl rfl (l' := #[.val (.int n1), .val (.int n2), .val (.int n3), .val (.int n4), .val (.int n5), .val (.int n6), .val (.int (4 : Int32)), .val (.int u141), .val (.int u142), .val (.int u143), .val (.int u144), .val (.int u145), .val (.ref b188), .unset, .unset, .unset, .unset, .unset]) rfl (XS.aload X190.here hx rfl (hb hby at_65) rfl rfl kk_)) ?_
      obtain ⟨_, _, ⟨T191, L191, k191, n191⟩, -, X191, ⟨Lc191, hQ191, l191, y191, z191⟩, st191⟩ := Jvm.LawKit.callS X190 hx (y := (⟨"com/example/cartulary/cartulary/entity/Footprint", "of", "(Ljava/lang/String;)J"⟩ : MethodName)) hown (mvT hZ (w_31 hw)) (mvT hZ (w_32 hw)) (mvT hZ (w_33 hw)) (mvT hZ (w_34 hw)) (by decide) (backOf (W := 0) (rmOF0 l Z a0 hw [] b188 ba190 kb190 (4 : Int32) [u141, u142, u143, u144] (4 : Int32) i_COMPACT_STRINGS v_SIOOBE_FORMATTER T190.heap n0 O190 ((A188.keep K189).keep K190) Fv190 Fc190 Vs190 rfl (by decide) rfl (Nat.le_of_ble_eq_true rfl) (OwnChs.cons hn141 (OwnChs.cons hn142 (OwnChs.cons hn143 (OwnChs.cons hn144 OwnChs.nil)))) (OwnLat.cons hl180_0 (OwnLat.cons hl180_1 (OwnLat.cons hl180_2 (OwnLat.cons hl180_3 OwnLat.nil)))) hS) hZ (w_34 hw) (w_33 hw) (by decide) (by decide)) (g := (mkF m 67 #[.val (.int n1), .val (.int n2), .val (.int n3), .val (.int n4), .val (.int n5), .val (.int n6), .val (.int (4 : Int32)), .val (.int u141), .val (.int u142), .val (.int u143), .val (.int u144), .val (.int u145), .val (.ref b188), .unset, .unset, .unset, .unset, .unset] [(.ref b188)])) rfl (by rw [hml]; rfl) (argsL := [(.ref b188)]) (rest := []) (lenOf pd_18 rfl) rfl (by show 2 * 0 + _ ≤ _; exact Nat.le_of_eq rfl) (hb hby at_67) (fun _ _ => ⟨rfl, rfl, (by decide : 3 + 0 ≤ _), (by decide : 18 + 0 ≤ _)⟩)
      dsimp only [Pt.U, Pt.locs, Pt.cells, Pt.slots] at X191 l191 y191 z191 st191 hQ191
      subst l191 y191 z191
      obtain ⟨rfl, Nq191, e191⟩ := hQ191
      have N191 := Fr.app N190 Nq191
      refine OWH.st (B := T191.setTop (mkF m 89 #[.val (.int n1), .val (.int n2), .val (.int n3), .val (.int n4), .val (.int n5), .val (.int n6), .val (.int (4 : Int32)), .val (.int u141), .val (.int u142), .val (.int u143), .val (.int u144), .val (.int u145), .val (.ref b188), .val (.long ((40 : Int64) + ((1 : Int64) * ((4 : Int32).toInt64)))), .second, .unset, .unset, .unset] [(.int (2 : Int32)), (.int (4 : Int32))])) (fun _ kk_ => st191 _ (XS.lstore X191.here hx rfl (hb hby at_70) rfl (l' := #[.val (.int n1), .val (.int n2), .val (.int n3), .val (.int n4), .val (.int n5), .val (.int n6), .val (.int (4 : Int32)), .val (.int u141), .val (.int u142), .val (.int u143), .val (.int u144), .val (.int u145), .val (.ref b188), .val (.long ((40 : Int64) + ((1 : Int64) * ((4 : Int32).toInt64)))), .second, .unset, .unset, .unset]) rfl (XS.iload X191.here hx rfl (hb hby at_72) rfl (XS.iconst X191.here hx rfl (hb hby at_74) (XS.icmpNo X191.here hx rfl (hb hby at_75) rfl (flt (by decide)).1 (XS.iload X191.here hx rfl (hb hby at_78) rfl (XS.sipush X191.here hx rfl (hb hby at_80) (XS.icmpNo X191.here hx rfl (hb hby at_83) rfl (flt hl180_0).2.2.1 (XS.iload X191.here hx rfl (hb hby at_86) rfl (XS.iconst X191.here hx rfl (hb hby at_88) kk_)))))))))) ?_
      refine OWH.st (B := T191.setTop (mkF m 114 #[.val (.int n1), .val (.int n2), .val (.int n3), .val (.int n4), .val (.int n5), .val (.int n6), .val (.int (4 : Int32)), .val (.int u141), .val (.int u142), .val (.int u143), .val (.int u144), .val (.int u145), .val (.ref b188), .val (.long ((40 : Int64) + ((1 : Int64) * ((4 : Int32).toInt64)))), .second, .unset, .unset, .unset] [])) (fun _ kk_ => XS.icmpNo X191.here hx rfl (hb hby at_89) rfl (flt (by decide)).1 (XS.iload X191.here hx rfl (hb hby at_92) rfl (XS.sipush X191.here hx rfl (hb hby at_94) (XS.icmpNo X191.here hx rfl (hb hby at_97) rfl (flt hl180_1).2.2.1 (XS.iload X191.here hx rfl (hb hby at_100) rfl (XS.iconst X191.here hx rfl (hb hby at_102) (XS.icmpNo X191.here hx rfl (hb hby at_103) rfl (flt (by decide)).1 (XS.iload X191.here hx rfl (hb hby at_106) rfl (XS.sipush X191.here hx rfl (hb hby at_108) (XS.icmpNo X191.here hx rfl (hb hby at_111) rfl (flt hl180_2).2.2.1 kk_)))))))))) ?_
      refine OWH.st (B := T191.setTop (mkF m 143 #[.val (.int n1), .val (.int n2), .val (.int n3), .val (.int n4), .val (.int n5), .val (.int n6), .val (.int (4 : Int32)), .val (.int u141), .val (.int u142), .val (.int u143), .val (.int u144), .val (.int u145), .val (.ref b188), .val (.long ((40 : Int64) + ((1 : Int64) * ((4 : Int32).toInt64)))), .second, .unset, .unset, .unset] [(.int (1 : Int32))])) (fun _ kk_ => XS.iload X191.here hx rfl (hb hby at_114) rfl (XS.iconst X191.here hx rfl (hb hby at_116) (XS.icmpNo X191.here hx rfl (hb hby at_117) rfl (flt (by decide)).1 (XS.iload X191.here hx rfl (hb hby at_120) rfl (XS.sipush X191.here hx rfl (hb hby at_122) (XS.icmpNo X191.here hx rfl (hb hby at_125) rfl (flt hl180_3).2.2.1 (XS.iload X191.here hx rfl (hb hby at_128) rfl (XS.iconst X191.here hx rfl (hb hby at_130) (XS.icmpYes X191.here hx rfl (pc0 := 131) (pc' := 142) rfl (hb hby at_131) rfl (tlt (by decide)).1 (by decide) (by decide) (XS.iconst X191.here hx rfl (hb hby at_142) kk_)))))))))) ?_
      refine OWH.st (B := T191.setTop (mkF m 168 #[.val (.int n1), .val (.int n2), .val (.int n3), .val (.int n4), .val (.int n5), .val (.int n6), .val (.int (4 : Int32)), .val (.int u141), .val (.int u142), .val (.int u143), .val (.int u144), .val (.int u145), .val (.ref b188), .val (.long ((40 : Int64) + ((1 : Int64) * ((4 : Int32).toInt64)))), .second, .val (.int (1 : Int32)), .unset, .unset] [(.long ((1 : Int64) * ((4 : Int32).toInt64))), (.long (40 : Int64))])) (fun _ kk_ => XS.goto X191.here hx rfl (pc0 := 143) (pc' := 147) rfl (hb hby at_143) (by decide) (by decide) (XS.istore X191.here hx rfl (hb hby at_147) rfl (l' := #[.val (.int n1), .val (.int n2), .val (.int n3), .val (.int n4), .val (.int n5), .val (.int n6), .val (.int (4 : Int32)), .val (.int u141), .val (.int u142), .val (.int u143), .val (.int u144), .val (.int u145), .val (.ref b188), .val (.long ((40 : Int64) + ((1 : Int64) * ((4 : Int32).toInt64)))), .second, .val (.int (1 : Int32)), .unset, .unset]) rfl ((X191.ldc2Long hx hown (mvT hZ (w_47 hw)) (g := (mkF m 149 #[.val (.int n1), .val (.int n2), .val (.int n3), .val (.int n4), .val (.int n5), .val (.int n6), .val (.int (4 : Int32)), .val (.int u141), .val (.int u142), .val (.int u143), .val (.int u144), .val (.int u145), .val (.ref b188), .val (.long ((40 : Int64) + ((1 : Int64) * ((4 : Int32).toInt64)))), .second, .val (.int (1 : Int32)), .unset, .unset] [])) rfl (hb hby at_149)) _ (XS.iload X191.here hx rfl (hb hby at_152) rfl (XS.ifNo X191.here hx rfl (hb hby at_154) rfl ((if0 _ _).trans (feq (by decide)).1) (XS.lconst X191.here hx rfl (hb hby at_157) (XS.goto X191.here hx rfl (pc0 := 158) (pc' := 164) rfl (hb hby at_158) (by decide) (by decide) (XS.iload X191.here hx rfl (hb hby at_164) rfl (XS.i2l X191.here hx rfl (hb hby at_166) rfl (XS.lmul X191.here hx rfl (hb hby at_167) rfl kk_)))))))))) ?_
      refine OWH.st (B := T191.setTop (mkF m 184 #[.val (.int n1), .val (.int n2), .val (.int n3), .val (.int n4), .val (.int n5), .val (.int n6), .val (.int (4 : Int32)), .val (.int u141), .val (.int u142), .val (.int u143), .val (.int u144), .val (.int u145), .val (.ref b188), .val (.long ((40 : Int64) + ((1 : Int64) * ((4 : Int32).toInt64)))), .second, .val (.int (1 : Int32)), .val (.long ((40 : Int64) + ((1 : Int64) * ((4 : Int32).toInt64)))), .second] [(.int (1 : Int32))])) (fun _ kk_ => XS.ladd X191.here hx rfl (hb hby at_168) rfl (XS.lstore X191.here hx rfl (hb hby at_169) rfl (l' := #[.val (.int n1), .val (.int n2), .val (.int n3), .val (.int n4), .val (.int n5), .val (.int n6), .val (.int (4 : Int32)), .val (.int u141), .val (.int u142), .val (.int u143), .val (.int u144), .val (.int u145), .val (.ref b188), .val (.long ((40 : Int64) + ((1 : Int64) * ((4 : Int32).toInt64)))), .second, .val (.int (1 : Int32)), .val (.long ((40 : Int64) + ((1 : Int64) * ((4 : Int32).toInt64)))), .second]) rfl (XS.lload X191.here hx rfl (hb hby at_171) rfl (XS.lload X191.here hx rfl (hb hby at_173) rfl (XS.lcmp X191.here hx rfl (hb hby at_175) rfl (XS.ifNo X191.here hx rfl (hb hby at_176) rfl ((if0 _ _).trans (teq (by decide +kernel)).2) (XS.iconst X191.here hx rfl (hb hby at_179) (XS.goto X191.here hx rfl (pc0 := 180) (pc' := 184) rfl (hb hby at_180) (by decide) (by decide) kk_)))))))) ?_
      exact OWH.ret X191 (s := s) (vm0 := s.vm) hS0 (Nat.le_trans (Nat.le_trans (Nat.le_trans hk0 E188.1) K189.1) K190.1) hx hlk CR190 hZ (own_EW hw) (i := .ireturn) Bd.returns rfl (Or.inl ⟨rfl, Or.inr (Or.inl rfl), _, rfl⟩) (hb hby at_184) e191 (by decide) (by decide) ⟨rfl, N191⟩
  · rcases own_lu5 u141 u142 u143 u144 u145 with hu192 | ⟨hl192_0, hl192_1, hl192_2, hl192_3, hl192_4⟩
    · obtain ⟨T193, h193, X193, e193, E193, A193, D193, -, st193⟩ := newO X145 hx hZ hown (w_6 hw) (w_7 hw) (w_8 hw) e145 (g := (mkF m 41 #[.val (.int n1), .val (.int n2), .val (.int n3), .val (.int n4), .val (.int n5), .val (.int n6), .val (.int (5 : Int32)), .val (.int u141), .val (.int u142), .val (.int u143), .val (.int u144), .val (.int u145), .unset, .unset, .unset, .unset, .unset, .unset] [])) rfl (hb hby at_41) (by decide) (by decide)
      obtain ⟨b193, g193⟩ : ∃ z, z = h0.size := ⟨_, rfl⟩
      rw [← g193] at A193 D193 st193
      have n_b193 : n0 ≤ b193 := Nat.le_trans (own_oldle O0) (Nat.le_of_eq g193.symm)
      have O193 : Old Z n0 h193 := O0.ext E193
      have CS193 : CHr Z consts_1 s.vm h0 s.vm h193 := CHr.ext E193 CR0.1
      have CR193 := CHr.trans CR0 CS193
      have Sf193_b193 : Safe Z consts_1 s.vm h193 b193 := Safe.ext E193 CR0.1 (Safe.new (Nat.le_of_eq g193.symm))
      have F193_25 : Fld Z h193 b193 "java/lang/String" "value" "[B" .null := D193 (Or.inr (w_25 hw)) (ty := (.array .byte)) (by decide)
      have F193_26 : Fld Z h193 b193 "java/lang/String" "coder" "B" (.int (0 : Int32)) := D193 (Or.inr (w_26 hw)) (ty := .byte) (by decide)
      refine OWH.st (B := T193.setTop (mkF m 57 #[.val (.int n1), .val (.int n2), .val (.int n3), .val (.int n4), .val (.int n5), .val (.int n6), .val (.int (5 : Int32)), .val (.int u141), .val (.int u142), .val (.int u143), .val (.int u144), .val (.int u145), .unset, .unset, .unset, .unset, .unset, .unset] [(.int u145), (.int u144), (.int u143), (.int u142), (.int u141), (.int (5 : Int32)), (.ref b193), (.ref b193)])) (fun _ kk_ => st193 _ (XS.dup X193.here hx rfl (hb hby at_44) rfl rfl (XS.iload X193.here hx rfl (hb hby at_45) rfl (XS.iload X193.here hx rfl (hb hby at_47) rfl (XS.iload X193.here hx rfl (hb hby at_49) rfl (XS.iload X193.here hx rfl (hb hby at_51) rfl (XS.iload X193.here hx rfl (hb hby at_53) rfl (XS.iload X193.here hx rfl (hb hby at_55) rfl kk_)))))))) ?_
      obtain ⟨_, _, ⟨T194, L194, k194, n194⟩, -, X194, ⟨Lc194, hQ194, l194, y194, z194⟩, st194⟩ := Jvm.LawKit.callS X193 hx (y := (⟨"com/example/cartulary/cartulary/entity/FootprintOfPinLaw", "chars", "(ICCCCC)[C"⟩ : MethodName)) hown (mvT hZ (w_9 hw)) (mvT hZ (w_10 hw)) (mvT hZ (w_3 hw)) (mvT hZ (w_11 hw)) (by decide) (backOf (W := 2) (rmCR5 l Z a0 hw [] u141 u142 u143 u144 u145 h193 n0 O193 hn141 hn142 hn143 hn144 hn145) hZ (w_11 hw) (w_3 hw) (by decide) (by decide)) (g := (mkF m 57 #[.val (.int n1), .val (.int n2), .val (.int n3), .val (.int n4), .val (.int n5), .val (.int n6), .val (.int (5 : Int32)), .val (.int u141), .val (.int u142), .val (.int u143), .val (.int u144), .val (.int u145), .unset, .unset, .unset, .unset, .unset, .unset] [(.int u145), (.int u144), (.int u143), (.int u142), (.int u141), (.int (5 : Int32)), (.ref b193), (.ref b193)])) rfl (by rw [hml]; rfl) (argsL := [(.int (5 : Int32)), (.int u141), (.int u142), (.int u143), (.int u144), (.int u145)]) (rest := [(.ref b193), (.ref b193)]) (lenOf pd_16 rfl) rfl (by show 2 * 0 + _ ≤ _; exact Nat.le_of_eq rfl) (hb hby at_57) (fun _ _ => ⟨rfl, e193, (by decide : 1 + 1 ≤ _), (by decide : 4 + 5 ≤ _)⟩)
      dsimp only [Pt.U, Pt.locs, Pt.cells, Pt.slots] at X194 l194 y194 z194 st194 hQ194
      subst l194 y194 z194
      obtain ⟨b194, kb194, rfl, Nq194, K194, gb194, zb194, Vb194⟩ := hQ194
      have N194 := Fr.app N145 Nq194
      have O194 : Old Z n0 T194.heap := O193.keep K194 all0
      have CS194 : CHr Z consts_1 s.vm h193 s.vm T194.heap := CHr.keep K194 all0 CR193.1
      have Sf194_b193 := CHr.safe CS194 A193.lt Sf193_b193
      have CR194 := CHr.trans CR193 CS194
      have Sf194_b194 : Safe Z consts_1 s.vm T194.heap b194 := Safe.keep K194 all0 CR193.1 (Safe.new zb194)
      refine OWH.st (B := T194.setTop (mkF m 60 #[.val (.int n1), .val (.int n2), .val (.int n3), .val (.int n4), .val (.int n5), .val (.int n6), .val (.int (5 : Int32)), .val (.int u141), .val (.int u142), .val (.int u143), .val (.int u144), .val (.int u145), .unset, .unset, .unset, .unset, .unset, .unset] [(.ref b194), (.ref b193), (.ref b193)])) (fun _ kk_ => st194 _ kk_) ?_
      obtain ⟨_, _, ⟨T195, L195, k195, n195⟩, -, X195, ⟨Lc195, hQ195, l195, y195, z195⟩, st195⟩ := X194.specialBack hx (y := (⟨"java/lang/String", "<init>", "([C)V"⟩ : MethodName)) rfl hown (mvT hZ (w_13 hw)) (mvT hZ (w_14 hw)) (mvT hZ (w_15 hw)) (by decide) (backOf (W := 1) (rmS01 l Z a0 hw [] b193 b194 kb194 (5 : Int32) [u141, u142, u143, u144, u145] i_COMPACT_STRINGS v_SIOOBE_FORMATTER T194.heap n0 O194 (A193.keep K194) (F193_25.keep K194 nin0) (F193_26.keep K194 nin0) n_b193 Vb194 rfl (Nat.le_of_ble_eq_true rfl) (Nat.zero_lt_succ _) (OwnChs.cons hn141 (OwnChs.cons hn142 (OwnChs.cons hn143 (OwnChs.cons hn144 (OwnChs.cons hn145 OwnChs.nil))))) (hu192.elim OwnHi.here (fun q0 => OwnHi.there (q0.elim OwnHi.here (fun q1 => OwnHi.there (q1.elim OwnHi.here (fun q2 => OwnHi.there (q2.elim OwnHi.here (fun q3 => OwnHi.there (OwnHi.here q3))))))))) hS) hZ (w_15 hw) (w_8 hw) (by decide) (by decide)) (g := (mkF m 60 #[.val (.int n1), .val (.int n2), .val (.int n3), .val (.int n4), .val (.int n5), .val (.int n6), .val (.int (5 : Int32)), .val (.int u141), .val (.int u142), .val (.int u143), .val (.int u144), .val (.int u145), .unset, .unset, .unset, .unset, .unset, .unset] [(.ref b194), (.ref b193), (.ref b193)])) rfl (by rw [hml]; rfl) (Steps.refl _) (a := b193) (argsL := [(.ref b194)]) (rest := [(.ref b193)]) (lenOf pd_17 rfl) rfl (by show 2 * 0 + _ ≤ _; exact Nat.le_of_eq rfl) (hb hby at_60) (fun _ _ => ⟨rfl, rfl, (by decide : 2 + 2 ≤ _), (by decide : 9 + 30 ≤ _)⟩)
      dsimp only [Pt.U, Pt.locs, Pt.cells, Pt.slots] at X195 l195 y195 z195 st195 hQ195
      subst l195 y195 z195
      obtain ⟨rfl, Nq195, K195, Es195, ba195, kb195, gba195, nba195, Fc195, Fv195, Vs195⟩ := hQ195
      have N195 := Fr.app N194 Nq195
      have O195 : Old Z n0 T195.heap := O194.keep K195 (allS n_b193 all0)
      have CS195 : CHr Z consts_1 s.vm T194.heap s.vm T195.heap := CHr.keep K195 (allS Sf194_b193 all0) CR194.1
      have Sf195_b193 := CHr.safe CS195 (A193.keep K194).lt Sf194_b193
      have Sf195_b194 := CHr.safe CS195 Vb194.lt Sf194_b194
      have CR195 := CHr.trans CR194 CS195
      refine OWH.tr (B := T195.setTop (mkF m 63 #[.val (.int n1), .val (.int n2), .val (.int n3), .val (.int n4), .val (.int n5), .val (.int n6), .val (.int (5 : Int32)), .val (.int u141), .val (.int u142), .val (.int u143), .val (.int u144), .val (.int u145), .unset, .unset, .unset, .unset, .unset, .unset] [(.ref b193)])) (st195) ?_
      refine OWH.st (B := T195.setTop (mkF m 67 #[.val (.int n1), .val (.int n2), .val (.int n3), .val (.int n4), .val (.int n5), .val (.int n6), .val (.int (5 : Int32)), .val (.int u141), .val (.int u142), .val (.int u143), .val (.int u144), .val (.int u145), .val (.ref b193), .unset, .unset, .unset, .unset, .unset] [(.ref b193)])) (fun _ kk_ => XS.astore X195.here hx rfl (hb hby at_63) rfl rfl (l' := #[.val (.int n1), .val (.int n2), .val (.int n3), .val (.int n4), .val (.int n5), .val (.int n6), .val (.int (5 : Int32)), .val (.int u141), .val (.int u142), .val (.int u143), .val (.int u144), .val (.int u145), .val (.ref b193), .unset, .unset, .unset, .unset, .unset]) rfl (XS.aload X195.here hx rfl (hb hby at_65) rfl rfl kk_)) ?_
      obtain ⟨_, _, ⟨T196, L196, k196, n196⟩, -, X196, ⟨Lc196, hQ196, l196, y196, z196⟩, st196⟩ := Jvm.LawKit.callS X195 hx (y := (⟨"com/example/cartulary/cartulary/entity/Footprint", "of", "(Ljava/lang/String;)J"⟩ : MethodName)) hown (mvT hZ (w_31 hw)) (mvT hZ (w_32 hw)) (mvT hZ (w_33 hw)) (mvT hZ (w_34 hw)) (by decide) (backOf (W := 0) (rmOF1 l Z a0 hw [] b193 ba195 kb195 (10 : Int32) [u141, u142, u143, u144, u145] (5 : Int32) i_COMPACT_STRINGS v_SIOOBE_FORMATTER T195.heap n0 O195 ((A193.keep K194).keep K195) Fv195 Fc195 Vs195 rfl (by decide) rfl (Nat.le_of_ble_eq_true rfl) (OwnChs.cons hn141 (OwnChs.cons hn142 (OwnChs.cons hn143 (OwnChs.cons hn144 (OwnChs.cons hn145 OwnChs.nil))))) (hu192.elim OwnHi.here (fun q0 => OwnHi.there (q0.elim OwnHi.here (fun q1 => OwnHi.there (q1.elim OwnHi.here (fun q2 => OwnHi.there (q2.elim OwnHi.here (fun q3 => OwnHi.there (OwnHi.here q3))))))))) hS) hZ (w_34 hw) (w_33 hw) (by decide) (by decide)) (g := (mkF m 67 #[.val (.int n1), .val (.int n2), .val (.int n3), .val (.int n4), .val (.int n5), .val (.int n6), .val (.int (5 : Int32)), .val (.int u141), .val (.int u142), .val (.int u143), .val (.int u144), .val (.int u145), .val (.ref b193), .unset, .unset, .unset, .unset, .unset] [(.ref b193)])) rfl (by rw [hml]; rfl) (argsL := [(.ref b193)]) (rest := []) (lenOf pd_18 rfl) rfl (by show 2 * 0 + _ ≤ _; exact Nat.le_of_eq rfl) (hb hby at_67) (fun _ _ => ⟨rfl, rfl, (by decide : 4 + 0 ≤ _), (by decide : 39 + 0 ≤ _)⟩)
      dsimp only [Pt.U, Pt.locs, Pt.cells, Pt.slots] at X196 l196 y196 z196 st196 hQ196
      subst l196 y196 z196
      obtain ⟨rfl, Nq196, e196⟩ := hQ196
      have N196 := Fr.app N195 Nq196
      refine OWH.st (B := T196.setTop (mkF m 83 #[.val (.int n1), .val (.int n2), .val (.int n3), .val (.int n4), .val (.int n5), .val (.int n6), .val (.int (5 : Int32)), .val (.int u141), .val (.int u142), .val (.int u143), .val (.int u144), .val (.int u145), .val (.ref b193), .val (.long ((40 : Int64) + ((2 : Int64) * ((5 : Int32).toInt64)))), .second, .unset, .unset, .unset] [(.int (255 : Int32)), (.int u141)])) (fun _ kk_ => st196 _ (XS.lstore X196.here hx rfl (hb hby at_70) rfl (l' := #[.val (.int n1), .val (.int n2), .val (.int n3), .val (.int n4), .val (.int n5), .val (.int n6), .val (.int (5 : Int32)), .val (.int u141), .val (.int u142), .val (.int u143), .val (.int u144), .val (.int u145), .val (.ref b193), .val (.long ((40 : Int64) + ((2 : Int64) * ((5 : Int32).toInt64)))), .second, .unset, .unset, .unset]) rfl (XS.iload X196.here hx rfl (hb hby at_72) rfl (XS.iconst X196.here hx rfl (hb hby at_74) (XS.icmpNo X196.here hx rfl (hb hby at_75) rfl (flt (by decide)).1 (XS.iload X196.here hx rfl (hb hby at_78) rfl (XS.sipush X196.here hx rfl (hb hby at_80) kk_))))))) ?_
      by_cases hc197 : (255 : Int32) < u141
      · refine OWH.st (B := T196.setTop (mkF m 168 #[.val (.int n1), .val (.int n2), .val (.int n3), .val (.int n4), .val (.int n5), .val (.int n6), .val (.int (5 : Int32)), .val (.int u141), .val (.int u142), .val (.int u143), .val (.int u144), .val (.int u145), .val (.ref b193), .val (.long ((40 : Int64) + ((2 : Int64) * ((5 : Int32).toInt64)))), .second, .val (.int (0 : Int32)), .unset, .unset] [(.long ((2 : Int64) * ((5 : Int32).toInt64))), (.long (40 : Int64))])) (fun _ kk_ => XS.icmpYes X196.here hx rfl (pc0 := 83) (pc' := 146) rfl (hb hby at_83) rfl (tlt hc197).2.2.1 (by decide) (by decide) (XS.iconst X196.here hx rfl (hb hby at_146) (XS.istore X196.here hx rfl (hb hby at_147) rfl (l' := #[.val (.int n1), .val (.int n2), .val (.int n3), .val (.int n4), .val (.int n5), .val (.int n6), .val (.int (5 : Int32)), .val (.int u141), .val (.int u142), .val (.int u143), .val (.int u144), .val (.int u145), .val (.ref b193), .val (.long ((40 : Int64) + ((2 : Int64) * ((5 : Int32).toInt64)))), .second, .val (.int (0 : Int32)), .unset, .unset]) rfl ((X196.ldc2Long hx hown (mvT hZ (w_47 hw)) (g := (mkF m 149 #[.val (.int n1), .val (.int n2), .val (.int n3), .val (.int n4), .val (.int n5), .val (.int n6), .val (.int (5 : Int32)), .val (.int u141), .val (.int u142), .val (.int u143), .val (.int u144), .val (.int u145), .val (.ref b193), .val (.long ((40 : Int64) + ((2 : Int64) * ((5 : Int32).toInt64)))), .second, .val (.int (0 : Int32)), .unset, .unset] [])) rfl (hb hby at_149)) _ (XS.iload X196.here hx rfl (hb hby at_152) rfl (XS.ifYes X196.here hx rfl (pc0 := 154) (pc' := 161) rfl (hb hby at_154) rfl ((if0 _ _).trans (teq (by decide)).1) (by decide) (by decide) ((X196.ldc2Long hx hown (mvT hZ (w_110 hw)) (g := (mkF m 161 #[.val (.int n1), .val (.int n2), .val (.int n3), .val (.int n4), .val (.int n5), .val (.int n6), .val (.int (5 : Int32)), .val (.int u141), .val (.int u142), .val (.int u143), .val (.int u144), .val (.int u145), .val (.ref b193), .val (.long ((40 : Int64) + ((2 : Int64) * ((5 : Int32).toInt64)))), .second, .val (.int (0 : Int32)), .unset, .unset] [(.long (40 : Int64))])) rfl (hb hby at_161)) _ (XS.iload X196.here hx rfl (hb hby at_164) rfl (XS.i2l X196.here hx rfl (hb hby at_166) rfl (XS.lmul X196.here hx rfl (hb hby at_167) rfl kk_)))))))))) ?_
        refine OWH.st (B := T196.setTop (mkF m 184 #[.val (.int n1), .val (.int n2), .val (.int n3), .val (.int n4), .val (.int n5), .val (.int n6), .val (.int (5 : Int32)), .val (.int u141), .val (.int u142), .val (.int u143), .val (.int u144), .val (.int u145), .val (.ref b193), .val (.long ((40 : Int64) + ((2 : Int64) * ((5 : Int32).toInt64)))), .second, .val (.int (0 : Int32)), .val (.long ((40 : Int64) + ((2 : Int64) * ((5 : Int32).toInt64)))), .second] [(.int (1 : Int32))])) (fun _ kk_ => XS.ladd X196.here hx rfl (hb hby at_168) rfl (XS.lstore X196.here hx rfl (hb hby at_169) rfl (l' := #[.val (.int n1), .val (.int n2), .val (.int n3), .val (.int n4), .val (.int n5), .val (.int n6), .val (.int (5 : Int32)), .val (.int u141), .val (.int u142), .val (.int u143), .val (.int u144), .val (.int u145), .val (.ref b193), .val (.long ((40 : Int64) + ((2 : Int64) * ((5 : Int32).toInt64)))), .second, .val (.int (0 : Int32)), .val (.long ((40 : Int64) + ((2 : Int64) * ((5 : Int32).toInt64)))), .second]) rfl (XS.lload X196.here hx rfl (hb hby at_171) rfl (XS.lload X196.here hx rfl (hb hby at_173) rfl (XS.lcmp X196.here hx rfl (hb hby at_175) rfl (XS.ifNo X196.here hx rfl (hb hby at_176) rfl ((if0 _ _).trans (teq (by decide +kernel)).2) (XS.iconst X196.here hx rfl (hb hby at_179) (XS.goto X196.here hx rfl (pc0 := 180) (pc' := 184) rfl (hb hby at_180) (by decide) (by decide) kk_)))))))) ?_
        exact OWH.ret X196 (s := s) (vm0 := s.vm) hS0 (Nat.le_trans (Nat.le_trans (Nat.le_trans hk0 E193.1) K194.1) K195.1) hx hlk CR195 hZ (own_EW hw) (i := .ireturn) Bd.returns rfl (Or.inl ⟨rfl, Or.inr (Or.inl rfl), _, rfl⟩) (hb hby at_184) e196 (by decide) (by decide) ⟨rfl, N196⟩
      · refine OWH.st (B := T196.setTop (mkF m 97 #[.val (.int n1), .val (.int n2), .val (.int n3), .val (.int n4), .val (.int n5), .val (.int n6), .val (.int (5 : Int32)), .val (.int u141), .val (.int u142), .val (.int u143), .val (.int u144), .val (.int u145), .val (.ref b193), .val (.long ((40 : Int64) + ((2 : Int64) * ((5 : Int32).toInt64)))), .second, .unset, .unset, .unset] [(.int (255 : Int32)), (.int u142)])) (fun _ kk_ => XS.icmpNo X196.here hx rfl (hb hby at_83) rfl (flt hc197).2.2.1 (XS.iload X196.here hx rfl (hb hby at_86) rfl (XS.iconst X196.here hx rfl (hb hby at_88) (XS.icmpNo X196.here hx rfl (hb hby at_89) rfl (flt (by decide)).1 (XS.iload X196.here hx rfl (hb hby at_92) rfl (XS.sipush X196.here hx rfl (hb hby at_94) kk_)))))) ?_
        by_cases hc198 : (255 : Int32) < u142
        · refine OWH.st (B := T196.setTop (mkF m 168 #[.val (.int n1), .val (.int n2), .val (.int n3), .val (.int n4), .val (.int n5), .val (.int n6), .val (.int (5 : Int32)), .val (.int u141), .val (.int u142), .val (.int u143), .val (.int u144), .val (.int u145), .val (.ref b193), .val (.long ((40 : Int64) + ((2 : Int64) * ((5 : Int32).toInt64)))), .second, .val (.int (0 : Int32)), .unset, .unset] [(.long ((2 : Int64) * ((5 : Int32).toInt64))), (.long (40 : Int64))])) (fun _ kk_ => XS.icmpYes X196.here hx rfl (pc0 := 97) (pc' := 146) rfl (hb hby at_97) rfl (tlt hc198).2.2.1 (by decide) (by decide) (XS.iconst X196.here hx rfl (hb hby at_146) (XS.istore X196.here hx rfl (hb hby at_147) rfl (l' := #[.val (.int n1), .val (.int n2), .val (.int n3), .val (.int n4), .val (.int n5), .val (.int n6), .val (.int (5 : Int32)), .val (.int u141), .val (.int u142), .val (.int u143), .val (.int u144), .val (.int u145), .val (.ref b193), .val (.long ((40 : Int64) + ((2 : Int64) * ((5 : Int32).toInt64)))), .second, .val (.int (0 : Int32)), .unset, .unset]) rfl ((X196.ldc2Long hx hown (mvT hZ (w_47 hw)) (g := (mkF m 149 #[.val (.int n1), .val (.int n2), .val (.int n3), .val (.int n4), .val (.int n5), .val (.int n6), .val (.int (5 : Int32)), .val (.int u141), .val (.int u142), .val (.int u143), .val (.int u144), .val (.int u145), .val (.ref b193), .val (.long ((40 : Int64) + ((2 : Int64) * ((5 : Int32).toInt64)))), .second, .val (.int (0 : Int32)), .unset, .unset] [])) rfl (hb hby at_149)) _ (XS.iload X196.here hx rfl (hb hby at_152) rfl (XS.ifYes X196.here hx rfl (pc0 := 154) (pc' := 161) rfl (hb hby at_154) rfl ((if0 _ _).trans (teq (by decide)).1) (by decide) (by decide) ((X196.ldc2Long hx hown (mvT hZ (w_110 hw)) (g := (mkF m 161 #[.val (.int n1), .val (.int n2), .val (.int n3), .val (.int n4), .val (.int n5), .val (.int n6), .val (.int (5 : Int32)), .val (.int u141), .val (.int u142), .val (.int u143), .val (.int u144), .val (.int u145), .val (.ref b193), .val (.long ((40 : Int64) + ((2 : Int64) * ((5 : Int32).toInt64)))), .second, .val (.int (0 : Int32)), .unset, .unset] [(.long (40 : Int64))])) rfl (hb hby at_161)) _ (XS.iload X196.here hx rfl (hb hby at_164) rfl (XS.i2l X196.here hx rfl (hb hby at_166) rfl (XS.lmul X196.here hx rfl (hb hby at_167) rfl kk_)))))))))) ?_
          refine OWH.st (B := T196.setTop (mkF m 184 #[.val (.int n1), .val (.int n2), .val (.int n3), .val (.int n4), .val (.int n5), .val (.int n6), .val (.int (5 : Int32)), .val (.int u141), .val (.int u142), .val (.int u143), .val (.int u144), .val (.int u145), .val (.ref b193), .val (.long ((40 : Int64) + ((2 : Int64) * ((5 : Int32).toInt64)))), .second, .val (.int (0 : Int32)), .val (.long ((40 : Int64) + ((2 : Int64) * ((5 : Int32).toInt64)))), .second] [(.int (1 : Int32))])) (fun _ kk_ => XS.ladd X196.here hx rfl (hb hby at_168) rfl (XS.lstore X196.here hx rfl (hb hby at_169) rfl (l' := #[.val (.int n1), .val (.int n2), .val (.int n3), .val (.int n4), .val (.int n5), .val (.int n6), .val (.int (5 : Int32)), .val (.int u141), .val (.int u142), .val (.int u143), .val (.int u144), .val (.int u145), .val (.ref b193), .val (.long ((40 : Int64) + ((2 : Int64) * ((5 : Int32).toInt64)))), .second, .val (.int (0 : Int32)), .val (.long ((40 : Int64) + ((2 : Int64) * ((5 : Int32).toInt64)))), .second]) rfl (XS.lload X196.here hx rfl (hb hby at_171) rfl (XS.lload X196.here hx rfl (hb hby at_173) rfl (XS.lcmp X196.here hx rfl (hb hby at_175) rfl (XS.ifNo X196.here hx rfl (hb hby at_176) rfl ((if0 _ _).trans (teq (by decide +kernel)).2) (XS.iconst X196.here hx rfl (hb hby at_179) (XS.goto X196.here hx rfl (pc0 := 180) (pc' := 184) rfl (hb hby at_180) (by decide) (by decide) kk_)))))))) ?_
          exact OWH.ret X196 (s := s) (vm0 := s.vm) hS0 (Nat.le_trans (Nat.le_trans (Nat.le_trans hk0 E193.1) K194.1) K195.1) hx hlk CR195 hZ (own_EW hw) (i := .ireturn) Bd.returns rfl (Or.inl ⟨rfl, Or.inr (Or.inl rfl), _, rfl⟩) (hb hby at_184) e196 (by decide) (by decide) ⟨rfl, N196⟩
        · refine OWH.st (B := T196.setTop (mkF m 111 #[.val (.int n1), .val (.int n2), .val (.int n3), .val (.int n4), .val (.int n5), .val (.int n6), .val (.int (5 : Int32)), .val (.int u141), .val (.int u142), .val (.int u143), .val (.int u144), .val (.int u145), .val (.ref b193), .val (.long ((40 : Int64) + ((2 : Int64) * ((5 : Int32).toInt64)))), .second, .unset, .unset, .unset] [(.int (255 : Int32)), (.int u143)])) (fun _ kk_ => XS.icmpNo X196.here hx rfl (hb hby at_97) rfl (flt hc198).2.2.1 (XS.iload X196.here hx rfl (hb hby at_100) rfl (XS.iconst X196.here hx rfl (hb hby at_102) (XS.icmpNo X196.here hx rfl (hb hby at_103) rfl (flt (by decide)).1 (XS.iload X196.here hx rfl (hb hby at_106) rfl (XS.sipush X196.here hx rfl (hb hby at_108) kk_)))))) ?_
          by_cases hc199 : (255 : Int32) < u143
          · refine OWH.st (B := T196.setTop (mkF m 168 #[.val (.int n1), .val (.int n2), .val (.int n3), .val (.int n4), .val (.int n5), .val (.int n6), .val (.int (5 : Int32)), .val (.int u141), .val (.int u142), .val (.int u143), .val (.int u144), .val (.int u145), .val (.ref b193), .val (.long ((40 : Int64) + ((2 : Int64) * ((5 : Int32).toInt64)))), .second, .val (.int (0 : Int32)), .unset, .unset] [(.long ((2 : Int64) * ((5 : Int32).toInt64))), (.long (40 : Int64))])) (fun _ kk_ => XS.icmpYes X196.here hx rfl (pc0 := 111) (pc' := 146) rfl (hb hby at_111) rfl (tlt hc199).2.2.1 (by decide) (by decide) (XS.iconst X196.here hx rfl (hb hby at_146) (XS.istore X196.here hx rfl (hb hby at_147) rfl (l' := #[.val (.int n1), .val (.int n2), .val (.int n3), .val (.int n4), .val (.int n5), .val (.int n6), .val (.int (5 : Int32)), .val (.int u141), .val (.int u142), .val (.int u143), .val (.int u144), .val (.int u145), .val (.ref b193), .val (.long ((40 : Int64) + ((2 : Int64) * ((5 : Int32).toInt64)))), .second, .val (.int (0 : Int32)), .unset, .unset]) rfl ((X196.ldc2Long hx hown (mvT hZ (w_47 hw)) (g := (mkF m 149 #[.val (.int n1), .val (.int n2), .val (.int n3), .val (.int n4), .val (.int n5), .val (.int n6), .val (.int (5 : Int32)), .val (.int u141), .val (.int u142), .val (.int u143), .val (.int u144), .val (.int u145), .val (.ref b193), .val (.long ((40 : Int64) + ((2 : Int64) * ((5 : Int32).toInt64)))), .second, .val (.int (0 : Int32)), .unset, .unset] [])) rfl (hb hby at_149)) _ (XS.iload X196.here hx rfl (hb hby at_152) rfl (XS.ifYes X196.here hx rfl (pc0 := 154) (pc' := 161) rfl (hb hby at_154) rfl ((if0 _ _).trans (teq (by decide)).1) (by decide) (by decide) ((X196.ldc2Long hx hown (mvT hZ (w_110 hw)) (g := (mkF m 161 #[.val (.int n1), .val (.int n2), .val (.int n3), .val (.int n4), .val (.int n5), .val (.int n6), .val (.int (5 : Int32)), .val (.int u141), .val (.int u142), .val (.int u143), .val (.int u144), .val (.int u145), .val (.ref b193), .val (.long ((40 : Int64) + ((2 : Int64) * ((5 : Int32).toInt64)))), .second, .val (.int (0 : Int32)), .unset, .unset] [(.long (40 : Int64))])) rfl (hb hby at_161)) _ (XS.iload X196.here hx rfl (hb hby at_164) rfl (XS.i2l X196.here hx rfl (hb hby at_166) rfl (XS.lmul X196.here hx rfl (hb hby at_167) rfl kk_)))))))))) ?_
            refine OWH.st (B := T196.setTop (mkF m 184 #[.val (.int n1), .val (.int n2), .val (.int n3), .val (.int n4), .val (.int n5), .val (.int n6), .val (.int (5 : Int32)), .val (.int u141), .val (.int u142), .val (.int u143), .val (.int u144), .val (.int u145), .val (.ref b193), .val (.long ((40 : Int64) + ((2 : Int64) * ((5 : Int32).toInt64)))), .second, .val (.int (0 : Int32)), .val (.long ((40 : Int64) + ((2 : Int64) * ((5 : Int32).toInt64)))), .second] [(.int (1 : Int32))])) (fun _ kk_ => XS.ladd X196.here hx rfl (hb hby at_168) rfl (XS.lstore X196.here hx rfl (hb hby at_169) rfl (l' := #[.val (.int n1), .val (.int n2), .val (.int n3), .val (.int n4), .val (.int n5), .val (.int n6), .val (.int (5 : Int32)), .val (.int u141), .val (.int u142), .val (.int u143), .val (.int u144), .val (.int u145), .val (.ref b193), .val (.long ((40 : Int64) + ((2 : Int64) * ((5 : Int32).toInt64)))), .second, .val (.int (0 : Int32)), .val (.long ((40 : Int64) + ((2 : Int64) * ((5 : Int32).toInt64)))), .second]) rfl (XS.lload X196.here hx rfl (hb hby at_171) rfl (XS.lload X196.here hx rfl (hb hby at_173) rfl (XS.lcmp X196.here hx rfl (hb hby at_175) rfl (XS.ifNo X196.here hx rfl (hb hby at_176) rfl ((if0 _ _).trans (teq (by decide +kernel)).2) (XS.iconst X196.here hx rfl (hb hby at_179) (XS.goto X196.here hx rfl (pc0 := 180) (pc' := 184) rfl (hb hby at_180) (by decide) (by decide) kk_)))))))) ?_
            exact OWH.ret X196 (s := s) (vm0 := s.vm) hS0 (Nat.le_trans (Nat.le_trans (Nat.le_trans hk0 E193.1) K194.1) K195.1) hx hlk CR195 hZ (own_EW hw) (i := .ireturn) Bd.returns rfl (Or.inl ⟨rfl, Or.inr (Or.inl rfl), _, rfl⟩) (hb hby at_184) e196 (by decide) (by decide) ⟨rfl, N196⟩
          · refine OWH.st (B := T196.setTop (mkF m 125 #[.val (.int n1), .val (.int n2), .val (.int n3), .val (.int n4), .val (.int n5), .val (.int n6), .val (.int (5 : Int32)), .val (.int u141), .val (.int u142), .val (.int u143), .val (.int u144), .val (.int u145), .val (.ref b193), .val (.long ((40 : Int64) + ((2 : Int64) * ((5 : Int32).toInt64)))), .second, .unset, .unset, .unset] [(.int (255 : Int32)), (.int u144)])) (fun _ kk_ => XS.icmpNo X196.here hx rfl (hb hby at_111) rfl (flt hc199).2.2.1 (XS.iload X196.here hx rfl (hb hby at_114) rfl (XS.iconst X196.here hx rfl (hb hby at_116) (XS.icmpNo X196.here hx rfl (hb hby at_117) rfl (flt (by decide)).1 (XS.iload X196.here hx rfl (hb hby at_120) rfl (XS.sipush X196.here hx rfl (hb hby at_122) kk_)))))) ?_
            by_cases hc200 : (255 : Int32) < u144
            · refine OWH.st (B := T196.setTop (mkF m 168 #[.val (.int n1), .val (.int n2), .val (.int n3), .val (.int n4), .val (.int n5), .val (.int n6), .val (.int (5 : Int32)), .val (.int u141), .val (.int u142), .val (.int u143), .val (.int u144), .val (.int u145), .val (.ref b193), .val (.long ((40 : Int64) + ((2 : Int64) * ((5 : Int32).toInt64)))), .second, .val (.int (0 : Int32)), .unset, .unset] [(.long ((2 : Int64) * ((5 : Int32).toInt64))), (.long (40 : Int64))])) (fun _ kk_ => XS.icmpYes X196.here hx rfl (pc0 := 125) (pc' := 146) rfl (hb hby at_125) rfl (tlt hc200).2.2.1 (by decide) (by decide) (XS.iconst X196.here hx rfl (hb hby at_146) (XS.istore X196.here hx rfl (hb hby at_147) rfl (l' := #[.val (.int n1), .val (.int n2), .val (.int n3), .val (.int n4), .val (.int n5), .val (.int n6), .val (.int (5 : Int32)), .val (.int u141), .val (.int u142), .val (.int u143), .val (.int u144), .val (.int u145), .val (.ref b193), .val (.long ((40 : Int64) + ((2 : Int64) * ((5 : Int32).toInt64)))), .second, .val (.int (0 : Int32)), .unset, .unset]) rfl ((X196.ldc2Long hx hown (mvT hZ (w_47 hw)) (g := (mkF m 149 #[.val (.int n1), .val (.int n2), .val (.int n3), .val (.int n4), .val (.int n5), .val (.int n6), .val (.int (5 : Int32)), .val (.int u141), .val (.int u142), .val (.int u143), .val (.int u144), .val (.int u145), .val (.ref b193), .val (.long ((40 : Int64) + ((2 : Int64) * ((5 : Int32).toInt64)))), .second, .val (.int (0 : Int32)), .unset, .unset] [])) rfl (hb hby at_149)) _ (XS.iload X196.here hx rfl (hb hby at_152) rfl (XS.ifYes X196.here hx rfl (pc0 := 154) (pc' := 161) rfl (hb hby at_154) rfl ((if0 _ _).trans (teq (by decide)).1) (by decide) (by decide) ((X196.ldc2Long hx hown (mvT hZ (w_110 hw)) (g := (mkF m 161 #[.val (.int n1), .val (.int n2), .val (.int n3), .val (.int n4), .val (.int n5), .val (.int n6), .val (.int (5 : Int32)), .val (.int u141), .val (.int u142), .val (.int u143), .val (.int u144), .val (.int u145), .val (.ref b193), .val (.long ((40 : Int64) + ((2 : Int64) * ((5 : Int32).toInt64)))), .second, .val (.int (0 : Int32)), .unset, .unset] [(.long (40 : Int64))])) rfl (hb hby at_161)) _ (XS.iload X196.here hx rfl (hb hby at_164) rfl (XS.i2l X196.here hx rfl (hb hby at_166) rfl (XS.lmul X196.here hx rfl (hb hby at_167) rfl kk_)))))))))) ?_
              refine OWH.st (B := T196.setTop (mkF m 184 #[.val (.int n1), .val (.int n2), .val (.int n3), .val (.int n4), .val (.int n5), .val (.int n6), .val (.int (5 : Int32)), .val (.int u141), .val (.int u142), .val (.int u143), .val (.int u144), .val (.int u145), .val (.ref b193), .val (.long ((40 : Int64) + ((2 : Int64) * ((5 : Int32).toInt64)))), .second, .val (.int (0 : Int32)), .val (.long ((40 : Int64) + ((2 : Int64) * ((5 : Int32).toInt64)))), .second] [(.int (1 : Int32))])) (fun _ kk_ => XS.ladd X196.here hx rfl (hb hby at_168) rfl (XS.lstore X196.here hx rfl (hb hby at_169) rfl (l' := #[.val (.int n1), .val (.int n2), .val (.int n3), .val (.int n4), .val (.int n5), .val (.int n6), .val (.int (5 : Int32)), .val (.int u141), .val (.int u142), .val (.int u143), .val (.int u144), .val (.int u145), .val (.ref b193), .val (.long ((40 : Int64) + ((2 : Int64) * ((5 : Int32).toInt64)))), .second, .val (.int (0 : Int32)), .val (.long ((40 : Int64) + ((2 : Int64) * ((5 : Int32).toInt64)))), .second]) rfl (XS.lload X196.here hx rfl (hb hby at_171) rfl (XS.lload X196.here hx rfl (hb hby at_173) rfl (XS.lcmp X196.here hx rfl (hb hby at_175) rfl (XS.ifNo X196.here hx rfl (hb hby at_176) rfl ((if0 _ _).trans (teq (by decide +kernel)).2) (XS.iconst X196.here hx rfl (hb hby at_179) (XS.goto X196.here hx rfl (pc0 := 180) (pc' := 184) rfl (hb hby at_180) (by decide) (by decide) kk_)))))))) ?_
              exact OWH.ret X196 (s := s) (vm0 := s.vm) hS0 (Nat.le_trans (Nat.le_trans (Nat.le_trans hk0 E193.1) K194.1) K195.1) hx hlk CR195 hZ (own_EW hw) (i := .ireturn) Bd.returns rfl (Or.inl ⟨rfl, Or.inr (Or.inl rfl), _, rfl⟩) (hb hby at_184) e196 (by decide) (by decide) ⟨rfl, N196⟩
            · refine OWH.st (B := T196.setTop (mkF m 152 #[.val (.int n1), .val (.int n2), .val (.int n3), .val (.int n4), .val (.int n5), .val (.int n6), .val (.int (5 : Int32)), .val (.int u141), .val (.int u142), .val (.int u143), .val (.int u144), .val (.int u145), .val (.ref b193), .val (.long ((40 : Int64) + ((2 : Int64) * ((5 : Int32).toInt64)))), .second, .val (.int (0 : Int32)), .unset, .unset] [(.long (40 : Int64))])) (fun _ kk_ => XS.icmpNo X196.here hx rfl (hb hby at_125) rfl (flt hc200).2.2.1 (XS.iload X196.here hx rfl (hb hby at_128) rfl (XS.iconst X196.here hx rfl (hb hby at_130) (XS.icmpNo X196.here hx rfl (hb hby at_131) rfl (flt (by decide)).1 (XS.iload X196.here hx rfl (hb hby at_134) rfl (XS.sipush X196.here hx rfl (hb hby at_136) (XS.icmpYes X196.here hx rfl (pc0 := 139) (pc' := 146) rfl (hb hby at_139) rfl (tlt ((((hu192.resolve_left hc197).resolve_left hc198).resolve_left hc199).resolve_left hc200)).2.2.1 (by decide) (by decide) (XS.iconst X196.here hx rfl (hb hby at_146) (XS.istore X196.here hx rfl (hb hby at_147) rfl (l' := #[.val (.int n1), .val (.int n2), .val (.int n3), .val (.int n4), .val (.int n5), .val (.int n6), .val (.int (5 : Int32)), .val (.int u141), .val (.int u142), .val (.int u143), .val (.int u144), .val (.int u145), .val (.ref b193), .val (.long ((40 : Int64) + ((2 : Int64) * ((5 : Int32).toInt64)))), .second, .val (.int (0 : Int32)), .unset, .unset]) rfl ((X196.ldc2Long hx hown (mvT hZ (w_47 hw)) (g := (mkF m 149 #[.val (.int n1), .val (.int n2), .val (.int n3), .val (.int n4), .val (.int n5), .val (.int n6), .val (.int (5 : Int32)), .val (.int u141), .val (.int u142), .val (.int u143), .val (.int u144), .val (.int u145), .val (.ref b193), .val (.long ((40 : Int64) + ((2 : Int64) * ((5 : Int32).toInt64)))), .second, .val (.int (0 : Int32)), .unset, .unset] [])) rfl (hb hby at_149)) _ kk_)))))))))) ?_
              refine OWH.st (B := T196.setTop (mkF m 175 #[.val (.int n1), .val (.int n2), .val (.int n3), .val (.int n4), .val (.int n5), .val (.int n6), .val (.int (5 : Int32)), .val (.int u141), .val (.int u142), .val (.int u143), .val (.int u144), .val (.int u145), .val (.ref b193), .val (.long ((40 : Int64) + ((2 : Int64) * ((5 : Int32).toInt64)))), .second, .val (.int (0 : Int32)), .val (.long ((40 : Int64) + ((2 : Int64) * ((5 : Int32).toInt64)))), .second] [(.long ((40 : Int64) + ((2 : Int64) * ((5 : Int32).toInt64)))), (.long ((40 : Int64) + ((2 : Int64) * ((5 : Int32).toInt64))))])) (fun _ kk_ => XS.iload X196.here hx rfl (hb hby at_152) rfl (XS.ifYes X196.here hx rfl (pc0 := 154) (pc' := 161) rfl (hb hby at_154) rfl ((if0 _ _).trans (teq (by decide)).1) (by decide) (by decide) ((X196.ldc2Long hx hown (mvT hZ (w_110 hw)) (g := (mkF m 161 #[.val (.int n1), .val (.int n2), .val (.int n3), .val (.int n4), .val (.int n5), .val (.int n6), .val (.int (5 : Int32)), .val (.int u141), .val (.int u142), .val (.int u143), .val (.int u144), .val (.int u145), .val (.ref b193), .val (.long ((40 : Int64) + ((2 : Int64) * ((5 : Int32).toInt64)))), .second, .val (.int (0 : Int32)), .unset, .unset] [(.long (40 : Int64))])) rfl (hb hby at_161)) _ (XS.iload X196.here hx rfl (hb hby at_164) rfl (XS.i2l X196.here hx rfl (hb hby at_166) rfl (XS.lmul X196.here hx rfl (hb hby at_167) rfl (XS.ladd X196.here hx rfl (hb hby at_168) rfl (XS.lstore X196.here hx rfl (hb hby at_169) rfl (l' := #[.val (.int n1), .val (.int n2), .val (.int n3), .val (.int n4), .val (.int n5), .val (.int n6), .val (.int (5 : Int32)), .val (.int u141), .val (.int u142), .val (.int u143), .val (.int u144), .val (.int u145), .val (.ref b193), .val (.long ((40 : Int64) + ((2 : Int64) * ((5 : Int32).toInt64)))), .second, .val (.int (0 : Int32)), .val (.long ((40 : Int64) + ((2 : Int64) * ((5 : Int32).toInt64)))), .second]) rfl (XS.lload X196.here hx rfl (hb hby at_171) rfl (XS.lload X196.here hx rfl (hb hby at_173) rfl kk_)))))))))) ?_
              refine OWH.st (B := T196.setTop (mkF m 184 #[.val (.int n1), .val (.int n2), .val (.int n3), .val (.int n4), .val (.int n5), .val (.int n6), .val (.int (5 : Int32)), .val (.int u141), .val (.int u142), .val (.int u143), .val (.int u144), .val (.int u145), .val (.ref b193), .val (.long ((40 : Int64) + ((2 : Int64) * ((5 : Int32).toInt64)))), .second, .val (.int (0 : Int32)), .val (.long ((40 : Int64) + ((2 : Int64) * ((5 : Int32).toInt64)))), .second] [(.int (1 : Int32))])) (fun _ kk_ => XS.lcmp X196.here hx rfl (hb hby at_175) rfl (XS.ifNo X196.here hx rfl (hb hby at_176) rfl ((if0 _ _).trans (teq (by decide +kernel)).2) (XS.iconst X196.here hx rfl (hb hby at_179) (XS.goto X196.here hx rfl (pc0 := 180) (pc' := 184) rfl (hb hby at_180) (by decide) (by decide) kk_)))) ?_
              exact OWH.ret X196 (s := s) (vm0 := s.vm) hS0 (Nat.le_trans (Nat.le_trans (Nat.le_trans hk0 E193.1) K194.1) K195.1) hx hlk CR195 hZ (own_EW hw) (i := .ireturn) Bd.returns rfl (Or.inl ⟨rfl, Or.inr (Or.inl rfl), _, rfl⟩) (hb hby at_184) e196 (by decide) (by decide) ⟨rfl, N196⟩
    · obtain ⟨T201, h201, X201, e201, E201, A201, D201, -, st201⟩ := newO X145 hx hZ hown (w_6 hw) (w_7 hw) (w_8 hw) e145 (g := (mkF m 41 #[.val (.int n1), .val (.int n2), .val (.int n3), .val (.int n4), .val (.int n5), .val (.int n6), .val (.int (5 : Int32)), .val (.int u141), .val (.int u142), .val (.int u143), .val (.int u144), .val (.int u145), .unset, .unset, .unset, .unset, .unset, .unset] [])) rfl (hb hby at_41) (by decide) (by decide)
      obtain ⟨b201, g201⟩ : ∃ z, z = h0.size := ⟨_, rfl⟩
      rw [← g201] at A201 D201 st201
      have n_b201 : n0 ≤ b201 := Nat.le_trans (own_oldle O0) (Nat.le_of_eq g201.symm)
      have O201 : Old Z n0 h201 := O0.ext E201
      have CS201 : CHr Z consts_1 s.vm h0 s.vm h201 := CHr.ext E201 CR0.1
      have CR201 := CHr.trans CR0 CS201
      have Sf201_b201 : Safe Z consts_1 s.vm h201 b201 := Safe.ext E201 CR0.1 (Safe.new (Nat.le_of_eq g201.symm))
      have F201_25 : Fld Z h201 b201 "java/lang/String" "value" "[B" .null := D201 (Or.inr (w_25 hw)) (ty := (.array .byte)) (by decide)
      have F201_26 : Fld Z h201 b201 "java/lang/String" "coder" "B" (.int (0 : Int32)) := D201 (Or.inr (w_26 hw)) (ty := .byte) (by decide)
      refine OWH.st (B := T201.setTop (mkF m 57 #[.val (.int n1), .val (.int n2), .val (.int n3), .val (.int n4), .val (.int n5), .val (.int n6), .val (.int (5 : Int32)), .val (.int u141), .val (.int u142), .val (.int u143), .val (.int u144), .val (.int u145), .unset, .unset, .unset, .unset, .unset, .unset] [(.int u145), (.int u144), (.int u143), (.int u142), (.int u141), (.int (5 : Int32)), (.ref b201), (.ref b201)])) (fun _ kk_ => st201 _ (XS.dup X201.here hx rfl (hb hby at_44) rfl rfl (XS.iload X201.here hx rfl (hb hby at_45) rfl (XS.iload X201.here hx rfl (hb hby at_47) rfl (XS.iload X201.here hx rfl (hb hby at_49) rfl (XS.iload X201.here hx rfl (hb hby at_51) rfl (XS.iload X201.here hx rfl (hb hby at_53) rfl (XS.iload X201.here hx rfl (hb hby at_55) rfl kk_)))))))) ?_
      obtain ⟨_, _, ⟨T202, L202, k202, n202⟩, -, X202, ⟨Lc202, hQ202, l202, y202, z202⟩, st202⟩ := Jvm.LawKit.callS X201 hx (y := (⟨"com/example/cartulary/cartulary/entity/FootprintOfPinLaw", "chars", "(ICCCCC)[C"⟩ : MethodName)) hown (mvT hZ (w_9 hw)) (mvT hZ (w_10 hw)) (mvT hZ (w_3 hw)) (mvT hZ (w_11 hw)) (by decide) (backOf (W := 2) (rmCR5 l Z a0 hw [] u141 u142 u143 u144 u145 h201 n0 O201 hn141 hn142 hn143 hn144 hn145) hZ (w_11 hw) (w_3 hw) (by decide) (by decide)) (g := (mkF m 57 #[.val (.int n1), .val (.int n2), .val (.int n3), .val (.int n4), .val (.int n5), .val (.int n6), .val (.int (5 : Int32)), .val (.int u141), .val (.int u142), .val (.int u143), .val (.int u144), .val (.int u145), .unset, .unset, .unset, .unset, .unset, .unset] [(.int u145), (.int u144), (.int u143), (.int u142), (.int u141), (.int (5 : Int32)), (.ref b201), (.ref b201)])) rfl (by rw [hml]; rfl) (argsL := [(.int (5 : Int32)), (.int u141), (.int u142), (.int u143), (.int u144), (.int u145)]) (rest := [(.ref b201), (.ref b201)]) (lenOf pd_16 rfl) rfl (by show 2 * 0 + _ ≤ _; exact Nat.le_of_eq rfl) (hb hby at_57) (fun _ _ => ⟨rfl, e201, (by decide : 1 + 1 ≤ _), (by decide : 4 + 5 ≤ _)⟩)
      dsimp only [Pt.U, Pt.locs, Pt.cells, Pt.slots] at X202 l202 y202 z202 st202 hQ202
      subst l202 y202 z202
      obtain ⟨b202, kb202, rfl, Nq202, K202, gb202, zb202, Vb202⟩ := hQ202
      have N202 := Fr.app N145 Nq202
      have O202 : Old Z n0 T202.heap := O201.keep K202 all0
      have CS202 : CHr Z consts_1 s.vm h201 s.vm T202.heap := CHr.keep K202 all0 CR201.1
      have Sf202_b201 := CHr.safe CS202 A201.lt Sf201_b201
      have CR202 := CHr.trans CR201 CS202
      have Sf202_b202 : Safe Z consts_1 s.vm T202.heap b202 := Safe.keep K202 all0 CR201.1 (Safe.new zb202)
      refine OWH.st (B := T202.setTop (mkF m 60 #[.val (.int n1), .val (.int n2), .val (.int n3), .val (.int n4), .val (.int n5), .val (.int n6), .val (.int (5 : Int32)), .val (.int u141), .val (.int u142), .val (.int u143), .val (.int u144), .val (.int u145), .unset, .unset, .unset, .unset, .unset, .unset] [(.ref b202), (.ref b201), (.ref b201)])) (fun _ kk_ => st202 _ kk_) ?_
      obtain ⟨_, _, ⟨T203, L203, k203, n203⟩, -, X203, ⟨Lc203, hQ203, l203, y203, z203⟩, st203⟩ := X202.specialBack hx (y := (⟨"java/lang/String", "<init>", "([C)V"⟩ : MethodName)) rfl hown (mvT hZ (w_13 hw)) (mvT hZ (w_14 hw)) (mvT hZ (w_15 hw)) (by decide) (backOf (W := 1) (rmS00 l Z a0 hw [] b201 b202 kb202 (5 : Int32) [u141, u142, u143, u144, u145] i_COMPACT_STRINGS v_SIOOBE_FORMATTER T202.heap n0 O202 (A201.keep K202) (F201_25.keep K202 nin0) (F201_26.keep K202 nin0) n_b201 Vb202 rfl (Nat.le_of_ble_eq_true rfl) (Nat.zero_lt_succ _) (OwnChs.cons hn141 (OwnChs.cons hn142 (OwnChs.cons hn143 (OwnChs.cons hn144 (OwnChs.cons hn145 OwnChs.nil))))) (OwnLat.cons hl192_0 (OwnLat.cons hl192_1 (OwnLat.cons hl192_2 (OwnLat.cons hl192_3 (OwnLat.cons hl192_4 OwnLat.nil))))) hS) hZ (w_15 hw) (w_8 hw) (by decide) (by decide)) (g := (mkF m 60 #[.val (.int n1), .val (.int n2), .val (.int n3), .val (.int n4), .val (.int n5), .val (.int n6), .val (.int (5 : Int32)), .val (.int u141), .val (.int u142), .val (.int u143), .val (.int u144), .val (.int u145), .unset, .unset, .unset, .unset, .unset, .unset] [(.ref b202), (.ref b201), (.ref b201)])) rfl (by rw [hml]; rfl) (Steps.refl _) (a := b201) (argsL := [(.ref b202)]) (rest := [(.ref b201)]) (lenOf pd_17 rfl) rfl (by show 2 * 0 + _ ≤ _; exact Nat.le_of_eq rfl) (hb hby at_60) (fun _ _ => ⟨rfl, rfl, (by decide : 2 + 1 ≤ _), (by decide : 9 + 10 ≤ _)⟩)
      dsimp only [Pt.U, Pt.locs, Pt.cells, Pt.slots] at X203 l203 y203 z203 st203 hQ203
      subst l203 y203 z203
      obtain ⟨rfl, Nq203, K203, Es203, ba203, kb203, gba203, nba203, Fc203, Fv203, Vs203⟩ := hQ203
      have N203 := Fr.app N202 Nq203
      have O203 : Old Z n0 T203.heap := O202.keep K203 (allS n_b201 all0)
      have CS203 : CHr Z consts_1 s.vm T202.heap s.vm T203.heap := CHr.keep K203 (allS Sf202_b201 all0) CR202.1
      have Sf203_b201 := CHr.safe CS203 (A201.keep K202).lt Sf202_b201
      have Sf203_b202 := CHr.safe CS203 Vb202.lt Sf202_b202
      have CR203 := CHr.trans CR202 CS203
      refine OWH.tr (B := T203.setTop (mkF m 63 #[.val (.int n1), .val (.int n2), .val (.int n3), .val (.int n4), .val (.int n5), .val (.int n6), .val (.int (5 : Int32)), .val (.int u141), .val (.int u142), .val (.int u143), .val (.int u144), .val (.int u145), .unset, .unset, .unset, .unset, .unset, .unset] [(.ref b201)])) (st203) ?_
      refine OWH.st (B := T203.setTop (mkF m 67 #[.val (.int n1), .val (.int n2), .val (.int n3), .val (.int n4), .val (.int n5), .val (.int n6), .val (.int (5 : Int32)), .val (.int u141), .val (.int u142), .val (.int u143), .val (.int u144), .val (.int u145), .val (.ref b201), .unset, .unset, .unset, .unset, .unset] [(.ref b201)])) (fun _ kk_ => XS.astore X203.here hx rfl (hb hby at_63) rfl rfl (l' := #[.val (.int n1), .val (.int n2), .val (.int n3), .val (.int n4), .val (.int n5), .val (.int n6), .val (.int (5 : Int32)), .val (.int u141), .val (.int u142), .val (.int u143), .val (.int u144), .val (.int u145), .val (.ref b201), .unset, .unset, .unset, .unset, .unset]) rfl (XS.aload X203.here hx rfl (hb hby at_65) rfl rfl kk_)) ?_
      obtain ⟨_, _, ⟨T204, L204, k204, n204⟩, -, X204, ⟨Lc204, hQ204, l204, y204, z204⟩, st204⟩ := Jvm.LawKit.callS X203 hx (y := (⟨"com/example/cartulary/cartulary/entity/Footprint", "of", "(Ljava/lang/String;)J"⟩ : MethodName)) hown (mvT hZ (w_31 hw)) (mvT hZ (w_32 hw)) (mvT hZ (w_33 hw)) (mvT hZ (w_34 hw)) (by decide) (backOf (W := 0) (rmOF0 l Z a0 hw [] b201 ba203 kb203 (5 : Int32) [u141, u142, u143, u144, u145] (5 : Int32) i_COMPACT_STRINGS v_SIOOBE_FORMATTER T203.heap n0 O203 ((A201.keep K202).keep K203) Fv203 Fc203 Vs203 rfl (by decide) rfl (Nat.le_of_ble_eq_true rfl) (OwnChs.cons hn141 (OwnChs.cons hn142 (OwnChs.cons hn143 (OwnChs.cons hn144 (OwnChs.cons hn145 OwnChs.nil))))) (OwnLat.cons hl192_0 (OwnLat.cons hl192_1 (OwnLat.cons hl192_2 (OwnLat.cons hl192_3 (OwnLat.cons hl192_4 OwnLat.nil))))) hS) hZ (w_34 hw) (w_33 hw) (by decide) (by decide)) (g := (mkF m 67 #[.val (.int n1), .val (.int n2), .val (.int n3), .val (.int n4), .val (.int n5), .val (.int n6), .val (.int (5 : Int32)), .val (.int u141), .val (.int u142), .val (.int u143), .val (.int u144), .val (.int u145), .val (.ref b201), .unset, .unset, .unset, .unset, .unset] [(.ref b201)])) rfl (by rw [hml]; rfl) (argsL := [(.ref b201)]) (rest := []) (lenOf pd_18 rfl) rfl (by show 2 * 0 + _ ≤ _; exact Nat.le_of_eq rfl) (hb hby at_67) (fun _ _ => ⟨rfl, rfl, (by decide : 3 + 0 ≤ _), (by decide : 19 + 0 ≤ _)⟩)
      dsimp only [Pt.U, Pt.locs, Pt.cells, Pt.slots] at X204 l204 y204 z204 st204 hQ204
      subst l204 y204 z204
      obtain ⟨rfl, Nq204, e204⟩ := hQ204
      have N204 := Fr.app N203 Nq204
      refine OWH.st (B := T204.setTop (mkF m 89 #[.val (.int n1), .val (.int n2), .val (.int n3), .val (.int n4), .val (.int n5), .val (.int n6), .val (.int (5 : Int32)), .val (.int u141), .val (.int u142), .val (.int u143), .val (.int u144), .val (.int u145), .val (.ref b201), .val (.long ((40 : Int64) + ((1 : Int64) * ((5 : Int32).toInt64)))), .second, .unset, .unset, .unset] [(.int (2 : Int32)), (.int (5 : Int32))])) (fun _ kk_ => st204 _ (XS.lstore X204.here hx rfl (hb hby at_70) rfl (l' := #[.val (.int n1), .val (.int n2), .val (.int n3), .val (.int n4), .val (.int n5), .val (.int n6), .val (.int (5 : Int32)), .val (.int u141), .val (.int u142), .val (.int u143), .val (.int u144), .val (.int u145), .val (.ref b201), .val (.long ((40 : Int64) + ((1 : Int64) * ((5 : Int32).toInt64)))), .second, .unset, .unset, .unset]) rfl (XS.iload X204.here hx rfl (hb hby at_72) rfl (XS.iconst X204.here hx rfl (hb hby at_74) (XS.icmpNo X204.here hx rfl (hb hby at_75) rfl (flt (by decide)).1 (XS.iload X204.here hx rfl (hb hby at_78) rfl (XS.sipush X204.here hx rfl (hb hby at_80) (XS.icmpNo X204.here hx rfl (hb hby at_83) rfl (flt hl192_0).2.2.1 (XS.iload X204.here hx rfl (hb hby at_86) rfl (XS.iconst X204.here hx rfl (hb hby at_88) kk_)))))))))) ?_
      refine OWH.st (B := T204.setTop (mkF m 114 #[.val (.int n1), .val (.int n2), .val (.int n3), .val (.int n4), .val (.int n5), .val (.int n6), .val (.int (5 : Int32)), .val (.int u141), .val (.int u142), .val (.int u143), .val (.int u144), .val (.int u145), .val (.ref b201), .val (.long ((40 : Int64) + ((1 : Int64) * ((5 : Int32).toInt64)))), .second, .unset, .unset, .unset] [])) (fun _ kk_ => XS.icmpNo X204.here hx rfl (hb hby at_89) rfl (flt (by decide)).1 (XS.iload X204.here hx rfl (hb hby at_92) rfl (XS.sipush X204.here hx rfl (hb hby at_94) (XS.icmpNo X204.here hx rfl (hb hby at_97) rfl (flt hl192_1).2.2.1 (XS.iload X204.here hx rfl (hb hby at_100) rfl (XS.iconst X204.here hx rfl (hb hby at_102) (XS.icmpNo X204.here hx rfl (hb hby at_103) rfl (flt (by decide)).1 (XS.iload X204.here hx rfl (hb hby at_106) rfl (XS.sipush X204.here hx rfl (hb hby at_108) (XS.icmpNo X204.here hx rfl (hb hby at_111) rfl (flt hl192_2).2.2.1 kk_)))))))))) ?_
      refine OWH.st (B := T204.setTop (mkF m 136 #[.val (.int n1), .val (.int n2), .val (.int n3), .val (.int n4), .val (.int n5), .val (.int n6), .val (.int (5 : Int32)), .val (.int u141), .val (.int u142), .val (.int u143), .val (.int u144), .val (.int u145), .val (.ref b201), .val (.long ((40 : Int64) + ((1 : Int64) * ((5 : Int32).toInt64)))), .second, .unset, .unset, .unset] [(.int u145)])) (fun _ kk_ => XS.iload X204.here hx rfl (hb hby at_114) rfl (XS.iconst X204.here hx rfl (hb hby at_116) (XS.icmpNo X204.here hx rfl (hb hby at_117) rfl (flt (by decide)).1 (XS.iload X204.here hx rfl (hb hby at_120) rfl (XS.sipush X204.here hx rfl (hb hby at_122) (XS.icmpNo X204.here hx rfl (hb hby at_125) rfl (flt hl192_3).2.2.1 (XS.iload X204.here hx rfl (hb hby at_128) rfl (XS.iconst X204.here hx rfl (hb hby at_130) (XS.icmpNo X204.here hx rfl (hb hby at_131) rfl (flt (by decide)).1 (XS.iload X204.here hx rfl (hb hby at_134) rfl kk_)))))))))) ?_
      refine OWH.st (B := T204.setTop (mkF m 164 #[.val (.int n1), .val (.int n2), .val (.int n3), .val (.int n4), .val (.int n5), .val (.int n6), .val (.int (5 : Int32)), .val (.int u141), .val (.int u142), .val (.int u143), .val (.int u144), .val (.int u145), .val (.ref b201), .val (.long ((40 : Int64) + ((1 : Int64) * ((5 : Int32).toInt64)))), .second, .val (.int (1 : Int32)), .unset, .unset] [(.long (1 : Int64)), (.long (40 : Int64))])) (fun _ kk_ => XS.sipush X204.here hx rfl (hb hby at_136) (XS.icmpNo X204.here hx rfl (hb hby at_139) rfl (flt hl192_4).2.2.1 (XS.iconst X204.here hx rfl (hb hby at_142) (XS.goto X204.here hx rfl (pc0 := 143) (pc' := 147) rfl (hb hby at_143) (by decide) (by decide) (XS.istore X204.here hx rfl (hb hby at_147) rfl (l' := #[.val (.int n1), .val (.int n2), .val (.int n3), .val (.int n4), .val (.int n5), .val (.int n6), .val (.int (5 : Int32)), .val (.int u141), .val (.int u142), .val (.int u143), .val (.int u144), .val (.int u145), .val (.ref b201), .val (.long ((40 : Int64) + ((1 : Int64) * ((5 : Int32).toInt64)))), .second, .val (.int (1 : Int32)), .unset, .unset]) rfl ((X204.ldc2Long hx hown (mvT hZ (w_47 hw)) (g := (mkF m 149 #[.val (.int n1), .val (.int n2), .val (.int n3), .val (.int n4), .val (.int n5), .val (.int n6), .val (.int (5 : Int32)), .val (.int u141), .val (.int u142), .val (.int u143), .val (.int u144), .val (.int u145), .val (.ref b201), .val (.long ((40 : Int64) + ((1 : Int64) * ((5 : Int32).toInt64)))), .second, .val (.int (1 : Int32)), .unset, .unset] [])) rfl (hb hby at_149)) _ (XS.iload X204.here hx rfl (hb hby at_152) rfl (XS.ifNo X204.here hx rfl (hb hby at_154) rfl ((if0 _ _).trans (feq (by decide)).1) (XS.lconst X204.here hx rfl (hb hby at_157) (XS.goto X204.here hx rfl (pc0 := 158) (pc' := 164) rfl (hb hby at_158) (by decide) (by decide) kk_)))))))))) ?_
      refine OWH.st (B := T204.setTop (mkF m 180 #[.val (.int n1), .val (.int n2), .val (.int n3), .val (.int n4), .val (.int n5), .val (.int n6), .val (.int (5 : Int32)), .val (.int u141), .val (.int u142), .val (.int u143), .val (.int u144), .val (.int u145), .val (.ref b201), .val (.long ((40 : Int64) + ((1 : Int64) * ((5 : Int32).toInt64)))), .second, .val (.int (1 : Int32)), .val (.long ((40 : Int64) + ((1 : Int64) * ((5 : Int32).toInt64)))), .second] [(.int (1 : Int32))])) (fun _ kk_ => XS.iload X204.here hx rfl (hb hby at_164) rfl (XS.i2l X204.here hx rfl (hb hby at_166) rfl (XS.lmul X204.here hx rfl (hb hby at_167) rfl (XS.ladd X204.here hx rfl (hb hby at_168) rfl (XS.lstore X204.here hx rfl (hb hby at_169) rfl (l' := #[.val (.int n1), .val (.int n2), .val (.int n3), .val (.int n4), .val (.int n5), .val (.int n6), .val (.int (5 : Int32)), .val (.int u141), .val (.int u142), .val (.int u143), .val (.int u144), .val (.int u145), .val (.ref b201), .val (.long ((40 : Int64) + ((1 : Int64) * ((5 : Int32).toInt64)))), .second, .val (.int (1 : Int32)), .val (.long ((40 : Int64) + ((1 : Int64) * ((5 : Int32).toInt64)))), .second]) rfl (XS.lload X204.here hx rfl (hb hby at_171) rfl (XS.lload X204.here hx rfl (hb hby at_173) rfl (XS.lcmp X204.here hx rfl (hb hby at_175) rfl (XS.ifNo X204.here hx rfl (hb hby at_176) rfl ((if0 _ _).trans (teq (by decide +kernel)).2) (XS.iconst X204.here hx rfl (hb hby at_179) kk_)))))))))) ?_
      refine OWH.st (B := T204.setTop (mkF m 184 #[.val (.int n1), .val (.int n2), .val (.int n3), .val (.int n4), .val (.int n5), .val (.int n6), .val (.int (5 : Int32)), .val (.int u141), .val (.int u142), .val (.int u143), .val (.int u144), .val (.int u145), .val (.ref b201), .val (.long ((40 : Int64) + ((1 : Int64) * ((5 : Int32).toInt64)))), .second, .val (.int (1 : Int32)), .val (.long ((40 : Int64) + ((1 : Int64) * ((5 : Int32).toInt64)))), .second] [(.int (1 : Int32))])) (fun _ kk_ => XS.goto X204.here hx rfl (pc0 := 180) (pc' := 184) rfl (hb hby at_180) (by decide) (by decide) kk_) ?_
      exact OWH.ret X204 (s := s) (vm0 := s.vm) hS0 (Nat.le_trans (Nat.le_trans (Nat.le_trans hk0 E201.1) K202.1) K203.1) hx hlk CR203 hZ (own_EW hw) (i := .ireturn) Bd.returns rfl (Or.inl ⟨rfl, Or.inr (Or.inl rfl), _, rfl⟩) (hb hby at_184) e204 (by decide) (by decide) ⟨rfl, N204⟩
set_option maxRecDepth 65536 in
set_option maxHeartbeats 40000000 in
theorem comes_1 {Post : Tables → Env → Array Value → State → Outcome → State → Prop} (hpost : ∀ tb e args s v u, (limb_1_1.after args s (.returned v) u = true ∧ limb_1_2.after args s (.returned v) u = true ∧ True) → ReturnedEndW s (.returned v) u (Jvm.fieldLocs frame_1_writes args s ++ Jvm.arrayLocs frame_1_arrays args s ++ Jvm.staticLocs frame_1_statics s) 24 1152 → Post tb e args s (.returned v) u) :
    ArmFor flags0 classFile x code maxLocals ret World_1 tables_1 room_1 Calls_1 rest_1 Pre_1 Post := by
  intro l hfl _ _ p e ha hc hk s m args below hf hA hF happ hP
  obtain ⟨hcalls, hrest, hpre⟩ := hP
  obtain ⟨-, -, -, hnamed, -, -, -, hat⟩ := (Spec.applies_iff hf).mp happ
  obtain ⟨hg, hn⟩ := and_e (Cond.before_iff.mp (show (Jvm.Cond.and given_1 narrow_1).before args s = true from hpre))
  obtain ⟨k205, k206⟩ := and_e hg
  obtain ⟨k207, k208⟩ := and_e k206
  obtain ⟨k209, k210⟩ := and_e k208
  obtain ⟨k211, k212⟩ := and_e k210
  obtain ⟨k213, k214⟩ := and_e k212
  obtain ⟨k215, k216⟩ := and_e k214
  obtain ⟨w0, w1, w2, w3, w4, w5, rfl⟩ : ∃ w0 w1 w2 w3 w4 w5 : Value, args = #[w0, w1, w2, w3, w4, w5] := by
    have hs : args.size = 6 := by simpa [Cond.value, given_1] using k205
    obtain ⟨L⟩ := args
    match L, hs with
    | [w0, w1, w2, w3, w4, w5], _ => exact ⟨w0, w1, w2, w3, w4, w5, rfl⟩
  have hw := fun d (hd : d ∈ tables_1) => atoms_spec (ws := Jvm.Cond.code x code maxLocals ret :: tables_1) hat d (List.mem_cons_of_mem _ hd)
  have hfit : Fit s := fun {y c} hc i hi => by
    obtain ⟨ha, rfl⟩ := Array.getElem?_eq_some_iff.mp hc
    have q := List.all_eq_true.mp ((Array.all_eq_true_iff_forall_mem.mp hF) _ (Array.getElem_mem ha)) i (List.mem_range.mpr hi)
    simpa [Array.getElem?_eq_getElem hi] using q
  obtain ⟨i0, ei0⟩ := is_v k207
  obtain rfl : w0 = (.int i0) := Option.some.inj ei0
  obtain ⟨i1, ei1⟩ := is_v k209
  obtain rfl : w1 = (.int i1) := Option.some.inj ei1
  obtain ⟨i2, ei2⟩ := is_v k211
  obtain rfl : w2 = (.int i2) := Option.some.inj ei2
  obtain ⟨i3, ei3⟩ := is_v k213
  obtain rfl : w3 = (.int i3) := Option.some.inj ei3
  obtain ⟨i4, ei4⟩ := is_v k215
  obtain rfl : w4 = (.int i4) := Option.some.inj ei4
  obtain ⟨i5, ei5⟩ := is_v k216
  obtain rfl : w5 = (.int i5) := Option.some.inj ei5
  obtain ⟨hsets, hown0⟩ := atoms_of _ (rest_1_c_eq ▸ (show rest_1_c.before _ s = true from hrest))
  have hr0 := Cond.before_iff.mp hown0
  obtain ⟨i_COMPACT_STRINGS, evi_COMPACT_STRINGS⟩ := is_v (Cond.before_iff.mp (hsets _ (List.mem_of_getElem? (i := 1) rfl)))
  obtain ⟨v_SIOOBE_FORMATTER, evv_SIOOBE_FORMATTER, rvv_SIOOBE_FORMATTER⟩ := isR_v (Cond.before_iff.mp (hsets _ (List.mem_of_getElem? (i := 8) rfl)))
  have hS : OwnS s i_COMPACT_STRINGS v_SIOOBE_FORMATTER := ⟨Sta.start evi_COMPACT_STRINGS (Or.inl (hsets _ (List.mem_of_getElem? (i := 0) rfl))), Sta.start evv_SIOOBE_FORMATTER (Or.inl (hsets _ (List.mem_of_getElem? (i := 7) rfl))), rvv_SIOOBE_FORMATTER, Sta.start (own_eq_int (Cond.before_iff.mp (hsets _ (List.mem_of_getElem? (i := 12) rfl)))) (Or.inl (hsets _ (List.mem_of_getElem? (i := 11) rfl))), Sta.start (own_eq_int (Cond.before_iff.mp (hsets _ (List.mem_of_getElem? (i := 15) rfl)))) (Or.inl (hsets _ (List.mem_of_getElem? (i := 14) rfl))), Sta.start (own_eq_int (Cond.before_iff.mp (hsets _ (List.mem_of_getElem? (i := 18) rfl)))) (Or.inl (hsets _ (List.mem_of_getElem? (i := 17) rfl))), gotF (Cond.eq_ints evi_COMPACT_STRINGS (Term.int_eval (0 : Int32))) (not_v (Cond.before_iff.mp (hsets _ (List.mem_of_getElem? (i := 2) rfl))))⟩
  have hCH : CHv s consts_1 s.vm s.heap := CHv.start (own_EW hw) (fun q hq => hcalls.1 q hq) (show Jvm.Lit.compactW.before _ s = true from (hsets _ (List.mem_of_getElem? (i := 2) rfl))) (w_24 hw) (w_7 hw)
  obtain ⟨n, o, h1, h2, h3, _, L, rfl, ⟨rfl, N⟩, -, hq⟩ := rm0 l s _ hw tables_1 i0 i1 i2 i3 i4 i5 i_COMPACT_STRINGS v_SIOOBE_FORMATTER s.heap s.heap.size (Old.start s) hS p e ha hc hk s m _ below hf ((Spec.applies_iff_loose hf).mp happ).1 ⟨rfl, State.Warmed39.refl s, rfl, hCH⟩ trivial
  refine ⟨n, _, h1, h2, h3, hpost _ _ _ _ _ _ ⟨Cond.after_iff.mpr rfl, Cond.after_iff.mpr (eq_i res_at (Term.int_eval (1)) rfl), trivial⟩ ⟨hq.1, hq.2.1, hq.2.2.1, (hq.2.2.2.sift fun y hy => Or.inr (N y hy)).mono (by decide) (by decide)⟩⟩
theorem main_1_1 : Claimed_1_1 := comes_1 fun _ _ _ _ _ _ h hF => ⟨h.1, hF⟩
theorem main_1_2 : Claimed_1_2 := comes_1 fun _ _ _ _ _ _ h hF => ⟨h.2.1, hF⟩
end Jvm.Pilot.@@N@@
namespace Jvm.Pilot.@@N@@
open Jvm Jvm.ClassFile Sem Op Lib Jvm.Free Jvm.Stand Jvm.Pilot.@@N@@.Jvm.D
/-! MADE BY PROGRAM (witnessworld.py) out of the Statement's table words and the real class files: 18 classes; the members and pool entries that the words name. The judged class is class 1, her method 3. -/
namespace start1
open Jvm.ClassFile
def u (s : String) : CpInfo := .utf8 (stringToUtf16 s)
/-- a pool by its gaps: so many unusable entries, then the entry; so many at the end -/
def gap : Nat → List CpInfo → List CpInfo
  | 0, r => r
  | n + 1, r => .unusable :: gap n r
def poolList (es : List (Nat × CpInfo)) (last : Nat) : List CpInfo := es.foldr (fun e r => gap e.1 (e.2 :: r)) (gap last [])
def pool (es : List (Nat × CpInfo)) (last : Nat) : Array CpInfo := ⟨poolList es last⟩
def fileOf (pool : Array CpInfo) (this : Nat) (attrs : Array Attribute := #[]) (ms : Array MethodInfo := #[]) (fl : Nat := 33) (sup : Nat := 0) (ifs : Array Nat := #[]) (fds : Array FieldInfo := #[]) : ClassFile where
  minorVersion := 0
  majorVersion := 65
  constantPool := pool
  accessFlags := fl
  thisClass := this
  superClass := sup
  interfaces := ifs
  fields := fds
  methods := ms
  attributes := attrs
def plain (name : String) (sup : Option ClassId) : Class where
  name := name
  kind := .ordinary
  loader := none
  accessFlags := 33
  super := sup
  interfaces := #[]
  cf := none
  fields := #[]
  methods := #[]
  instanceTypes := #[]
  staticTypes := #[]
  resolved := #[]
  callSites := []
  init := .initialized
  statics := none
  mirror := none

def pool0 : Array CpInfo := pool [(5, u "<init>"), (0, u "()V"), (1, .class_ 10), (1, u "java/lang/Object")] 113

def k0c0 : Code := { maxStack := 0, maxLocals := 1, code := object_method_1_code, exceptionTable := #[], attributes := #[] }
def k0m0 : Method := { name := "<init>", desc := "()V", sig := { parameters := [], returnType := none }, accessFlags := 1, code := some k0c0 }
/-- java/lang/Object -/
def k0 : Class := { plain "java/lang/Object" none with
  accessFlags := 33
  interfaces := #[]
  cf := some (fileOf pool0 8 #[] #[{ accessFlags := 1, nameIndex := 5, descriptorIndex := 6, attributes := #[] }] 33 0 #[] #[])
  fields := #[]
  methods := #[k0m0]
  instanceTypes := #[]
  staticTypes := #[]
  resolved := Array.replicate 124 none
  statics := none }

def pool1 : Array CpInfo := pool [(2, .class_ 4), (1, u "java/lang/Object"), (0, u "<init>"), (0, u "()V"), (0, .integer 65535), (0, .integer 2147483647), (0, .methodref 10 11), (0, .class_ 12), (0, .nameAndType 13 14), (0, u "com/example/cartulary/cartulary/entity/FootprintOfPinLaw"), (0, u "ch"), (0, u "(I)C"), (0, .class_ 16), (0, u "java/lang/String"), (0, .methodref 10 18), (0, .nameAndType 19 20), (0, u "chars"), (0, u "(ICCCCC)[C"), (0, .methodref 15 22), (0, .nameAndType 5 23), (0, u "([C)V"), (0, .methodref 25 26), (0, .class_ 27), (0, .nameAndType 28 29), (0, u "com/example/cartulary/cartulary/entity/Footprint"), (0, u "of"), (0, u "(Ljava/lang/String;)J"), (0, .long 40), (1, .long 2), (4, u "law"), (0, u "(IIIIII)Z")] 2

def k1m0 : Method := { name := "<init>", desc := "()V", sig := { parameters := [], returnType := none }, accessFlags := 1, code := none }
def k1c1 : Code := { maxStack := 2, maxLocals := 1, code := method_2_code, exceptionTable := #[], attributes := #[] }
def k1m1 : Method := { name := "ch", desc := "(I)C", sig := { parameters := [.int], returnType := some .char }, accessFlags := 10, code := some k1c1 }
def k1c2 : Code := { maxStack := 4, maxLocals := 6, code := method_3_code, exceptionTable := #[], attributes := #[] }
def k1m2 : Method := { name := "chars", desc := "(ICCCCC)[C", sig := { parameters := [.int, .char, .char, .char, .char, .char], returnType := some (.array .char) }, accessFlags := 10, code := some k1c2 }
def k1c3 : Code := { maxStack := 8, maxLocals := 18, code := code, exceptionTable := #[], attributes := #[] }
def k1m3 : Method := { name := "law", desc := "(IIIIII)Z", sig := { parameters := [.int, .int, .int, .int, .int, .int], returnType := some .boolean }, accessFlags := 9, code := some k1c3 }
/-- com/example/cartulary/cartulary/entity/FootprintOfPinLaw -/
def k1 : Class := { plain "com/example/cartulary/cartulary/entity/FootprintOfPinLaw" (some 0) with
  accessFlags := 49
  interfaces := #[]
  cf := some (fileOf pool1 10 #[] #[{ accessFlags := 1, nameIndex := 5, descriptorIndex := 6, attributes := #[] }, { accessFlags := 10, nameIndex := 13, descriptorIndex := 14, attributes := #[] }, { accessFlags := 10, nameIndex := 19, descriptorIndex := 20, attributes := #[] }, { accessFlags := 9, nameIndex := 37, descriptorIndex := 38, attributes := #[] }] 49 2 #[] #[])
  fields := #[]
  methods := #[k1m0, k1m1, k1m2, k1m3]
  instanceTypes := #[]
  staticTypes := #[]
  resolved := Array.replicate 41 none
  statics := none }

def pool2 : Array CpInfo := pool [(1, .class_ 2), (0, u "java/io/Serializable"), (0, .class_ 4), (0, u "java/lang/Object")] 2

/-- java/io/Serializable -/
def k2 : Class := { plain "java/io/Serializable" (some 0) with
  accessFlags := 1537
  interfaces := #[]
  cf := some (fileOf pool2 1 #[] #[] 1537 3 #[] #[])
  fields := #[]
  methods := #[]
  instanceTypes := #[]
  staticTypes := #[]
  resolved := Array.replicate 7 none
  statics := none }

def pool3 : Array CpInfo := pool [(1, .class_ 2), (0, u "java/lang/Comparable"), (0, .class_ 4), (0, u "java/lang/Object")] 7

/-- java/lang/Comparable -/
def k3 : Class := { plain "java/lang/Comparable" (some 0) with
  accessFlags := 1537
  interfaces := #[]
  cf := some (fileOf pool3 1 #[] #[] 1537 3 #[] #[])
  fields := #[]
  methods := #[]
  instanceTypes := #[]
  staticTypes := #[]
  resolved := Array.replicate 12 none
  statics := none }

def pool4 : Array CpInfo := pool [(2, .class_ 4), (1, u "java/lang/CharSequence"), (42, .class_ 48), (0, u "java/lang/CharSequence$1CodePointIterator"), (10, .class_ 60), (0, u "java/lang/CharSequence$1CharIterator"), (5, .class_ 67), (0, u "java/lang/Object")] 63

/-- java/lang/CharSequence -/
def k4 : Class := { plain "java/lang/CharSequence" (some 0) with
  accessFlags := 1537
  interfaces := #[]
  cf := some (fileOf pool4 2 #[.nestMembers #[47, 59]] #[] 1537 66 #[] #[])
  fields := #[]
  methods := #[]
  instanceTypes := #[]
  staticTypes := #[]
  resolved := Array.replicate 131 none
  statics := none }

def pool5 : Array CpInfo := pool [(1, .class_ 2), (0, u "java/lang/constant/Constable"), (0, .class_ 4), (0, u "java/lang/Object")] 6

/-- java/lang/constant/Constable -/
def k5 : Class := { plain "java/lang/constant/Constable" (some 0) with
  accessFlags := 1537
  interfaces := #[]
  cf := some (fileOf pool5 1 #[] #[] 1537 3 #[] #[])
  fields := #[]
  methods := #[]
  instanceTypes := #[]
  staticTypes := #[]
  resolved := Array.replicate 11 none
  statics := none }

def pool6 : Array CpInfo := pool [(1, .class_ 2), (0, u "java/lang/constant/ConstantDesc"), (0, .class_ 4), (0, u "java/lang/Object")] 32

/-- java/lang/constant/ConstantDesc -/
def k6 : Class := { plain "java/lang/constant/ConstantDesc" (some 0) with
  accessFlags := 1537
  interfaces := #[]
  cf := some (fileOf pool6 1 #[] #[] 1537 3 #[] #[])
  fields := #[]
  methods := #[]
  instanceTypes := #[]
  staticTypes := #[]
  resolved := Array.replicate 37 none
  statics := none }

def pool7 : Array CpInfo := pool [(1, .methodref 2 3), (0, .class_ 4), (0, .nameAndType 5 6), (0, u "java/lang/Object"), (0, u "<init>"), (0, u "()V"), (0, .string 8), (0, u ""), (0, .fieldref 10 11), (0, .class_ 12), (0, .nameAndType 13 14), (0, u "java/lang/String"), (0, u "value"), (0, u "[B"), (0, .fieldref 10 16), (0, .nameAndType 17 18), (0, u "coder"), (0, u "B"), (2, u "hash"), (0, u "I"), (2, u "hashIsZero"), (0, u "Z"), (0, .methodref 10 28), (0, .nameAndType 5 29), (0, u "([CIILjava/lang/Void;)V"), (8, .fieldref 10 39), (0, .nameAndType 40 26), (0, u "COMPACT_STRINGS"), (1, .class_ 44), (1, u "java/lang/StringUTF16"), (0, u "compress"), (1, .methodref 42 48), (0, .nameAndType 49 50), (0, u "coderFromArrayLen"), (0, u "([BI)B"), (56, .class_ 109), (1, u "java/lang/StringLatin1"), (32, u "()Z"), (34, .methodref 42 178), (0, .nameAndType 45 179), (0, u "([CII)[B"), (154, u "()I"), (0, .methodref 10 336), (0, .nameAndType 17 337), (0, u "()B"), (25, u "([BI)C"), (27, u "(II)V"), (35, u "(I)C"), (64, .methodref 10 493), (0, .nameAndType 494 142), (0, u "isLatin1"), (0, .methodref 107 496), (0, .nameAndType 497 363), (0, u "charAt"), (0, .methodref 42 496), (2, u "checkIndex"), (5, u "length"), (67, .class_ 576), (0, u "java/lang/CharSequence"), (22, u "CASE_INSENSITIVE_ORDER"), (0, u "Ljava/util/Comparator;"), (409, u "([C)V"), (42, .fieldref 1054 1055), (0, .class_ 1056), (0, .nameAndType 1057 1058), (0, u "jdk/internal/util/Preconditions"), (0, u "SIOOBE_FORMATTER"), (0, u "Ljava/util/function/BiFunction;"), (0, .methodref 1054 1060), (0, .nameAndType 501 1061), (0, u "(IILjava/util/function/BiFunction;)I"), (39, u "serialPersistentFields"), (0, u "[Ljava/io/ObjectStreamField;"), (0, .class_ 1104), (0, u "java/lang/String$CaseInsensitiveComparator"), (1, .class_ 1107), (0, u "java/io/Serializable"), (0, .class_ 1109), (0, u "java/lang/Comparable"), (0, .class_ 1111), (0, u "java/lang/constant/Constable"), (0, .class_ 1113), (0, u "java/lang/constant/ConstantDesc"), (2, u "serialVersionUID"), (0, u "J"), (3, u "REPL"), (0, u "C"), (2, u "LATIN1"), (1, u "UTF16")] 323

def k7m0 : Method := { name := "<init>", desc := "()V", sig := { parameters := [], returnType := none }, accessFlags := 1, code := none }
def k7c1 : Code := { maxStack := 5, maxLocals := 2, code := jdk_42_method_3_code, exceptionTable := #[], attributes := #[] }
def k7m1 : Method := { name := "<init>", desc := "([C)V", sig := { parameters := [(.array .char)], returnType := none }, accessFlags := 1, code := some k7c1 }
def k7c2 : Code := { maxStack := 2, maxLocals := 1, code := jdk_42_method_54_code, exceptionTable := #[], attributes := #[] }
def k7m2 : Method := { name := "length", desc := "()I", sig := { parameters := [], returnType := some .int }, accessFlags := 1, code := some k7c2 }
def k7c3 : Code := { maxStack := 2, maxLocals := 2, code := jdk_42_method_56_code, exceptionTable := #[], attributes := #[] }
def k7m3 : Method := { name := "charAt", desc := "(I)C", sig := { parameters := [.int], returnType := some .char }, accessFlags := 1, code := some k7c3 }
def k7c4 : Code := { maxStack := 4, maxLocals := 6, code := jdk_42_method_149_code, exceptionTable := #[], attributes := #[] }
def k7m4 : Method := { name := "<init>", desc := "([CIILjava/lang/Void;)V", sig := { parameters := [(.array .char), .int, .int, (.object "java/lang/Void")], returnType := none }, accessFlags := 2, code := some k7c4 }
def k7c5 : Code := { maxStack := 1, maxLocals := 1, code := jdk_42_method_152_code, exceptionTable := #[], attributes := #[] }
def k7m5 : Method := { name := "coder", desc := "()B", sig := { parameters := [], returnType := some .byte }, accessFlags := 0, code := some k7c5 }
def k7c6 : Code := { maxStack := 1, maxLocals := 1, code := jdk_42_method_154_code, exceptionTable := #[], attributes := #[] }
def k7m6 : Method := { name := "isLatin1", desc := "()Z", sig := { parameters := [], returnType := some .boolean }, accessFlags := 0, code := some k7c6 }
def k7c7 : Code := { maxStack := 3, maxLocals := 2, code := jdk_42_method_155_code, exceptionTable := #[], attributes := #[] }
def k7m7 : Method := { name := "checkIndex", desc := "(II)V", sig := { parameters := [.int, .int], returnType := none }, accessFlags := 8, code := some k7c7 }
/-- java/lang/String -/
def k7 : Class := { plain "java/lang/String" (some 0) with
  accessFlags := 49
  interfaces := #[2, 3, 4, 5, 6]
  cf := some (fileOf pool7 10 #[.nestMembers #[1103]] #[{ accessFlags := 1, nameIndex := 5, descriptorIndex := 6, attributes := #[] }, { accessFlags := 1, nameIndex := 5, descriptorIndex := 1010, attributes := #[] }, { accessFlags := 1, nameIndex := 507, descriptorIndex := 334, attributes := #[] }, { accessFlags := 1, nameIndex := 497, descriptorIndex := 427, attributes := #[] }, { accessFlags := 2, nameIndex := 5, descriptorIndex := 29, attributes := #[] }, { accessFlags := 0, nameIndex := 17, descriptorIndex := 337, attributes := #[] }, { accessFlags := 0, nameIndex := 494, descriptorIndex := 142, attributes := #[] }, { accessFlags := 8, nameIndex := 501, descriptorIndex := 391, attributes := #[] }] 49 2 #[1106, 1108, 575, 1110, 1112] #[{ accessFlags := 18, nameIndex := 13, descriptorIndex := 14, attributes := #[] }, { accessFlags := 18, nameIndex := 17, descriptorIndex := 18, attributes := #[] }, { accessFlags := 2, nameIndex := 21, descriptorIndex := 22, attributes := #[] }, { accessFlags := 2, nameIndex := 25, descriptorIndex := 26, attributes := #[] }, { accessFlags := 26, nameIndex := 1116, descriptorIndex := 1117, attributes := #[] }, { accessFlags := 24, nameIndex := 40, descriptorIndex := 26, attributes := #[] }, { accessFlags := 26, nameIndex := 1101, descriptorIndex := 1102, attributes := #[] }, { accessFlags := 26, nameIndex := 1121, descriptorIndex := 1122, attributes := #[] }, { accessFlags := 25, nameIndex := 599, descriptorIndex := 600, attributes := #[] }, { accessFlags := 24, nameIndex := 1125, descriptorIndex := 18, attributes := #[] }, { accessFlags := 24, nameIndex := 1127, descriptorIndex := 18, attributes := #[] }])
  fields := #[{ name := "value", type := (.array .byte), accessFlags := 18, slot := 0, constantValue := 0 }, { name := "coder", type := .byte, accessFlags := 18, slot := 1, constantValue := 0 }, { name := "hash", type := .int, accessFlags := 2, slot := 2, constantValue := 0 }, { name := "hashIsZero", type := .boolean, accessFlags := 2, slot := 3, constantValue := 0 }, { name := "serialVersionUID", type := .long, accessFlags := 26, slot := 0, constantValue := 0 }, { name := "COMPACT_STRINGS", type := .boolean, accessFlags := 24, slot := 1, constantValue := 0 }, { name := "serialPersistentFields", type := (.array (.object "java/io/ObjectStreamField")), accessFlags := 26, slot := 2, constantValue := 0 }, { name := "REPL", type := .char, accessFlags := 26, slot := 3, constantValue := 0 }, { name := "CASE_INSENSITIVE_ORDER", type := (.object "java/util/Comparator"), accessFlags := 25, slot := 4, constantValue := 0 }, { name := "LATIN1", type := .byte, accessFlags := 24, slot := 5, constantValue := 0 }, { name := "UTF16", type := .byte, accessFlags := 24, slot := 6, constantValue := 0 }]
  methods := #[k7m0, k7m1, k7m2, k7m3, k7m4, k7m5, k7m6, k7m7]
  instanceTypes := #[(.array .byte), .byte, .int, .boolean]
  staticTypes := #[.long, .boolean, (.array (.object "java/io/ObjectStreamField")), .char, (.object "java/util/Comparator"), .byte, .byte]
  resolved := Array.replicate 1451 none
  statics := some 0 }

def pool8 : Array CpInfo := pool [(2, .class_ 4), (1, u "java/lang/Object"), (0, u "<init>"), (0, u "()V"), (12, .methodref 20 21), (0, .class_ 22), (0, .nameAndType 23 24), (0, u "java/lang/String"), (0, u "length"), (0, u "()I"), (0, .methodref 20 26), (0, .nameAndType 27 28), (0, u "charAt"), (0, u "(I)C"), (0, .class_ 30), (0, u "com/example/cartulary/cartulary/entity/Footprint"), (0, .long 40), (1, .long 2), (11, u "of"), (0, u "(Ljava/lang/String;)J"), (31, .class_ 80), (1, u "com/example/cartulary/cartulary/entity/Footprint$1"), (128, u "OBJECT"), (0, u "I"), (2, u "REFERENCE"), (1, u "STRING"), (1, u "URI_FIELDS"), (1, u "URI_PARTS")] 29

def k8m0 : Method := { name := "<init>", desc := "()V", sig := { parameters := [], returnType := none }, accessFlags := 2, code := none }
def k8c1 : Code := { maxStack := 6, maxLocals := 3, code := prog_25_method_3_code, exceptionTable := #[], attributes := #[] }
def k8m1 : Method := { name := "of", desc := "(Ljava/lang/String;)J", sig := { parameters := [(.object "java/lang/String")], returnType := some .long }, accessFlags := 9, code := some k8c1 }
/-- com/example/cartulary/cartulary/entity/Footprint -/
def k8 : Class := { plain "com/example/cartulary/cartulary/entity/Footprint" (some 0) with
  accessFlags := 33
  interfaces := #[]
  cf := some (fileOf pool8 29 #[.nestMembers #[78]] #[{ accessFlags := 2, nameIndex := 5, descriptorIndex := 6, attributes := #[] }, { accessFlags := 9, nameIndex := 45, descriptorIndex := 46, attributes := #[] }] 33 2 #[] #[{ accessFlags := 25, nameIndex := 209, descriptorIndex := 210, attributes := #[] }, { accessFlags := 25, nameIndex := 213, descriptorIndex := 210, attributes := #[] }, { accessFlags := 26, nameIndex := 215, descriptorIndex := 210, attributes := #[] }, { accessFlags := 26, nameIndex := 217, descriptorIndex := 210, attributes := #[] }, { accessFlags := 26, nameIndex := 219, descriptorIndex := 210, attributes := #[] }])
  fields := #[{ name := "OBJECT", type := .int, accessFlags := 25, slot := 0, constantValue := 0 }, { name := "REFERENCE", type := .int, accessFlags := 25, slot := 1, constantValue := 0 }, { name := "STRING", type := .int, accessFlags := 26, slot := 2, constantValue := 0 }, { name := "URI_FIELDS", type := .int, accessFlags := 26, slot := 3, constantValue := 0 }, { name := "URI_PARTS", type := .int, accessFlags := 26, slot := 4, constantValue := 0 }]
  methods := #[k8m0, k8m1]
  instanceTypes := #[]
  staticTypes := #[.int, .int, .int, .int, .int]
  resolved := Array.replicate 249 none
  statics := none }

def pool9 : Array CpInfo := pool [(3, .class_ 4), (0, u "java/lang/String"), (1, .class_ 8), (1, u "java/lang/Object"), (0, u "<init>"), (0, u "()V"), (0, .methodref 12 13), (0, .class_ 14), (0, .nameAndType 15 16), (0, u "java/lang/StringUTF16"), (0, u "newBytesLength"), (0, u "(I)I"), (3, .integer 1073741823), (23, .fieldref 12 45), (0, .nameAndType 46 47), (0, u "$assertionsDisabled"), (0, u "Z"), (0, .methodref 12 49), (0, .nameAndType 50 51), (0, u "length"), (0, u "([B)I"), (7, .fieldref 12 60), (0, .nameAndType 61 62), (0, u "HI_BYTE_SHIFT"), (0, u "I"), (0, .fieldref 12 64), (0, .nameAndType 65 62), (0, u "LO_BYTE_SHIFT"), (1, .methodref 12 68), (0, .nameAndType 69 70), (0, u "checkIndex"), (0, u "(I[B)V"), (0, .methodref 12 72), (0, .nameAndType 73 74), (0, u "getChar"), (0, u "([BI)C"), (32, .methodref 12 108), (0, .nameAndType 109 110), (0, u "newBytesFor"), (0, u "(I)[B"), (0, .methodref 12 112), (0, .nameAndType 113 114), (0, u "putChar"), (0, u "([BII)V"), (0, .methodref 12 116), (0, .nameAndType 117 118), (0, u "compress"), (0, u "([CI[BII)I"), (0, .methodref 12 120), (0, .nameAndType 121 122), (0, u "toBytes"), (0, u "([CII)[B"), (138, u "coderFromArrayLen"), (0, u "([BI)B"), (106, .class_ 371), (1, u "java/lang/StringUTF16$LinesSpliterator"), (20, u "charAt"), (21, .methodref 3 415), (0, .nameAndType 69 416), (0, u "(II)V"), (13, u "MAX_LENGTH"), (196, .class_ 628), (0, u "java/lang/StringUTF16$CodePointsSpliterator"), (0, .class_ 630), (0, u "java/lang/StringUTF16$CharsSpliterator")] 4

def k9m0 : Method := { name := "<init>", desc := "()V", sig := { parameters := [], returnType := none }, accessFlags := 0, code := none }
def k9c1 : Code := { maxStack := 1, maxLocals := 1, code := jdk_52_method_2_code, exceptionTable := #[], attributes := #[] }
def k9m1 : Method := { name := "newBytesFor", desc := "(I)[B", sig := { parameters := [.int], returnType := some (.array .byte) }, accessFlags := 9, code := some k9c1 }
def k9c2 : Code := { maxStack := 4, maxLocals := 1, code := jdk_52_method_3_code, exceptionTable := #[], attributes := #[] }
def k9m2 : Method := { name := "newBytesLength", desc := "(I)I", sig := { parameters := [.int], returnType := some .int }, accessFlags := 9, code := some k9c2 }
def k9c3 : Code := { maxStack := 4, maxLocals := 3, code := jdk_52_method_4_code, exceptionTable := #[], attributes := #[] }
def k9m3 : Method := { name := "putChar", desc := "([BII)V", sig := { parameters := [(.array .byte), .int, .int], returnType := none }, accessFlags := 8, code := some k9c3 }
def k9c4 : Code := { maxStack := 3, maxLocals := 2, code := jdk_52_method_5_code, exceptionTable := #[], attributes := #[] }
def k9m4 : Method := { name := "getChar", desc := "([BI)C", sig := { parameters := [(.array .byte), .int], returnType := some .char }, accessFlags := 8, code := some k9c4 }
def k9c5 : Code := { maxStack := 2, maxLocals := 1, code := jdk_52_method_6_code, exceptionTable := #[], attributes := #[] }
def k9m5 : Method := { name := "length", desc := "([B)I", sig := { parameters := [(.array .byte)], returnType := some .int }, accessFlags := 9, code := some k9c5 }
def k9c6 : Code := { maxStack := 4, maxLocals := 5, code := jdk_52_method_14_code, exceptionTable := #[], attributes := #[] }
def k9m6 : Method := { name := "toBytes", desc := "([CII)[B", sig := { parameters := [(.array .char), .int, .int], returnType := some (.array .byte) }, accessFlags := 9, code := some k9c6 }
def k9c7 : Code := { maxStack := 2, maxLocals := 2, code := jdk_52_method_15_code, exceptionTable := #[], attributes := #[] }
def k9m7 : Method := { name := "coderFromArrayLen", desc := "([BI)B", sig := { parameters := [(.array .byte), .int], returnType := some .byte }, accessFlags := 8, code := some k9c7 }
def k9c8 : Code := { maxStack := 5, maxLocals := 6, code := jdk_52_method_16_code, exceptionTable := #[], attributes := #[] }
def k9m8 : Method := { name := "compress", desc := "([CII)[B", sig := { parameters := [(.array .char), .int, .int], returnType := some (.array .byte) }, accessFlags := 9, code := some k9c8 }
def k9c9 : Code := { maxStack := 3, maxLocals := 7, code := jdk_52_method_21_code, exceptionTable := #[], attributes := #[] }
def k9m9 : Method := { name := "compress", desc := "([CI[BII)I", sig := { parameters := [(.array .char), .int, (.array .byte), .int, .int], returnType := some .int }, accessFlags := 9, code := some k9c9 }
def k9c10 : Code := { maxStack := 2, maxLocals := 2, code := jdk_52_method_83_code, exceptionTable := #[], attributes := #[] }
def k9m10 : Method := { name := "charAt", desc := "([BI)C", sig := { parameters := [(.array .byte), .int], returnType := some .char }, accessFlags := 9, code := some k9c10 }
def k9c11 : Code := { maxStack := 2, maxLocals := 2, code := jdk_52_method_91_code, exceptionTable := #[], attributes := #[] }
def k9m11 : Method := { name := "checkIndex", desc := "(I[B)V", sig := { parameters := [.int, (.array .byte)], returnType := none }, accessFlags := 9, code := some k9c11 }
/-- java/lang/StringUTF16 -/
def k9 : Class := { plain "java/lang/StringUTF16" (some 0) with
  accessFlags := 48
  interfaces := #[]
  cf := some (fileOf pool9 12 #[.nestMembers #[627, 629, 369]] #[{ accessFlags := 0, nameIndex := 9, descriptorIndex := 10, attributes := #[] }, { accessFlags := 9, nameIndex := 109, descriptorIndex := 110, attributes := #[] }, { accessFlags := 9, nameIndex := 15, descriptorIndex := 16, attributes := #[] }, { accessFlags := 8, nameIndex := 113, descriptorIndex := 114, attributes := #[] }, { accessFlags := 8, nameIndex := 73, descriptorIndex := 74, attributes := #[] }, { accessFlags := 9, nameIndex := 50, descriptorIndex := 51, attributes := #[] }, { accessFlags := 9, nameIndex := 121, descriptorIndex := 122, attributes := #[] }, { accessFlags := 8, nameIndex := 261, descriptorIndex := 262, attributes := #[] }, { accessFlags := 9, nameIndex := 117, descriptorIndex := 122, attributes := #[] }, { accessFlags := 9, nameIndex := 117, descriptorIndex := 118, attributes := #[] }, { accessFlags := 9, nameIndex := 392, descriptorIndex := 74, attributes := #[] }, { accessFlags := 9, nameIndex := 69, descriptorIndex := 70, attributes := #[] }] 48 6 #[] #[{ accessFlags := 26, nameIndex := 61, descriptorIndex := 62, attributes := #[] }, { accessFlags := 26, nameIndex := 65, descriptorIndex := 62, attributes := #[] }, { accessFlags := 24, nameIndex := 430, descriptorIndex := 62, attributes := #[] }, { accessFlags := 4120, nameIndex := 46, descriptorIndex := 47, attributes := #[] }])
  fields := #[{ name := "HI_BYTE_SHIFT", type := .int, accessFlags := 26, slot := 0, constantValue := 0 }, { name := "LO_BYTE_SHIFT", type := .int, accessFlags := 26, slot := 1, constantValue := 0 }, { name := "MAX_LENGTH", type := .int, accessFlags := 24, slot := 2, constantValue := 0 }, { name := "$assertionsDisabled", type := .boolean, accessFlags := 4120, slot := 3, constantValue := 0 }]
  methods := #[k9m0, k9m1, k9m2, k9m3, k9m4, k9m5, k9m6, k9m7, k9m8, k9m9, k9m10, k9m11]
  instanceTypes := #[]
  staticTypes := #[.int, .int, .int, .boolean]
  resolved := Array.replicate 635 none
  statics := some 1 }

def pool10 : Array CpInfo := pool [(1, .class_ 2), (0, u "java/lang/String"), (1, .class_ 6), (1, u "java/lang/Object"), (0, u "<init>"), (0, u "()V"), (0, .methodref 1 10), (0, .nameAndType 11 12), (0, u "checkIndex"), (0, u "(II)V"), (1, .class_ 16), (1, u "java/lang/StringLatin1"), (36, u "([BI)C"), (67, u "$assertionsDisabled"), (0, u "Z"), (98, .class_ 223), (1, u "java/lang/StringLatin1$LinesSpliterator"), (28, u "charAt"), (137, .class_ 391), (0, u "java/lang/StringLatin1$CharsSpliterator")] 3

def k10m0 : Method := { name := "<init>", desc := "()V", sig := { parameters := [], returnType := none }, accessFlags := 0, code := none }
def k10c1 : Code := { maxStack := 2, maxLocals := 2, code := jdk_43_method_2_code, exceptionTable := #[], attributes := #[] }
def k10m1 : Method := { name := "charAt", desc := "([BI)C", sig := { parameters := [(.array .byte), .int], returnType := some .char }, accessFlags := 9, code := some k10c1 }
/-- java/lang/StringLatin1 -/
def k10 : Class := { plain "java/lang/StringLatin1" (some 0) with
  accessFlags := 48
  interfaces := #[]
  cf := some (fileOf pool10 14 #[.nestMembers #[390, 221]] #[{ accessFlags := 0, nameIndex := 7, descriptorIndex := 8, attributes := #[] }, { accessFlags := 9, nameIndex := 252, descriptorIndex := 53, attributes := #[] }] 48 4 #[] #[{ accessFlags := 4120, nameIndex := 121, descriptorIndex := 122, attributes := #[] }])
  fields := #[{ name := "$assertionsDisabled", type := .boolean, accessFlags := 4120, slot := 0, constantValue := 0 }]
  methods := #[k10m0, k10m1]
  instanceTypes := #[]
  staticTypes := #[.boolean]
  resolved := Array.replicate 395 none
  statics := none }

def pool11 : Array CpInfo := pool [(2, .class_ 4), (1, u "java/lang/Object"), (0, u "<init>"), (0, u "()V"), (17, .class_ 26), (1, u "jdk/internal/util/Preconditions"), (6, u "checkIndex"), (21, .class_ 56), (0, u "jdk/internal/util/Preconditions$4"), (57, .class_ 115), (0, u "jdk/internal/util/Preconditions$1"), (7, u "SIOOBE_FORMATTER"), (0, u "Ljava/util/function/BiFunction;"), (0, .class_ 126), (0, u "jdk/internal/util/Preconditions$2"), (3, u "AIOOBE_FORMATTER"), (0, .class_ 132), (0, u "jdk/internal/util/Preconditions$3"), (3, u "IOOBE_FORMATTER"), (41, u "(IILjava/util/function/BiFunction;)I")] 15

def k11m0 : Method := { name := "<init>", desc := "()V", sig := { parameters := [], returnType := none }, accessFlags := 1, code := none }
def k11c1 : Code := { maxStack := 3, maxLocals := 3, code := jdk_41_method_11_code, exceptionTable := #[], attributes := #[] }
def k11m1 : Method := { name := "checkIndex", desc := "(IILjava/util/function/BiFunction;)I", sig := { parameters := [.int, .int, (.object "java/util/function/BiFunction")], returnType := some .int }, accessFlags := 9, code := some k11c1 }
/-- jdk/internal/util/Preconditions -/
def k11 : Class := { plain "jdk/internal/util/Preconditions" (some 0) with
  accessFlags := 33
  interfaces := #[]
  cf := some (fileOf pool11 24 #[.nestMembers #[55, 131, 125, 114]] #[{ accessFlags := 1, nameIndex := 5, descriptorIndex := 6, attributes := #[] }, { accessFlags := 9, nameIndex := 33, descriptorIndex := 178, attributes := #[] }] 33 2 #[] #[{ accessFlags := 25, nameIndex := 123, descriptorIndex := 124, attributes := #[] }, { accessFlags := 25, nameIndex := 130, descriptorIndex := 124, attributes := #[] }, { accessFlags := 25, nameIndex := 136, descriptorIndex := 124, attributes := #[] }])
  fields := #[{ name := "SIOOBE_FORMATTER", type := (.object "java/util/function/BiFunction"), accessFlags := 25, slot := 0, constantValue := 0 }, { name := "AIOOBE_FORMATTER", type := (.object "java/util/function/BiFunction"), accessFlags := 25, slot := 1, constantValue := 0 }, { name := "IOOBE_FORMATTER", type := (.object "java/util/function/BiFunction"), accessFlags := 25, slot := 2, constantValue := 0 }]
  methods := #[k11m0, k11m1]
  instanceTypes := #[]
  staticTypes := #[(.object "java/util/function/BiFunction"), (.object "java/util/function/BiFunction"), (.object "java/util/function/BiFunction")]
  resolved := Array.replicate 194 none
  statics := some 2 }

def pool12 : Array CpInfo := pool [(9, u "<init>"), (6, .class_ 18), (1, u "java/lang/Object"), (0, u "()V"), (1, .class_ 23), (1, u "jdk/internal/util/ArraysSupport"), (0, u "LOG2_ARRAY_LONG_INDEX_SCALE"), (0, u "I"), (2, u "U"), (0, u "Ljdk/internal/misc/Unsafe;"), (8, u "BIG_ENDIAN"), (0, u "Z"), (8, u "LOG2_BYTE_BIT_SIZE"), (4, u "LOG2_ARRAY_INT_INDEX_SCALE"), (54, u "JLA"), (0, u "Ljdk/internal/access/JavaLangAccess;"), (11, u "LOG2_ARRAY_BOOLEAN_INDEX_SCALE"), (9, u "LOG2_ARRAY_BYTE_INDEX_SCALE"), (5, u "LOG2_ARRAY_CHAR_INDEX_SCALE"), (5, u "LOG2_ARRAY_SHORT_INDEX_SCALE"), (18, u "LOG2_ARRAY_FLOAT_INDEX_SCALE"), (24, u "LOG2_ARRAY_DOUBLE_INDEX_SCALE"), (89, u "T_BOOLEAN"), (2, u "T_CHAR"), (1, u "T_FLOAT"), (1, u "T_DOUBLE"), (1, u "T_BYTE"), (1, u "T_SHORT"), (1, u "T_INT"), (1, u "T_LONG"), (1, u "SOFT_MAX_ARRAY_LENGTH")] 83

def k12m0 : Method := { name := "<init>", desc := "()V", sig := { parameters := [], returnType := none }, accessFlags := 2, code := none }
/-- jdk/internal/util/ArraysSupport -/
def k12 : Class := { plain "jdk/internal/util/ArraysSupport" (some 0) with
  accessFlags := 33
  interfaces := #[]
  cf := some (fileOf pool12 21 #[] #[{ accessFlags := 2, nameIndex := 9, descriptorIndex := 19, attributes := #[] }] 33 16 #[] #[{ accessFlags := 24, nameIndex := 28, descriptorIndex := 29, attributes := #[] }, { accessFlags := 26, nameIndex := 38, descriptorIndex := 39, attributes := #[] }, { accessFlags := 25, nameIndex := 121, descriptorIndex := 25, attributes := #[] }, { accessFlags := 25, nameIndex := 131, descriptorIndex := 25, attributes := #[] }, { accessFlags := 25, nameIndex := 137, descriptorIndex := 25, attributes := #[] }, { accessFlags := 25, nameIndex := 143, descriptorIndex := 25, attributes := #[] }, { accessFlags := 25, nameIndex := 53, descriptorIndex := 25, attributes := #[] }, { accessFlags := 25, nameIndex := 24, descriptorIndex := 25, attributes := #[] }, { accessFlags := 25, nameIndex := 162, descriptorIndex := 25, attributes := #[] }, { accessFlags := 25, nameIndex := 187, descriptorIndex := 25, attributes := #[] }, { accessFlags := 26, nameIndex := 48, descriptorIndex := 25, attributes := #[] }, { accessFlags := 25, nameIndex := 277, descriptorIndex := 25, attributes := #[] }, { accessFlags := 25, nameIndex := 280, descriptorIndex := 25, attributes := #[] }, { accessFlags := 25, nameIndex := 282, descriptorIndex := 25, attributes := #[] }, { accessFlags := 25, nameIndex := 284, descriptorIndex := 25, attributes := #[] }, { accessFlags := 25, nameIndex := 286, descriptorIndex := 25, attributes := #[] }, { accessFlags := 25, nameIndex := 288, descriptorIndex := 25, attributes := #[] }, { accessFlags := 25, nameIndex := 290, descriptorIndex := 25, attributes := #[] }, { accessFlags := 25, nameIndex := 292, descriptorIndex := 25, attributes := #[] }, { accessFlags := 26, nameIndex := 108, descriptorIndex := 109, attributes := #[] }, { accessFlags := 25, nameIndex := 294, descriptorIndex := 25, attributes := #[] }])
  fields := #[{ name := "U", type := (.object "jdk/internal/misc/Unsafe"), accessFlags := 24, slot := 0, constantValue := 0 }, { name := "BIG_ENDIAN", type := .boolean, accessFlags := 26, slot := 1, constantValue := 0 }, { name := "LOG2_ARRAY_BOOLEAN_INDEX_SCALE", type := .int, accessFlags := 25, slot := 2, constantValue := 0 }, { name := "LOG2_ARRAY_BYTE_INDEX_SCALE", type := .int, accessFlags := 25, slot := 3, constantValue := 0 }, { name := "LOG2_ARRAY_CHAR_INDEX_SCALE", type := .int, accessFlags := 25, slot := 4, constantValue := 0 }, { name := "LOG2_ARRAY_SHORT_INDEX_SCALE", type := .int, accessFlags := 25, slot := 5, constantValue := 0 }, { name := "LOG2_ARRAY_INT_INDEX_SCALE", type := .int, accessFlags := 25, slot := 6, constantValue := 0 }, { name := "LOG2_ARRAY_LONG_INDEX_SCALE", type := .int, accessFlags := 25, slot := 7, constantValue := 0 }, { name := "LOG2_ARRAY_FLOAT_INDEX_SCALE", type := .int, accessFlags := 25, slot := 8, constantValue := 0 }, { name := "LOG2_ARRAY_DOUBLE_INDEX_SCALE", type := .int, accessFlags := 25, slot := 9, constantValue := 0 }, { name := "LOG2_BYTE_BIT_SIZE", type := .int, accessFlags := 26, slot := 10, constantValue := 0 }, { name := "T_BOOLEAN", type := .int, accessFlags := 25, slot := 11, constantValue := 0 }, { name := "T_CHAR", type := .int, accessFlags := 25, slot := 12, constantValue := 0 }, { name := "T_FLOAT", type := .int, accessFlags := 25, slot := 13, constantValue := 0 }, { name := "T_DOUBLE", type := .int, accessFlags := 25, slot := 14, constantValue := 0 }, { name := "T_BYTE", type := .int, accessFlags := 25, slot := 15, constantValue := 0 }, { name := "T_SHORT", type := .int, accessFlags := 25, slot := 16, constantValue := 0 }, { name := "T_INT", type := .int, accessFlags := 25, slot := 17, constantValue := 0 }, { name := "T_LONG", type := .int, accessFlags := 25, slot := 18, constantValue := 0 }, { name := "JLA", type := (.object "jdk/internal/access/JavaLangAccess"), accessFlags := 26, slot := 19, constantValue := 0 }, { name := "SOFT_MAX_ARRAY_LENGTH", type := .int, accessFlags := 25, slot := 20, constantValue := 0 }]
  methods := #[k12m0]
  instanceTypes := #[]
  staticTypes := #[(.object "jdk/internal/misc/Unsafe"), .boolean, .int, .int, .int, .int, .int, .int, .int, .int, .int, .int, .int, .int, .int, .int, .int, .int, .int, (.object "jdk/internal/access/JavaLangAccess"), .int]
  resolved := Array.replicate 378 none
  statics := none }

def pool13 : Array CpInfo := pool [(1, u "java/lang/Cloneable"), (0, .class_ 1), (0, u "java/lang/Object"), (0, .class_ 3)] 3

/-- java/lang/Cloneable -/
def k13 : Class := { plain "java/lang/Cloneable" (some 0) with
  accessFlags := 1537
  interfaces := #[]
  cf := some (fileOf pool13 2 #[] #[] 1537 4 #[] #[])
  fields := #[]
  methods := #[]
  instanceTypes := #[]
  staticTypes := #[]
  resolved := Array.replicate 8 none
  statics := none }

/-- the primitive byte -/
def k14 : Class := { plain "byte" none with kind := .primitive 'B', accessFlags := 0x411 }
/-- [B -/
def k15 : Class := { plain "[B" (some 0) with kind := .array 14 .byte, interfaces := #[13, 2], accessFlags := 1041 }

/-- the primitive char -/
def k16 : Class := { plain "char" none with kind := .primitive 'C', accessFlags := 0x411 }
/-- [C -/
def k17 : Class := { plain "[C" (some 0) with kind := .array 16 .char, interfaces := #[13, 2], accessFlags := 1041 }

def heap : Heap := #[{ cls := 7, slots := #[.long 0, .int 1, .null, .int 0, .null, .int 0, .int 0], vm := .statics 7 },
  { cls := 9, slots := #[.int 0, .int 8, .int 0, .int 1], vm := .statics 9 },
  { cls := 11, slots := #[.null, .null, .null], vm := .statics 11 }]
def classes : Array Class := #[k0, k1, k2, k3, k4, k5, k6, k7, k8, k9, k10, k11, k12, k13, k14, k15, k16, k17]
def interned : List (Array UInt16 × Addr) := []
def slotsUsed : Nat := 14
def theMethod : MethodId := ⟨1, 3⟩
def args0 : Array Value := #[.int 5, .int 7, .int 1, .int 2, .int 3, .int 4]
def aboutOver (below : List Frame) : State where
  vm := { classes := classes, interned := interned.toArray }
  heap := heap
  slotsUsed := slotsUsed
  threads := #[{ frames := .invoking theMethod args0 :: below }]
def below0 : List Frame := [.native { method := ⟨0, 0⟩, args := #[] }]
def about1 : State := aboutOver below0
def p0 : Program := .bare "" "" ""
def e0 : Env := launch0.env 0 0 0
theorem w_frames : about1.frames = Frame.invoking theMethod args0 :: below0 := rfl
set_option maxRecDepth 65536 in
theorem w_args : argsFit about1.vm theMethod args0 = true := by decide +kernel
set_option maxRecDepth 65536 in
theorem w_heap : heapFits about1 = true := by decide +kernel
set_option maxRecDepth 65536 in
theorem w_runnable : about1.curStatus? = some .runnable := by decide +kernel
set_option maxRecDepth 65536 in
theorem w_alone : about1.alone = true := by decide +kernel
set_option maxRecDepth 65536 in
theorem w_named : about1.methodNamed? x = some theMethod := by decide +kernel
set_option maxRecDepth 65536 in
theorem w_hears : about1.hears theMethod below0 = true := by decide +kernel
set_option maxRecDepth 65536 in
theorem w_ripe : about1.ripe theMethod args0 below0 = true := by decide +kernel
theorem w_running : about1.status = .running := rfl
set_option maxRecDepth 65536 in
theorem w_room : about1.hasRoom e0.platform room_1 = true :=
  launch0.hasRoom_least _ room_1 (by decide +kernel) (by decide +kernel) (by decide +kernel) (by decide +kernel) (by decide +kernel) (by decide +kernel)
theorem allAtoms_all (ts : List Jvm.Cond) (a : Array Jvm.Value) (st : Jvm.State) : (allAtoms ts).before a st = ts.all (fun c => c.before a st) := by
  induction ts with
  | nil => rfl
  | cons c t ih =>
    show (Jvm.Cond.and c (allAtoms t)).before a st = _
    rw [Jvm.Cond.before_and, ih, List.all_cons]
def words1 : List Jvm.Cond := Jvm.Cond.code x code maxLocals ret :: tables_1
/-- a 'code' word, met by the world's own term for the bytes: nothing is compared byte by byte -/
theorem code_word {y : MethodName} {bytes : ByteArray} {mx : Nat} {rt : Option FieldType} {a : Array Value} {s : State} {m : MethodId} {meth : Method} {c : Code} (h1 : s.methodNamed? y = some m) (h2 : s.vm.method? m = some meth) (h3 : meth.code = some c) (h4 : c.code = bytes)
    (h5 : (c.maxLocals == mx && c.exceptionTable.isEmpty && decide (c.maxStack ≤ mostOperands) && decide (meth.sig.returnType = rt) && !meth.locks && decide (parseMethodDescriptor y.desc = some meth.sig)) = true) : (Jvm.Cond.code y bytes mx rt).before a s = true := by
  simp only [Bool.and_eq_true, beq_iff_eq, Bool.not_eq_true', decide_eq_true_eq] at h5
  obtain ⟨⟨⟨⟨⟨g1, g2⟩, g3⟩, g4⟩, g5⟩, g6⟩ := h5
  simp [Cond.before, Cond.holds, Cond.value, h1, h2, h3, h4, g1, g2, g3, g4, g5, g6]
def isCode : Jvm.Cond → Bool
  | .code _ _ _ _ => true
  | _ => false
theorem all_split {L : List Jvm.Cond} {P : Jvm.Cond → Bool} (h1 : L.all (fun c => isCode c || P c) = true) (h2 : ∀ c ∈ L.filter isCode, P c = true) : L.all P = true := by
  refine List.all_eq_true.mpr fun c hc => ?_
  have h := List.all_eq_true.mp h1 c hc
  rcases Bool.eq_false_or_eq_true (isCode c) with hi | hi
  · exact h2 c (List.mem_filter.mpr ⟨hc, hi⟩)
  · simpa [hi] using h
set_option maxRecDepth 65536 in
theorem w_c0 : (Jvm.Cond.code x code maxLocals ret).before args0 about1 = true := code_word (m := ⟨1, 3⟩) (meth := k1m3) (c := k1c3) (by decide +kernel) rfl rfl rfl (by decide +kernel)
set_option maxRecDepth 65536 in
theorem w_c1 : (Jvm.Cond.code ({ cls := "com/example/cartulary/cartulary/entity/FootprintOfPinLaw", name := "ch", desc := "(I)C" } : Jvm.MethodName) method_2_code (1 : Nat) (Option.some Jvm.ClassFile.FieldType.char)).before args0 about1 = true := code_word (m := ⟨1, 1⟩) (meth := k1m1) (c := k1c1) (by decide +kernel) rfl rfl rfl (by decide +kernel)
set_option maxRecDepth 65536 in
theorem w_c2 : (Jvm.Cond.code ({ cls := "com/example/cartulary/cartulary/entity/FootprintOfPinLaw", name := "chars", desc := "(ICCCCC)[C" } : Jvm.MethodName) method_3_code (6 : Nat) (Option.some (Jvm.ClassFile.FieldType.array Jvm.ClassFile.FieldType.char))).before args0 about1 = true := code_word (m := ⟨1, 2⟩) (meth := k1m2) (c := k1c2) (by decide +kernel) rfl rfl rfl (by decide +kernel)
set_option maxRecDepth 65536 in
theorem w_c3 : (Jvm.Cond.code ({ cls := "java/lang/String", name := "<init>", desc := "([C)V" } : Jvm.MethodName) jdk_42_method_3_code (2 : Nat) (Option.none : Option Jvm.ClassFile.FieldType)).before args0 about1 = true := code_word (m := ⟨7, 1⟩) (meth := k7m1) (c := k7c1) (by decide +kernel) rfl rfl rfl (by decide +kernel)
set_option maxRecDepth 65536 in
theorem w_c4 : (Jvm.Cond.code ({ cls := "java/lang/String", name := "<init>", desc := "([CIILjava/lang/Void;)V" } : Jvm.MethodName) jdk_42_method_149_code (6 : Nat) (Option.none : Option Jvm.ClassFile.FieldType)).before args0 about1 = true := code_word (m := ⟨7, 4⟩) (meth := k7m4) (c := k7c4) (by decide +kernel) rfl rfl rfl (by decide +kernel)
set_option maxRecDepth 65536 in
theorem w_c5 : (Jvm.Cond.code ({ cls := "java/lang/Object", name := "<init>", desc := "()V" } : Jvm.MethodName) object_method_1_code (1 : Nat) (Option.none : Option Jvm.ClassFile.FieldType)).before args0 about1 = true := code_word (m := ⟨0, 0⟩) (meth := k0m0) (c := k0c0) (by decide +kernel) rfl rfl rfl (by decide +kernel)
set_option maxRecDepth 65536 in
theorem w_c6 : (Jvm.Cond.code ({ cls := "com/example/cartulary/cartulary/entity/Footprint", name := "of", desc := "(Ljava/lang/String;)J" } : Jvm.MethodName) prog_25_method_3_code (3 : Nat) (Option.some Jvm.ClassFile.FieldType.long)).before args0 about1 = true := code_word (m := ⟨8, 1⟩) (meth := k8m1) (c := k8c1) (by decide +kernel) rfl rfl rfl (by decide +kernel)
set_option maxRecDepth 65536 in
theorem w_c7 : (Jvm.Cond.code ({ cls := "java/lang/String", name := "length", desc := "()I" } : Jvm.MethodName) jdk_42_method_54_code (1 : Nat) (Option.some Jvm.ClassFile.FieldType.int)).before args0 about1 = true := code_word (m := ⟨7, 2⟩) (meth := k7m2) (c := k7c2) (by decide +kernel) rfl rfl rfl (by decide +kernel)
set_option maxRecDepth 65536 in
theorem w_c8 : (Jvm.Cond.code ({ cls := "java/lang/String", name := "coder", desc := "()B" } : Jvm.MethodName) jdk_42_method_152_code (1 : Nat) (Option.some Jvm.ClassFile.FieldType.byte)).before args0 about1 = true := code_word (m := ⟨7, 5⟩) (meth := k7m5) (c := k7c5) (by decide +kernel) rfl rfl rfl (by decide +kernel)
set_option maxRecDepth 65536 in
theorem w_c9 : (Jvm.Cond.code ({ cls := "java/lang/StringUTF16", name := "compress", desc := "([CII)[B" } : Jvm.MethodName) jdk_52_method_16_code (6 : Nat) (Option.some (Jvm.ClassFile.FieldType.array Jvm.ClassFile.FieldType.byte))).before args0 about1 = true := code_word (m := ⟨9, 8⟩) (meth := k9m8) (c := k9c8) (by decide +kernel) rfl rfl rfl (by decide +kernel)
set_option maxRecDepth 65536 in
theorem w_c10 : (Jvm.Cond.code ({ cls := "java/lang/StringUTF16", name := "compress", desc := "([CI[BII)I" } : Jvm.MethodName) jdk_52_method_21_code (7 : Nat) (Option.some Jvm.ClassFile.FieldType.int)).before args0 about1 = true := code_word (m := ⟨9, 9⟩) (meth := k9m9) (c := k9c9) (by decide +kernel) rfl rfl rfl (by decide +kernel)
set_option maxRecDepth 65536 in
theorem w_c11 : (Jvm.Cond.code ({ cls := "java/lang/StringUTF16", name := "coderFromArrayLen", desc := "([BI)B" } : Jvm.MethodName) jdk_52_method_15_code (2 : Nat) (Option.some Jvm.ClassFile.FieldType.byte)).before args0 about1 = true := code_word (m := ⟨9, 7⟩) (meth := k9m7) (c := k9c7) (by decide +kernel) rfl rfl rfl (by decide +kernel)
set_option maxRecDepth 65536 in
theorem w_c12 : (Jvm.Cond.code ({ cls := "java/lang/String", name := "charAt", desc := "(I)C" } : Jvm.MethodName) jdk_42_method_56_code (2 : Nat) (Option.some Jvm.ClassFile.FieldType.char)).before args0 about1 = true := code_word (m := ⟨7, 3⟩) (meth := k7m3) (c := k7c3) (by decide +kernel) rfl rfl rfl (by decide +kernel)
set_option maxRecDepth 65536 in
theorem w_c13 : (Jvm.Cond.code ({ cls := "java/lang/String", name := "isLatin1", desc := "()Z" } : Jvm.MethodName) jdk_42_method_154_code (1 : Nat) (Option.some Jvm.ClassFile.FieldType.boolean)).before args0 about1 = true := code_word (m := ⟨7, 6⟩) (meth := k7m6) (c := k7c6) (by decide +kernel) rfl rfl rfl (by decide +kernel)
set_option maxRecDepth 65536 in
theorem w_c14 : (Jvm.Cond.code ({ cls := "java/lang/StringLatin1", name := "charAt", desc := "([BI)C" } : Jvm.MethodName) jdk_43_method_2_code (2 : Nat) (Option.some Jvm.ClassFile.FieldType.char)).before args0 about1 = true := code_word (m := ⟨10, 1⟩) (meth := k10m1) (c := k10c1) (by decide +kernel) rfl rfl rfl (by decide +kernel)
set_option maxRecDepth 65536 in
theorem w_c15 : (Jvm.Cond.code ({ cls := "java/lang/String", name := "checkIndex", desc := "(II)V" } : Jvm.MethodName) jdk_42_method_155_code (2 : Nat) (Option.none : Option Jvm.ClassFile.FieldType)).before args0 about1 = true := code_word (m := ⟨7, 7⟩) (meth := k7m7) (c := k7c7) (by decide +kernel) rfl rfl rfl (by decide +kernel)
set_option maxRecDepth 65536 in
theorem w_c16 : (Jvm.Cond.code ({ cls := "jdk/internal/util/Preconditions", name := "checkIndex", desc := "(IILjava/util/function/BiFunction;)I" } : Jvm.MethodName) jdk_41_method_11_code (3 : Nat) (Option.some Jvm.ClassFile.FieldType.int)).before args0 about1 = true := code_word (m := ⟨11, 1⟩) (meth := k11m1) (c := k11c1) (by decide +kernel) rfl rfl rfl (by decide +kernel)
set_option maxRecDepth 65536 in
theorem w_c17 : (Jvm.Cond.code ({ cls := "java/lang/StringUTF16", name := "toBytes", desc := "([CII)[B" } : Jvm.MethodName) jdk_52_method_14_code (5 : Nat) (Option.some (Jvm.ClassFile.FieldType.array Jvm.ClassFile.FieldType.byte))).before args0 about1 = true := code_word (m := ⟨9, 6⟩) (meth := k9m6) (c := k9c6) (by decide +kernel) rfl rfl rfl (by decide +kernel)
set_option maxRecDepth 65536 in
theorem w_c18 : (Jvm.Cond.code ({ cls := "java/lang/StringUTF16", name := "newBytesFor", desc := "(I)[B" } : Jvm.MethodName) jdk_52_method_2_code (1 : Nat) (Option.some (Jvm.ClassFile.FieldType.array Jvm.ClassFile.FieldType.byte))).before args0 about1 = true := code_word (m := ⟨9, 1⟩) (meth := k9m1) (c := k9c1) (by decide +kernel) rfl rfl rfl (by decide +kernel)
set_option maxRecDepth 65536 in
theorem w_c19 : (Jvm.Cond.code ({ cls := "java/lang/StringUTF16", name := "newBytesLength", desc := "(I)I" } : Jvm.MethodName) jdk_52_method_3_code (1 : Nat) (Option.some Jvm.ClassFile.FieldType.int)).before args0 about1 = true := code_word (m := ⟨9, 2⟩) (meth := k9m2) (c := k9c2) (by decide +kernel) rfl rfl rfl (by decide +kernel)
set_option maxRecDepth 65536 in
theorem w_c20 : (Jvm.Cond.code ({ cls := "java/lang/StringUTF16", name := "putChar", desc := "([BII)V" } : Jvm.MethodName) jdk_52_method_4_code (3 : Nat) (Option.none : Option Jvm.ClassFile.FieldType)).before args0 about1 = true := code_word (m := ⟨9, 3⟩) (meth := k9m3) (c := k9c3) (by decide +kernel) rfl rfl rfl (by decide +kernel)
set_option maxRecDepth 65536 in
theorem w_c21 : (Jvm.Cond.code ({ cls := "java/lang/StringUTF16", name := "getChar", desc := "([BI)C" } : Jvm.MethodName) jdk_52_method_5_code (2 : Nat) (Option.some Jvm.ClassFile.FieldType.char)).before args0 about1 = true := code_word (m := ⟨9, 4⟩) (meth := k9m4) (c := k9c4) (by decide +kernel) rfl rfl rfl (by decide +kernel)
set_option maxRecDepth 65536 in
theorem w_c22 : (Jvm.Cond.code ({ cls := "java/lang/StringUTF16", name := "charAt", desc := "([BI)C" } : Jvm.MethodName) jdk_52_method_83_code (2 : Nat) (Option.some Jvm.ClassFile.FieldType.char)).before args0 about1 = true := code_word (m := ⟨9, 10⟩) (meth := k9m10) (c := k9c10) (by decide +kernel) rfl rfl rfl (by decide +kernel)
set_option maxRecDepth 65536 in
theorem w_c23 : (Jvm.Cond.code ({ cls := "java/lang/StringUTF16", name := "checkIndex", desc := "(I[B)V" } : Jvm.MethodName) jdk_52_method_91_code (2 : Nat) (Option.none : Option Jvm.ClassFile.FieldType)).before args0 about1 = true := code_word (m := ⟨9, 11⟩) (meth := k9m11) (c := k9c11) (by decide +kernel) rfl rfl rfl (by decide +kernel)
set_option maxRecDepth 65536 in
theorem w_c24 : (Jvm.Cond.code ({ cls := "java/lang/StringUTF16", name := "length", desc := "([B)I" } : Jvm.MethodName) jdk_52_method_6_code (1 : Nat) (Option.some Jvm.ClassFile.FieldType.int)).before args0 about1 = true := code_word (m := ⟨9, 5⟩) (meth := k9m5) (c := k9c5) (by decide +kernel) rfl rfl rfl (by decide +kernel)
def codes1 : List Jvm.Cond := [Jvm.Cond.code x code maxLocals ret, Jvm.Cond.code ({ cls := "com/example/cartulary/cartulary/entity/FootprintOfPinLaw", name := "ch", desc := "(I)C" } : Jvm.MethodName) method_2_code (1 : Nat) (Option.some Jvm.ClassFile.FieldType.char), Jvm.Cond.code ({ cls := "com/example/cartulary/cartulary/entity/FootprintOfPinLaw", name := "chars", desc := "(ICCCCC)[C" } : Jvm.MethodName) method_3_code (6 : Nat) (Option.some (Jvm.ClassFile.FieldType.array Jvm.ClassFile.FieldType.char)), Jvm.Cond.code ({ cls := "java/lang/String", name := "<init>", desc := "([C)V" } : Jvm.MethodName) jdk_42_method_3_code (2 : Nat) (Option.none : Option Jvm.ClassFile.FieldType), Jvm.Cond.code ({ cls := "java/lang/String", name := "<init>", desc := "([CIILjava/lang/Void;)V" } : Jvm.MethodName) jdk_42_method_149_code (6 : Nat) (Option.none : Option Jvm.ClassFile.FieldType), Jvm.Cond.code ({ cls := "java/lang/Object", name := "<init>", desc := "()V" } : Jvm.MethodName) object_method_1_code (1 : Nat) (Option.none : Option Jvm.ClassFile.FieldType), Jvm.Cond.code ({ cls := "com/example/cartulary/cartulary/entity/Footprint", name := "of", desc := "(Ljava/lang/String;)J" } : Jvm.MethodName) prog_25_method_3_code (3 : Nat) (Option.some Jvm.ClassFile.FieldType.long), Jvm.Cond.code ({ cls := "java/lang/String", name := "length", desc := "()I" } : Jvm.MethodName) jdk_42_method_54_code (1 : Nat) (Option.some Jvm.ClassFile.FieldType.int), Jvm.Cond.code ({ cls := "java/lang/String", name := "coder", desc := "()B" } : Jvm.MethodName) jdk_42_method_152_code (1 : Nat) (Option.some Jvm.ClassFile.FieldType.byte), Jvm.Cond.code ({ cls := "java/lang/StringUTF16", name := "compress", desc := "([CII)[B" } : Jvm.MethodName) jdk_52_method_16_code (6 : Nat) (Option.some (Jvm.ClassFile.FieldType.array Jvm.ClassFile.FieldType.byte)), Jvm.Cond.code ({ cls := "java/lang/StringUTF16", name := "compress", desc := "([CI[BII)I" } : Jvm.MethodName) jdk_52_method_21_code (7 : Nat) (Option.some Jvm.ClassFile.FieldType.int), Jvm.Cond.code ({ cls := "java/lang/StringUTF16", name := "coderFromArrayLen", desc := "([BI)B" } : Jvm.MethodName) jdk_52_method_15_code (2 : Nat) (Option.some Jvm.ClassFile.FieldType.byte), Jvm.Cond.code ({ cls := "java/lang/String", name := "charAt", desc := "(I)C" } : Jvm.MethodName) jdk_42_method_56_code (2 : Nat) (Option.some Jvm.ClassFile.FieldType.char), Jvm.Cond.code ({ cls := "java/lang/String", name := "isLatin1", desc := "()Z" } : Jvm.MethodName) jdk_42_method_154_code (1 : Nat) (Option.some Jvm.ClassFile.FieldType.boolean), Jvm.Cond.code ({ cls := "java/lang/StringLatin1", name := "charAt", desc := "([BI)C" } : Jvm.MethodName) jdk_43_method_2_code (2 : Nat) (Option.some Jvm.ClassFile.FieldType.char), Jvm.Cond.code ({ cls := "java/lang/String", name := "checkIndex", desc := "(II)V" } : Jvm.MethodName) jdk_42_method_155_code (2 : Nat) (Option.none : Option Jvm.ClassFile.FieldType), Jvm.Cond.code ({ cls := "jdk/internal/util/Preconditions", name := "checkIndex", desc := "(IILjava/util/function/BiFunction;)I" } : Jvm.MethodName) jdk_41_method_11_code (3 : Nat) (Option.some Jvm.ClassFile.FieldType.int), Jvm.Cond.code ({ cls := "java/lang/StringUTF16", name := "toBytes", desc := "([CII)[B" } : Jvm.MethodName) jdk_52_method_14_code (5 : Nat) (Option.some (Jvm.ClassFile.FieldType.array Jvm.ClassFile.FieldType.byte)), Jvm.Cond.code ({ cls := "java/lang/StringUTF16", name := "newBytesFor", desc := "(I)[B" } : Jvm.MethodName) jdk_52_method_2_code (1 : Nat) (Option.some (Jvm.ClassFile.FieldType.array Jvm.ClassFile.FieldType.byte)), Jvm.Cond.code ({ cls := "java/lang/StringUTF16", name := "newBytesLength", desc := "(I)I" } : Jvm.MethodName) jdk_52_method_3_code (1 : Nat) (Option.some Jvm.ClassFile.FieldType.int), Jvm.Cond.code ({ cls := "java/lang/StringUTF16", name := "putChar", desc := "([BII)V" } : Jvm.MethodName) jdk_52_method_4_code (3 : Nat) (Option.none : Option Jvm.ClassFile.FieldType), Jvm.Cond.code ({ cls := "java/lang/StringUTF16", name := "getChar", desc := "([BI)C" } : Jvm.MethodName) jdk_52_method_5_code (2 : Nat) (Option.some Jvm.ClassFile.FieldType.char), Jvm.Cond.code ({ cls := "java/lang/StringUTF16", name := "charAt", desc := "([BI)C" } : Jvm.MethodName) jdk_52_method_83_code (2 : Nat) (Option.some Jvm.ClassFile.FieldType.char), Jvm.Cond.code ({ cls := "java/lang/StringUTF16", name := "checkIndex", desc := "(I[B)V" } : Jvm.MethodName) jdk_52_method_91_code (2 : Nat) (Option.none : Option Jvm.ClassFile.FieldType), Jvm.Cond.code ({ cls := "java/lang/StringUTF16", name := "length", desc := "([B)I" } : Jvm.MethodName) jdk_52_method_6_code (1 : Nat) (Option.some Jvm.ClassFile.FieldType.int)]
set_option maxRecDepth 65536 in
theorem codes_eq : words1.filter isCode = codes1 := rfl
theorem w_codes : ∀ c ∈ words1.filter isCode, c.before args0 about1 = true := by
  rw [codes_eq]
  intro c hc
  simp only [codes1, List.mem_cons, List.not_mem_nil, or_false] at hc
  rcases hc with rfl | rfl | rfl | rfl | rfl | rfl | rfl | rfl | rfl | rfl | rfl | rfl | rfl | rfl | rfl | rfl | rfl | rfl | rfl | rfl | rfl | rfl | rfl | rfl | rfl
  · exact w_c0
  · exact w_c1
  · exact w_c2
  · exact w_c3
  · exact w_c4
  · exact w_c5
  · exact w_c6
  · exact w_c7
  · exact w_c8
  · exact w_c9
  · exact w_c10
  · exact w_c11
  · exact w_c12
  · exact w_c13
  · exact w_c14
  · exact w_c15
  · exact w_c16
  · exact w_c17
  · exact w_c18
  · exact w_c19
  · exact w_c20
  · exact w_c21
  · exact w_c22
  · exact w_c23
  · exact w_c24
set_option maxRecDepth 65536 in
theorem w_t1 : (words1.take 24).all (fun c => isCode c || c.before args0 about1) = true := by decide +kernel
set_option maxRecDepth 65536 in
theorem w_t2 : ((words1.drop 24).take 24).all (fun c => isCode c || c.before args0 about1) = true := by decide +kernel
set_option maxRecDepth 65536 in
theorem w_t3 : (((words1.drop 24).drop 24).take 24).all (fun c => isCode c || c.before args0 about1) = true := by decide +kernel
set_option maxRecDepth 65536 in
theorem w_t4 : ((((words1.drop 24).drop 24).drop 24).take 24).all (fun c => isCode c || c.before args0 about1) = true := by decide +kernel
set_option maxRecDepth 65536 in
theorem w_t5 : ((((words1.drop 24).drop 24).drop 24).drop 24).all (fun c => isCode c || c.before args0 about1) = true := by decide +kernel
theorem w_tables : (allAtoms (Jvm.Cond.code x code maxLocals ret :: tables_1)).before args0 about1 = true := by
  rw [allAtoms_all]
  show words1.all (fun c => c.before args0 about1) = true
  refine all_split ?_ w_codes
  rw [← List.take_append_drop 24 words1, List.all_append, w_t1, ← List.take_append_drop 24 (words1.drop 24), List.all_append, w_t2, ← List.take_append_drop 24 ((words1.drop 24).drop 24), List.all_append, w_t3, ← List.take_append_drop 24 (((words1.drop 24).drop 24).drop 24), List.all_append, w_t4, w_t5]
  rfl
set_option maxRecDepth 65536 in
theorem w_rest : rest_1_c.before args0 about1 = true := by decide +kernel
set_option maxRecDepth 65536 in
theorem w_case : (Jvm.Cond.and given_1 narrow_1).before args0 about1 = true := by decide +kernel
set_option maxRecDepth 65536 in
theorem w_consts : constsHeld consts_1 about1 := Jvm.Lit.constsHeldB_iff.mp (by decide +kernel)
theorem w_applies : (headSpec (Jvm.Cond.code x code maxLocals ret :: tables_1) room_1).applies x e0.platform about1 = true :=
  (Spec.applies_iff w_frames).mpr ⟨w_running, w_runnable, w_alone, w_named, w_hears, w_ripe, w_room, w_tables⟩
theorem atStart : AtStart classFile x code maxLocals ret World_1 tables_1 room_1 Calls_1 rest_1 Pre_1 launch0 p0 e0 about1 theMethod args0 below0 :=
  ⟨lists_1, trivial, launch0.admits_env _ _ _, launch0.least_env, fairChoices_fair.cas, fairChoices_fair.clock, w_frames, w_args, w_heap, w_applies, ⟨w_consts, trivial⟩, w_rest, w_case⟩
end start1
theorem witness_1 : WitnessClaimed_1 := ⟨start1.p0, start1.e0, start1.about1, start1.theMethod, start1.args0, start1.below0, start1.atStart⟩
end Jvm.Pilot.@@N@@
