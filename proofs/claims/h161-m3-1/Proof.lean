import JvmDerived
import JvmDerived.Pilot.@@N@@Statement
import JvmDerived.Pilot.@@N@@Code
set_option linter.unusedVariables false
set_option linter.unusedSimpArgs false
namespace Jvm.Pilot.@@N@@
open Jvm Jvm.ClassFile Sem Op Lib Jvm.Free Jvm.Stand Jvm.LawKit Jvm.RoadKit Bundle Jvm.Pilot.@@N@@.Jvm.D
section OwnKit
variable {p : Program} {l : Launch} {e : Env} {R : Room} {s : State} {m : MethodId} {args : Array Value} {below : List Frame} {meth : Method} {c : Code} {T : State} {locs : List Loc} {cells slots kc ks : Nat} {Q : Option Value → Heap → List Loc → Prop} {A B : State}
/-- the rest of a walk: from the state A the run comes to a return that Q describes -/
def OW (p : Program) (e : Env) (below : List Frame) (s : State) (Q : Option Value → Heap → List Loc → Prop) (kc ks : Nat) (A : State) : Prop :=
  ∃ s₂ o, Steps p.tables e below A s₂ ∧ s₂.status = .running ∧ Ended s₂ below o ∧ ∃ v L, o = .returned v ∧ Q v s₂.heap L ∧ FrameEnd s o s₂ L kc ks
theorem OW.st (h : ∀ t, Steps p.tables e below B t → Steps p.tables e below A t) (k : OW p e below s Q kc ks B) : OW p e below s Q kc ks A := by
  obtain ⟨a, o, h1, h2⟩ := k; exact ⟨a, o, h _ h1, h2⟩
theorem OW.tr (h : Steps p.tables e below A B) (k : OW p e below s Q kc ks B) : OW p e below s Q kc ks A := by
  obtain ⟨a, o, h1, h2⟩ := k; exact ⟨a, o, h.trans h1, h2⟩
theorem OW.ret (X : Stand p l e R s m args below meth c T locs cells slots) (hx : p.tables.exec = Jvm.exec) (hlk : meth.locks = false) {pc : Nat} {Ls : Array Slot} {w : Value} {t : FieldType} {i : Instr} {rest : List Value} (hret : meth.sig.returnType = some t) (hn : narrow t w = w)
    (hi : (i = .ireturn ∧ (t = .int ∨ t = .boolean ∨ t = .byte ∨ t = .char ∨ t = .short) ∧ ∃ z, w = .int z) ∨ (i = .lreturn ∧ t = .long ∧ ∃ z, w = .long z) ∨ (i = .dreturn ∧ t = .double ∧ ∃ z, w = .double z) ∨ (i = .freturn ∧ t = .float ∧ ∃ z, w = .float z) ∨ (i = .areturn ∧ t.isReference = true ∧ w.isRef = true))
    (hd : decode c.code pc = .ok (i, 1)) {h : Heap} (eT : T.heap = h) (hc : cells ≤ kc) (hs : slots ≤ ks) (q : Q (some w) h locs) : OW p e below s Q kc ks (T.setTop (mkF m pc Ls (w :: rest))) := by
  obtain ⟨fs, hr, hrun, hended, hW, hsame⟩ := X.leave (v := some w) (fun h => by rw [hret] at h; cases h) hlk
  subst eT
  exact ⟨_, _, retOut X hx hret hn hi hd hr, hrun, hended, _, _, rfl, q, ⟨_, rfl⟩, hW, hsame.mono hc hs⟩
theorem OW.retV (X : Stand p l e R s m args below meth c T locs cells slots) (hx : p.tables.exec = Jvm.exec) (hlk : meth.locks = false) {pc : Nat} {Ls : Array Slot} (hret : meth.sig.returnType = none)
    (hd : decode c.code pc = .ok (.return_, 1)) {h : Heap} (eT : T.heap = h) (hc : cells ≤ kc) (hs : slots ≤ ks) (q : Q none h locs) : OW p e below s Q kc ks (T.setTop (mkF m pc Ls [])) := by
  obtain ⟨fs, hr, hrun, hended, hW, hsame⟩ := X.leave (v := none) (fun _ => rfl) hlk
  subst eT
  exact ⟨_, _, X.returnOut hx hret hd hr, hrun, hended, _, _, rfl, q, ⟨_, rfl⟩, hW, hsame.mono hc hs⟩
/-- the same for a walk that may intern: its Stand is over 's.setVm vm0' -/
def OWW (p : Program) (e : Env) (below : List Frame) (s : State) (Q : Option Value → Heap → List Loc → Prop) (kc ks : Nat) (A : State) : Prop :=
  ∃ s₂ o, Steps p.tables e below A s₂ ∧ s₂.status = .running ∧ Ended s₂ below o ∧ ∃ v L, o = .returned v ∧ Q v s₂.heap L ∧ ReturnedEndW s o s₂ L kc ks
theorem OWW.st (h : ∀ t, Steps p.tables e below B t → Steps p.tables e below A t) (k : OWW p e below s Q kc ks B) : OWW p e below s Q kc ks A := by
  obtain ⟨a, o, h1, h2⟩ := k; exact ⟨a, o, h _ h1, h2⟩
theorem OWW.tr (h : Steps p.tables e below A B) (k : OWW p e below s Q kc ks B) : OWW p e below s Q kc ks A := by
  obtain ⟨a, o, h1, h2⟩ := k; exact ⟨a, o, h.trans h1, h2⟩
theorem OWW.ret {vm0 : Vm} {k0 : Nat} (X : Stand p l e R (s.setVm vm0) m args below meth c T locs cells slots) {h : Heap} (hS : s.Since vm0 k0) (hk : k0 ≤ h.size) (hx : p.tables.exec = Jvm.exec) (hlk : meth.locks = false) {pc : Nat} {Ls : Array Slot} {w : Value} {t : FieldType} {i : Instr} {rest : List Value} (hret : meth.sig.returnType = some t) (hn : narrow t w = w)
    (hi : (i = .ireturn ∧ (t = .int ∨ t = .boolean ∨ t = .byte ∨ t = .char ∨ t = .short) ∧ ∃ z, w = .int z) ∨ (i = .lreturn ∧ t = .long ∧ ∃ z, w = .long z) ∨ (i = .dreturn ∧ t = .double ∧ ∃ z, w = .double z) ∨ (i = .freturn ∧ t = .float ∧ ∃ z, w = .float z) ∨ (i = .areturn ∧ t.isReference = true ∧ w.isRef = true))
    (hd : decode c.code pc = .ok (i, 1)) (eT : T.heap = h) (hc : cells ≤ kc) (hs : slots ≤ ks) (q : Q (some w) h locs) : OWW p e below s Q kc ks (T.setTop (mkF m pc Ls (w :: rest))) := by
  obtain ⟨fs, hr, hrun, hended, hW, hsame⟩ := X.leave (v := some w) (fun h => by rw [hret] at h; cases h) hlk
  subst eT
  obtain ⟨g1, g2, g3⟩ := hS.ended (U := T.setFrames fs) hW hk hsame
  exact ⟨_, _, retOut X hx hret hn hi hd hr, hrun, hended, _, _, rfl, q, ⟨_, rfl⟩, g1, g2, g3.mono hc hs⟩
theorem OWW.retV {vm0 : Vm} {k0 : Nat} (X : Stand p l e R (s.setVm vm0) m args below meth c T locs cells slots) {h : Heap} (hS : s.Since vm0 k0) (hk : k0 ≤ h.size) (hx : p.tables.exec = Jvm.exec) (hlk : meth.locks = false) {pc : Nat} {Ls : Array Slot} (hret : meth.sig.returnType = none)
    (hd : decode c.code pc = .ok (.return_, 1)) (eT : T.heap = h) (hc : cells ≤ kc) (hs : slots ≤ ks) (q : Q none h locs) : OWW p e below s Q kc ks (T.setTop (mkF m pc Ls [])) := by
  obtain ⟨fs, hr, hrun, hended, hW, hsame⟩ := X.leave (v := none) (fun _ => rfl) hlk
  subst eT
  obtain ⟨g1, g2, g3⟩ := hS.ended (U := T.setFrames fs) hW hk hsame
  exact ⟨_, _, X.returnOut hx hret hd hr, hrun, hended, _, _, rfl, q, ⟨_, rfl⟩, g1, g2, g3.mono hc hs⟩
end OwnKit
section OwnWords
variable {args : Array Value} {first s : State} {o : Option Outcome} {idx : List Nat} {t : Term}
theorem own_eq_int {k : Int32} (h : (Jvm.Cond.eq t (.int k)).value args first o s idx = some true) : t.eval args first o idx s = some (.int k) := by
  obtain ⟨x, y, h1, h2, k1, k2⟩ := cmp_v (Or.inl h)
  rw [Term.int_eval] at h2
  cases h2
  obtain ⟨z, rfl⟩ := k2
  rw [h1, gotT (Cond.eq_ints h1 (Term.int_eval k)) h]
theorem own_eq_ref {u : Term} {a : Addr} (h : (Jvm.Cond.eq t u).value args first o s idx = some true) (hu : u.eval args first o idx s = some (.ref a)) : t.eval args first o idx s = some (.ref a) := by
  obtain ⟨x, y, h1, h2, k1, k2⟩ := cmp_v (Or.inl h)
  cases hu.symm.trans h2
  have q := gotT (eq_R h1 hu k2.2 rfl) h
  rw [h1, q]
theorem own_eq_dbl {n : Int64} {b : UInt64} (hb : Jvm.Unary.bitsD.apply (.long n) = some (.double b)) (h : (Jvm.Cond.eq t (.op1 .bitsD (.long n))).value args first o s idx = some true) : t.eval args first o idx s = some (.double b) := by
  obtain ⟨x, y, h1, h2, k1, k2⟩ := cmp_v (Or.inl h)
  rw [op1_f (long_at n), hb] at h2
  cases h2
  obtain ⟨z, rfl⟩ := k2
  have h3 : (Term.op1 Jvm.Unary.bitsD (.long n)).eval args first o idx s = some (.double b) := by rw [op1_f (long_at n), hb]
  simp only [Cond.value, h1, h3, Option.some.injEq, decide_eq_true_eq] at h
  rw [h1, h]
theorem own_arr {ty : FieldType} {a : Addr} {z : Int32} (ev : t.eval args s none [] s = some (.ref a)) (ha : (Jvm.Cond.arrayOf t ty).value args s none s [] = some true) (hl : (Term.length t).eval args s none [] s = some (.int z)) :
    ∃ cl : Cell, Arr s s.heap a cl ty ∧ cl.slots.size < 2 ^ 31 ∧ cl.slots.size.toInt32 = z ∧ ∀ j : Int32, ¬ j < 0 → ∀ v, (Term.elem t (.int j)).eval args s none [] s = some v → cl.slots[j.toNatClampNeg]? = some v := by
  obtain ⟨cl, A⟩ := Arr.start ev ha
  have hat := A.fin (Vm.Alike.refl _)
  have hlt : cl.slots.size < 2 ^ 31 := by
    refine Decidable.byContradiction fun q => ?_
    simp [Term.eval, ev, hat, q] at hl
  refine ⟨cl, A, hlt, ?_, fun j hj v hv => ?_⟩
  · rw [len_f ev hat hlt] at hl; exact Value.int.inj (Option.some.inj hl)
  · rw [elem_f ev (Term.int_eval j) hat hj] at hv; exact hv
end OwnWords
theorem own_oldle {Z : State} {n0 : Nat} {h : Heap} (X : Old Z n0 h) : n0 ≤ h.size := X.1 ▸ X.2.1
theorem own_cat {v : Value} (h : v.isRef = true) : v.category = 1 := by cases v <;> first | rfl | simp [Value.isRef] at h
theorem own_nar {v : Value} {t : FieldType} (h : v.isRef = true) (ht : t.isReference = true) : narrow t v = v := by cases t <;> first | (cases ht; done) | (cases v <;> first | rfl | simp [Value.isRef] at h)
theorem own_fit {v : Value} {t : FieldType} (h : v.isRef = true) (ht : t.isReference = true) : fits t v = true := by cases t <;> first | (cases ht; done) | (cases v <;> first | rfl | simp [Value.isRef] at h)

theorem own_nz {r : Int32} (h : r = 0 ∨ r = 1) : narrow .boolean (.int r) = .int r := by rcases h with rfl | rfl <;> rfl
theorem own_fz {r : Int32} (h : r = 0 ∨ r = 1) : fits .boolean (.int r) = true := by rcases h with rfl | rfl <;> rfl
theorem own_catI (z : Int32) : (Value.int z).category = 1 := rfl
theorem own_catJ (z : Int64) : (Value.long z).category = 2 := rfl
theorem own_catD (z : UInt64) : (Value.double z).category = 2 := rfl
theorem own_catR (z : Addr) : (Value.ref z).category = 1 := rfl
theorem own_catN : (Value.null).category = 1 := rfl
section OwnHeld
open Jvm.Free.SB Jvm.Free.SBG
variable {p : Program} {l : Launch} {e : Env} {R : Room} {s : State} {m : MethodId} {args : Array Value} {below : List Frame} {meth : Method} {c : Code} {T : State} {locs : List Loc} {cells slots kc ks : Nat} {Q : Option Value → Heap → List Loc → Prop} {A B : State} {Z : State} {EL : List (String × Nat)} {h0 : Heap} {a0 : Array Value}
/-- the rest of a walk that may intern, and keeps what is held of the String constants EL -/
def OWH (Z : State) (EL : List (String × Nat)) (h0 : Heap) (p : Program) (e : Env) (below : List Frame) (s : State) (Q : Option Value → Heap → List Loc → Prop) (kc ks : Nat) (A : State) : Prop :=
  ∃ s₂ o, Steps p.tables e below A s₂ ∧ s₂.status = .running ∧ Ended s₂ below o ∧ ∃ v L, o = .returned v ∧ Q v s₂.heap L ∧ CHr Z EL s.vm h0 s₂.vm s₂.heap ∧ ReturnedEndW s o s₂ L kc ks
theorem OWH.st (h : ∀ t, Steps p.tables e below B t → Steps p.tables e below A t) (k : OWH Z EL h0 p e below s Q kc ks B) : OWH Z EL h0 p e below s Q kc ks A := by
  obtain ⟨a, o, h1, h2⟩ := k; exact ⟨a, o, h _ h1, h2⟩
theorem OWH.tr (h : Steps p.tables e below A B) (k : OWH Z EL h0 p e below s Q kc ks B) : OWH Z EL h0 p e below s Q kc ks A := by
  obtain ⟨a, o, h1, h2⟩ := k; exact ⟨a, o, h.trans h1, h2⟩
theorem OWH.ret {vm0 : Vm} {k0 : Nat} (X : Stand p l e R (s.setVm vm0) m args below meth c T locs cells slots) {h : Heap} (hS : s.Since vm0 k0) (hk : k0 ≤ h.size) (hx : p.tables.exec = Jvm.exec) (hlk : meth.locks = false) (CR : CHr Z EL s.vm h0 vm0 h) (hZ : Z.Warmed39 vm0) (hEL : EW Z a0 EL) {pc : Nat} {Ls : Array Slot} {w : Value} {t : FieldType} {i : Instr} {rest : List Value} (hret : meth.sig.returnType = some t) (hn : narrow t w = w)
    (hi : (i = .ireturn ∧ (t = .int ∨ t = .boolean ∨ t = .byte ∨ t = .char ∨ t = .short) ∧ ∃ z, w = .int z) ∨ (i = .lreturn ∧ t = .long ∧ ∃ z, w = .long z) ∨ (i = .dreturn ∧ t = .double ∧ ∃ z, w = .double z) ∨ (i = .freturn ∧ t = .float ∧ ∃ z, w = .float z) ∨ (i = .areturn ∧ t.isReference = true ∧ w.isRef = true))
    (hd : decode c.code pc = .ok (i, 1)) (eT : T.heap = h) (hc : cells ≤ kc) (hs : slots ≤ ks) (q : Q (some w) h locs) : OWH Z EL h0 p e below s Q kc ks (T.setTop (mkF m pc Ls (w :: rest))) := by
  obtain ⟨fs, hr, hrun, hended, hW, hsame⟩ := X.leave (v := some w) (fun h => by rw [hret] at h; cases h) hlk
  subst eT
  have CA := CHv.at X hZ hEL CR.1
  obtain ⟨g1, g2, g3⟩ := hS.ended (U := T.setFrames fs) hW hk hsame
  exact ⟨_, _, retOut X hx hret hn hi hd hr, hrun, hended, _, _, rfl, q, CR.trans CA, ⟨_, rfl⟩, g1, g2, g3.mono hc hs⟩
theorem OWH.retV {vm0 : Vm} {k0 : Nat} (X : Stand p l e R (s.setVm vm0) m args below meth c T locs cells slots) {h : Heap} (hS : s.Since vm0 k0) (hk : k0 ≤ h.size) (hx : p.tables.exec = Jvm.exec) (hlk : meth.locks = false) (CR : CHr Z EL s.vm h0 vm0 h) (hZ : Z.Warmed39 vm0) (hEL : EW Z a0 EL) {pc : Nat} {Ls : Array Slot} (hret : meth.sig.returnType = none)
    (hd : decode c.code pc = .ok (.return_, 1)) (eT : T.heap = h) (hc : cells ≤ kc) (hs : slots ≤ ks) (q : Q none h locs) : OWH Z EL h0 p e below s Q kc ks (T.setTop (mkF m pc Ls [])) := by
  obtain ⟨fs, hr, hrun, hended, hW, hsame⟩ := X.leave (v := none) (fun _ => rfl) hlk
  subst eT
  have CA := CHv.at X hZ hEL CR.1
  obtain ⟨g1, g2, g3⟩ := hS.ended (U := T.setFrames fs) hW hk hsame
  exact ⟨_, _, X.returnOut hx hret hd hr, hrun, hended, _, _, rfl, q, CR.trans CA, ⟨_, rfl⟩, g1, g2, g3.mono hc hs⟩
/-- a String whose value isn't set yet is none of the booked ones -/
theorem own_safeS {vm : Vm} {h : Heap} {x : Addr} (hal : Z.vm.Alike vm) (E : Exa Z h x "java/lang/String") (F : Fld Z h x "java/lang/String" "value" "[B" .null) : Safe Z EL vm h x := fun Bx => by
  obtain ⟨q0, -, u, a, -, q, -, S, rfl | rfl⟩ := Bx
  · obtain ⟨cS, ⟨⟨s1, s2, s3, ⟨cv, kv, iv, s4, s4'⟩, -, s6, -, s8, -⟩, -⟩, -⟩ := S
    obtain ⟨cell, cf, k, i, f, e1, e2, e3, e4, e5, e6, e7⟩ := F
    cases (show h[q.sa]? = some q.sC from s1).symm.trans e1
    obtain ⟨kv', z4⟩ := ff_back (U := Wst Z vm h) hal s4
    have z5 := z4.symm.trans e2
    simp only [Option.some.injEq, Prod.mk.injEq] at z5
    rw [← z5.2.2.2, s8] at e7
    cases e7
  · obtain ⟨cell, k, e1, e2, e3, -, -⟩ := E
    cases (show h[q.sd]? = some q.SA from S.hd).symm.trans e1
    obtain ⟨cS, -, -, f, -⟩ := S
    have f' : vm.findClass "[B" = some q.SA.cls := f
    rw [hal.findClass] at f'
    obtain ⟨k1, q1, q2⟩ := Vm.findClass_spec f'
    obtain ⟨k2, q3, q4⟩ := Vm.findClass_spec e2
    cases q1.symm.trans q3
    exact absurd (q2.symm.trans q4) (by decide)
theorem own_neTy {h : Heap} {a b : Addr} {k1 k2 : ClassId} {t1 t2 : FieldType} {z1 z2 : Int32} {v1 v2 : List Value} {d1 d2 : Value} (A : Arv Z h a k1 t1 z1 v1 d1) (B : Arv Z h b k2 t2 z2 v2 d2) (ht : t1 ≠ t2) : a ≠ b := fun q => by
  subst q
  obtain ⟨c1, ⟨e1, ⟨-, ka, ha, ca, na⟩, -⟩, -⟩ := A
  obtain ⟨c2, ⟨e2, ⟨-, kb, hb, cb, nb⟩, -⟩, -⟩ := B
  cases e1.symm.trans e2
  cases ha.symm.trans hb
  have := na.symm.trans nb
  injection this with _ e
  exact ht e
end OwnHeld
theorem w_0 {a0 : Array Value} {Z : State} (hw : ∀ d ∈ tables_1, d.before a0 Z = true) : (Jvm.Cond.constant "com/example/cartulary/cartulary/entity/AttachmentValueOfStringPinLaw" (7 : Nat) (65535 : Int32)).before a0 Z = true := hw _ (List.mem_of_getElem? (i := 0) rfl)
theorem w_1 {a0 : Array Value} {Z : State} (hw : ∀ d ∈ tables_1, d.before a0 Z = true) : (Jvm.Cond.methodLink "com/example/cartulary/cartulary/entity/AttachmentValueOfStringPinLaw" (8 : Nat) ({ cls := "com/example/cartulary/cartulary/entity/AttachmentValueOfStringPinLaw", name := "make", desc := "(ICCC)Ljava/lang/String;" } : Jvm.MethodName)).before a0 Z = true := hw _ (List.mem_of_getElem? (i := 1) rfl)
theorem w_2 {a0 : Array Value} {Z : State} (hw : ∀ d ∈ tables_1, d.before a0 Z = true) : (Jvm.Cond.static ({ cls := "com/example/cartulary/cartulary/entity/AttachmentValueOfStringPinLaw", name := "make", desc := "(ICCC)Ljava/lang/String;" } : Jvm.MethodName)).before a0 Z = true := hw _ (List.mem_of_getElem? (i := 2) rfl)
theorem w_3 {a0 : Array Value} {Z : State} (hw : ∀ d ∈ tables_1, d.before a0 Z = true) : (Jvm.Cond.initialized "com/example/cartulary/cartulary/entity/AttachmentValueOfStringPinLaw").before a0 Z = true := hw _ (List.mem_of_getElem? (i := 3) rfl)
theorem w_4 {a0 : Array Value} {Z : State} (hw : ∀ d ∈ tables_1, d.before a0 Z = true) : (Jvm.Cond.code ({ cls := "com/example/cartulary/cartulary/entity/AttachmentValueOfStringPinLaw", name := "make", desc := "(ICCC)Ljava/lang/String;" } : Jvm.MethodName) method_3_code (4 : Nat) (Option.some (Jvm.ClassFile.FieldType.object "java/lang/String"))).before a0 Z = true := hw _ (List.mem_of_getElem? (i := 4) rfl)
theorem w_5 {a0 : Array Value} {Z : State} (hw : ∀ d ∈ tables_1, d.before a0 Z = true) : (Jvm.Cond.classLink "com/example/cartulary/cartulary/entity/AttachmentValueOfStringPinLaw" (29 : Nat) "java/lang/String").before a0 Z = true := hw _ (List.mem_of_getElem? (i := 5) rfl)
theorem w_6 {a0 : Array Value} {Z : State} (hw : ∀ d ∈ tables_1, d.before a0 Z = true) : (Jvm.Cond.instantiable "java/lang/String" (4 : Nat)).before a0 Z = true := hw _ (List.mem_of_getElem? (i := 6) rfl)
theorem w_7 {a0 : Array Value} {Z : State} (hw : ∀ d ∈ tables_1, d.before a0 Z = true) : (Jvm.Cond.initialized "java/lang/String").before a0 Z = true := hw _ (List.mem_of_getElem? (i := 7) rfl)
theorem w_8 {a0 : Array Value} {Z : State} (hw : ∀ d ∈ tables_1, d.before a0 Z = true) : (Jvm.Cond.arrayClass Jvm.ClassFile.FieldType.char).before a0 Z = true := hw _ (List.mem_of_getElem? (i := 8) rfl)
theorem w_9 {a0 : Array Value} {Z : State} (hw : ∀ d ∈ tables_1, d.before a0 Z = true) : (Jvm.Cond.methodLink "com/example/cartulary/cartulary/entity/AttachmentValueOfStringPinLaw" (42 : Nat) ({ cls := "java/lang/String", name := "<init>", desc := "([C)V" } : Jvm.MethodName)).before a0 Z = true := hw _ (List.mem_of_getElem? (i := 9) rfl)
theorem w_10 {a0 : Array Value} {Z : State} (hw : ∀ d ∈ tables_1, d.before a0 Z = true) : (Jvm.Cond.instanceMethod ({ cls := "java/lang/String", name := "<init>", desc := "([C)V" } : Jvm.MethodName)).before a0 Z = true := hw _ (List.mem_of_getElem? (i := 10) rfl)
theorem w_11 {a0 : Array Value} {Z : State} (hw : ∀ d ∈ tables_1, d.before a0 Z = true) : (Jvm.Cond.code ({ cls := "java/lang/String", name := "<init>", desc := "([C)V" } : Jvm.MethodName) jdk_42_method_3_code (2 : Nat) (Option.none : Option Jvm.ClassFile.FieldType)).before a0 Z = true := hw _ (List.mem_of_getElem? (i := 11) rfl)
theorem w_12 {a0 : Array Value} {Z : State} (hw : ∀ d ∈ tables_1, d.before a0 Z = true) : (Jvm.Cond.methodLink "java/lang/String" (27 : Nat) ({ cls := "java/lang/String", name := "<init>", desc := "([CIILjava/lang/Void;)V" } : Jvm.MethodName)).before a0 Z = true := hw _ (List.mem_of_getElem? (i := 12) rfl)
theorem w_13 {a0 : Array Value} {Z : State} (hw : ∀ d ∈ tables_1, d.before a0 Z = true) : (Jvm.Cond.instanceMethod ({ cls := "java/lang/String", name := "<init>", desc := "([CIILjava/lang/Void;)V" } : Jvm.MethodName)).before a0 Z = true := hw _ (List.mem_of_getElem? (i := 13) rfl)
theorem w_15 {a0 : Array Value} {Z : State} (hw : ∀ d ∈ tables_1, d.before a0 Z = true) : (Jvm.Cond.code ({ cls := "java/lang/String", name := "<init>", desc := "([CIILjava/lang/Void;)V" } : Jvm.MethodName) jdk_42_method_149_code (6 : Nat) (Option.none : Option Jvm.ClassFile.FieldType)).before a0 Z = true := hw _ (List.mem_of_getElem? (i := 15) rfl)
theorem w_16 {a0 : Array Value} {Z : State} (hw : ∀ d ∈ tables_1, d.before a0 Z = true) : (Jvm.Cond.methodLink "java/lang/String" (1 : Nat) ({ cls := "java/lang/Object", name := "<init>", desc := "()V" } : Jvm.MethodName)).before a0 Z = true := hw _ (List.mem_of_getElem? (i := 16) rfl)
theorem w_17 {a0 : Array Value} {Z : State} (hw : ∀ d ∈ tables_1, d.before a0 Z = true) : (Jvm.Cond.instanceMethod ({ cls := "java/lang/Object", name := "<init>", desc := "()V" } : Jvm.MethodName)).before a0 Z = true := hw _ (List.mem_of_getElem? (i := 17) rfl)
theorem w_18 {a0 : Array Value} {Z : State} (hw : ∀ d ∈ tables_1, d.before a0 Z = true) : (Jvm.Cond.code ({ cls := "java/lang/Object", name := "<init>", desc := "()V" } : Jvm.MethodName) object_method_1_code (1 : Nat) (Option.none : Option Jvm.ClassFile.FieldType)).before a0 Z = true := hw _ (List.mem_of_getElem? (i := 18) rfl)
theorem w_19 {a0 : Array Value} {Z : State} (hw : ∀ d ∈ tables_1, d.before a0 Z = true) : (Jvm.Cond.fieldLink "java/lang/String" (38 : Nat) "java/lang/String" "COMPACT_STRINGS" "Z").before a0 Z = true := hw _ (List.mem_of_getElem? (i := 19) rfl)
theorem w_20 {a0 : Array Value} {Z : State} (hw : ∀ d ∈ tables_1, d.before a0 Z = true) : (Jvm.Cond.methodLink "java/lang/String" (177 : Nat) ({ cls := "java/lang/StringUTF16", name := "compress", desc := "([CII)[B" } : Jvm.MethodName)).before a0 Z = true := hw _ (List.mem_of_getElem? (i := 20) rfl)
theorem w_21 {a0 : Array Value} {Z : State} (hw : ∀ d ∈ tables_1, d.before a0 Z = true) : (Jvm.Cond.static ({ cls := "java/lang/StringUTF16", name := "compress", desc := "([CII)[B" } : Jvm.MethodName)).before a0 Z = true := hw _ (List.mem_of_getElem? (i := 21) rfl)
theorem w_22 {a0 : Array Value} {Z : State} (hw : ∀ d ∈ tables_1, d.before a0 Z = true) : (Jvm.Cond.initialized "java/lang/StringUTF16").before a0 Z = true := hw _ (List.mem_of_getElem? (i := 22) rfl)
theorem w_23 {a0 : Array Value} {Z : State} (hw : ∀ d ∈ tables_1, d.before a0 Z = true) : (Jvm.Cond.code ({ cls := "java/lang/StringUTF16", name := "compress", desc := "([CII)[B" } : Jvm.MethodName) jdk_52_method_16_code (6 : Nat) (Option.some (Jvm.ClassFile.FieldType.array Jvm.ClassFile.FieldType.byte))).before a0 Z = true := hw _ (List.mem_of_getElem? (i := 23) rfl)
theorem w_24 {a0 : Array Value} {Z : State} (hw : ∀ d ∈ tables_1, d.before a0 Z = true) : (Jvm.Cond.arrayClass Jvm.ClassFile.FieldType.byte).before a0 Z = true := hw _ (List.mem_of_getElem? (i := 24) rfl)
theorem w_25 {a0 : Array Value} {Z : State} (hw : ∀ d ∈ tables_1, d.before a0 Z = true) : (Jvm.Cond.methodLink "java/lang/StringUTF16" (115 : Nat) ({ cls := "java/lang/StringUTF16", name := "compress", desc := "([CI[BII)I" } : Jvm.MethodName)).before a0 Z = true := hw _ (List.mem_of_getElem? (i := 25) rfl)
theorem w_26 {a0 : Array Value} {Z : State} (hw : ∀ d ∈ tables_1, d.before a0 Z = true) : (Jvm.Cond.static ({ cls := "java/lang/StringUTF16", name := "compress", desc := "([CI[BII)I" } : Jvm.MethodName)).before a0 Z = true := hw _ (List.mem_of_getElem? (i := 26) rfl)
theorem w_27 {a0 : Array Value} {Z : State} (hw : ∀ d ∈ tables_1, d.before a0 Z = true) : (Jvm.Cond.code ({ cls := "java/lang/StringUTF16", name := "compress", desc := "([CI[BII)I" } : Jvm.MethodName) jdk_52_method_21_code (7 : Nat) (Option.some Jvm.ClassFile.FieldType.int)).before a0 Z = true := hw _ (List.mem_of_getElem? (i := 27) rfl)
theorem w_28 {a0 : Array Value} {Z : State} (hw : ∀ d ∈ tables_1, d.before a0 Z = true) : (Jvm.Cond.methodLink "java/lang/String" (47 : Nat) ({ cls := "java/lang/StringUTF16", name := "coderFromArrayLen", desc := "([BI)B" } : Jvm.MethodName)).before a0 Z = true := hw _ (List.mem_of_getElem? (i := 28) rfl)
theorem w_29 {a0 : Array Value} {Z : State} (hw : ∀ d ∈ tables_1, d.before a0 Z = true) : (Jvm.Cond.static ({ cls := "java/lang/StringUTF16", name := "coderFromArrayLen", desc := "([BI)B" } : Jvm.MethodName)).before a0 Z = true := hw _ (List.mem_of_getElem? (i := 29) rfl)
theorem w_30 {a0 : Array Value} {Z : State} (hw : ∀ d ∈ tables_1, d.before a0 Z = true) : (Jvm.Cond.code ({ cls := "java/lang/StringUTF16", name := "coderFromArrayLen", desc := "([BI)B" } : Jvm.MethodName) jdk_52_method_15_code (2 : Nat) (Option.some Jvm.ClassFile.FieldType.byte)).before a0 Z = true := hw _ (List.mem_of_getElem? (i := 30) rfl)
theorem w_31 {a0 : Array Value} {Z : State} (hw : ∀ d ∈ tables_1, d.before a0 Z = true) : (Jvm.Cond.fieldLink "java/lang/String" (15 : Nat) "java/lang/String" "coder" "B").before a0 Z = true := hw _ (List.mem_of_getElem? (i := 31) rfl)
theorem w_32 {a0 : Array Value} {Z : State} (hw : ∀ d ∈ tables_1, d.before a0 Z = true) : (Jvm.Cond.laysFinal "java/lang/String" "java/lang/String" "coder" "B").before a0 Z = true := hw _ (List.mem_of_getElem? (i := 32) rfl)
theorem w_33 {a0 : Array Value} {Z : State} (hw : ∀ d ∈ tables_1, d.before a0 Z = true) : (Jvm.Cond.fieldLink "java/lang/String" (9 : Nat) "java/lang/String" "value" "[B").before a0 Z = true := hw _ (List.mem_of_getElem? (i := 33) rfl)
theorem w_34 {a0 : Array Value} {Z : State} (hw : ∀ d ∈ tables_1, d.before a0 Z = true) : (Jvm.Cond.laysFinal "java/lang/String" "java/lang/String" "value" "[B").before a0 Z = true := hw _ (List.mem_of_getElem? (i := 34) rfl)
theorem w_35 {a0 : Array Value} {Z : State} (hw : ∀ d ∈ tables_1, d.before a0 Z = true) : (Jvm.Cond.methodLink "com/example/cartulary/cartulary/entity/AttachmentValueOfStringPinLaw" (14 : Nat) ({ cls := "com/example/cartulary/cartulary/entity/AttachmentValue", name := "ofString", desc := "(Ljava/lang/String;)Lcom/example/cartulary/cartulary/entity/AttachmentValue;" } : Jvm.MethodName)).before a0 Z = true := hw _ (List.mem_of_getElem? (i := 35) rfl)
theorem w_36 {a0 : Array Value} {Z : State} (hw : ∀ d ∈ tables_1, d.before a0 Z = true) : (Jvm.Cond.static ({ cls := "com/example/cartulary/cartulary/entity/AttachmentValue", name := "ofString", desc := "(Ljava/lang/String;)Lcom/example/cartulary/cartulary/entity/AttachmentValue;" } : Jvm.MethodName)).before a0 Z = true := hw _ (List.mem_of_getElem? (i := 36) rfl)
theorem w_37 {a0 : Array Value} {Z : State} (hw : ∀ d ∈ tables_1, d.before a0 Z = true) : (Jvm.Cond.initialized "com/example/cartulary/cartulary/entity/AttachmentValue").before a0 Z = true := hw _ (List.mem_of_getElem? (i := 37) rfl)
theorem w_38 {a0 : Array Value} {Z : State} (hw : ∀ d ∈ tables_1, d.before a0 Z = true) : (Jvm.Cond.code ({ cls := "com/example/cartulary/cartulary/entity/AttachmentValue", name := "ofString", desc := "(Ljava/lang/String;)Lcom/example/cartulary/cartulary/entity/AttachmentValue;" } : Jvm.MethodName) prog_19_method_2_code (1 : Nat) (Option.some (Jvm.ClassFile.FieldType.object "com/example/cartulary/cartulary/entity/AttachmentValue"))).before a0 Z = true := hw _ (List.mem_of_getElem? (i := 38) rfl)
theorem w_39 {a0 : Array Value} {Z : State} (hw : ∀ d ∈ tables_1, d.before a0 Z = true) : (Jvm.Cond.classLink "com/example/cartulary/cartulary/entity/AttachmentValue" (8 : Nat) "com/example/cartulary/cartulary/entity/AttachmentValue").before a0 Z = true := hw _ (List.mem_of_getElem? (i := 39) rfl)
theorem w_40 {a0 : Array Value} {Z : State} (hw : ∀ d ∈ tables_1, d.before a0 Z = true) : (Jvm.Cond.instantiable "com/example/cartulary/cartulary/entity/AttachmentValue" (2 : Nat)).before a0 Z = true := hw _ (List.mem_of_getElem? (i := 40) rfl)
theorem w_41 {a0 : Array Value} {Z : State} (hw : ∀ d ∈ tables_1, d.before a0 Z = true) : (Jvm.Cond.stringLink "com/example/cartulary/cartulary/entity/AttachmentValue" (17 : Nat) "text").before a0 Z = true := hw _ (List.mem_of_getElem? (i := 41) rfl)
theorem w_42 {a0 : Array Value} {Z : State} (hw : ∀ d ∈ tables_1, d.before a0 Z = true) : (Jvm.Cond.soleField "java/lang/String" "value").before a0 Z = true := hw _ (List.mem_of_getElem? (i := 42) rfl)
theorem w_43 {a0 : Array Value} {Z : State} (hw : ∀ d ∈ tables_1, d.before a0 Z = true) : (Jvm.Cond.soleField "java/lang/String" "coder").before a0 Z = true := hw _ (List.mem_of_getElem? (i := 43) rfl)
theorem w_44 {a0 : Array Value} {Z : State} (hw : ∀ d ∈ tables_1, d.before a0 Z = true) : (Jvm.Cond.methodLink "com/example/cartulary/cartulary/entity/AttachmentValue" (18 : Nat) ({ cls := "java/util/Objects", name := "requireNonNull", desc := "(Ljava/lang/Object;Ljava/lang/String;)Ljava/lang/Object;" } : Jvm.MethodName)).before a0 Z = true := hw _ (List.mem_of_getElem? (i := 44) rfl)
theorem w_45 {a0 : Array Value} {Z : State} (hw : ∀ d ∈ tables_1, d.before a0 Z = true) : (Jvm.Cond.static ({ cls := "java/util/Objects", name := "requireNonNull", desc := "(Ljava/lang/Object;Ljava/lang/String;)Ljava/lang/Object;" } : Jvm.MethodName)).before a0 Z = true := hw _ (List.mem_of_getElem? (i := 45) rfl)
theorem w_46 {a0 : Array Value} {Z : State} (hw : ∀ d ∈ tables_1, d.before a0 Z = true) : (Jvm.Cond.initialized "java/util/Objects").before a0 Z = true := hw _ (List.mem_of_getElem? (i := 46) rfl)
theorem w_47 {a0 : Array Value} {Z : State} (hw : ∀ d ∈ tables_1, d.before a0 Z = true) : (Jvm.Cond.code ({ cls := "java/util/Objects", name := "requireNonNull", desc := "(Ljava/lang/Object;Ljava/lang/String;)Ljava/lang/Object;" } : Jvm.MethodName) jdk_31_method_11_code (2 : Nat) (Option.some (Jvm.ClassFile.FieldType.object "java/lang/Object"))).before a0 Z = true := hw _ (List.mem_of_getElem? (i := 47) rfl)
theorem w_48 {a0 : Array Value} {Z : State} (hw : ∀ d ∈ tables_1, d.before a0 Z = true) : (Jvm.Cond.classLink "com/example/cartulary/cartulary/entity/AttachmentValue" (24 : Nat) "java/lang/String").before a0 Z = true := hw _ (List.mem_of_getElem? (i := 48) rfl)
theorem w_49 {a0 : Array Value} {Z : State} (hw : ∀ d ∈ tables_1, d.before a0 Z = true) : (Jvm.Cond.methodLink "com/example/cartulary/cartulary/entity/AttachmentValue" (26 : Nat) ({ cls := "com/example/cartulary/cartulary/entity/AttachmentValue", name := "<init>", desc := "(Ljava/lang/String;Z)V" } : Jvm.MethodName)).before a0 Z = true := hw _ (List.mem_of_getElem? (i := 49) rfl)
theorem w_50 {a0 : Array Value} {Z : State} (hw : ∀ d ∈ tables_1, d.before a0 Z = true) : (Jvm.Cond.instanceMethod ({ cls := "com/example/cartulary/cartulary/entity/AttachmentValue", name := "<init>", desc := "(Ljava/lang/String;Z)V" } : Jvm.MethodName)).before a0 Z = true := hw _ (List.mem_of_getElem? (i := 50) rfl)
theorem w_51 {a0 : Array Value} {Z : State} (hw : ∀ d ∈ tables_1, d.before a0 Z = true) : (Jvm.Cond.code ({ cls := "com/example/cartulary/cartulary/entity/AttachmentValue", name := "<init>", desc := "(Ljava/lang/String;Z)V" } : Jvm.MethodName) prog_19_method_1_code (3 : Nat) (Option.none : Option Jvm.ClassFile.FieldType)).before a0 Z = true := hw _ (List.mem_of_getElem? (i := 51) rfl)
theorem w_52 {a0 : Array Value} {Z : State} (hw : ∀ d ∈ tables_1, d.before a0 Z = true) : (Jvm.Cond.methodLink "com/example/cartulary/cartulary/entity/AttachmentValue" (1 : Nat) ({ cls := "java/lang/Object", name := "<init>", desc := "()V" } : Jvm.MethodName)).before a0 Z = true := hw _ (List.mem_of_getElem? (i := 52) rfl)
theorem w_53 {a0 : Array Value} {Z : State} (hw : ∀ d ∈ tables_1, d.before a0 Z = true) : (Jvm.Cond.fieldLink "com/example/cartulary/cartulary/entity/AttachmentValue" (7 : Nat) "com/example/cartulary/cartulary/entity/AttachmentValue" "text" "Ljava/lang/String;").before a0 Z = true := hw _ (List.mem_of_getElem? (i := 53) rfl)
theorem w_54 {a0 : Array Value} {Z : State} (hw : ∀ d ∈ tables_1, d.before a0 Z = true) : (Jvm.Cond.laysFinal "com/example/cartulary/cartulary/entity/AttachmentValue" "com/example/cartulary/cartulary/entity/AttachmentValue" "text" "Ljava/lang/String;").before a0 Z = true := hw _ (List.mem_of_getElem? (i := 54) rfl)
theorem w_55 {a0 : Array Value} {Z : State} (hw : ∀ d ∈ tables_1, d.before a0 Z = true) : (Jvm.Cond.fieldLink "com/example/cartulary/cartulary/entity/AttachmentValue" (13 : Nat) "com/example/cartulary/cartulary/entity/AttachmentValue" "uri" "Z").before a0 Z = true := hw _ (List.mem_of_getElem? (i := 55) rfl)
theorem w_56 {a0 : Array Value} {Z : State} (hw : ∀ d ∈ tables_1, d.before a0 Z = true) : (Jvm.Cond.laysFinal "com/example/cartulary/cartulary/entity/AttachmentValue" "com/example/cartulary/cartulary/entity/AttachmentValue" "uri" "Z").before a0 Z = true := hw _ (List.mem_of_getElem? (i := 56) rfl)
theorem w_57 {a0 : Array Value} {Z : State} (hw : ∀ d ∈ tables_1, d.before a0 Z = true) : (Jvm.Cond.methodLink "com/example/cartulary/cartulary/entity/AttachmentValueOfStringPinLaw" (20 : Nat) ({ cls := "com/example/cartulary/cartulary/entity/AttachmentValue", name := "isUri", desc := "()Z" } : Jvm.MethodName)).before a0 Z = true := hw _ (List.mem_of_getElem? (i := 57) rfl)
theorem w_58 {a0 : Array Value} {Z : State} (hw : ∀ d ∈ tables_1, d.before a0 Z = true) : (Jvm.Cond.declares ({ cls := "com/example/cartulary/cartulary/entity/AttachmentValue", name := "isUri", desc := "()Z" } : Jvm.MethodName)).before a0 Z = true := hw _ (List.mem_of_getElem? (i := 58) rfl)
theorem w_59 {a0 : Array Value} {Z : State} (hw : ∀ d ∈ tables_1, d.before a0 Z = true) : (Jvm.Cond.instanceMethod ({ cls := "com/example/cartulary/cartulary/entity/AttachmentValue", name := "isUri", desc := "()Z" } : Jvm.MethodName)).before a0 Z = true := hw _ (List.mem_of_getElem? (i := 59) rfl)
theorem w_60 {a0 : Array Value} {Z : State} (hw : ∀ d ∈ tables_1, d.before a0 Z = true) : (Jvm.Cond.selects "com/example/cartulary/cartulary/entity/AttachmentValue" ({ cls := "com/example/cartulary/cartulary/entity/AttachmentValue", name := "isUri", desc := "()Z" } : Jvm.MethodName) ({ cls := "com/example/cartulary/cartulary/entity/AttachmentValue", name := "isUri", desc := "()Z" } : Jvm.MethodName)).before a0 Z = true := hw _ (List.mem_of_getElem? (i := 60) rfl)
theorem w_61 {a0 : Array Value} {Z : State} (hw : ∀ d ∈ tables_1, d.before a0 Z = true) : (Jvm.Cond.code ({ cls := "com/example/cartulary/cartulary/entity/AttachmentValue", name := "isUri", desc := "()Z" } : Jvm.MethodName) prog_19_method_4_code (1 : Nat) (Option.some Jvm.ClassFile.FieldType.boolean)).before a0 Z = true := hw _ (List.mem_of_getElem? (i := 61) rfl)
theorem w_62 {a0 : Array Value} {Z : State} (hw : ∀ d ∈ tables_1, d.before a0 Z = true) : (Jvm.Cond.methodLink "com/example/cartulary/cartulary/entity/AttachmentValueOfStringPinLaw" (24 : Nat) ({ cls := "com/example/cartulary/cartulary/entity/AttachmentValue", name := "getText", desc := "()Ljava/lang/String;" } : Jvm.MethodName)).before a0 Z = true := hw _ (List.mem_of_getElem? (i := 62) rfl)
theorem w_63 {a0 : Array Value} {Z : State} (hw : ∀ d ∈ tables_1, d.before a0 Z = true) : (Jvm.Cond.declares ({ cls := "com/example/cartulary/cartulary/entity/AttachmentValue", name := "getText", desc := "()Ljava/lang/String;" } : Jvm.MethodName)).before a0 Z = true := hw _ (List.mem_of_getElem? (i := 63) rfl)
theorem w_64 {a0 : Array Value} {Z : State} (hw : ∀ d ∈ tables_1, d.before a0 Z = true) : (Jvm.Cond.instanceMethod ({ cls := "com/example/cartulary/cartulary/entity/AttachmentValue", name := "getText", desc := "()Ljava/lang/String;" } : Jvm.MethodName)).before a0 Z = true := hw _ (List.mem_of_getElem? (i := 64) rfl)
theorem w_65 {a0 : Array Value} {Z : State} (hw : ∀ d ∈ tables_1, d.before a0 Z = true) : (Jvm.Cond.selects "com/example/cartulary/cartulary/entity/AttachmentValue" ({ cls := "com/example/cartulary/cartulary/entity/AttachmentValue", name := "getText", desc := "()Ljava/lang/String;" } : Jvm.MethodName) ({ cls := "com/example/cartulary/cartulary/entity/AttachmentValue", name := "getText", desc := "()Ljava/lang/String;" } : Jvm.MethodName)).before a0 Z = true := hw _ (List.mem_of_getElem? (i := 65) rfl)
theorem w_66 {a0 : Array Value} {Z : State} (hw : ∀ d ∈ tables_1, d.before a0 Z = true) : (Jvm.Cond.code ({ cls := "com/example/cartulary/cartulary/entity/AttachmentValue", name := "getText", desc := "()Ljava/lang/String;" } : Jvm.MethodName) prog_19_method_5_code (1 : Nat) (Option.some (Jvm.ClassFile.FieldType.object "java/lang/String"))).before a0 Z = true := hw _ (List.mem_of_getElem? (i := 66) rfl)
theorem w_67 {a0 : Array Value} {Z : State} (hw : ∀ d ∈ tables_1, d.before a0 Z = true) : (Jvm.Cond.methodLink "com/example/cartulary/cartulary/entity/AttachmentValueOfStringPinLaw" (28 : Nat) ({ cls := "java/lang/String", name := "length", desc := "()I" } : Jvm.MethodName)).before a0 Z = true := hw _ (List.mem_of_getElem? (i := 67) rfl)
theorem w_68 {a0 : Array Value} {Z : State} (hw : ∀ d ∈ tables_1, d.before a0 Z = true) : (Jvm.Cond.declares ({ cls := "java/lang/String", name := "length", desc := "()I" } : Jvm.MethodName)).before a0 Z = true := hw _ (List.mem_of_getElem? (i := 68) rfl)
theorem w_69 {a0 : Array Value} {Z : State} (hw : ∀ d ∈ tables_1, d.before a0 Z = true) : (Jvm.Cond.instanceMethod ({ cls := "java/lang/String", name := "length", desc := "()I" } : Jvm.MethodName)).before a0 Z = true := hw _ (List.mem_of_getElem? (i := 69) rfl)
theorem w_70 {a0 : Array Value} {Z : State} (hw : ∀ d ∈ tables_1, d.before a0 Z = true) : (Jvm.Cond.selects "java/lang/String" ({ cls := "java/lang/String", name := "length", desc := "()I" } : Jvm.MethodName) ({ cls := "java/lang/String", name := "length", desc := "()I" } : Jvm.MethodName)).before a0 Z = true := hw _ (List.mem_of_getElem? (i := 70) rfl)
theorem w_71 {a0 : Array Value} {Z : State} (hw : ∀ d ∈ tables_1, d.before a0 Z = true) : (Jvm.Cond.code ({ cls := "java/lang/String", name := "length", desc := "()I" } : Jvm.MethodName) jdk_42_method_54_code (1 : Nat) (Option.some Jvm.ClassFile.FieldType.int)).before a0 Z = true := hw _ (List.mem_of_getElem? (i := 71) rfl)
theorem w_72 {a0 : Array Value} {Z : State} (hw : ∀ d ∈ tables_1, d.before a0 Z = true) : (Jvm.Cond.methodLink "java/lang/String" (335 : Nat) ({ cls := "java/lang/String", name := "coder", desc := "()B" } : Jvm.MethodName)).before a0 Z = true := hw _ (List.mem_of_getElem? (i := 72) rfl)
theorem w_73 {a0 : Array Value} {Z : State} (hw : ∀ d ∈ tables_1, d.before a0 Z = true) : (Jvm.Cond.declares ({ cls := "java/lang/String", name := "coder", desc := "()B" } : Jvm.MethodName)).before a0 Z = true := hw _ (List.mem_of_getElem? (i := 73) rfl)
theorem w_74 {a0 : Array Value} {Z : State} (hw : ∀ d ∈ tables_1, d.before a0 Z = true) : (Jvm.Cond.instanceMethod ({ cls := "java/lang/String", name := "coder", desc := "()B" } : Jvm.MethodName)).before a0 Z = true := hw _ (List.mem_of_getElem? (i := 74) rfl)
theorem w_75 {a0 : Array Value} {Z : State} (hw : ∀ d ∈ tables_1, d.before a0 Z = true) : (Jvm.Cond.selects "java/lang/String" ({ cls := "java/lang/String", name := "coder", desc := "()B" } : Jvm.MethodName) ({ cls := "java/lang/String", name := "coder", desc := "()B" } : Jvm.MethodName)).before a0 Z = true := hw _ (List.mem_of_getElem? (i := 75) rfl)
theorem w_76 {a0 : Array Value} {Z : State} (hw : ∀ d ∈ tables_1, d.before a0 Z = true) : (Jvm.Cond.code ({ cls := "java/lang/String", name := "coder", desc := "()B" } : Jvm.MethodName) jdk_42_method_152_code (1 : Nat) (Option.some Jvm.ClassFile.FieldType.byte)).before a0 Z = true := hw _ (List.mem_of_getElem? (i := 76) rfl)
theorem w_77 {a0 : Array Value} {Z : State} (hw : ∀ d ∈ tables_1, d.before a0 Z = true) : (Jvm.Cond.methodLink "com/example/cartulary/cartulary/entity/AttachmentValueOfStringPinLaw" (34 : Nat) ({ cls := "java/lang/String", name := "charAt", desc := "(I)C" } : Jvm.MethodName)).before a0 Z = true := hw _ (List.mem_of_getElem? (i := 77) rfl)
theorem w_78 {a0 : Array Value} {Z : State} (hw : ∀ d ∈ tables_1, d.before a0 Z = true) : (Jvm.Cond.declares ({ cls := "java/lang/String", name := "charAt", desc := "(I)C" } : Jvm.MethodName)).before a0 Z = true := hw _ (List.mem_of_getElem? (i := 78) rfl)
theorem w_79 {a0 : Array Value} {Z : State} (hw : ∀ d ∈ tables_1, d.before a0 Z = true) : (Jvm.Cond.instanceMethod ({ cls := "java/lang/String", name := "charAt", desc := "(I)C" } : Jvm.MethodName)).before a0 Z = true := hw _ (List.mem_of_getElem? (i := 79) rfl)
theorem w_80 {a0 : Array Value} {Z : State} (hw : ∀ d ∈ tables_1, d.before a0 Z = true) : (Jvm.Cond.selects "java/lang/String" ({ cls := "java/lang/String", name := "charAt", desc := "(I)C" } : Jvm.MethodName) ({ cls := "java/lang/String", name := "charAt", desc := "(I)C" } : Jvm.MethodName)).before a0 Z = true := hw _ (List.mem_of_getElem? (i := 80) rfl)
theorem w_81 {a0 : Array Value} {Z : State} (hw : ∀ d ∈ tables_1, d.before a0 Z = true) : (Jvm.Cond.code ({ cls := "java/lang/String", name := "charAt", desc := "(I)C" } : Jvm.MethodName) jdk_42_method_56_code (2 : Nat) (Option.some Jvm.ClassFile.FieldType.char)).before a0 Z = true := hw _ (List.mem_of_getElem? (i := 81) rfl)
theorem w_82 {a0 : Array Value} {Z : State} (hw : ∀ d ∈ tables_1, d.before a0 Z = true) : (Jvm.Cond.methodLink "java/lang/String" (492 : Nat) ({ cls := "java/lang/String", name := "isLatin1", desc := "()Z" } : Jvm.MethodName)).before a0 Z = true := hw _ (List.mem_of_getElem? (i := 82) rfl)
theorem w_83 {a0 : Array Value} {Z : State} (hw : ∀ d ∈ tables_1, d.before a0 Z = true) : (Jvm.Cond.declares ({ cls := "java/lang/String", name := "isLatin1", desc := "()Z" } : Jvm.MethodName)).before a0 Z = true := hw _ (List.mem_of_getElem? (i := 83) rfl)
theorem w_84 {a0 : Array Value} {Z : State} (hw : ∀ d ∈ tables_1, d.before a0 Z = true) : (Jvm.Cond.instanceMethod ({ cls := "java/lang/String", name := "isLatin1", desc := "()Z" } : Jvm.MethodName)).before a0 Z = true := hw _ (List.mem_of_getElem? (i := 84) rfl)
theorem w_85 {a0 : Array Value} {Z : State} (hw : ∀ d ∈ tables_1, d.before a0 Z = true) : (Jvm.Cond.selects "java/lang/String" ({ cls := "java/lang/String", name := "isLatin1", desc := "()Z" } : Jvm.MethodName) ({ cls := "java/lang/String", name := "isLatin1", desc := "()Z" } : Jvm.MethodName)).before a0 Z = true := hw _ (List.mem_of_getElem? (i := 85) rfl)
theorem w_86 {a0 : Array Value} {Z : State} (hw : ∀ d ∈ tables_1, d.before a0 Z = true) : (Jvm.Cond.code ({ cls := "java/lang/String", name := "isLatin1", desc := "()Z" } : Jvm.MethodName) jdk_42_method_154_code (1 : Nat) (Option.some Jvm.ClassFile.FieldType.boolean)).before a0 Z = true := hw _ (List.mem_of_getElem? (i := 86) rfl)
theorem w_87 {a0 : Array Value} {Z : State} (hw : ∀ d ∈ tables_1, d.before a0 Z = true) : (Jvm.Cond.methodLink "java/lang/String" (495 : Nat) ({ cls := "java/lang/StringLatin1", name := "charAt", desc := "([BI)C" } : Jvm.MethodName)).before a0 Z = true := hw _ (List.mem_of_getElem? (i := 87) rfl)
theorem w_88 {a0 : Array Value} {Z : State} (hw : ∀ d ∈ tables_1, d.before a0 Z = true) : (Jvm.Cond.static ({ cls := "java/lang/StringLatin1", name := "charAt", desc := "([BI)C" } : Jvm.MethodName)).before a0 Z = true := hw _ (List.mem_of_getElem? (i := 88) rfl)
theorem w_89 {a0 : Array Value} {Z : State} (hw : ∀ d ∈ tables_1, d.before a0 Z = true) : (Jvm.Cond.initialized "java/lang/StringLatin1").before a0 Z = true := hw _ (List.mem_of_getElem? (i := 89) rfl)
theorem w_90 {a0 : Array Value} {Z : State} (hw : ∀ d ∈ tables_1, d.before a0 Z = true) : (Jvm.Cond.code ({ cls := "java/lang/StringLatin1", name := "charAt", desc := "([BI)C" } : Jvm.MethodName) jdk_43_method_2_code (2 : Nat) (Option.some Jvm.ClassFile.FieldType.char)).before a0 Z = true := hw _ (List.mem_of_getElem? (i := 90) rfl)
theorem w_91 {a0 : Array Value} {Z : State} (hw : ∀ d ∈ tables_1, d.before a0 Z = true) : (Jvm.Cond.methodLink "java/lang/StringLatin1" (9 : Nat) ({ cls := "java/lang/String", name := "checkIndex", desc := "(II)V" } : Jvm.MethodName)).before a0 Z = true := hw _ (List.mem_of_getElem? (i := 91) rfl)
theorem w_92 {a0 : Array Value} {Z : State} (hw : ∀ d ∈ tables_1, d.before a0 Z = true) : (Jvm.Cond.static ({ cls := "java/lang/String", name := "checkIndex", desc := "(II)V" } : Jvm.MethodName)).before a0 Z = true := hw _ (List.mem_of_getElem? (i := 92) rfl)
theorem w_93 {a0 : Array Value} {Z : State} (hw : ∀ d ∈ tables_1, d.before a0 Z = true) : (Jvm.Cond.code ({ cls := "java/lang/String", name := "checkIndex", desc := "(II)V" } : Jvm.MethodName) jdk_42_method_155_code (2 : Nat) (Option.none : Option Jvm.ClassFile.FieldType)).before a0 Z = true := hw _ (List.mem_of_getElem? (i := 93) rfl)
theorem w_94 {a0 : Array Value} {Z : State} (hw : ∀ d ∈ tables_1, d.before a0 Z = true) : (Jvm.Cond.fieldLink "java/lang/String" (1053 : Nat) "jdk/internal/util/Preconditions" "SIOOBE_FORMATTER" "Ljava/util/function/BiFunction;").before a0 Z = true := hw _ (List.mem_of_getElem? (i := 94) rfl)
theorem w_95 {a0 : Array Value} {Z : State} (hw : ∀ d ∈ tables_1, d.before a0 Z = true) : (Jvm.Cond.initialized "jdk/internal/util/Preconditions").before a0 Z = true := hw _ (List.mem_of_getElem? (i := 95) rfl)
theorem w_96 {a0 : Array Value} {Z : State} (hw : ∀ d ∈ tables_1, d.before a0 Z = true) : (Jvm.Cond.methodLink "java/lang/String" (1059 : Nat) ({ cls := "jdk/internal/util/Preconditions", name := "checkIndex", desc := "(IILjava/util/function/BiFunction;)I" } : Jvm.MethodName)).before a0 Z = true := hw _ (List.mem_of_getElem? (i := 96) rfl)
theorem w_97 {a0 : Array Value} {Z : State} (hw : ∀ d ∈ tables_1, d.before a0 Z = true) : (Jvm.Cond.static ({ cls := "jdk/internal/util/Preconditions", name := "checkIndex", desc := "(IILjava/util/function/BiFunction;)I" } : Jvm.MethodName)).before a0 Z = true := hw _ (List.mem_of_getElem? (i := 97) rfl)
theorem w_98 {a0 : Array Value} {Z : State} (hw : ∀ d ∈ tables_1, d.before a0 Z = true) : (Jvm.Cond.code ({ cls := "jdk/internal/util/Preconditions", name := "checkIndex", desc := "(IILjava/util/function/BiFunction;)I" } : Jvm.MethodName) jdk_41_method_11_code (3 : Nat) (Option.some Jvm.ClassFile.FieldType.int)).before a0 Z = true := hw _ (List.mem_of_getElem? (i := 98) rfl)
theorem w_99 {a0 : Array Value} {Z : State} (hw : ∀ d ∈ tables_1, d.before a0 Z = true) : (Jvm.Cond.methodLink "com/example/cartulary/cartulary/entity/AttachmentValueOfStringPinLaw" (38 : Nat) ({ cls := "java/lang/String", name := "equals", desc := "(Ljava/lang/Object;)Z" } : Jvm.MethodName)).before a0 Z = true := hw _ (List.mem_of_getElem? (i := 99) rfl)
theorem w_100 {a0 : Array Value} {Z : State} (hw : ∀ d ∈ tables_1, d.before a0 Z = true) : (Jvm.Cond.declares ({ cls := "java/lang/String", name := "equals", desc := "(Ljava/lang/Object;)Z" } : Jvm.MethodName)).before a0 Z = true := hw _ (List.mem_of_getElem? (i := 100) rfl)
theorem w_101 {a0 : Array Value} {Z : State} (hw : ∀ d ∈ tables_1, d.before a0 Z = true) : (Jvm.Cond.instanceMethod ({ cls := "java/lang/String", name := "equals", desc := "(Ljava/lang/Object;)Z" } : Jvm.MethodName)).before a0 Z = true := hw _ (List.mem_of_getElem? (i := 101) rfl)
theorem w_102 {a0 : Array Value} {Z : State} (hw : ∀ d ∈ tables_1, d.before a0 Z = true) : (Jvm.Cond.selects "java/lang/String" ({ cls := "java/lang/String", name := "equals", desc := "(Ljava/lang/Object;)Z" } : Jvm.MethodName) ({ cls := "java/lang/String", name := "equals", desc := "(Ljava/lang/Object;)Z" } : Jvm.MethodName)).before a0 Z = true := hw _ (List.mem_of_getElem? (i := 102) rfl)
theorem w_103 {a0 : Array Value} {Z : State} (hw : ∀ d ∈ tables_1, d.before a0 Z = true) : (Jvm.Cond.code ({ cls := "java/lang/String", name := "equals", desc := "(Ljava/lang/Object;)Z" } : Jvm.MethodName) jdk_42_method_66_code (3 : Nat) (Option.some Jvm.ClassFile.FieldType.boolean)).before a0 Z = true := hw _ (List.mem_of_getElem? (i := 103) rfl)
theorem w_104 {a0 : Array Value} {Z : State} (hw : ∀ d ∈ tables_1, d.before a0 Z = true) : (Jvm.Cond.stringLink "java/lang/String" (7 : Nat) "").before a0 Z = true := hw _ (List.mem_of_getElem? (i := 104) rfl)
theorem w_105 {a0 : Array Value} {Z : State} (hw : ∀ d ∈ tables_1, d.before a0 Z = true) : (Jvm.Cond.methodLink "java/lang/StringUTF16" (119 : Nat) ({ cls := "java/lang/StringUTF16", name := "toBytes", desc := "([CII)[B" } : Jvm.MethodName)).before a0 Z = true := hw _ (List.mem_of_getElem? (i := 105) rfl)
theorem w_106 {a0 : Array Value} {Z : State} (hw : ∀ d ∈ tables_1, d.before a0 Z = true) : (Jvm.Cond.static ({ cls := "java/lang/StringUTF16", name := "toBytes", desc := "([CII)[B" } : Jvm.MethodName)).before a0 Z = true := hw _ (List.mem_of_getElem? (i := 106) rfl)
theorem w_107 {a0 : Array Value} {Z : State} (hw : ∀ d ∈ tables_1, d.before a0 Z = true) : (Jvm.Cond.code ({ cls := "java/lang/StringUTF16", name := "toBytes", desc := "([CII)[B" } : Jvm.MethodName) jdk_52_method_14_code (5 : Nat) (Option.some (Jvm.ClassFile.FieldType.array Jvm.ClassFile.FieldType.byte))).before a0 Z = true := hw _ (List.mem_of_getElem? (i := 107) rfl)
theorem w_108 {a0 : Array Value} {Z : State} (hw : ∀ d ∈ tables_1, d.before a0 Z = true) : (Jvm.Cond.methodLink "java/lang/StringUTF16" (107 : Nat) ({ cls := "java/lang/StringUTF16", name := "newBytesFor", desc := "(I)[B" } : Jvm.MethodName)).before a0 Z = true := hw _ (List.mem_of_getElem? (i := 108) rfl)
theorem w_109 {a0 : Array Value} {Z : State} (hw : ∀ d ∈ tables_1, d.before a0 Z = true) : (Jvm.Cond.static ({ cls := "java/lang/StringUTF16", name := "newBytesFor", desc := "(I)[B" } : Jvm.MethodName)).before a0 Z = true := hw _ (List.mem_of_getElem? (i := 109) rfl)
theorem w_110 {a0 : Array Value} {Z : State} (hw : ∀ d ∈ tables_1, d.before a0 Z = true) : (Jvm.Cond.code ({ cls := "java/lang/StringUTF16", name := "newBytesFor", desc := "(I)[B" } : Jvm.MethodName) jdk_52_method_2_code (1 : Nat) (Option.some (Jvm.ClassFile.FieldType.array Jvm.ClassFile.FieldType.byte))).before a0 Z = true := hw _ (List.mem_of_getElem? (i := 110) rfl)
theorem w_111 {a0 : Array Value} {Z : State} (hw : ∀ d ∈ tables_1, d.before a0 Z = true) : (Jvm.Cond.methodLink "java/lang/StringUTF16" (11 : Nat) ({ cls := "java/lang/StringUTF16", name := "newBytesLength", desc := "(I)I" } : Jvm.MethodName)).before a0 Z = true := hw _ (List.mem_of_getElem? (i := 111) rfl)
theorem w_112 {a0 : Array Value} {Z : State} (hw : ∀ d ∈ tables_1, d.before a0 Z = true) : (Jvm.Cond.static ({ cls := "java/lang/StringUTF16", name := "newBytesLength", desc := "(I)I" } : Jvm.MethodName)).before a0 Z = true := hw _ (List.mem_of_getElem? (i := 112) rfl)
theorem w_113 {a0 : Array Value} {Z : State} (hw : ∀ d ∈ tables_1, d.before a0 Z = true) : (Jvm.Cond.code ({ cls := "java/lang/StringUTF16", name := "newBytesLength", desc := "(I)I" } : Jvm.MethodName) jdk_52_method_3_code (1 : Nat) (Option.some Jvm.ClassFile.FieldType.int)).before a0 Z = true := hw _ (List.mem_of_getElem? (i := 113) rfl)
theorem w_114 {a0 : Array Value} {Z : State} (hw : ∀ d ∈ tables_1, d.before a0 Z = true) : (Jvm.Cond.constant "java/lang/StringUTF16" (20 : Nat) (1073741823 : Int32)).before a0 Z = true := hw _ (List.mem_of_getElem? (i := 114) rfl)
theorem w_115 {a0 : Array Value} {Z : State} (hw : ∀ d ∈ tables_1, d.before a0 Z = true) : (Jvm.Cond.methodLink "java/lang/StringUTF16" (111 : Nat) ({ cls := "java/lang/StringUTF16", name := "putChar", desc := "([BII)V" } : Jvm.MethodName)).before a0 Z = true := hw _ (List.mem_of_getElem? (i := 115) rfl)
theorem w_116 {a0 : Array Value} {Z : State} (hw : ∀ d ∈ tables_1, d.before a0 Z = true) : (Jvm.Cond.static ({ cls := "java/lang/StringUTF16", name := "putChar", desc := "([BII)V" } : Jvm.MethodName)).before a0 Z = true := hw _ (List.mem_of_getElem? (i := 116) rfl)
theorem w_117 {a0 : Array Value} {Z : State} (hw : ∀ d ∈ tables_1, d.before a0 Z = true) : (Jvm.Cond.code ({ cls := "java/lang/StringUTF16", name := "putChar", desc := "([BII)V" } : Jvm.MethodName) jdk_52_method_4_code (3 : Nat) (Option.none : Option Jvm.ClassFile.FieldType)).before a0 Z = true := hw _ (List.mem_of_getElem? (i := 117) rfl)
theorem w_118 {a0 : Array Value} {Z : State} (hw : ∀ d ∈ tables_1, d.before a0 Z = true) : (Jvm.Cond.fieldLink "java/lang/StringUTF16" (44 : Nat) "java/lang/StringUTF16" "$assertionsDisabled" "Z").before a0 Z = true := hw _ (List.mem_of_getElem? (i := 118) rfl)
theorem w_119 {a0 : Array Value} {Z : State} (hw : ∀ d ∈ tables_1, d.before a0 Z = true) : (Jvm.Cond.fieldLink "java/lang/StringUTF16" (59 : Nat) "java/lang/StringUTF16" "HI_BYTE_SHIFT" "I").before a0 Z = true := hw _ (List.mem_of_getElem? (i := 119) rfl)
theorem w_120 {a0 : Array Value} {Z : State} (hw : ∀ d ∈ tables_1, d.before a0 Z = true) : (Jvm.Cond.fieldLink "java/lang/StringUTF16" (63 : Nat) "java/lang/StringUTF16" "LO_BYTE_SHIFT" "I").before a0 Z = true := hw _ (List.mem_of_getElem? (i := 120) rfl)
theorem w_121 {a0 : Array Value} {Z : State} (hw : ∀ d ∈ tables_1, d.before a0 Z = true) : (Jvm.Cond.methodLink "java/lang/StringUTF16" (71 : Nat) ({ cls := "java/lang/StringUTF16", name := "getChar", desc := "([BI)C" } : Jvm.MethodName)).before a0 Z = true := hw _ (List.mem_of_getElem? (i := 121) rfl)
theorem w_122 {a0 : Array Value} {Z : State} (hw : ∀ d ∈ tables_1, d.before a0 Z = true) : (Jvm.Cond.static ({ cls := "java/lang/StringUTF16", name := "getChar", desc := "([BI)C" } : Jvm.MethodName)).before a0 Z = true := hw _ (List.mem_of_getElem? (i := 122) rfl)
theorem w_123 {a0 : Array Value} {Z : State} (hw : ∀ d ∈ tables_1, d.before a0 Z = true) : (Jvm.Cond.code ({ cls := "java/lang/StringUTF16", name := "getChar", desc := "([BI)C" } : Jvm.MethodName) jdk_52_method_5_code (2 : Nat) (Option.some Jvm.ClassFile.FieldType.char)).before a0 Z = true := hw _ (List.mem_of_getElem? (i := 123) rfl)
theorem w_124 {a0 : Array Value} {Z : State} (hw : ∀ d ∈ tables_1, d.before a0 Z = true) : (Jvm.Cond.methodLink "java/lang/String" (498 : Nat) ({ cls := "java/lang/StringUTF16", name := "charAt", desc := "([BI)C" } : Jvm.MethodName)).before a0 Z = true := hw _ (List.mem_of_getElem? (i := 124) rfl)
theorem w_125 {a0 : Array Value} {Z : State} (hw : ∀ d ∈ tables_1, d.before a0 Z = true) : (Jvm.Cond.static ({ cls := "java/lang/StringUTF16", name := "charAt", desc := "([BI)C" } : Jvm.MethodName)).before a0 Z = true := hw _ (List.mem_of_getElem? (i := 125) rfl)
theorem w_126 {a0 : Array Value} {Z : State} (hw : ∀ d ∈ tables_1, d.before a0 Z = true) : (Jvm.Cond.code ({ cls := "java/lang/StringUTF16", name := "charAt", desc := "([BI)C" } : Jvm.MethodName) jdk_52_method_83_code (2 : Nat) (Option.some Jvm.ClassFile.FieldType.char)).before a0 Z = true := hw _ (List.mem_of_getElem? (i := 126) rfl)
theorem w_127 {a0 : Array Value} {Z : State} (hw : ∀ d ∈ tables_1, d.before a0 Z = true) : (Jvm.Cond.methodLink "java/lang/StringUTF16" (67 : Nat) ({ cls := "java/lang/StringUTF16", name := "checkIndex", desc := "(I[B)V" } : Jvm.MethodName)).before a0 Z = true := hw _ (List.mem_of_getElem? (i := 127) rfl)
theorem w_128 {a0 : Array Value} {Z : State} (hw : ∀ d ∈ tables_1, d.before a0 Z = true) : (Jvm.Cond.static ({ cls := "java/lang/StringUTF16", name := "checkIndex", desc := "(I[B)V" } : Jvm.MethodName)).before a0 Z = true := hw _ (List.mem_of_getElem? (i := 128) rfl)
theorem w_129 {a0 : Array Value} {Z : State} (hw : ∀ d ∈ tables_1, d.before a0 Z = true) : (Jvm.Cond.code ({ cls := "java/lang/StringUTF16", name := "checkIndex", desc := "(I[B)V" } : Jvm.MethodName) jdk_52_method_91_code (2 : Nat) (Option.none : Option Jvm.ClassFile.FieldType)).before a0 Z = true := hw _ (List.mem_of_getElem? (i := 129) rfl)
theorem w_130 {a0 : Array Value} {Z : State} (hw : ∀ d ∈ tables_1, d.before a0 Z = true) : (Jvm.Cond.methodLink "java/lang/StringUTF16" (48 : Nat) ({ cls := "java/lang/StringUTF16", name := "length", desc := "([B)I" } : Jvm.MethodName)).before a0 Z = true := hw _ (List.mem_of_getElem? (i := 130) rfl)
theorem w_131 {a0 : Array Value} {Z : State} (hw : ∀ d ∈ tables_1, d.before a0 Z = true) : (Jvm.Cond.static ({ cls := "java/lang/StringUTF16", name := "length", desc := "([B)I" } : Jvm.MethodName)).before a0 Z = true := hw _ (List.mem_of_getElem? (i := 131) rfl)
theorem w_132 {a0 : Array Value} {Z : State} (hw : ∀ d ∈ tables_1, d.before a0 Z = true) : (Jvm.Cond.code ({ cls := "java/lang/StringUTF16", name := "length", desc := "([B)I" } : Jvm.MethodName) jdk_52_method_6_code (1 : Nat) (Option.some Jvm.ClassFile.FieldType.int)).before a0 Z = true := hw _ (List.mem_of_getElem? (i := 132) rfl)
theorem w_133 {a0 : Array Value} {Z : State} (hw : ∀ d ∈ tables_1, d.before a0 Z = true) : (Jvm.Cond.methodLink "java/lang/StringUTF16" (414 : Nat) ({ cls := "java/lang/String", name := "checkIndex", desc := "(II)V" } : Jvm.MethodName)).before a0 Z = true := hw _ (List.mem_of_getElem? (i := 133) rfl)
theorem d1_0 : decode method_3_code 0 = .ok (.iload_n 0, 1) := by decide +kernel
theorem d1_1 : decode method_3_code 1 = .ok (.ifCond .ne 14, 3) := by decide +kernel
theorem d1_4 : decode method_3_code 4 = .ok (.new 29, 3) := by decide +kernel
theorem d1_7 : decode method_3_code 7 = .ok (.dup, 1) := by decide +kernel
theorem d1_8 : decode method_3_code 8 = .ok (.iconst 0, 1) := by decide +kernel
theorem d1_9 : decode method_3_code 9 = .ok (.newarray .char, 2) := by decide +kernel
theorem d1_11 : decode method_3_code 11 = .ok (.invokespecial 42, 3) := by decide +kernel
theorem d1_14 : decode method_3_code 14 = .ok (.areturn, 1) := by decide +kernel
theorem d1_15 : decode method_3_code 15 = .ok (.iload_n 0, 1) := by decide +kernel
theorem d1_16 : decode method_3_code 16 = .ok (.iconst 1, 1) := by decide +kernel
theorem d1_17 : decode method_3_code 17 = .ok (.if_icmp .ne 18, 3) := by decide +kernel
theorem d1_20 : decode method_3_code 20 = .ok (.new 29, 3) := by decide +kernel
theorem d1_23 : decode method_3_code 23 = .ok (.dup, 1) := by decide +kernel
theorem d1_24 : decode method_3_code 24 = .ok (.iconst 1, 1) := by decide +kernel
theorem d1_25 : decode method_3_code 25 = .ok (.newarray .char, 2) := by decide +kernel
theorem d1_27 : decode method_3_code 27 = .ok (.dup, 1) := by decide +kernel
theorem d1_28 : decode method_3_code 28 = .ok (.iconst 0, 1) := by decide +kernel
theorem d1_29 : decode method_3_code 29 = .ok (.iload_n 1, 1) := by decide +kernel
theorem d1_30 : decode method_3_code 30 = .ok (.castore, 1) := by decide +kernel
theorem d1_31 : decode method_3_code 31 = .ok (.invokespecial 42, 3) := by decide +kernel
theorem d1_34 : decode method_3_code 34 = .ok (.areturn, 1) := by decide +kernel
theorem d1_35 : decode method_3_code 35 = .ok (.iload_n 0, 1) := by decide +kernel
theorem d1_36 : decode method_3_code 36 = .ok (.iconst 2, 1) := by decide +kernel
theorem d1_37 : decode method_3_code 37 = .ok (.if_icmp .ne 22, 3) := by decide +kernel
theorem d1_40 : decode method_3_code 40 = .ok (.new 29, 3) := by decide +kernel
theorem d1_43 : decode method_3_code 43 = .ok (.dup, 1) := by decide +kernel
theorem d1_44 : decode method_3_code 44 = .ok (.iconst 2, 1) := by decide +kernel
theorem d1_45 : decode method_3_code 45 = .ok (.newarray .char, 2) := by decide +kernel
theorem d1_47 : decode method_3_code 47 = .ok (.dup, 1) := by decide +kernel
theorem d1_48 : decode method_3_code 48 = .ok (.iconst 0, 1) := by decide +kernel
theorem d1_49 : decode method_3_code 49 = .ok (.iload_n 1, 1) := by decide +kernel
theorem d1_50 : decode method_3_code 50 = .ok (.castore, 1) := by decide +kernel
theorem d1_51 : decode method_3_code 51 = .ok (.dup, 1) := by decide +kernel
theorem d1_52 : decode method_3_code 52 = .ok (.iconst 1, 1) := by decide +kernel
theorem d1_53 : decode method_3_code 53 = .ok (.iload_n 2, 1) := by decide +kernel
theorem d1_54 : decode method_3_code 54 = .ok (.castore, 1) := by decide +kernel
theorem d1_55 : decode method_3_code 55 = .ok (.invokespecial 42, 3) := by decide +kernel
theorem d1_58 : decode method_3_code 58 = .ok (.areturn, 1) := by decide +kernel
theorem d1_59 : decode method_3_code 59 = .ok (.new 29, 3) := by decide +kernel
theorem d1_62 : decode method_3_code 62 = .ok (.dup, 1) := by decide +kernel
theorem d1_63 : decode method_3_code 63 = .ok (.iconst 3, 1) := by decide +kernel
theorem d1_64 : decode method_3_code 64 = .ok (.newarray .char, 2) := by decide +kernel
theorem d1_66 : decode method_3_code 66 = .ok (.dup, 1) := by decide +kernel
theorem d1_67 : decode method_3_code 67 = .ok (.iconst 0, 1) := by decide +kernel
theorem d1_68 : decode method_3_code 68 = .ok (.iload_n 1, 1) := by decide +kernel
theorem d1_69 : decode method_3_code 69 = .ok (.castore, 1) := by decide +kernel
theorem d1_70 : decode method_3_code 70 = .ok (.dup, 1) := by decide +kernel
theorem d1_71 : decode method_3_code 71 = .ok (.iconst 1, 1) := by decide +kernel
theorem d1_72 : decode method_3_code 72 = .ok (.iload_n 2, 1) := by decide +kernel
theorem d1_73 : decode method_3_code 73 = .ok (.castore, 1) := by decide +kernel
theorem d1_74 : decode method_3_code 74 = .ok (.dup, 1) := by decide +kernel
theorem d1_75 : decode method_3_code 75 = .ok (.iconst 2, 1) := by decide +kernel
theorem d1_76 : decode method_3_code 76 = .ok (.iload_n 3, 1) := by decide +kernel
theorem d1_77 : decode method_3_code 77 = .ok (.castore, 1) := by decide +kernel
theorem d1_78 : decode method_3_code 78 = .ok (.invokespecial 42, 3) := by decide +kernel
theorem d1_81 : decode method_3_code 81 = .ok (.areturn, 1) := by decide +kernel
theorem d2_0 : decode jdk_42_method_3_code 0 = .ok (.aload_n 0, 1) := by decide +kernel
theorem d2_1 : decode jdk_42_method_3_code 1 = .ok (.aload_n 1, 1) := by decide +kernel
theorem d2_2 : decode jdk_42_method_3_code 2 = .ok (.iconst 0, 1) := by decide +kernel
theorem d2_3 : decode jdk_42_method_3_code 3 = .ok (.aload_n 1, 1) := by decide +kernel
theorem d2_4 : decode jdk_42_method_3_code 4 = .ok (.arraylength, 1) := by decide +kernel
theorem d2_5 : decode jdk_42_method_3_code 5 = .ok (.aconst_null, 1) := by decide +kernel
theorem d2_6 : decode jdk_42_method_3_code 6 = .ok (.invokespecial 27, 3) := by decide +kernel
theorem d2_9 : decode jdk_42_method_3_code 9 = .ok (.return_, 1) := by decide +kernel
theorem d3_0 : decode jdk_42_method_149_code 0 = .ok (.aload_n 0, 1) := by decide +kernel
theorem d3_1 : decode jdk_42_method_149_code 1 = .ok (.invokespecial 1, 3) := by decide +kernel
theorem d3_4 : decode jdk_42_method_149_code 4 = .ok (.iload_n 3, 1) := by decide +kernel
theorem d3_5 : decode jdk_42_method_149_code 5 = .ok (.ifCond .ne 22, 3) := by decide +kernel
theorem d3_8 : decode jdk_42_method_149_code 8 = .ok (.aload_n 0, 1) := by decide +kernel
theorem d3_9 : decode jdk_42_method_149_code 9 = .ok (.ldc 7, 2) := by decide +kernel
theorem d3_11 : decode jdk_42_method_149_code 11 = .ok (.getfield 9, 3) := by decide +kernel
theorem d3_14 : decode jdk_42_method_149_code 14 = .ok (.putfield 9, 3) := by decide +kernel
theorem d3_17 : decode jdk_42_method_149_code 17 = .ok (.aload_n 0, 1) := by decide +kernel
theorem d3_18 : decode jdk_42_method_149_code 18 = .ok (.ldc 7, 2) := by decide +kernel
theorem d3_20 : decode jdk_42_method_149_code 20 = .ok (.getfield 15, 3) := by decide +kernel
theorem d3_23 : decode jdk_42_method_149_code 23 = .ok (.putfield 15, 3) := by decide +kernel
theorem d3_26 : decode jdk_42_method_149_code 26 = .ok (.return_, 1) := by decide +kernel
theorem d3_27 : decode jdk_42_method_149_code 27 = .ok (.getstatic 38, 3) := by decide +kernel
theorem d3_30 : decode jdk_42_method_149_code 30 = .ok (.ifCond .eq 28, 3) := by decide +kernel
theorem d3_33 : decode jdk_42_method_149_code 33 = .ok (.aload_n 1, 1) := by decide +kernel
theorem d3_34 : decode jdk_42_method_149_code 34 = .ok (.iload_n 2, 1) := by decide +kernel
theorem d3_35 : decode jdk_42_method_149_code 35 = .ok (.iload_n 3, 1) := by decide +kernel
theorem d3_36 : decode jdk_42_method_149_code 36 = .ok (.invokestatic 177, 3) := by decide +kernel
theorem d3_39 : decode jdk_42_method_149_code 39 = .ok (.astore 5, 2) := by decide +kernel
theorem d3_41 : decode jdk_42_method_149_code 41 = .ok (.aload_n 0, 1) := by decide +kernel
theorem d3_42 : decode jdk_42_method_149_code 42 = .ok (.aload 5, 2) := by decide +kernel
theorem d3_44 : decode jdk_42_method_149_code 44 = .ok (.iload_n 3, 1) := by decide +kernel
theorem d3_45 : decode jdk_42_method_149_code 45 = .ok (.invokestatic 47, 3) := by decide +kernel
theorem d3_48 : decode jdk_42_method_149_code 48 = .ok (.putfield 15, 3) := by decide +kernel
theorem d3_51 : decode jdk_42_method_149_code 51 = .ok (.aload_n 0, 1) := by decide +kernel
theorem d3_52 : decode jdk_42_method_149_code 52 = .ok (.aload 5, 2) := by decide +kernel
theorem d3_54 : decode jdk_42_method_149_code 54 = .ok (.putfield 9, 3) := by decide +kernel
theorem d3_57 : decode jdk_42_method_149_code 57 = .ok (.return_, 1) := by decide +kernel
theorem d5_0 : decode jdk_52_method_16_code 0 = .ok (.iload_n 2, 1) := by decide +kernel
theorem d5_1 : decode jdk_52_method_16_code 1 = .ok (.newarray .byte, 2) := by decide +kernel
theorem d5_3 : decode jdk_52_method_16_code 3 = .ok (.astore_n 3, 1) := by decide +kernel
theorem d5_4 : decode jdk_52_method_16_code 4 = .ok (.aload_n 0, 1) := by decide +kernel
theorem d5_5 : decode jdk_52_method_16_code 5 = .ok (.iload_n 1, 1) := by decide +kernel
theorem d5_6 : decode jdk_52_method_16_code 6 = .ok (.aload_n 3, 1) := by decide +kernel
theorem d5_7 : decode jdk_52_method_16_code 7 = .ok (.iconst 0, 1) := by decide +kernel
theorem d5_8 : decode jdk_52_method_16_code 8 = .ok (.iload_n 2, 1) := by decide +kernel
theorem d5_9 : decode jdk_52_method_16_code 9 = .ok (.invokestatic 115, 3) := by decide +kernel
theorem d5_12 : decode jdk_52_method_16_code 12 = .ok (.istore 4, 2) := by decide +kernel
theorem d5_14 : decode jdk_52_method_16_code 14 = .ok (.iload 4, 2) := by decide +kernel
theorem d5_16 : decode jdk_52_method_16_code 16 = .ok (.iload_n 2, 1) := by decide +kernel
theorem d5_17 : decode jdk_52_method_16_code 17 = .ok (.if_icmp .eq 40, 3) := by decide +kernel
theorem d5_20 : decode jdk_52_method_16_code 20 = .ok (.aload_n 0, 1) := by decide +kernel
theorem d5_21 : decode jdk_52_method_16_code 21 = .ok (.iload_n 1, 1) := by decide +kernel
theorem d5_22 : decode jdk_52_method_16_code 22 = .ok (.iload_n 2, 1) := by decide +kernel
theorem d5_23 : decode jdk_52_method_16_code 23 = .ok (.invokestatic 119, 3) := by decide +kernel
theorem d5_26 : decode jdk_52_method_16_code 26 = .ok (.astore 5, 2) := by decide +kernel
theorem d5_28 : decode jdk_52_method_16_code 28 = .ok (.aload 5, 2) := by decide +kernel
theorem d5_30 : decode jdk_52_method_16_code 30 = .ok (.iload 4, 2) := by decide +kernel
theorem d5_32 : decode jdk_52_method_16_code 32 = .ok (.invokestatic 71, 3) := by decide +kernel
theorem d5_35 : decode jdk_52_method_16_code 35 = .ok (.sipush 255, 3) := by decide +kernel
theorem d5_38 : decode jdk_52_method_16_code 38 = .ok (.if_icmp .gt 16, 3) := by decide +kernel
theorem d5_54 : decode jdk_52_method_16_code 54 = .ok (.aload 5, 2) := by decide +kernel
theorem d5_56 : decode jdk_52_method_16_code 56 = .ok (.areturn, 1) := by decide +kernel
theorem d5_57 : decode jdk_52_method_16_code 57 = .ok (.aload_n 3, 1) := by decide +kernel
theorem d5_58 : decode jdk_52_method_16_code 58 = .ok (.areturn, 1) := by decide +kernel
theorem d6_0 : decode jdk_52_method_21_code 0 = .ok (.iconst 0, 1) := by decide +kernel
theorem d6_1 : decode jdk_52_method_21_code 1 = .ok (.istore 5, 2) := by decide +kernel
theorem d6_3 : decode jdk_52_method_21_code 3 = .ok (.iload 5, 2) := by decide +kernel
theorem d6_5 : decode jdk_52_method_21_code 5 = .ok (.iload 4, 2) := by decide +kernel
theorem d6_7 : decode jdk_52_method_21_code 7 = .ok (.if_icmp .ge 37, 3) := by decide +kernel
theorem d6_10 : decode jdk_52_method_21_code 10 = .ok (.aload_n 0, 1) := by decide +kernel
theorem d6_11 : decode jdk_52_method_21_code 11 = .ok (.iload_n 1, 1) := by decide +kernel
theorem d6_12 : decode jdk_52_method_21_code 12 = .ok (.caload, 1) := by decide +kernel
theorem d6_13 : decode jdk_52_method_21_code 13 = .ok (.istore 6, 2) := by decide +kernel
theorem d6_15 : decode jdk_52_method_21_code 15 = .ok (.iload 6, 2) := by decide +kernel
theorem d6_17 : decode jdk_52_method_21_code 17 = .ok (.sipush 255, 3) := by decide +kernel
theorem d6_20 : decode jdk_52_method_21_code 20 = .ok (.if_icmp .le 6, 3) := by decide +kernel
theorem d6_23 : decode jdk_52_method_21_code 23 = .ok (.iload 5, 2) := by decide +kernel
theorem d6_25 : decode jdk_52_method_21_code 25 = .ok (.ireturn, 1) := by decide +kernel
theorem d6_26 : decode jdk_52_method_21_code 26 = .ok (.aload_n 2, 1) := by decide +kernel
theorem d6_27 : decode jdk_52_method_21_code 27 = .ok (.iload_n 3, 1) := by decide +kernel
theorem d6_28 : decode jdk_52_method_21_code 28 = .ok (.iload 6, 2) := by decide +kernel
theorem d6_30 : decode jdk_52_method_21_code 30 = .ok (.i2b, 1) := by decide +kernel
theorem d6_31 : decode jdk_52_method_21_code 31 = .ok (.bastore, 1) := by decide +kernel
theorem d6_32 : decode jdk_52_method_21_code 32 = .ok (.iinc 1 1, 3) := by decide +kernel
theorem d6_35 : decode jdk_52_method_21_code 35 = .ok (.iinc 3 1, 3) := by decide +kernel
theorem d6_38 : decode jdk_52_method_21_code 38 = .ok (.iinc 5 1, 3) := by decide +kernel
theorem d6_41 : decode jdk_52_method_21_code 41 = .ok (.goto (-38), 3) := by decide +kernel
theorem d6_44 : decode jdk_52_method_21_code 44 = .ok (.iload 4, 2) := by decide +kernel
theorem d6_46 : decode jdk_52_method_21_code 46 = .ok (.ireturn, 1) := by decide +kernel
theorem d7_0 : decode jdk_52_method_15_code 0 = .ok (.iload_n 1, 1) := by decide +kernel
theorem d7_1 : decode jdk_52_method_15_code 1 = .ok (.aload_n 0, 1) := by decide +kernel
theorem d7_2 : decode jdk_52_method_15_code 2 = .ok (.arraylength, 1) := by decide +kernel
theorem d7_3 : decode jdk_52_method_15_code 3 = .ok (.isub, 1) := by decide +kernel
theorem d7_4 : decode jdk_52_method_15_code 4 = .ok (.bipush 31, 2) := by decide +kernel
theorem d7_6 : decode jdk_52_method_15_code 6 = .ok (.iushr, 1) := by decide +kernel
theorem d7_7 : decode jdk_52_method_15_code 7 = .ok (.i2b, 1) := by decide +kernel
theorem d7_8 : decode jdk_52_method_15_code 8 = .ok (.ireturn, 1) := by decide +kernel
theorem d8_0 : decode prog_19_method_2_code 0 = .ok (.new 8, 3) := by decide +kernel
theorem d8_3 : decode prog_19_method_2_code 3 = .ok (.dup, 1) := by decide +kernel
theorem d8_4 : decode prog_19_method_2_code 4 = .ok (.aload_n 0, 1) := by decide +kernel
theorem d8_5 : decode prog_19_method_2_code 5 = .ok (.ldc 17, 2) := by decide +kernel
theorem d8_7 : decode prog_19_method_2_code 7 = .ok (.invokestatic 18, 3) := by decide +kernel
theorem d8_10 : decode prog_19_method_2_code 10 = .ok (.checkcast 24, 3) := by decide +kernel
theorem d8_13 : decode prog_19_method_2_code 13 = .ok (.iconst 0, 1) := by decide +kernel
theorem d8_14 : decode prog_19_method_2_code 14 = .ok (.invokespecial 26, 3) := by decide +kernel
theorem d8_17 : decode prog_19_method_2_code 17 = .ok (.areturn, 1) := by decide +kernel
theorem d9_0 : decode jdk_31_method_11_code 0 = .ok (.aload_n 0, 1) := by decide +kernel
theorem d9_1 : decode jdk_31_method_11_code 1 = .ok (.ifnonnull 12, 3) := by decide +kernel
theorem d9_13 : decode jdk_31_method_11_code 13 = .ok (.aload_n 0, 1) := by decide +kernel
theorem d9_14 : decode jdk_31_method_11_code 14 = .ok (.areturn, 1) := by decide +kernel
theorem d10_0 : decode prog_19_method_1_code 0 = .ok (.aload_n 0, 1) := by decide +kernel
theorem d10_1 : decode prog_19_method_1_code 1 = .ok (.invokespecial 1, 3) := by decide +kernel
theorem d10_4 : decode prog_19_method_1_code 4 = .ok (.aload_n 0, 1) := by decide +kernel
theorem d10_5 : decode prog_19_method_1_code 5 = .ok (.aload_n 1, 1) := by decide +kernel
theorem d10_6 : decode prog_19_method_1_code 6 = .ok (.putfield 7, 3) := by decide +kernel
theorem d10_9 : decode prog_19_method_1_code 9 = .ok (.aload_n 0, 1) := by decide +kernel
theorem d10_10 : decode prog_19_method_1_code 10 = .ok (.iload_n 2, 1) := by decide +kernel
theorem d10_11 : decode prog_19_method_1_code 11 = .ok (.putfield 13, 3) := by decide +kernel
theorem d10_14 : decode prog_19_method_1_code 14 = .ok (.return_, 1) := by decide +kernel
theorem d11_0 : decode prog_19_method_4_code 0 = .ok (.aload_n 0, 1) := by decide +kernel
theorem d11_1 : decode prog_19_method_4_code 1 = .ok (.getfield 13, 3) := by decide +kernel
theorem d11_4 : decode prog_19_method_4_code 4 = .ok (.ireturn, 1) := by decide +kernel
theorem d12_0 : decode prog_19_method_5_code 0 = .ok (.aload_n 0, 1) := by decide +kernel
theorem d12_1 : decode prog_19_method_5_code 1 = .ok (.getfield 7, 3) := by decide +kernel
theorem d12_4 : decode prog_19_method_5_code 4 = .ok (.areturn, 1) := by decide +kernel
theorem d13_0 : decode jdk_42_method_54_code 0 = .ok (.aload_n 0, 1) := by decide +kernel
theorem d13_1 : decode jdk_42_method_54_code 1 = .ok (.getfield 9, 3) := by decide +kernel
theorem d13_4 : decode jdk_42_method_54_code 4 = .ok (.arraylength, 1) := by decide +kernel
theorem d13_5 : decode jdk_42_method_54_code 5 = .ok (.aload_n 0, 1) := by decide +kernel
theorem d13_6 : decode jdk_42_method_54_code 6 = .ok (.invokevirtual 335, 3) := by decide +kernel
theorem d13_9 : decode jdk_42_method_54_code 9 = .ok (.ishr, 1) := by decide +kernel
theorem d13_10 : decode jdk_42_method_54_code 10 = .ok (.ireturn, 1) := by decide +kernel
theorem d14_0 : decode jdk_42_method_152_code 0 = .ok (.getstatic 38, 3) := by decide +kernel
theorem d14_3 : decode jdk_42_method_152_code 3 = .ok (.ifCond .eq 10, 3) := by decide +kernel
theorem d14_6 : decode jdk_42_method_152_code 6 = .ok (.aload_n 0, 1) := by decide +kernel
theorem d14_7 : decode jdk_42_method_152_code 7 = .ok (.getfield 15, 3) := by decide +kernel
theorem d14_10 : decode jdk_42_method_152_code 10 = .ok (.goto 4, 3) := by decide +kernel
theorem d14_14 : decode jdk_42_method_152_code 14 = .ok (.ireturn, 1) := by decide +kernel
theorem d15_0 : decode jdk_42_method_56_code 0 = .ok (.aload_n 0, 1) := by decide +kernel
theorem d15_1 : decode jdk_42_method_56_code 1 = .ok (.invokevirtual 492, 3) := by decide +kernel
theorem d15_4 : decode jdk_42_method_56_code 4 = .ok (.ifCond .eq 12, 3) := by decide +kernel
theorem d15_7 : decode jdk_42_method_56_code 7 = .ok (.aload_n 0, 1) := by decide +kernel
theorem d15_8 : decode jdk_42_method_56_code 8 = .ok (.getfield 9, 3) := by decide +kernel
theorem d15_11 : decode jdk_42_method_56_code 11 = .ok (.iload_n 1, 1) := by decide +kernel
theorem d15_12 : decode jdk_42_method_56_code 12 = .ok (.invokestatic 495, 3) := by decide +kernel
theorem d15_15 : decode jdk_42_method_56_code 15 = .ok (.ireturn, 1) := by decide +kernel
theorem d15_16 : decode jdk_42_method_56_code 16 = .ok (.aload_n 0, 1) := by decide +kernel
theorem d15_17 : decode jdk_42_method_56_code 17 = .ok (.getfield 9, 3) := by decide +kernel
theorem d15_20 : decode jdk_42_method_56_code 20 = .ok (.iload_n 1, 1) := by decide +kernel
theorem d15_21 : decode jdk_42_method_56_code 21 = .ok (.invokestatic 498, 3) := by decide +kernel
theorem d15_24 : decode jdk_42_method_56_code 24 = .ok (.ireturn, 1) := by decide +kernel
theorem d16_0 : decode jdk_42_method_154_code 0 = .ok (.getstatic 38, 3) := by decide +kernel
theorem d16_3 : decode jdk_42_method_154_code 3 = .ok (.ifCond .eq 14, 3) := by decide +kernel
theorem d16_6 : decode jdk_42_method_154_code 6 = .ok (.aload_n 0, 1) := by decide +kernel
theorem d16_7 : decode jdk_42_method_154_code 7 = .ok (.getfield 15, 3) := by decide +kernel
theorem d16_10 : decode jdk_42_method_154_code 10 = .ok (.ifCond .ne 7, 3) := by decide +kernel
theorem d16_13 : decode jdk_42_method_154_code 13 = .ok (.iconst 1, 1) := by decide +kernel
theorem d16_14 : decode jdk_42_method_154_code 14 = .ok (.goto 4, 3) := by decide +kernel
theorem d16_17 : decode jdk_42_method_154_code 17 = .ok (.iconst 0, 1) := by decide +kernel
theorem d16_18 : decode jdk_42_method_154_code 18 = .ok (.ireturn, 1) := by decide +kernel
theorem d17_0 : decode jdk_43_method_2_code 0 = .ok (.iload_n 1, 1) := by decide +kernel
theorem d17_1 : decode jdk_43_method_2_code 1 = .ok (.aload_n 0, 1) := by decide +kernel
theorem d17_2 : decode jdk_43_method_2_code 2 = .ok (.arraylength, 1) := by decide +kernel
theorem d17_3 : decode jdk_43_method_2_code 3 = .ok (.invokestatic 9, 3) := by decide +kernel
theorem d17_6 : decode jdk_43_method_2_code 6 = .ok (.aload_n 0, 1) := by decide +kernel
theorem d17_7 : decode jdk_43_method_2_code 7 = .ok (.iload_n 1, 1) := by decide +kernel
theorem d17_8 : decode jdk_43_method_2_code 8 = .ok (.baload, 1) := by decide +kernel
theorem d17_9 : decode jdk_43_method_2_code 9 = .ok (.sipush 255, 3) := by decide +kernel
theorem d17_12 : decode jdk_43_method_2_code 12 = .ok (.iand, 1) := by decide +kernel
theorem d17_13 : decode jdk_43_method_2_code 13 = .ok (.i2c, 1) := by decide +kernel
theorem d17_14 : decode jdk_43_method_2_code 14 = .ok (.ireturn, 1) := by decide +kernel
theorem d18_0 : decode jdk_42_method_155_code 0 = .ok (.iload_n 0, 1) := by decide +kernel
theorem d18_1 : decode jdk_42_method_155_code 1 = .ok (.iload_n 1, 1) := by decide +kernel
theorem d18_2 : decode jdk_42_method_155_code 2 = .ok (.getstatic 1053, 3) := by decide +kernel
theorem d18_5 : decode jdk_42_method_155_code 5 = .ok (.invokestatic 1059, 3) := by decide +kernel
theorem d18_8 : decode jdk_42_method_155_code 8 = .ok (.pop, 1) := by decide +kernel
theorem d18_9 : decode jdk_42_method_155_code 9 = .ok (.return_, 1) := by decide +kernel
theorem d19_0 : decode jdk_41_method_11_code 0 = .ok (.iload_n 0, 1) := by decide +kernel
theorem d19_1 : decode jdk_41_method_11_code 1 = .ok (.ifCond .lt 8, 3) := by decide +kernel
theorem d19_4 : decode jdk_41_method_11_code 4 = .ok (.iload_n 0, 1) := by decide +kernel
theorem d19_5 : decode jdk_41_method_11_code 5 = .ok (.iload_n 1, 1) := by decide +kernel
theorem d19_6 : decode jdk_41_method_11_code 6 = .ok (.if_icmp .lt 10, 3) := by decide +kernel
theorem d19_16 : decode jdk_41_method_11_code 16 = .ok (.iload_n 0, 1) := by decide +kernel
theorem d19_17 : decode jdk_41_method_11_code 17 = .ok (.ireturn, 1) := by decide +kernel
theorem d20_0 : decode jdk_42_method_66_code 0 = .ok (.aload_n 0, 1) := by decide +kernel
theorem d20_1 : decode jdk_42_method_66_code 1 = .ok (.aload_n 1, 1) := by decide +kernel
theorem d20_2 : decode jdk_42_method_66_code 2 = .ok (.if_acmp .ne 5, 3) := by decide +kernel
theorem d20_5 : decode jdk_42_method_66_code 5 = .ok (.iconst 1, 1) := by decide +kernel
theorem d20_6 : decode jdk_42_method_66_code 6 = .ok (.ireturn, 1) := by decide +kernel
theorem d21_0 : decode jdk_52_method_14_code 0 = .ok (.iload_n 2, 1) := by decide +kernel
theorem d21_1 : decode jdk_52_method_14_code 1 = .ok (.invokestatic 107, 3) := by decide +kernel
theorem d21_4 : decode jdk_52_method_14_code 4 = .ok (.astore_n 3, 1) := by decide +kernel
theorem d21_5 : decode jdk_52_method_14_code 5 = .ok (.iconst 0, 1) := by decide +kernel
theorem d21_6 : decode jdk_52_method_14_code 6 = .ok (.istore 4, 2) := by decide +kernel
theorem d21_8 : decode jdk_52_method_14_code 8 = .ok (.iload 4, 2) := by decide +kernel
theorem d21_10 : decode jdk_52_method_14_code 10 = .ok (.iload_n 2, 1) := by decide +kernel
theorem d21_11 : decode jdk_52_method_14_code 11 = .ok (.if_icmp .ge 21, 3) := by decide +kernel
theorem d21_14 : decode jdk_52_method_14_code 14 = .ok (.aload_n 3, 1) := by decide +kernel
theorem d21_15 : decode jdk_52_method_14_code 15 = .ok (.iload 4, 2) := by decide +kernel
theorem d21_17 : decode jdk_52_method_14_code 17 = .ok (.aload_n 0, 1) := by decide +kernel
theorem d21_18 : decode jdk_52_method_14_code 18 = .ok (.iload_n 1, 1) := by decide +kernel
theorem d21_19 : decode jdk_52_method_14_code 19 = .ok (.caload, 1) := by decide +kernel
theorem d21_20 : decode jdk_52_method_14_code 20 = .ok (.invokestatic 111, 3) := by decide +kernel
theorem d21_23 : decode jdk_52_method_14_code 23 = .ok (.iinc 1 1, 3) := by decide +kernel
theorem d21_26 : decode jdk_52_method_14_code 26 = .ok (.iinc 4 1, 3) := by decide +kernel
theorem d21_29 : decode jdk_52_method_14_code 29 = .ok (.goto (-21), 3) := by decide +kernel
theorem d21_32 : decode jdk_52_method_14_code 32 = .ok (.aload_n 3, 1) := by decide +kernel
theorem d21_33 : decode jdk_52_method_14_code 33 = .ok (.areturn, 1) := by decide +kernel
theorem d22_0 : decode jdk_52_method_2_code 0 = .ok (.iload_n 0, 1) := by decide +kernel
theorem d22_1 : decode jdk_52_method_2_code 1 = .ok (.invokestatic 11, 3) := by decide +kernel
theorem d22_4 : decode jdk_52_method_2_code 4 = .ok (.newarray .byte, 2) := by decide +kernel
theorem d22_6 : decode jdk_52_method_2_code 6 = .ok (.areturn, 1) := by decide +kernel
theorem d23_0 : decode jdk_52_method_3_code 0 = .ok (.iload_n 0, 1) := by decide +kernel
theorem d23_1 : decode jdk_52_method_3_code 1 = .ok (.ifCond .ge 11, 3) := by decide +kernel
theorem d23_12 : decode jdk_52_method_3_code 12 = .ok (.iload_n 0, 1) := by decide +kernel
theorem d23_13 : decode jdk_52_method_3_code 13 = .ok (.ldc 20, 2) := by decide +kernel
theorem d23_15 : decode jdk_52_method_3_code 15 = .ok (.if_icmp .lt 40, 3) := by decide +kernel
theorem d23_55 : decode jdk_52_method_3_code 55 = .ok (.iload_n 0, 1) := by decide +kernel
theorem d23_56 : decode jdk_52_method_3_code 56 = .ok (.iconst 1, 1) := by decide +kernel
theorem d23_57 : decode jdk_52_method_3_code 57 = .ok (.ishl, 1) := by decide +kernel
theorem d23_58 : decode jdk_52_method_3_code 58 = .ok (.ireturn, 1) := by decide +kernel
theorem d24_0 : decode jdk_52_method_4_code 0 = .ok (.getstatic 44, 3) := by decide +kernel
theorem d24_3 : decode jdk_52_method_4_code 3 = .ok (.ifCond .ne 25, 3) := by decide +kernel
theorem d24_28 : decode jdk_52_method_4_code 28 = .ok (.iload_n 1, 1) := by decide +kernel
theorem d24_29 : decode jdk_52_method_4_code 29 = .ok (.iconst 1, 1) := by decide +kernel
theorem d24_30 : decode jdk_52_method_4_code 30 = .ok (.ishl, 1) := by decide +kernel
theorem d24_31 : decode jdk_52_method_4_code 31 = .ok (.istore_n 1, 1) := by decide +kernel
theorem d24_32 : decode jdk_52_method_4_code 32 = .ok (.aload_n 0, 1) := by decide +kernel
theorem d24_33 : decode jdk_52_method_4_code 33 = .ok (.iload_n 1, 1) := by decide +kernel
theorem d24_34 : decode jdk_52_method_4_code 34 = .ok (.iinc 1 1, 3) := by decide +kernel
theorem d24_37 : decode jdk_52_method_4_code 37 = .ok (.iload_n 2, 1) := by decide +kernel
theorem d24_38 : decode jdk_52_method_4_code 38 = .ok (.getstatic 59, 3) := by decide +kernel
theorem d24_41 : decode jdk_52_method_4_code 41 = .ok (.ishr, 1) := by decide +kernel
theorem d24_42 : decode jdk_52_method_4_code 42 = .ok (.i2b, 1) := by decide +kernel
theorem d24_43 : decode jdk_52_method_4_code 43 = .ok (.bastore, 1) := by decide +kernel
theorem d24_44 : decode jdk_52_method_4_code 44 = .ok (.aload_n 0, 1) := by decide +kernel
theorem d24_45 : decode jdk_52_method_4_code 45 = .ok (.iload_n 1, 1) := by decide +kernel
theorem d24_46 : decode jdk_52_method_4_code 46 = .ok (.iload_n 2, 1) := by decide +kernel
theorem d24_47 : decode jdk_52_method_4_code 47 = .ok (.getstatic 63, 3) := by decide +kernel
theorem d24_50 : decode jdk_52_method_4_code 50 = .ok (.ishr, 1) := by decide +kernel
theorem d24_51 : decode jdk_52_method_4_code 51 = .ok (.i2b, 1) := by decide +kernel
theorem d24_52 : decode jdk_52_method_4_code 52 = .ok (.bastore, 1) := by decide +kernel
theorem d24_53 : decode jdk_52_method_4_code 53 = .ok (.return_, 1) := by decide +kernel
theorem d25_0 : decode jdk_52_method_5_code 0 = .ok (.getstatic 44, 3) := by decide +kernel
theorem d25_3 : decode jdk_52_method_5_code 3 = .ok (.ifCond .ne 25, 3) := by decide +kernel
theorem d25_28 : decode jdk_52_method_5_code 28 = .ok (.iload_n 1, 1) := by decide +kernel
theorem d25_29 : decode jdk_52_method_5_code 29 = .ok (.iconst 1, 1) := by decide +kernel
theorem d25_30 : decode jdk_52_method_5_code 30 = .ok (.ishl, 1) := by decide +kernel
theorem d25_31 : decode jdk_52_method_5_code 31 = .ok (.istore_n 1, 1) := by decide +kernel
theorem d25_32 : decode jdk_52_method_5_code 32 = .ok (.aload_n 0, 1) := by decide +kernel
theorem d25_33 : decode jdk_52_method_5_code 33 = .ok (.iload_n 1, 1) := by decide +kernel
theorem d25_34 : decode jdk_52_method_5_code 34 = .ok (.iinc 1 1, 3) := by decide +kernel
theorem d25_37 : decode jdk_52_method_5_code 37 = .ok (.baload, 1) := by decide +kernel
theorem d25_38 : decode jdk_52_method_5_code 38 = .ok (.sipush 255, 3) := by decide +kernel
theorem d25_41 : decode jdk_52_method_5_code 41 = .ok (.iand, 1) := by decide +kernel
theorem d25_42 : decode jdk_52_method_5_code 42 = .ok (.getstatic 59, 3) := by decide +kernel
theorem d25_45 : decode jdk_52_method_5_code 45 = .ok (.ishl, 1) := by decide +kernel
theorem d25_46 : decode jdk_52_method_5_code 46 = .ok (.aload_n 0, 1) := by decide +kernel
theorem d25_47 : decode jdk_52_method_5_code 47 = .ok (.iload_n 1, 1) := by decide +kernel
theorem d25_48 : decode jdk_52_method_5_code 48 = .ok (.baload, 1) := by decide +kernel
theorem d25_49 : decode jdk_52_method_5_code 49 = .ok (.sipush 255, 3) := by decide +kernel
theorem d25_52 : decode jdk_52_method_5_code 52 = .ok (.iand, 1) := by decide +kernel
theorem d25_53 : decode jdk_52_method_5_code 53 = .ok (.getstatic 63, 3) := by decide +kernel
theorem d25_56 : decode jdk_52_method_5_code 56 = .ok (.ishl, 1) := by decide +kernel
theorem d25_57 : decode jdk_52_method_5_code 57 = .ok (.ior, 1) := by decide +kernel
theorem d25_58 : decode jdk_52_method_5_code 58 = .ok (.i2c, 1) := by decide +kernel
theorem d25_59 : decode jdk_52_method_5_code 59 = .ok (.ireturn, 1) := by decide +kernel
theorem d26_0 : decode jdk_52_method_83_code 0 = .ok (.iload_n 1, 1) := by decide +kernel
theorem d26_1 : decode jdk_52_method_83_code 1 = .ok (.aload_n 0, 1) := by decide +kernel
theorem d26_2 : decode jdk_52_method_83_code 2 = .ok (.invokestatic 67, 3) := by decide +kernel
theorem d26_5 : decode jdk_52_method_83_code 5 = .ok (.aload_n 0, 1) := by decide +kernel
theorem d26_6 : decode jdk_52_method_83_code 6 = .ok (.iload_n 1, 1) := by decide +kernel
theorem d26_7 : decode jdk_52_method_83_code 7 = .ok (.invokestatic 71, 3) := by decide +kernel
theorem d26_10 : decode jdk_52_method_83_code 10 = .ok (.ireturn, 1) := by decide +kernel
theorem d27_0 : decode jdk_52_method_91_code 0 = .ok (.iload_n 0, 1) := by decide +kernel
theorem d27_1 : decode jdk_52_method_91_code 1 = .ok (.aload_n 1, 1) := by decide +kernel
theorem d27_2 : decode jdk_52_method_91_code 2 = .ok (.invokestatic 48, 3) := by decide +kernel
theorem d27_5 : decode jdk_52_method_91_code 5 = .ok (.invokestatic 414, 3) := by decide +kernel
theorem d27_8 : decode jdk_52_method_91_code 8 = .ok (.return_, 1) := by decide +kernel
theorem d28_0 : decode jdk_52_method_6_code 0 = .ok (.aload_n 0, 1) := by decide +kernel
theorem d28_1 : decode jdk_52_method_6_code 1 = .ok (.arraylength, 1) := by decide +kernel
theorem d28_2 : decode jdk_52_method_6_code 2 = .ok (.iconst 1, 1) := by decide +kernel
theorem d28_3 : decode jdk_52_method_6_code 3 = .ok (.ishr, 1) := by decide +kernel
theorem d28_4 : decode jdk_52_method_6_code 4 = .ok (.ireturn, 1) := by decide +kernel
theorem pn_0 : plainName "java/lang/String" = true := by first | (simp [plainName, overriddenIn]; done) | decide +kernel
theorem pn_1 : plainName "jdk/internal/util/Preconditions" = true := by first | (simp [plainName, overriddenIn]; done) | decide +kernel
theorem pn_2 : plainName "java/lang/StringUTF16" = true := by first | (simp [plainName, overriddenIn]; done) | decide +kernel
theorem pn_3 : plainName "java/lang/StringLatin1" = true := by first | (simp [plainName, overriddenIn]; done) | decide +kernel
theorem pn_4 : plainName "com/example/cartulary/cartulary/entity/AttachmentValueOfStringPinLaw" = true := by first | (simp [plainName, overriddenIn]; done) | decide +kernel
theorem pn_5 : plainName "java/util/Objects" = true := by first | (simp [plainName, overriddenIn]; done) | decide +kernel
theorem pn_6 : plainName "com/example/cartulary/cartulary/entity/AttachmentValue" = true := by first | (simp [plainName, overriddenIn]; done) | decide +kernel
theorem pd_0 : parseMethodDescriptor "(IILjava/util/function/BiFunction;)I" = some ⟨[.int, .int, (.object "java/util/function/BiFunction")], some .int⟩ := by decide +kernel
theorem pd_1 : parseMethodDescriptor "([CIILjava/lang/Void;)V" = some ⟨[(.array .char), .int, .int, (.object "java/lang/Void")], none⟩ := by decide +kernel
theorem pd_2 : parseMethodDescriptor "(I)I" = some ⟨[.int], some .int⟩ := by decide +kernel
theorem pd_3 : parseMethodDescriptor "(I)[B" = some ⟨[.int], some (.array .byte)⟩ := by decide +kernel
theorem pd_4 : parseMethodDescriptor "([BII)V" = some ⟨[(.array .byte), .int, .int], none⟩ := by decide +kernel
theorem pd_5 : parseMethodDescriptor "([CI[BII)I" = some ⟨[(.array .char), .int, (.array .byte), .int, .int], some .int⟩ := by decide +kernel
theorem pd_6 : parseMethodDescriptor "([CII)[B" = some ⟨[(.array .char), .int, .int], some (.array .byte)⟩ := by decide +kernel
theorem pd_7 : parseMethodDescriptor "([BI)B" = some ⟨[(.array .byte), .int], some .byte⟩ := by decide +kernel
theorem pd_8 : parseMethodDescriptor "([BI)C" = some ⟨[(.array .byte), .int], some .char⟩ := by decide +kernel
theorem pd_9 : parseMethodDescriptor "()B" = some ⟨[], some .byte⟩ := by decide +kernel
theorem pd_10 : parseMethodDescriptor "(II)V" = some ⟨[.int, .int], none⟩ := by decide +kernel
theorem pd_11 : parseMethodDescriptor "()Z" = some ⟨[], some .boolean⟩ := by decide +kernel
theorem pd_12 : parseMethodDescriptor "([B)I" = some ⟨[(.array .byte)], some .int⟩ := by decide +kernel
theorem pd_13 : parseMethodDescriptor "(I[B)V" = some ⟨[.int, (.array .byte)], none⟩ := by decide +kernel
theorem pd_14 : parseMethodDescriptor "([C)V" = some ⟨[(.array .char)], none⟩ := by decide +kernel
theorem pd_15 : parseMethodDescriptor "(Ljava/lang/Object;Ljava/lang/String;)Ljava/lang/Object;" = some ⟨[(.object "java/lang/Object"), (.object "java/lang/String")], some (.object "java/lang/Object")⟩ := by decide +kernel
theorem pd_16 : parseMethodDescriptor "(Ljava/lang/String;Z)V" = some ⟨[(.object "java/lang/String"), .boolean], none⟩ := by decide +kernel
theorem pd_17 : parseMethodDescriptor "(ICCC)Ljava/lang/String;" = some ⟨[.int, .char, .char, .char], some (.object "java/lang/String")⟩ := by decide +kernel
theorem pd_18 : parseMethodDescriptor "(Ljava/lang/String;)Lcom/example/cartulary/cartulary/entity/AttachmentValue;" = some ⟨[(.object "java/lang/String")], some (.object "com/example/cartulary/cartulary/entity/AttachmentValue")⟩ := by decide +kernel
theorem pd_19 : parseMethodDescriptor "()Ljava/lang/String;" = some ⟨[], some (.object "java/lang/String")⟩ := by decide +kernel
theorem pd_20 : parseMethodDescriptor "()I" = some ⟨[], some .int⟩ := by decide +kernel
theorem pd_21 : parseMethodDescriptor "(Ljava/lang/Object;)Z" = some ⟨[(.object "java/lang/Object")], some .boolean⟩ := by decide +kernel
theorem pd_22 : parseMethodDescriptor "(I)C" = some ⟨[.int], some .char⟩ := by decide +kernel
theorem own_wS {a0 : Array Value} {Z : State} (hw : ∀ d ∈ tables_1, d.before a0 Z = true) : ∀ a ∈ Bundle.stringAtoms, a.before a0 Z = true := fun d hd => by
  simp only [Bundle.stringAtoms, List.mem_cons, List.not_mem_nil, or_false] at hd
  rcases hd with rfl | rfl | rfl | rfl | rfl | rfl | rfl
  · exact (w_7 hw)
  · exact (w_6 hw)
  · exact (w_24 hw)
  · exact (w_34 hw)
  · exact (w_32 hw)
  · exact (w_42 hw)
  · exact (w_43 hw)
theorem own_EW {a0 : Array Value} {Z : State} (hw : ∀ d ∈ tables_1, d.before a0 Z = true) : EW Z a0 consts_1 := EW.cons (w_41 hw) (by decide) (EW.cons (w_104 hw) (by decide) (EW.nil))
def OwnS (Z : State) (i_COMPACT_STRINGS : Int32) (v_SIOOBE_FORMATTER : Value) : Prop := (Sta Z Z.heap "java/lang/String" "COMPACT_STRINGS" "Z" (.int i_COMPACT_STRINGS)) ∧ (Sta Z Z.heap "jdk/internal/util/Preconditions" "SIOOBE_FORMATTER" "Ljava/util/function/BiFunction;" v_SIOOBE_FORMATTER) ∧ (v_SIOOBE_FORMATTER.isRef = true) ∧ (Sta Z Z.heap "java/lang/StringUTF16" "$assertionsDisabled" "Z" (.int (1 : Int32))) ∧ (Sta Z Z.heap "java/lang/StringUTF16" "HI_BYTE_SHIFT" "I" (.int (0 : Int32))) ∧ (Sta Z Z.heap "java/lang/StringUTF16" "LO_BYTE_SHIFT" "I" (.int (8 : Int32))) ∧ (¬ (i_COMPACT_STRINGS = (0 : Int32)))
def own_by (c : Int32) : Int32 := nar .byte c.toInt8.toInt32
theorem own_t1 (x : Int32) : nar .byte x = x.toInt8.toInt32 := rfl
theorem own_gcb (u : BitVec 16) : (((((((u.setWidth 32).sshiftRight 0).setWidth 8).signExtend 32) &&& 255#32) <<< 0 ||| (((((u.setWidth 32).sshiftRight 8).setWidth 8).signExtend 32) &&& 255#32) <<< 8).setWidth 16) = u := by
  apply BitVec.eq_of_getLsbD_eq
  intro i hi
  simp [BitVec.getLsbD_setWidth, BitVec.getLsbD_or, BitVec.getLsbD_and, BitVec.getLsbD_signExtend, BitVec.getLsbD_shiftLeft, BitVec.getLsbD_sshiftRight]
  have h : i = 0 ∨ i = 1 ∨ i = 2 ∨ i = 3 ∨ i = 4 ∨ i = 5 ∨ i = 6 ∨ i = 7 ∨ i = 8 ∨ i = 9 ∨ i = 10 ∨ i = 11 ∨ i = 12 ∨ i = 13 ∨ i = 14 ∨ i = 15 := by omega
  rcases h with rfl | rfl | rfl | rfl | rfl | rfl | rfl | rfl | rfl | rfl | rfl | rfl | rfl | rfl | rfl | rfl <;> simp
def own_b0 (c : Int32) : Int32 := nar .byte ((c >>> ((0 : Int32) &&& 31)).toInt8.toInt32)
def own_b1 (c : Int32) : Int32 := nar .byte ((c >>> ((8 : Int32) &&& 31)).toInt8.toInt32)
def own_gv (y z : Int32) : Int32 := ((((y &&& (255 : Int32)) <<< ((0 : Int32) &&& 31)) ||| ((z &&& (255 : Int32)) <<< ((8 : Int32) &&& 31))).toUInt32.toUInt16.toUInt32.toInt32)
theorem own_char {c : Int32} (h : nar .char c = c) : ∃ u : UInt16, c = u.toUInt32.toInt32 := ⟨c.toUInt32.toUInt16, h.symm⟩
theorem own_b0b (u : UInt16) : (own_b0 u.toUInt32.toInt32).toBitVec = ((((u.toBitVec.setWidth 32).sshiftRight 0).setWidth 8).signExtend 32) := by
  unfold own_b0
  rw [own_t1]
  simp [BitVec.signExtend_eq_setWidth_of_le]
theorem own_b1b (u : UInt16) : (own_b1 u.toUInt32.toInt32).toBitVec = ((((u.toBitVec.setWidth 32).sshiftRight 8).setWidth 8).signExtend 32) := by
  unfold own_b1
  rw [own_t1]
  simp [BitVec.signExtend_eq_setWidth_of_le]
theorem own_gc {c : Int32} (h : nar .char c = c) : own_gv (own_b0 c) (own_b1 c) = c := by
  obtain ⟨u, rfl⟩ := own_char h
  apply Int32.toBitVec_inj.mp
  have h1 := own_gcb u.toBitVec
  rw [← own_b0b, ← own_b1b] at h1
  generalize own_b0 u.toUInt32.toInt32 = y at *
  generalize own_b1 u.toUInt32.toInt32 = z at *
  exact congrArg (fun b => b.setWidth 32) h1
theorem own_u16 (u : UInt16) : u.toUInt32.toInt32.toInt = u.toNat := by
  have h := u.toNat_lt
  have h2 : u.toUInt32.toInt32.toInt = (u.toUInt32.toBitVec).toInt := rfl
  rw [h2, BitVec.toInt_eq_toNat_of_lt (by show 2 * u.toUInt32.toNat < _; rw [UInt16.toNat_toUInt32]; omega)]
  show ((u.toUInt32.toNat : Nat) : Int) = _
  rw [UInt16.toNat_toUInt32]
theorem own_ch0 {c : Int32} (h : nar .char c = c) : 0 ≤ c.toInt ∧ c.toInt < 65536 := by
  obtain ⟨u, rfl⟩ := own_char h
  have h := u.toNat_lt
  rw [own_u16]
  omega
theorem own_lcA : ∀ i : Fin 256, (((nar .byte (Int32.ofNat i.val).toInt8.toInt32) &&& (255 : Int32)).toUInt32.toUInt16.toUInt32.toInt32) = Int32.ofNat i.val := by decide +kernel
theorem own_lc {c : Int32} (h : nar .char c = c) (hl : ¬ ((255 : Int32) < c)) : (((nar .byte c.toInt8.toInt32) &&& (255 : Int32)).toUInt32.toUInt16.toUInt32.toInt32) = c := by
  have h0 := (own_ch0 h).1
  rw [Int32.lt_iff_toInt_lt, show (255 : Int32).toInt = 255 by decide] at hl
  have e : c = Int32.ofNat c.toInt.toNat := by
    apply Int32.toInt_inj.mp
    rw [Int32.toInt_ofNat_of_lt (by omega)]
    omega
  rw [e]
  exact own_lcA ⟨c.toInt.toNat, by omega⟩
theorem own_nc (x : Int32) : narrow .char (.int (x.toUInt32.toUInt16.toUInt32.toInt32)) = .int (x.toUInt32.toUInt16.toUInt32.toInt32) := by
  generalize x.toUInt32.toUInt16 = u
  show Value.int (u.toUInt32.toInt32.toUInt32.toUInt16.toUInt32.toInt32) = _
  rw [show u.toUInt32.toInt32.toUInt32.toUInt16 = u by simp]
theorem own_nch (x : Int32) : nar .char (x.toUInt32.toUInt16.toUInt32.toInt32) = (x.toUInt32.toUInt16.toUInt32.toInt32) := Value.int.inj (own_nc x)

section OwnStr
def OwnL (cs : List Int32) : List Value := cs.map fun c => Value.int (own_by c)
def OwnU (cs : List Int32) : List Value := cs.flatMap fun c => [Value.int (own_b0 c), Value.int (own_b1 c)]
def OwnPL (cs : List Int32) (m : Nat) (bs : List Value) : Prop := bs.length = cs.length ∧ ∀ j, j < m → bs[j]? = (cs[j]?).map fun c => Value.int (own_by c)
def OwnPU (cs : List Int32) (m : Nat) (bs : List Value) : Prop := bs.length = 2 * cs.length ∧ ∀ j, j < m → bs[2 * j]? = (cs[j]?).map (fun c => Value.int (own_b0 c)) ∧ bs[2 * j + 1]? = (cs[j]?).map (fun c => Value.int (own_b1 c))
theorem OwnPL.start (cs : List Int32) (d : Value) : OwnPL cs 0 (List.replicate cs.length d) := ⟨by simp, fun j hj => absurd hj (Nat.not_lt_zero _)⟩
theorem OwnPU.start (cs : List Int32) (d : Value) : OwnPU cs 0 (List.replicate (2 * cs.length) d) := ⟨by simp, fun j hj => absurd hj (Nat.not_lt_zero _)⟩
theorem OwnPL.step {cs : List Int32} {m : Nat} {bs : List Value} {c : Int32} (h : OwnPL cs m bs) (hc : cs[m]? = some c) : OwnPL cs (m + 1) (bs.set m (.int (own_by c))) := by
  refine ⟨by simp [h.1], fun j hj => ?_⟩
  have hm : m < cs.length := (List.getElem?_eq_some_iff.mp hc).1
  rw [List.getElem?_set]
  by_cases e : m = j
  · subst e
    rw [if_pos rfl, if_pos (by rw [h.1]; exact hm), hc]
    rfl
  · rw [if_neg e]
    exact h.2 j (by omega)
theorem OwnPU.step {cs : List Int32} {m : Nat} {bs : List Value} {c : Int32} (h : OwnPU cs m bs) (hc : cs[m]? = some c) : OwnPU cs (m + 1) ((bs.set (2 * m) (.int (own_b0 c))).set (2 * m + 1) (.int (own_b1 c))) := by
  refine ⟨by simp [h.1], fun j hj => ?_⟩
  have hm : m < cs.length := (List.getElem?_eq_some_iff.mp hc).1
  have hl := h.1
  by_cases e : m = j
  · subst e
    constructor
    · rw [List.getElem?_set, if_neg (by omega), List.getElem?_set, if_pos rfl, if_pos (by omega), hc]; rfl
    · rw [List.getElem?_set, if_pos rfl, if_pos (by rw [List.length_set]; omega), hc]; rfl
  · have := h.2 j (by omega)
    constructor
    · rw [List.getElem?_set, if_neg (by omega), List.getElem?_set, if_neg (by omega)]; exact this.1
    · rw [List.getElem?_set, if_neg (by omega), List.getElem?_set, if_neg (by omega)]; exact this.2
theorem OwnPL.end {cs : List Int32} {bs : List Value} (h : OwnPL cs cs.length bs) : bs = OwnL cs := by
  apply List.ext_getElem?
  intro j
  unfold OwnL
  rw [List.getElem?_map]
  by_cases hj : j < cs.length
  · exact h.2 j hj
  · rw [List.getElem?_eq_none (by have := h.1; omega), List.getElem?_eq_none (by omega)]; rfl
theorem OwnU.at (cs : List Int32) : ∀ j, (OwnU cs)[2 * j]? = (cs[j]?).map (fun c => Value.int (own_b0 c)) ∧ (OwnU cs)[2 * j + 1]? = (cs[j]?).map (fun c => Value.int (own_b1 c)) := by
  unfold OwnU
  induction cs with
  | nil => intro j; simp
  | cons c cs ih =>
    intro j
    cases j with
    | zero => simp
    | succ j =>
      have := ih j
      simp only [List.flatMap_cons, List.cons_append, List.nil_append]
      rw [show 2 * (j + 1) = 2 * j + 1 + 1 by omega, List.getElem?_cons_succ, List.getElem?_cons_succ, List.getElem?_cons_succ, List.getElem?_cons_succ, List.getElem?_cons_succ]
      exact this
theorem OwnU.len (cs : List Int32) : (OwnU cs).length = 2 * cs.length := by
  unfold OwnU
  induction cs with
  | nil => rfl
  | cons c cs ih => simp only [List.flatMap_cons, List.length_append, ih, List.length_cons, List.length_nil]; omega
theorem OwnPU.end {cs : List Int32} {bs : List Value} (h : OwnPU cs cs.length bs) : bs = OwnU cs := by
  apply List.ext_getElem?
  intro k
  have hk : k = 2 * (k / 2) ∨ k = 2 * (k / 2) + 1 := by omega
  have hl := OwnU.len cs
  have hl2 := h.1
  by_cases hj : k / 2 < cs.length
  · have a := h.2 _ hj
    have b := OwnU.at cs (k / 2)
    rcases hk with e | e
    · rw [e, a.1, b.1]
    · rw [e, a.2, b.2]
  · rw [List.getElem?_eq_none (by omega), List.getElem?_eq_none (by omega)]
theorem own_getD {bs : List Value} {j : Nat} {v d : Value} (h : bs[j]? = some v) : bs.getD j d = v := by rw [List.getD_eq_getElem?_getD, h]; rfl
theorem own_getC {cs : List Int32} {j : Nat} {c : Int32} {d : Value} (h : cs[j]? = some c) : (cs.map Value.int).getD j d = .int c := own_getD (by rw [List.getElem?_map, h]; rfl)
theorem own_getL {cs : List Int32} {j : Nat} {c : Int32} {d : Value} (h : cs[j]? = some c) : (OwnL cs).getD j d = .int (own_by c) := own_getD (by unfold OwnL; rw [List.getElem?_map, h]; rfl)
theorem own_getU0 {cs : List Int32} {j : Nat} {c : Int32} {d : Value} (h : cs[j]? = some c) : (OwnU cs).getD (2 * j) d = .int (own_b0 c) := own_getD (by rw [(OwnU.at cs j).1, h]; rfl)
theorem own_getU1 {cs : List Int32} {j : Nat} {c : Int32} {d : Value} (h : cs[j]? = some c) : (OwnU cs).getD (2 * j + 1) d = .int (own_b1 c) := own_getD (by rw [(OwnU.at cs j).2, h]; rfl)
theorem own_tn {i : Int32} {m : Nat} (h : i.toInt = (m : Int)) : i.toNatClampNeg = m := by
  show i.toInt.toNat = m
  rw [h]; rfl
theorem own_nneg {i : Int32} {m : Nat} (h : i.toInt = (m : Int)) : ¬ i < 0 := by
  rw [Int32.lt_iff_toInt_lt, h, show (0 : Int32).toInt = 0 by decide]; omega
theorem own_ltI {i j : Int32} {m n : Nat} (h : i.toInt = (m : Int)) (h2 : j.toInt = (n : Int)) (hl : m < n) : i < j := by
  rw [Int32.lt_iff_toInt_lt, h, h2]; omega
theorem own_nltI {i j : Int32} {m n : Nat} (h : i.toInt = (m : Int)) (h2 : j.toInt = (n : Int)) (hl : n ≤ m) : ¬ i < j := by
  rw [Int32.lt_iff_toInt_lt, h, h2]; omega
theorem own_suc {i : Int32} {m : Nat} (h : i.toInt = (m : Int)) (hm : m < 1000000) : (i + (1 : Int32)).toInt = ((m + 1 : Nat) : Int) := by
  rw [Int32.toInt_add, h, show (1 : Int32).toInt = 1 by decide, Int.bmod_eq_of_le (by omega) (by omega)]; rfl
theorem own_dbl0 (i : Int32) : i <<< ((1 : Int32) &&& 31) = i + i := by
  apply Int32.toBitVec_inj.mp
  have e : (i <<< ((1 : Int32) &&& 31)).toBitVec = i.toBitVec <<< (1 : Nat) := rfl
  rw [e, Int32.toBitVec_add]
  apply BitVec.eq_of_toNat_eq
  rw [BitVec.toNat_shiftLeft, BitVec.toNat_add, Nat.shiftLeft_eq]
  congr 1
  omega
theorem own_dbl {i : Int32} {m : Nat} (h : i.toInt = (m : Int)) (hm : m < 1000000) : (i <<< ((1 : Int32) &&& 31)).toInt = ((2 * m : Nat) : Int) := by
  rw [own_dbl0, Int32.toInt_add, h, Int.bmod_eq_of_le (by omega) (by omega)]; omega
theorem own_of {z : Int32} {n : Nat} (h : z.toInt = (n : Int)) (hn : n < 1000000) : z = Int32.ofNat n := by
  apply Int32.toInt_inj.mp
  rw [Int32.toInt_ofNat_of_lt (by omega), h]
theorem own_clA : ∀ n : Fin 33, 0 < n.val → ((((Int32.ofNat n.val) - ((Int32.ofNat n.val) <<< ((1 : Int32) &&& 31))).toUInt32 >>> ((31 : Int32) &&& 31).toUInt32).toInt32).toInt8.toInt32 = 1 := by decide +kernel
theorem own_clU {z : Int32} {n : Nat} (h : z.toInt = (n : Int)) (h0 : 0 < n) (h1 : n < 33) : (((z - (z <<< ((1 : Int32) &&& 31))).toUInt32 >>> ((31 : Int32) &&& 31).toUInt32).toInt32).toInt8.toInt32 = 1 := by
  rw [own_of h (by omega)]
  exact own_clA ⟨n, h1⟩ h0
theorem own_clL (z : Int32) : (((z - z).toUInt32 >>> ((31 : Int32) &&& 31).toUInt32).toInt32).toInt8.toInt32 = 0 := by
  rw [Int32.sub_self]
  decide

def OwnLat (cs : List Int32) : Prop := ∀ c ∈ cs, ¬ ((255 : Int32) < c)
def OwnHi (cs : List Int32) : Prop := ∃ c ∈ cs, (255 : Int32) < c
def OwnChs (cs : List Int32) : Prop := ∀ c ∈ cs, nar .char c = c
theorem OwnLat.nil : OwnLat [] := fun _ h => nomatch h
theorem OwnLat.cons {c : Int32} {cs : List Int32} (h : ¬ ((255 : Int32) < c)) (k : OwnLat cs) : OwnLat (c :: cs) := fun x hx => by
  rcases List.mem_cons.mp hx with rfl | q
  · exact h
  · exact k x q
theorem OwnChs.nil : OwnChs [] := fun _ h => nomatch h
theorem OwnChs.cons {c : Int32} {cs : List Int32} (h : nar .char c = c) (k : OwnChs cs) : OwnChs (c :: cs) := fun x hx => by
  rcases List.mem_cons.mp hx with rfl | q
  · exact h
  · exact k x q
theorem OwnHi.here {c : Int32} {cs : List Int32} (h : (255 : Int32) < c) : OwnHi (c :: cs) := ⟨c, List.mem_cons_self, h⟩
theorem OwnHi.there {c : Int32} {cs : List Int32} (h : OwnHi cs) : OwnHi (c :: cs) := by
  obtain ⟨x, hx, q⟩ := h
  exact ⟨x, List.mem_cons_of_mem _ hx, q⟩
theorem OwnHi.not {cs : List Int32} (h : OwnHi cs) (k : ∀ (j : Nat) (c : Int32), cs[j]? = some c → ¬ ((255 : Int32) < c)) : False := by
  obtain ⟨c, hc, q⟩ := h
  obtain ⟨j, hj⟩ := List.getElem?_of_mem hc
  exact k j c hj q
theorem own_neI {i j : Int32} {m n : Nat} (h : i.toInt = (m : Int)) (h2 : j.toInt = (n : Int)) (hl : m < n) : ¬ i = j := fun q => by
  rw [q, h2] at h
  omega
theorem own_n0 {j : Int32} {n : Nat} (h2 : j.toInt = (n : Int)) (hl : 0 < n) : ¬ j = 0 := fun q => by
  rw [q, show (0 : Int32).toInt = 0 by decide] at h2
  omega
theorem own_hlfA : ∀ n : Fin 33, (((Int32.ofNat (2 * n.val)) >>> ((1 : Int32) &&& 31))).toInt = (n.val : Int) := by decide +kernel
theorem own_half {z : Int32} {n : Nat} (h : z.toInt = ((2 * n : Nat) : Int)) (hn : n < 33) : (z >>> ((1 : Int32) &&& 31)).toInt = (n : Int) := by
  rw [own_of h (by omega)]
  exact own_hlfA ⟨n, hn⟩
theorem own_hlf {i z : Int32} {m n : Nat} (hi : i.toInt = (m : Int)) (h : z.toInt = ((2 * n : Nat) : Int)) (hm : m < n) (hn : n ≤ 10) : i < (z >>> ((1 : Int32) &&& 31)) := own_ltI hi (own_half h (by omega)) hm
end OwnStr

theorem own_lu1 (c0 : Int32) : ((255 : Int32) < c0) ∨ (¬ ((255 : Int32) < c0)) := by
  by_cases h0 : (255 : Int32) < c0
  · exact Or.inl (h0)
  exact Or.inr h0
theorem own_lu2 (c0 c1 : Int32) : ((255 : Int32) < c0 ∨ (255 : Int32) < c1) ∨ (¬ ((255 : Int32) < c0) ∧ ¬ ((255 : Int32) < c1)) := by
  by_cases h0 : (255 : Int32) < c0
  · exact Or.inl (Or.inl h0)
  by_cases h1 : (255 : Int32) < c1
  · exact Or.inl (Or.inr (h1))
  exact Or.inr ⟨h0, h1⟩
theorem own_lu3 (c0 c1 c2 : Int32) : ((255 : Int32) < c0 ∨ (255 : Int32) < c1 ∨ (255 : Int32) < c2) ∨ (¬ ((255 : Int32) < c0) ∧ ¬ ((255 : Int32) < c1) ∧ ¬ ((255 : Int32) < c2)) := by
  by_cases h0 : (255 : Int32) < c0
  · exact Or.inl (Or.inl h0)
  by_cases h1 : (255 : Int32) < c1
  · exact Or.inl (Or.inr (Or.inl h1))
  by_cases h2 : (255 : Int32) < c2
  · exact Or.inl (Or.inr (Or.inr (h2)))
  exact Or.inr ⟨h0, h1, h2⟩
theorem own_and3 (y : Int32) : (y &&& 3) = 0 ∨ (y &&& 3) = 1 ∨ (y &&& 3) = 2 ∨ (y &&& 3) = 3 := by
  have h := c_and y 3 (by decide)
  rw [show (3 : Int32).toInt = 3 by decide] at h
  generalize y &&& 3 = k at h
  have h4 : k.toInt = 0 ∨ k.toInt = 1 ∨ k.toInt = 2 ∨ k.toInt = 3 := by omega
  rcases h4 with h | h | h | h
  · exact Or.inl (Int32.toInt_inj.mp h)
  · exact Or.inr (Or.inl (Int32.toInt_inj.mp h))
  · exact Or.inr (Or.inr (Or.inl (Int32.toInt_inj.mp h)))
  · exact Or.inr (Or.inr (Or.inr (Int32.toInt_inj.mp h)))
theorem ef_CO0 (m : MethodId) (x0 : Addr) : entryFrame m #[(.ref x0)] 1 = mkF m 0 #[.val (.ref x0)] [] := by first | (simp [entryFrame, mkF, argsToLocals, Value.category]; done) | rfl
def QCO0 (Z : State) (b : Addr) (i_COMPACT_STRINGS : Int32) (v_SIOOBE_FORMATTER : Value) (h0 : Heap) (n0 : Nat) (v : Option Value) (h : Heap) (L : List Loc) : Prop := v = some (.int 0) ∧ Fr n0 L ∧ h = h0
set_option maxRecDepth 65536 in
set_option maxHeartbeats 40000000 in
theorem rmCO0 (l : Launch) (Z : State) (a0 : Array Value) (hw : ∀ d ∈ tables_1, d.before a0 Z = true) (ws : List Jvm.Cond) (b : Addr) (i_COMPACT_STRINGS : Int32) (v_SIOOBE_FORMATTER : Value) (h0 : Heap) (n0 : Nat) (O0 : Old Z n0 h0) (F : Fld Z h0 b "java/lang/String" "coder" "B" (.int (0 : Int32))) (hS : OwnS Z i_COMPACT_STRINGS v_SIOOBE_FORMATTER) :
    MetFree l (⟨"java/lang/String", "coder", "()B"⟩ : MethodName) (head1 (Jvm.Cond.code (⟨"java/lang/String", "coder", "()B"⟩ : MethodName) jdk_42_method_152_code 1 (some .byte) :: ws) ({ frames := 0, cells := 0, slots := 0, locals := 0 } : Room)) (fun aa_ UU_ => aa_ = #[(.ref b)] ∧ Z.Warmed39 UU_.vm ∧ UU_.heap = h0) (fun _ _ _ _ _ => True) (fun _ UU_ oo_ UV_ => ∃ vv_ LL_, oo_ = .returned vv_ ∧ QCO0 Z b i_COMPACT_STRINGS v_SIOOBE_FORMATTER h0 n0 vv_ UV_.heap LL_ ∧ FrameEnd UU_ oo_ UV_ LL_ ({ frames := 0, cells := 0, slots := 0, locals := 0 } : Room).cells ({ frames := 0, cells := 0, slots := 0, locals := 0 } : Room).slots) := by
  refine MetFree.of_bodySF (plainFor_of_name pn_0) hisR ?_
  intro p e s m args below meth c s₁ Bd hml0 hP hK
  obtain ⟨rfl, hZ, hh⟩ := hP
  have hx := Bd.exec
  have hby := Bd.bytes
  have hlk := BodyLoose.notSynchronized Bd
  have hml : c.maxLocals = 1 := hml0
  have hown : s.vm.findClass "java/lang/String" = some m.cls := findClass_of_methodNamed Bd.named
  have hnm := (name_of_methodNamed Bd.named Bd.method).1
  have X0 : Stand p l e ({ frames := 0, cells := 0, slots := 0, locals := 0 } : Room) s m #[(.ref b)] below meth c s₁ [] 0 0 := Stand.of_body Bd
  have e0 : s₁.heap = h0 := by rw [← hh, Bd.state]; rfl
  have N0 := Fr.nil n0
  suffices hOW : OW p e below s (QCO0 Z b i_COMPACT_STRINGS v_SIOOBE_FORMATTER h0 n0) 0 0 (s₁.setTop (mkF m 0 #[.val (.ref b)] [])) by
    obtain ⟨oq1_, oq2_, oq3_, oq4_⟩ := hOW
    exact ⟨oq1_, oq2_, castTop (ef_CO0 m b) oq3_, oq4_⟩
  have hS' := hS
  obtain ⟨Si_COMPACT_STRINGS, Sv_SIOOBE_FORMATTER, Rv_SIOOBE_FORMATTER, S__assertionsDisabled, S_HI_BYTE_SHIFT, S_LO_BYTE_SHIFT, Pi_COMPACT_STRINGS⟩ := hS'
  obtain ⟨T1, X1, e1, st1⟩ := getS2 X0 hx hZ hown (host := "") (Or.inl (w_19 hw)) Via.refl e0 (Si_COMPACT_STRINGS.ext O0.2) (g := (mkF m 0 #[.val (.ref b)] [])) rfl (hb hby d14_0)
  refine OW.st (B := T1.setTop (mkF m 7 #[.val (.ref b)] [(.ref b)])) (fun _ kk_ => st1 _ (XS.ifNo X1.here hx rfl (hb hby d14_3) rfl ((if0 _ _).trans (feq Pi_COMPACT_STRINGS).1) (XS.aloadN X1.here hx rfl (hb hby d14_6) rfl rfl kk_))) ?_
  obtain ⟨T2, X2, e2, st2⟩ := getF X1 hx hZ hown (host := "") (Or.inl (w_31 hw)) Via.refl e1 F (g := (mkF m 7 #[.val (.ref b)] [(.ref b)])) rfl rfl (hb hby d14_7)
  refine OW.st (B := T2.setTop (mkF m 14 #[.val (.ref b)] [(.int (0 : Int32))])) (fun _ kk_ => st2 _ (XS.goto X2.here hx rfl (pc0 := 10) (pc' := 14) rfl (hb hby d14_10) (by decide) (by decide) kk_)) ?_
  exact OW.ret X2 hx hlk (i := .ireturn) Bd.returns rfl (Or.inl ⟨rfl, Or.inr (Or.inr (Or.inl rfl)), _, rfl⟩) (hb hby d14_14) e2 (by decide) (by decide) ⟨rfl, N0, rfl⟩
theorem ef_IL0 (m : MethodId) (x0 : Addr) : entryFrame m #[(.ref x0)] 1 = mkF m 0 #[.val (.ref x0)] [] := by first | (simp [entryFrame, mkF, argsToLocals, Value.category]; done) | rfl
def QIL0 (Z : State) (b : Addr) (i_COMPACT_STRINGS : Int32) (v_SIOOBE_FORMATTER : Value) (h0 : Heap) (n0 : Nat) (v : Option Value) (h : Heap) (L : List Loc) : Prop := v = some (.int 1) ∧ Fr n0 L ∧ h = h0
set_option maxRecDepth 65536 in
set_option maxHeartbeats 40000000 in
theorem rmIL0 (l : Launch) (Z : State) (a0 : Array Value) (hw : ∀ d ∈ tables_1, d.before a0 Z = true) (ws : List Jvm.Cond) (b : Addr) (i_COMPACT_STRINGS : Int32) (v_SIOOBE_FORMATTER : Value) (h0 : Heap) (n0 : Nat) (O0 : Old Z n0 h0) (F : Fld Z h0 b "java/lang/String" "coder" "B" (.int (0 : Int32))) (hS : OwnS Z i_COMPACT_STRINGS v_SIOOBE_FORMATTER) :
    MetFree l (⟨"java/lang/String", "isLatin1", "()Z"⟩ : MethodName) (head1 (Jvm.Cond.code (⟨"java/lang/String", "isLatin1", "()Z"⟩ : MethodName) jdk_42_method_154_code 1 (some .boolean) :: ws) ({ frames := 0, cells := 0, slots := 0, locals := 0 } : Room)) (fun aa_ UU_ => aa_ = #[(.ref b)] ∧ Z.Warmed39 UU_.vm ∧ UU_.heap = h0) (fun _ _ _ _ _ => True) (fun _ UU_ oo_ UV_ => ∃ vv_ LL_, oo_ = .returned vv_ ∧ QIL0 Z b i_COMPACT_STRINGS v_SIOOBE_FORMATTER h0 n0 vv_ UV_.heap LL_ ∧ FrameEnd UU_ oo_ UV_ LL_ ({ frames := 0, cells := 0, slots := 0, locals := 0 } : Room).cells ({ frames := 0, cells := 0, slots := 0, locals := 0 } : Room).slots) := by
  refine MetFree.of_bodySF (plainFor_of_name pn_0) hisR ?_
  intro p e s m args below meth c s₁ Bd hml0 hP hK
  obtain ⟨rfl, hZ, hh⟩ := hP
  have hx := Bd.exec
  have hby := Bd.bytes
  have hlk := BodyLoose.notSynchronized Bd
  have hml : c.maxLocals = 1 := hml0
  have hown : s.vm.findClass "java/lang/String" = some m.cls := findClass_of_methodNamed Bd.named
  have hnm := (name_of_methodNamed Bd.named Bd.method).1
  have X0 : Stand p l e ({ frames := 0, cells := 0, slots := 0, locals := 0 } : Room) s m #[(.ref b)] below meth c s₁ [] 0 0 := Stand.of_body Bd
  have e0 : s₁.heap = h0 := by rw [← hh, Bd.state]; rfl
  have N0 := Fr.nil n0
  suffices hOW : OW p e below s (QIL0 Z b i_COMPACT_STRINGS v_SIOOBE_FORMATTER h0 n0) 0 0 (s₁.setTop (mkF m 0 #[.val (.ref b)] [])) by
    obtain ⟨oq1_, oq2_, oq3_, oq4_⟩ := hOW
    exact ⟨oq1_, oq2_, castTop (ef_IL0 m b) oq3_, oq4_⟩
  have hS' := hS
  obtain ⟨Si_COMPACT_STRINGS, Sv_SIOOBE_FORMATTER, Rv_SIOOBE_FORMATTER, S__assertionsDisabled, S_HI_BYTE_SHIFT, S_LO_BYTE_SHIFT, Pi_COMPACT_STRINGS⟩ := hS'
  obtain ⟨T3, X3, e3, st3⟩ := getS2 X0 hx hZ hown (host := "") (Or.inl (w_19 hw)) Via.refl e0 (Si_COMPACT_STRINGS.ext O0.2) (g := (mkF m 0 #[.val (.ref b)] [])) rfl (hb hby d16_0)
  refine OW.st (B := T3.setTop (mkF m 7 #[.val (.ref b)] [(.ref b)])) (fun _ kk_ => st3 _ (XS.ifNo X3.here hx rfl (hb hby d16_3) rfl ((if0 _ _).trans (feq Pi_COMPACT_STRINGS).1) (XS.aloadN X3.here hx rfl (hb hby d16_6) rfl rfl kk_))) ?_
  obtain ⟨T4, X4, e4, st4⟩ := getF X3 hx hZ hown (host := "") (Or.inl (w_31 hw)) Via.refl e3 F (g := (mkF m 7 #[.val (.ref b)] [(.ref b)])) rfl rfl (hb hby d16_7)
  refine OW.st (B := T4.setTop (mkF m 18 #[.val (.ref b)] [(.int (1 : Int32))])) (fun _ kk_ => st4 _ (XS.ifNo X4.here hx rfl (hb hby d16_10) rfl ((if0 _ _).trans (teq (by decide)).2) (XS.iconst X4.here hx rfl (hb hby d16_13) (XS.goto X4.here hx rfl (pc0 := 14) (pc' := 18) rfl (hb hby d16_14) (by decide) (by decide) kk_)))) ?_
  exact OW.ret X4 hx hlk (i := .ireturn) Bd.returns rfl (Or.inl ⟨rfl, Or.inr (Or.inl rfl), _, rfl⟩) (hb hby d16_18) e4 (by decide) (by decide) ⟨rfl, N0, rfl⟩
theorem ef_CO1 (m : MethodId) (x0 : Addr) : entryFrame m #[(.ref x0)] 1 = mkF m 0 #[.val (.ref x0)] [] := by first | (simp [entryFrame, mkF, argsToLocals, Value.category]; done) | rfl
def QCO1 (Z : State) (b : Addr) (i_COMPACT_STRINGS : Int32) (v_SIOOBE_FORMATTER : Value) (h0 : Heap) (n0 : Nat) (v : Option Value) (h : Heap) (L : List Loc) : Prop := v = some (.int 1) ∧ Fr n0 L ∧ h = h0
set_option maxRecDepth 65536 in
set_option maxHeartbeats 40000000 in
theorem rmCO1 (l : Launch) (Z : State) (a0 : Array Value) (hw : ∀ d ∈ tables_1, d.before a0 Z = true) (ws : List Jvm.Cond) (b : Addr) (i_COMPACT_STRINGS : Int32) (v_SIOOBE_FORMATTER : Value) (h0 : Heap) (n0 : Nat) (O0 : Old Z n0 h0) (F : Fld Z h0 b "java/lang/String" "coder" "B" (.int (1 : Int32))) (hS : OwnS Z i_COMPACT_STRINGS v_SIOOBE_FORMATTER) :
    MetFree l (⟨"java/lang/String", "coder", "()B"⟩ : MethodName) (head1 (Jvm.Cond.code (⟨"java/lang/String", "coder", "()B"⟩ : MethodName) jdk_42_method_152_code 1 (some .byte) :: ws) ({ frames := 0, cells := 0, slots := 0, locals := 0 } : Room)) (fun aa_ UU_ => aa_ = #[(.ref b)] ∧ Z.Warmed39 UU_.vm ∧ UU_.heap = h0) (fun _ _ _ _ _ => True) (fun _ UU_ oo_ UV_ => ∃ vv_ LL_, oo_ = .returned vv_ ∧ QCO1 Z b i_COMPACT_STRINGS v_SIOOBE_FORMATTER h0 n0 vv_ UV_.heap LL_ ∧ FrameEnd UU_ oo_ UV_ LL_ ({ frames := 0, cells := 0, slots := 0, locals := 0 } : Room).cells ({ frames := 0, cells := 0, slots := 0, locals := 0 } : Room).slots) := by
  refine MetFree.of_bodySF (plainFor_of_name pn_0) hisR ?_
  intro p e s m args below meth c s₁ Bd hml0 hP hK
  obtain ⟨rfl, hZ, hh⟩ := hP
  have hx := Bd.exec
  have hby := Bd.bytes
  have hlk := BodyLoose.notSynchronized Bd
  have hml : c.maxLocals = 1 := hml0
  have hown : s.vm.findClass "java/lang/String" = some m.cls := findClass_of_methodNamed Bd.named
  have hnm := (name_of_methodNamed Bd.named Bd.method).1
  have X0 : Stand p l e ({ frames := 0, cells := 0, slots := 0, locals := 0 } : Room) s m #[(.ref b)] below meth c s₁ [] 0 0 := Stand.of_body Bd
  have e0 : s₁.heap = h0 := by rw [← hh, Bd.state]; rfl
  have N0 := Fr.nil n0
  suffices hOW : OW p e below s (QCO1 Z b i_COMPACT_STRINGS v_SIOOBE_FORMATTER h0 n0) 0 0 (s₁.setTop (mkF m 0 #[.val (.ref b)] [])) by
    obtain ⟨oq1_, oq2_, oq3_, oq4_⟩ := hOW
    exact ⟨oq1_, oq2_, castTop (ef_CO1 m b) oq3_, oq4_⟩
  have hS' := hS
  obtain ⟨Si_COMPACT_STRINGS, Sv_SIOOBE_FORMATTER, Rv_SIOOBE_FORMATTER, S__assertionsDisabled, S_HI_BYTE_SHIFT, S_LO_BYTE_SHIFT, Pi_COMPACT_STRINGS⟩ := hS'
  obtain ⟨T5, X5, e5, st5⟩ := getS2 X0 hx hZ hown (host := "") (Or.inl (w_19 hw)) Via.refl e0 (Si_COMPACT_STRINGS.ext O0.2) (g := (mkF m 0 #[.val (.ref b)] [])) rfl (hb hby d14_0)
  refine OW.st (B := T5.setTop (mkF m 7 #[.val (.ref b)] [(.ref b)])) (fun _ kk_ => st5 _ (XS.ifNo X5.here hx rfl (hb hby d14_3) rfl ((if0 _ _).trans (feq Pi_COMPACT_STRINGS).1) (XS.aloadN X5.here hx rfl (hb hby d14_6) rfl rfl kk_))) ?_
  obtain ⟨T6, X6, e6, st6⟩ := getF X5 hx hZ hown (host := "") (Or.inl (w_31 hw)) Via.refl e5 F (g := (mkF m 7 #[.val (.ref b)] [(.ref b)])) rfl rfl (hb hby d14_7)
  refine OW.st (B := T6.setTop (mkF m 14 #[.val (.ref b)] [(.int (1 : Int32))])) (fun _ kk_ => st6 _ (XS.goto X6.here hx rfl (pc0 := 10) (pc' := 14) rfl (hb hby d14_10) (by decide) (by decide) kk_)) ?_
  exact OW.ret X6 hx hlk (i := .ireturn) Bd.returns rfl (Or.inl ⟨rfl, Or.inr (Or.inr (Or.inl rfl)), _, rfl⟩) (hb hby d14_14) e6 (by decide) (by decide) ⟨rfl, N0, rfl⟩
theorem ef_IL1 (m : MethodId) (x0 : Addr) : entryFrame m #[(.ref x0)] 1 = mkF m 0 #[.val (.ref x0)] [] := by first | (simp [entryFrame, mkF, argsToLocals, Value.category]; done) | rfl
def QIL1 (Z : State) (b : Addr) (i_COMPACT_STRINGS : Int32) (v_SIOOBE_FORMATTER : Value) (h0 : Heap) (n0 : Nat) (v : Option Value) (h : Heap) (L : List Loc) : Prop := v = some (.int 0) ∧ Fr n0 L ∧ h = h0
set_option maxRecDepth 65536 in
set_option maxHeartbeats 40000000 in
theorem rmIL1 (l : Launch) (Z : State) (a0 : Array Value) (hw : ∀ d ∈ tables_1, d.before a0 Z = true) (ws : List Jvm.Cond) (b : Addr) (i_COMPACT_STRINGS : Int32) (v_SIOOBE_FORMATTER : Value) (h0 : Heap) (n0 : Nat) (O0 : Old Z n0 h0) (F : Fld Z h0 b "java/lang/String" "coder" "B" (.int (1 : Int32))) (hS : OwnS Z i_COMPACT_STRINGS v_SIOOBE_FORMATTER) :
    MetFree l (⟨"java/lang/String", "isLatin1", "()Z"⟩ : MethodName) (head1 (Jvm.Cond.code (⟨"java/lang/String", "isLatin1", "()Z"⟩ : MethodName) jdk_42_method_154_code 1 (some .boolean) :: ws) ({ frames := 0, cells := 0, slots := 0, locals := 0 } : Room)) (fun aa_ UU_ => aa_ = #[(.ref b)] ∧ Z.Warmed39 UU_.vm ∧ UU_.heap = h0) (fun _ _ _ _ _ => True) (fun _ UU_ oo_ UV_ => ∃ vv_ LL_, oo_ = .returned vv_ ∧ QIL1 Z b i_COMPACT_STRINGS v_SIOOBE_FORMATTER h0 n0 vv_ UV_.heap LL_ ∧ FrameEnd UU_ oo_ UV_ LL_ ({ frames := 0, cells := 0, slots := 0, locals := 0 } : Room).cells ({ frames := 0, cells := 0, slots := 0, locals := 0 } : Room).slots) := by
  refine MetFree.of_bodySF (plainFor_of_name pn_0) hisR ?_
  intro p e s m args below meth c s₁ Bd hml0 hP hK
  obtain ⟨rfl, hZ, hh⟩ := hP
  have hx := Bd.exec
  have hby := Bd.bytes
  have hlk := BodyLoose.notSynchronized Bd
  have hml : c.maxLocals = 1 := hml0
  have hown : s.vm.findClass "java/lang/String" = some m.cls := findClass_of_methodNamed Bd.named
  have hnm := (name_of_methodNamed Bd.named Bd.method).1
  have X0 : Stand p l e ({ frames := 0, cells := 0, slots := 0, locals := 0 } : Room) s m #[(.ref b)] below meth c s₁ [] 0 0 := Stand.of_body Bd
  have e0 : s₁.heap = h0 := by rw [← hh, Bd.state]; rfl
  have N0 := Fr.nil n0
  suffices hOW : OW p e below s (QIL1 Z b i_COMPACT_STRINGS v_SIOOBE_FORMATTER h0 n0) 0 0 (s₁.setTop (mkF m 0 #[.val (.ref b)] [])) by
    obtain ⟨oq1_, oq2_, oq3_, oq4_⟩ := hOW
    exact ⟨oq1_, oq2_, castTop (ef_IL1 m b) oq3_, oq4_⟩
  have hS' := hS
  obtain ⟨Si_COMPACT_STRINGS, Sv_SIOOBE_FORMATTER, Rv_SIOOBE_FORMATTER, S__assertionsDisabled, S_HI_BYTE_SHIFT, S_LO_BYTE_SHIFT, Pi_COMPACT_STRINGS⟩ := hS'
  obtain ⟨T7, X7, e7, st7⟩ := getS2 X0 hx hZ hown (host := "") (Or.inl (w_19 hw)) Via.refl e0 (Si_COMPACT_STRINGS.ext O0.2) (g := (mkF m 0 #[.val (.ref b)] [])) rfl (hb hby d16_0)
  refine OW.st (B := T7.setTop (mkF m 7 #[.val (.ref b)] [(.ref b)])) (fun _ kk_ => st7 _ (XS.ifNo X7.here hx rfl (hb hby d16_3) rfl ((if0 _ _).trans (feq Pi_COMPACT_STRINGS).1) (XS.aloadN X7.here hx rfl (hb hby d16_6) rfl rfl kk_))) ?_
  obtain ⟨T8, X8, e8, st8⟩ := getF X7 hx hZ hown (host := "") (Or.inl (w_31 hw)) Via.refl e7 F (g := (mkF m 7 #[.val (.ref b)] [(.ref b)])) rfl rfl (hb hby d16_7)
  refine OW.st (B := T8.setTop (mkF m 18 #[.val (.ref b)] [(.int (0 : Int32))])) (fun _ kk_ => st8 _ (XS.ifYes X8.here hx rfl (pc0 := 10) (pc' := 17) rfl (hb hby d16_10) rfl ((if0 _ _).trans (feq (by decide)).2) (by decide) (by decide) (XS.iconst X8.here hx rfl (hb hby d16_17) kk_))) ?_
  exact OW.ret X8 hx hlk (i := .ireturn) Bd.returns rfl (Or.inl ⟨rfl, Or.inr (Or.inl rfl), _, rfl⟩) (hb hby d16_18) e8 (by decide) (by decide) ⟨rfl, N0, rfl⟩
theorem ef_PK (m : MethodId) (x0 : Int32) (x1 : Int32) (x2 : Value) (hv2 : x2.category = 1) : entryFrame m #[(.int x0), (.int x1), x2] 3 = mkF m 0 #[.val (.int x0), .val (.int x1), .val x2] [] := by first | (simp [entryFrame, mkF, argsToLocals, own_catI, own_catJ, own_catD, own_catR, own_catN, hv2]; done) | rfl
def QPK (Z : State) (i : Int32) (t : Int32) (vv : Value) (h0 : Heap) (n0 : Nat) (v : Option Value) (h : Heap) (L : List Loc) : Prop := v = some (.int i) ∧ Fr n0 L ∧ h = h0
set_option maxRecDepth 65536 in
set_option maxHeartbeats 40000000 in
theorem rmPK (l : Launch) (Z : State) (a0 : Array Value) (hw : ∀ d ∈ tables_1, d.before a0 Z = true) (ws : List Jvm.Cond) (i : Int32) (t : Int32) (vv : Value) (h0 : Heap) (n0 : Nat) (O0 : Old Z n0 h0) (h1 : ¬ (i < (0 : Int32))) (h2 : i < t) (hr : vv.isRef = true) :
    MetFree l (⟨"jdk/internal/util/Preconditions", "checkIndex", "(IILjava/util/function/BiFunction;)I"⟩ : MethodName) (head1 (Jvm.Cond.code (⟨"jdk/internal/util/Preconditions", "checkIndex", "(IILjava/util/function/BiFunction;)I"⟩ : MethodName) jdk_41_method_11_code 3 (some .int) :: ws) ({ frames := 0, cells := 0, slots := 0, locals := 0 } : Room)) (fun aa_ UU_ => aa_ = #[(.int i), (.int t), vv] ∧ Z.Warmed39 UU_.vm ∧ UU_.heap = h0) (fun _ _ _ _ _ => True) (fun _ UU_ oo_ UV_ => ∃ vv_ LL_, oo_ = .returned vv_ ∧ QPK Z i t vv h0 n0 vv_ UV_.heap LL_ ∧ FrameEnd UU_ oo_ UV_ LL_ ({ frames := 0, cells := 0, slots := 0, locals := 0 } : Room).cells ({ frames := 0, cells := 0, slots := 0, locals := 0 } : Room).slots) := by
  refine MetFree.of_bodySF (plainFor_of_name pn_1) hisR ?_
  intro p e s m args below meth c s₁ Bd hml0 hP hK
  obtain ⟨rfl, hZ, hh⟩ := hP
  have hx := Bd.exec
  have hby := Bd.bytes
  have hlk := BodyLoose.notSynchronized Bd
  have hml : c.maxLocals = 3 := hml0
  have hown : s.vm.findClass "jdk/internal/util/Preconditions" = some m.cls := findClass_of_methodNamed Bd.named
  have hnm := (name_of_methodNamed Bd.named Bd.method).1
  have X0 : Stand p l e ({ frames := 0, cells := 0, slots := 0, locals := 0 } : Room) s m #[(.int i), (.int t), vv] below meth c s₁ [] 0 0 := Stand.of_body Bd
  have e0 : s₁.heap = h0 := by rw [← hh, Bd.state]; rfl
  have N0 := Fr.nil n0
  suffices hOW : OW p e below s (QPK Z i t vv h0 n0) 0 0 (s₁.setTop (mkF m 0 #[.val (.int i), .val (.int t), .val vv] [])) by
    obtain ⟨oq1_, oq2_, oq3_, oq4_⟩ := hOW
    exact ⟨oq1_, oq2_, castTop (ef_PK m i t vv (own_cat hr)) oq3_, oq4_⟩
  refine OW.st (B := s₁.setTop (mkF m 17 #[.val (.int i), .val (.int t), .val vv] [(.int i)])) (fun _ kk_ => XS.iloadN X0.here hx rfl (hb hby d19_0) rfl (XS.ifNo X0.here hx rfl (hb hby d19_1) rfl ((if0 _ _).trans (flt h1).1) (XS.iloadN X0.here hx rfl (hb hby d19_4) rfl (XS.iloadN X0.here hx rfl (hb hby d19_5) rfl (XS.icmpYes X0.here hx rfl (pc0 := 6) (pc' := 16) rfl (hb hby d19_6) rfl (tlt h2).1 (by decide) (by decide) (XS.iloadN X0.here hx rfl (hb hby d19_16) rfl kk_)))))) ?_
  exact OW.ret X0 hx hlk (i := .ireturn) Bd.returns rfl (Or.inl ⟨rfl, Or.inl rfl, _, rfl⟩) (hb hby d19_17) e0 (by decide) (by decide) ⟨rfl, N0, rfl⟩
theorem ef_CK (m : MethodId) (x0 : Int32) (x1 : Int32) : entryFrame m #[(.int x0), (.int x1)] 2 = mkF m 0 #[.val (.int x0), .val (.int x1)] [] := by first | (simp [entryFrame, mkF, argsToLocals, Value.category]; done) | rfl
def QCK (Z : State) (i : Int32) (t : Int32) (i_COMPACT_STRINGS : Int32) (v_SIOOBE_FORMATTER : Value) (h0 : Heap) (n0 : Nat) (v : Option Value) (h : Heap) (L : List Loc) : Prop := v = none ∧ Fr n0 L ∧ h = h0
set_option maxRecDepth 65536 in
set_option maxHeartbeats 40000000 in
theorem rmCK (l : Launch) (Z : State) (a0 : Array Value) (hw : ∀ d ∈ tables_1, d.before a0 Z = true) (ws : List Jvm.Cond) (i : Int32) (t : Int32) (i_COMPACT_STRINGS : Int32) (v_SIOOBE_FORMATTER : Value) (h0 : Heap) (n0 : Nat) (O0 : Old Z n0 h0) (h1 : ¬ (i < (0 : Int32))) (h2 : i < t) (hS : OwnS Z i_COMPACT_STRINGS v_SIOOBE_FORMATTER) :
    MetFree l (⟨"java/lang/String", "checkIndex", "(II)V"⟩ : MethodName) (head1 (Jvm.Cond.code (⟨"java/lang/String", "checkIndex", "(II)V"⟩ : MethodName) jdk_42_method_155_code 2 none :: ws) ({ frames := 1, cells := 0, slots := 0, locals := 14 } : Room)) (fun aa_ UU_ => aa_ = #[(.int i), (.int t)] ∧ Z.Warmed39 UU_.vm ∧ UU_.heap = h0) (fun _ _ _ _ _ => True) (fun _ UU_ oo_ UV_ => ∃ vv_ LL_, oo_ = .returned vv_ ∧ QCK Z i t i_COMPACT_STRINGS v_SIOOBE_FORMATTER h0 n0 vv_ UV_.heap LL_ ∧ FrameEnd UU_ oo_ UV_ LL_ ({ frames := 1, cells := 0, slots := 0, locals := 14 } : Room).cells ({ frames := 1, cells := 0, slots := 0, locals := 14 } : Room).slots) := by
  refine MetFree.of_bodySF (plainFor_of_name pn_0) hisR ?_
  intro p e s m args below meth c s₁ Bd hml0 hP hK
  obtain ⟨rfl, hZ, hh⟩ := hP
  have hx := Bd.exec
  have hby := Bd.bytes
  have hlk := BodyLoose.notSynchronized Bd
  have hml : c.maxLocals = 2 := hml0
  have hown : s.vm.findClass "java/lang/String" = some m.cls := findClass_of_methodNamed Bd.named
  have hnm := (name_of_methodNamed Bd.named Bd.method).1
  have X0 : Stand p l e ({ frames := 1, cells := 0, slots := 0, locals := 14 } : Room) s m #[(.int i), (.int t)] below meth c s₁ [] 0 0 := Stand.of_body Bd
  have e0 : s₁.heap = h0 := by rw [← hh, Bd.state]; rfl
  have N0 := Fr.nil n0
  suffices hOW : OW p e below s (QCK Z i t i_COMPACT_STRINGS v_SIOOBE_FORMATTER h0 n0) 0 0 (s₁.setTop (mkF m 0 #[.val (.int i), .val (.int t)] [])) by
    obtain ⟨oq1_, oq2_, oq3_, oq4_⟩ := hOW
    exact ⟨oq1_, oq2_, castTop (ef_CK m i t) oq3_, oq4_⟩
  have hS' := hS
  obtain ⟨Si_COMPACT_STRINGS, Sv_SIOOBE_FORMATTER, Rv_SIOOBE_FORMATTER, S__assertionsDisabled, S_HI_BYTE_SHIFT, S_LO_BYTE_SHIFT, Pi_COMPACT_STRINGS⟩ := hS'
  refine OW.st (B := s₁.setTop (mkF m 2 #[.val (.int i), .val (.int t)] [(.int t), (.int i)])) (fun _ kk_ => XS.iloadN X0.here hx rfl (hb hby d18_0) rfl (XS.iloadN X0.here hx rfl (hb hby d18_1) rfl kk_)) ?_
  obtain ⟨T9, X9, e9, st9⟩ := getS2 X0 hx hZ hown (host := "") (Or.inl (w_94 hw)) Via.refl e0 (Sv_SIOOBE_FORMATTER.ext O0.2) (g := (mkF m 2 #[.val (.int i), .val (.int t)] [(.int t), (.int i)])) rfl (hb hby d18_2)
  refine OW.st (B := T9.setTop (mkF m 5 #[.val (.int i), .val (.int t)] [v_SIOOBE_FORMATTER, (.int t), (.int i)])) (fun _ kk_ => st9 _ kk_) ?_
  obtain ⟨_, _, ⟨T10, L10, k10, n10⟩, -, X10, ⟨Lc10, hQ10, l10, y10, z10⟩, st10⟩ := Jvm.LawKit.callS X9 hx (y := (⟨"jdk/internal/util/Preconditions", "checkIndex", "(IILjava/util/function/BiFunction;)I"⟩ : MethodName)) hown (mvT hZ (w_96 hw)) (mvT hZ (w_97 hw)) (mvT hZ (w_95 hw)) (mvT hZ (w_98 hw)) (by decide) (backOf (W := 0) (rmPK l Z a0 hw [] i t v_SIOOBE_FORMATTER h0 n0 O0 h1 h2 Rv_SIOOBE_FORMATTER) hZ (w_98 hw) (w_95 hw) (by decide) (by decide)) (g := (mkF m 5 #[.val (.int i), .val (.int t)] [v_SIOOBE_FORMATTER, (.int t), (.int i)])) rfl (by rw [hml]; rfl) (argsL := [(.int i), (.int t), v_SIOOBE_FORMATTER]) (rest := []) (lenOf pd_0 rfl) rfl (by show 2 * 0 + _ ≤ _; exact Nat.le_of_eq rfl) (hb hby d18_5) (fun _ _ => ⟨rfl, e9, (by decide : 0 + 0 ≤ _), (by decide : 0 + 0 ≤ _)⟩)
  dsimp only [Pt.U, Pt.locs, Pt.cells, Pt.slots] at X10 l10 y10 z10 st10 hQ10
  subst l10 y10 z10
  obtain ⟨rfl, Nq10, e10⟩ := hQ10
  have N10 := Fr.app N0 Nq10
  refine OW.st (B := T10.setTop (mkF m 9 #[.val (.int i), .val (.int t)] [])) (fun _ kk_ => st10 _ (XS.pop X10.here hx rfl (hb hby d18_8) rfl rfl kk_)) ?_
  exact OW.retV X10 hx hlk Bd.returns (hb hby d18_9) e10 (by decide) (by decide) ⟨rfl, N10, rfl⟩
theorem ef_S1_0 (m : MethodId) (x0 : Addr) (x1 : Addr) (x2 : Int32) (x3 : Int32) : entryFrame m #[(.ref x0), (.ref x1), (.int x2), (.int x3), .null] 6 = mkF m 0 #[.val (.ref x0), .val (.ref x1), .val (.int x2), .val (.int x3), .val .null, .unset] [] := by first | (simp [entryFrame, mkF, argsToLocals, Value.category]; done) | rfl
def QS1_0 (Z : State) (b : Addr) (ca : Addr) (kc : ClassId) (h0 : Heap) (n0 : Nat) (v : Option Value) (h : Heap) (L : List Loc) : Prop := v = none ∧ Fr n0 L ∧ Keep h0 h [b] ∧ Exa Z h b "java/lang/String" ∧ ∃ (ba : Addr) (kb : ClassId), Fld Z h b "java/lang/String" "coder" "B" (.int (0 : Int32)) ∧ Fld Z h b "java/lang/String" "value" "[B" (.ref ba) ∧ Arv Z h ba kb .byte (0 : Int32) [] (.int (0 : Int32))
set_option maxRecDepth 65536 in
set_option maxHeartbeats 40000000 in
theorem rmS1_0 (l : Launch) (Z : State) (a0 : Array Value) (hw : ∀ d ∈ tables_1, d.before a0 Z = true) (ws : List Jvm.Cond) (b : Addr) (ca : Addr) (kc : ClassId) (h0 : Heap) (n0 : Nat) (O0 : Old Z n0 h0) (E : Exa Z h0 b "java/lang/String") (F1 : Fld Z h0 b "java/lang/String" "value" "[B" .null) (F2 : Fld Z h0 b "java/lang/String" "coder" "B" (.int (0 : Int32))) (g : n0 ≤ b) (V : Arv Z h0 ca kc .char (0 : Int32) [] (.int (0 : Int32))) :
    MetFree l (⟨"java/lang/String", "<init>", "([CIILjava/lang/Void;)V"⟩ : MethodName) (head1 (Jvm.Cond.code (⟨"java/lang/String", "<init>", "([CIILjava/lang/Void;)V"⟩ : MethodName) jdk_42_method_149_code 6 none :: ws) ({ frames := 1, cells := 4, slots := 8, locals := 12 } : Room)) (fun aa_ UU_ => aa_ = #[(.ref b), (.ref ca), (.int (0 : Int32)), (.int (0 : Int32)), .null] ∧ Z.Warmed39 UU_.vm ∧ UU_.heap = h0 ∧ CHv Z consts_1 UU_.vm h0) (fun _ _ _ _ _ => True) (fun _ UU_ oo_ UV_ => ∃ vv_ LL_, oo_ = .returned vv_ ∧ QS1_0 Z b ca kc h0 n0 vv_ UV_.heap LL_ ∧ CHr Z consts_1 UU_.vm UU_.heap UV_.vm UV_.heap ∧ ReturnedEndW UU_ oo_ UV_ LL_ ({ frames := 1, cells := 4, slots := 8, locals := 12 } : Room).cells ({ frames := 1, cells := 4, slots := 8, locals := 12 } : Room).slots) := by
  refine MetFree.of_bodySF (plainFor_of_name pn_0) hisR ?_
  intro p e s m args below meth c s₁ Bd hml0 hP hK
  obtain ⟨rfl, hZ, hh, hCH⟩ := hP
  have hx := Bd.exec
  have hby := Bd.bytes
  have hlk := BodyLoose.notSynchronized Bd
  have hml : c.maxLocals = 6 := hml0
  have hown : s.vm.findClass "java/lang/String" = some m.cls := findClass_of_methodNamed Bd.named
  have hnm := (name_of_methodNamed Bd.named Bd.method).1
  have X0 : Stand p l e ({ frames := 1, cells := 4, slots := 8, locals := 12 } : Room) s m #[(.ref b), (.ref ca), (.int (0 : Int32)), (.int (0 : Int32)), .null] below meth c s₁ [] 0 0 := Stand.of_body Bd
  have e0 : s₁.heap = h0 := by rw [← hh, Bd.state]; rfl
  have N0 := Fr.nil n0
  have hS0 : s.Since s.vm 0 := (State.WarmedH.refl s).since 0
  have hk0 : 0 ≤ h0.size := Nat.zero_le _
  have CR0 : CHr Z consts_1 s.vm h0 s.vm h0 := CHr.refl hCH
  have KC0 : Keep h0 h0 [b] := Keep.refl _ _
  suffices hOW : OWH Z consts_1 h0 p e below s (QS1_0 Z b ca kc h0 n0) 4 8 (s₁.setTop (mkF m 0 #[.val (.ref b), .val (.ref ca), .val (.int (0 : Int32)), .val (.int (0 : Int32)), .val .null, .unset] [])) by
    obtain ⟨oq1_, oq2_, oq3_, oq4_⟩ := hOW
    obtain ⟨oq5_, oq6_, oq7_, oq8_, oq9_, or1_, or2_, or3_⟩ := oq4_
    exact ⟨oq1_, oq2_, castTop (ef_S1_0 m b ca (0 : Int32) (0 : Int32)) oq3_, oq5_, oq6_, oq7_, oq8_, oq9_, or1_, by rw [hh]; exact or2_, or3_⟩
  refine OWH.st (B := s₁.setTop (mkF m 1 #[.val (.ref b), .val (.ref ca), .val (.int (0 : Int32)), .val (.int (0 : Int32)), .val .null, .unset] [(.ref b)])) (fun _ kk_ => XS.aloadN X0.here hx rfl (hb hby d3_0) rfl rfl kk_) ?_
  obtain ⟨T11, X11, e11, st11⟩ := initO X0 hx hZ hown (w_16 hw) (w_17 hw) (w_18 hw) e0 (g := (mkF m 1 #[.val (.ref b), .val (.ref ca), .val (.int (0 : Int32)), .val (.int (0 : Int32)), .val .null, .unset] [(.ref b)])) rfl (by rw [hml]; rfl) rfl (hb hby d3_1) (by decide) (W := 0) (by show 2 * 0 + _ ≤ _; exact Nat.le_of_eq rfl) (by decide)
  refine OWH.st (B := T11.setTop (mkF m 9 #[.val (.ref b), .val (.ref ca), .val (.int (0 : Int32)), .val (.int (0 : Int32)), .val .null, .unset] [(.ref b)])) (fun _ kk_ => st11 _ (XS.iloadN X11.here hx rfl (hb hby d3_4) rfl (XS.ifNo X11.here hx rfl (hb hby d3_5) rfl ((if0 _ _).trans (teq (by decide)).2) (XS.aloadN X11.here hx rfl (hb hby d3_8) rfl rfl kk_)))) ?_
  obtain ⟨a12, T12, h12, k12, lb12, lk12, X12, e12, E12, hS12, hk12, hZ12, hown12, Ea12, Fc12, Fv12, V12, -, -, Cs12, -, hne12, st12⟩ := ldcCH (s := s) (vm0 := s.vm) X11 hx hZ hown (w_104 hw) (own_wS hw) e11 hS0 hk0 (own_EW hw) (List.mem_of_getElem? (i := 1) rfl) CR0.1 (vs := []) (z := (0 : Int32)) ⟨by decide, by decide⟩ (by decide) (by decide) (g := (mkF m 9 #[.val (.ref b), .val (.ref ca), .val (.int (0 : Int32)), .val (.int (0 : Int32)), .val .null, .unset] [(.ref b)])) rfl (hb hby d3_9) (n := 0) (by decide) (by decide) (by decide) (by decide)
  have O12 : Old Z n0 h12 := O0.ext E12
  have CS12 : CHr Z consts_1 s.vm h0 T12.vm h12 := Cs12
  have Sf12_b := CHr.safe CS12 E.lt (own_safeS hZ.alike E F1)
  have CR12 := CHr.trans CR0 CS12
  have KC12 : Keep h0 h12 [b] := KC0.ext E12
  refine OWH.st (B := T12.setTop (mkF m 11 #[.val (.ref b), .val (.ref ca), .val (.int (0 : Int32)), .val (.int (0 : Int32)), .val .null, .unset] [(.ref a12), (.ref b)])) (fun _ kk_ => st12 _ kk_) ?_
  obtain ⟨T13, X13, e13, st13⟩ := getF X12 hx hZ12 hown12 (host := "") (Or.inl (w_33 hw)) Via.refl e12 Fv12 (g := (mkF m 11 #[.val (.ref b), .val (.ref ca), .val (.int (0 : Int32)), .val (.int (0 : Int32)), .val .null, .unset] [(.ref a12), (.ref b)])) rfl rfl (hb hby d3_11)
  refine OWH.st (B := T13.setTop (mkF m 14 #[.val (.ref b), .val (.ref ca), .val (.int (0 : Int32)), .val (.int (0 : Int32)), .val .null, .unset] [(.ref lb12), (.ref b)])) (fun _ kk_ => st13 _ kk_) ?_
  obtain ⟨T14, h14, X14, e14, W14, st14⟩ := putF X13 hx hZ12 hown12 (host := "") (Or.inl (w_33 hw)) Via.refl e13 (F1.ext E12) (E.ext E12) (Or.inr ⟨(w_34 hw), rfl, hnm⟩) (w_6 hw) (ty := (.array .byte)) (by decide) rfl rfl (g := (mkF m 14 #[.val (.ref b), .val (.ref ca), .val (.int (0 : Int32)), .val (.int (0 : Int32)), .val .null, .unset] [(.ref lb12), (.ref b)])) rfl rfl (hb hby d3_14)
  have N14 := Fr.snoc X14 N0 g
  have O14 : Old Z n0 h14 := O12.wr W14 g
  have CS14 : CHr Z consts_1 T12.vm h12 T12.vm h14 := CHr.wr W14 Sf12_b CR12.1
  have Sf14_b := CHr.safe CS14 (E.ext E12).lt Sf12_b
  have CR14 := CHr.trans CR12 CS14
  have KC14 : Keep h0 h14 [b] := KC12.wr W14 (Or.inl (List.mem_of_getElem? (i := 0) rfl))
  have F14 : Fld Z h14 b "java/lang/String" "value" "[B" (.ref lb12) := Fld.same W14 (F1.ext E12)
  refine OWH.st (B := T14.setTop (mkF m 18 #[.val (.ref b), .val (.ref ca), .val (.int (0 : Int32)), .val (.int (0 : Int32)), .val .null, .unset] [(.ref b)])) (fun _ kk_ => st14 _ (XS.aloadN X14.here hx rfl (hb hby d3_17) rfl rfl kk_)) ?_
  obtain ⟨a15, T15, h15, k15, lb15, lk15, X15, e15, E15, hS15, hk15, hZ15, hown15, Ea15, Fc15, Fv15, V15, -, -, Cs15, -, hne15, st15⟩ := ldcCH (s := s) (vm0 := T12.vm) X14 hx hZ12 hown12 (w_104 hw) (own_wS hw) e14 hS12 (Nat.le_trans hk12 (Keep.of_wr W14).1) (own_EW hw) (List.mem_of_getElem? (i := 1) rfl) CR14.1 (vs := []) (z := (0 : Int32)) ⟨by decide, by decide⟩ (by decide) (by decide) (g := (mkF m 18 #[.val (.ref b), .val (.ref ca), .val (.int (0 : Int32)), .val (.int (0 : Int32)), .val .null, .unset] [(.ref b)])) rfl (hb hby d3_18) (n := 0) (by decide) (by decide) (by decide) (by decide)
  have O15 : Old Z n0 h15 := O14.ext E15
  have CS15 : CHr Z consts_1 T12.vm h14 T15.vm h15 := Cs15
  have Sf15_b := CHr.safe CS15 ((E.ext E12).wr W14).lt Sf14_b
  have CR15 := CHr.trans CR14 CS15
  have KC15 : Keep h0 h15 [b] := KC14.ext E15
  refine OWH.st (B := T15.setTop (mkF m 20 #[.val (.ref b), .val (.ref ca), .val (.int (0 : Int32)), .val (.int (0 : Int32)), .val .null, .unset] [(.ref a15), (.ref b)])) (fun _ kk_ => st15 _ kk_) ?_
  obtain ⟨T16, X16, e16, st16⟩ := getF X15 hx hZ15 hown15 (host := "") (Or.inl (w_31 hw)) Via.refl e15 Fc15 (g := (mkF m 20 #[.val (.ref b), .val (.ref ca), .val (.int (0 : Int32)), .val (.int (0 : Int32)), .val .null, .unset] [(.ref a15), (.ref b)])) rfl rfl (hb hby d3_20)
  refine OWH.st (B := T16.setTop (mkF m 23 #[.val (.ref b), .val (.ref ca), .val (.int (0 : Int32)), .val (.int (0 : Int32)), .val .null, .unset] [(.int (0 : Int32)), (.ref b)])) (fun _ kk_ => st16 _ kk_) ?_
  obtain ⟨T17, h17, X17, e17, W17, st17⟩ := putFN X16 hx hZ15 hown15 (w_31 hw) Via.refl e16 (((F2.ext E12).other W14 (Or.inr (slot_ne (Or.inr (w_32 hw)) (Or.inr (w_34 hw)) (by decide) (t := .byte) (t' := (.array .byte)) (by decide) (by decide)))).ext E15) (((E.ext E12).wr W14).ext E15) (Or.inr ⟨(w_32 hw), rfl, hnm⟩) (w_6 hw) (ty := .byte) (v' := (.int (0 : Int32))) (by decide) rfl rfl (g := (mkF m 23 #[.val (.ref b), .val (.ref ca), .val (.int (0 : Int32)), .val (.int (0 : Int32)), .val .null, .unset] [(.int (0 : Int32)), (.ref b)])) rfl rfl (hb hby d3_23)
  have N17 := Fr.snoc X17 N14 g
  have O17 : Old Z n0 h17 := O15.wr W17 g
  have CS17 : CHr Z consts_1 T15.vm h15 T15.vm h17 := CHr.wr W17 Sf15_b CR15.1
  have Sf17_b := CHr.safe CS17 (((E.ext E12).wr W14).ext E15).lt Sf15_b
  have CR17 := CHr.trans CR15 CS17
  have KC17 : Keep h0 h17 [b] := KC15.wr W17 (Or.inl (List.mem_of_getElem? (i := 0) rfl))
  have F17 : Fld Z h17 b "java/lang/String" "coder" "B" (.int (0 : Int32)) := Fld.same W17 (((F2.ext E12).other W14 (Or.inr (slot_ne (Or.inr (w_32 hw)) (Or.inr (w_34 hw)) (by decide) (t := .byte) (t' := (.array .byte)) (by decide) (by decide)))).ext E15)
  refine OWH.st (B := T17.setTop (mkF m 26 #[.val (.ref b), .val (.ref ca), .val (.int (0 : Int32)), .val (.int (0 : Int32)), .val .null, .unset] [])) (fun _ kk_ => st17 _ kk_) ?_
  exact OWH.retV X17 (s := s) (vm0 := T15.vm) hS15 (Nat.le_trans hk15 (Keep.of_wr W17).1) hx hlk CR17 hZ15 (own_EW hw) Bd.returns (hb hby d3_26) e17 (by decide) (by decide) ⟨rfl, N17, KC17, ((((E.ext E12).wr W14).ext E15).wr W17), lb12, lk12, F17, ((F14.ext E15).other W17 (Or.inr (slot_ne (Or.inr (w_34 hw)) (Or.inr (w_32 hw)) (by decide) (t := (.array .byte)) (t' := .byte) (by decide) (by decide)))), (((V12.other W14 (Ne.symm (Exa.neArv (E.ext E12) V12 (w_6 hw)))).ext E15).other W17 (Ne.symm (Exa.neArv (E.ext E12) V12 (w_6 hw))))⟩
theorem ef_S0_0 (m : MethodId) (x0 : Addr) (x1 : Addr) : entryFrame m #[(.ref x0), (.ref x1)] 2 = mkF m 0 #[.val (.ref x0), .val (.ref x1)] [] := by first | (simp [entryFrame, mkF, argsToLocals, Value.category]; done) | rfl
def QS0_0 (Z : State) (b : Addr) (ca : Addr) (kc : ClassId) (h0 : Heap) (n0 : Nat) (v : Option Value) (h : Heap) (L : List Loc) : Prop := v = none ∧ Fr n0 L ∧ Keep h0 h [b] ∧ Exa Z h b "java/lang/String" ∧ ∃ (ba : Addr) (kb : ClassId), Fld Z h b "java/lang/String" "coder" "B" (.int (0 : Int32)) ∧ Fld Z h b "java/lang/String" "value" "[B" (.ref ba) ∧ Arv Z h ba kb .byte (0 : Int32) [] (.int (0 : Int32))
set_option maxRecDepth 65536 in
set_option maxHeartbeats 40000000 in
theorem rmS0_0 (l : Launch) (Z : State) (a0 : Array Value) (hw : ∀ d ∈ tables_1, d.before a0 Z = true) (ws : List Jvm.Cond) (b : Addr) (ca : Addr) (kc : ClassId) (h0 : Heap) (n0 : Nat) (O0 : Old Z n0 h0) (E : Exa Z h0 b "java/lang/String") (F1 : Fld Z h0 b "java/lang/String" "value" "[B" .null) (F2 : Fld Z h0 b "java/lang/String" "coder" "B" (.int (0 : Int32))) (g : n0 ≤ b) (V : Arv Z h0 ca kc .char (0 : Int32) [] (.int (0 : Int32))) :
    MetFree l (⟨"java/lang/String", "<init>", "([C)V"⟩ : MethodName) (head1 (Jvm.Cond.code (⟨"java/lang/String", "<init>", "([C)V"⟩ : MethodName) jdk_42_method_3_code 2 none :: ws) ({ frames := 2, cells := 4, slots := 8, locals := 29 } : Room)) (fun aa_ UU_ => aa_ = #[(.ref b), (.ref ca)] ∧ Z.Warmed39 UU_.vm ∧ UU_.heap = h0 ∧ CHv Z consts_1 UU_.vm h0) (fun _ _ _ _ _ => True) (fun _ UU_ oo_ UV_ => ∃ vv_ LL_, oo_ = .returned vv_ ∧ QS0_0 Z b ca kc h0 n0 vv_ UV_.heap LL_ ∧ CHr Z consts_1 UU_.vm UU_.heap UV_.vm UV_.heap ∧ ReturnedEndW UU_ oo_ UV_ LL_ ({ frames := 2, cells := 4, slots := 8, locals := 29 } : Room).cells ({ frames := 2, cells := 4, slots := 8, locals := 29 } : Room).slots) := by
  refine MetFree.of_bodySF (plainFor_of_name pn_0) hisR ?_
  intro p e s m args below meth c s₁ Bd hml0 hP hK
  obtain ⟨rfl, hZ, hh, hCH⟩ := hP
  have hx := Bd.exec
  have hby := Bd.bytes
  have hlk := BodyLoose.notSynchronized Bd
  have hml : c.maxLocals = 2 := hml0
  have hown : s.vm.findClass "java/lang/String" = some m.cls := findClass_of_methodNamed Bd.named
  have hnm := (name_of_methodNamed Bd.named Bd.method).1
  have X0 : Stand p l e ({ frames := 2, cells := 4, slots := 8, locals := 29 } : Room) s m #[(.ref b), (.ref ca)] below meth c s₁ [] 0 0 := Stand.of_body Bd
  have e0 : s₁.heap = h0 := by rw [← hh, Bd.state]; rfl
  have N0 := Fr.nil n0
  have hS0 : s.Since s.vm 0 := (State.WarmedH.refl s).since 0
  have hk0 : 0 ≤ h0.size := Nat.zero_le _
  have CR0 : CHr Z consts_1 s.vm h0 s.vm h0 := CHr.refl hCH
  have KC0 : Keep h0 h0 [b] := Keep.refl _ _
  suffices hOW : OWH Z consts_1 h0 p e below s (QS0_0 Z b ca kc h0 n0) 4 8 (s₁.setTop (mkF m 0 #[.val (.ref b), .val (.ref ca)] [])) by
    obtain ⟨oq1_, oq2_, oq3_, oq4_⟩ := hOW
    obtain ⟨oq5_, oq6_, oq7_, oq8_, oq9_, or1_, or2_, or3_⟩ := oq4_
    exact ⟨oq1_, oq2_, castTop (ef_S0_0 m b ca) oq3_, oq5_, oq6_, oq7_, oq8_, oq9_, or1_, by rw [hh]; exact or2_, or3_⟩
  refine OWH.st (B := s₁.setTop (mkF m 4 #[.val (.ref b), .val (.ref ca)] [(.ref ca), (.int (0 : Int32)), (.ref ca), (.ref b)])) (fun _ kk_ => XS.aloadN X0.here hx rfl (hb hby d2_0) rfl rfl (XS.aloadN X0.here hx rfl (hb hby d2_1) rfl rfl (XS.iconst X0.here hx rfl (hb hby d2_2) (XS.aloadN X0.here hx rfl (hb hby d2_3) rfl rfl kk_)))) ?_
  obtain ⟨cl18, Ar18, q18, S18, Ng18, Hs18, G18⟩ := id V
  refine OWH.st (X0.arraylength hx (by rw [e0]; exact Ar18.1) (State.isArrayOf_alike hZ.alike Ar18.2.1) (g := (mkF m 4 #[.val (.ref b), .val (.ref ca)] [(.ref ca), (.int (0 : Int32)), (.ref ca), (.ref b)])) rfl rfl (hb hby d2_4)) ?_
  rw [len_of S18 Ng18]
  show OWH Z consts_1 h0 p e below s (QS0_0 Z b ca kc h0 n0) 4 8 (s₁.setTop (mkF m 5 #[.val (.ref b), .val (.ref ca)] [(.int (0 : Int32)), (.int (0 : Int32)), (.ref ca), (.ref b)]))
  refine OWH.st (B := s₁.setTop (mkF m 6 #[.val (.ref b), .val (.ref ca)] [.null, (.int (0 : Int32)), (.int (0 : Int32)), (.ref ca), (.ref b)])) (fun _ kk_ => XS.aconstNull X0.here hx rfl (hb hby d2_5) kk_) ?_
  obtain ⟨_, _, ⟨T19, L19, k19, n19⟩, -, X19, hs19, hsz19, ⟨Lc19, hQ19, l19, y19, z19, CQ19⟩, st19⟩ := X0.specialBackS hx (y := (⟨"java/lang/String", "<init>", "([CIILjava/lang/Void;)V"⟩ : MethodName)) rfl hown (mvT hZ (w_12 hw)) (mvT hZ (w_13 hw)) (mvT hZ (w_15 hw)) (by decide) (backOfSH (W := 0) (rmS1_0 l Z a0 hw [] b ca kc h0 n0 O0 E F1 F2 g V) hZ (w_15 hw) (w_7 hw) (by decide) (by decide) (own_EW hw) CR0.1) (g := (mkF m 6 #[.val (.ref b), .val (.ref ca)] [.null, (.int (0 : Int32)), (.int (0 : Int32)), (.ref ca), (.ref b)])) rfl (by rw [hml]; rfl) (Steps.refl _) (a := b) (argsL := [(.ref ca), (.int (0 : Int32)), (.int (0 : Int32)), .null]) (rest := []) (lenOf pd_1 rfl) rfl (by show 2 * 0 + _ ≤ _; exact Nat.le_of_eq rfl) (hb hby d2_6) (fun _ _ => ⟨rfl, e0, (by decide : 0 + 4 ≤ _), (by decide : 0 + 8 ≤ _)⟩)
  dsimp only [Pt.U, Pt.locs, Pt.cells, Pt.slots] at hs19 hsz19
  have hS19 := foldS hS0 (show _ ≤ s₁.heap.size by rw [e0]; exact hk0) hs19 hsz19
  have hZ19 : Z.Warmed39 (s.setVm T19.vm).vm := State.Warmed39.trans (t := s) hZ hs19.1
  have hown19 : (s.setVm T19.vm).vm.findClass "java/lang/String" = some m.cls := by rw [show (s.setVm T19.vm).vm = T19.vm from rfl, hs19.1.alike.findClass]; exact hown
  dsimp only [Pt.U, Pt.locs, Pt.cells, Pt.slots] at X19 l19 y19 z19 st19 hQ19 CQ19
  subst l19 y19 z19
  obtain ⟨rfl, Nq19, K19, Es19, ba19, kb19, Fc19, Fv19, Vs19⟩ := hQ19
  have N19 := Fr.app N0 Nq19
  have O19 : Old Z n0 T19.heap := O0.keep K19 (allS g all0)
  have CS19 : CHr Z consts_1 s.vm h0 T19.vm T19.heap := CQ19
  have Sf19_b := CHr.safe CS19 E.lt (own_safeS hZ.alike E F1)
  have CR19 := CHr.trans CR0 CS19
  have KC19 : Keep h0 T19.heap [b] := KC0.trans K19 (allS (Or.inl (List.mem_of_getElem? (i := 0) rfl)) all0)
  have hk19 : T19.heap.size ≤ T19.heap.size := Nat.le_of_eq (by rfl)
  refine OWH.tr (B := T19.setTop (mkF m 9 #[.val (.ref b), .val (.ref ca)] [])) (st19) ?_
  exact OWH.retV X19 (s := s) (vm0 := T19.vm) hS19 hk19 hx hlk CR19 hZ19 (own_EW hw) Bd.returns (hb hby d2_9) rfl (by decide) (by decide) ⟨rfl, N19, KC19, (E.keep K19), ba19, kb19, Fc19, Fv19, Vs19⟩
theorem ef_C50 (m : MethodId) (x0 : Addr) (x1 : Int32) (x2 : Addr) (x3 : Int32) (x4 : Int32) : entryFrame m #[(.ref x0), (.int x1), (.ref x2), (.int x3), (.int x4)] 7 = mkF m 0 #[.val (.ref x0), .val (.int x1), .val (.ref x2), .val (.int x3), .val (.int x4), .unset, .unset] [] := by first | (simp [entryFrame, mkF, argsToLocals, Value.category]; done) | rfl
def QC50 (Z : State) (ca : Addr) (kc : ClassId) (ba : Addr) (kb : ClassId) (z : Int32) (cs : List Int32) (h0 : Heap) (n0 : Nat) (v : Option Value) (h : Heap) (L : List Loc) : Prop := v = some (.int z) ∧ Fr n0 L ∧ Keep h0 h [ba] ∧ Arv Z h ba kb .byte z (OwnL cs) (.int (0 : Int32))
set_option maxRecDepth 65536 in
set_option maxHeartbeats 40000000 in
theorem rmC50 (l : Launch) (Z : State) (a0 : Array Value) (hw : ∀ d ∈ tables_1, d.before a0 Z = true) (ws : List Jvm.Cond) (ca : Addr) (kc : ClassId) (ba : Addr) (kb : ClassId) (z : Int32) (cs : List Int32) (h0 : Heap) (n0 : Nat) (O0 : Old Z n0 h0) (V : Arv Z h0 ca kc .char z (cs.map Value.int) (.int (0 : Int32))) (hz : z.toInt = (cs.length : Int)) (hmax : cs.length ≤ 10) (B : Arv Z h0 ba kb .byte z (List.replicate cs.length (.int (0 : Int32))) (.int (0 : Int32))) (gb : n0 ≤ ba) (hne : ca ≠ ba) (hlat : OwnLat cs) :
    MetFree l (⟨"java/lang/StringUTF16", "compress", "([CI[BII)I"⟩ : MethodName) (head1 (Jvm.Cond.code (⟨"java/lang/StringUTF16", "compress", "([CI[BII)I"⟩ : MethodName) jdk_52_method_21_code 7 (some .int) :: ws) ({ frames := 0, cells := 0, slots := 0, locals := 0 } : Room)) (fun aa_ UU_ => aa_ = #[(.ref ca), (.int (0 : Int32)), (.ref ba), (.int (0 : Int32)), (.int z)] ∧ Z.Warmed39 UU_.vm ∧ UU_.heap = h0) (fun _ _ _ _ _ => True) (fun _ UU_ oo_ UV_ => ∃ vv_ LL_, oo_ = .returned vv_ ∧ QC50 Z ca kc ba kb z cs h0 n0 vv_ UV_.heap LL_ ∧ FrameEnd UU_ oo_ UV_ LL_ ({ frames := 0, cells := 0, slots := 0, locals := 0 } : Room).cells ({ frames := 0, cells := 0, slots := 0, locals := 0 } : Room).slots) := by
  refine MetFree.of_bodySF (plainFor_of_name pn_2) hisR ?_
  intro p e s m args below meth c s₁ Bd hml0 hP hK
  obtain ⟨rfl, hZ, hh⟩ := hP
  have hx := Bd.exec
  have hby := Bd.bytes
  have hlk := BodyLoose.notSynchronized Bd
  have hml : c.maxLocals = 7 := hml0
  have hown : s.vm.findClass "java/lang/StringUTF16" = some m.cls := findClass_of_methodNamed Bd.named
  have hnm := (name_of_methodNamed Bd.named Bd.method).1
  have X0 : Stand p l e ({ frames := 0, cells := 0, slots := 0, locals := 0 } : Room) s m #[(.ref ca), (.int (0 : Int32)), (.ref ba), (.int (0 : Int32)), (.int z)] below meth c s₁ [] 0 0 := Stand.of_body Bd
  have e0 : s₁.heap = h0 := by rw [← hh, Bd.state]; rfl
  have N0 := Fr.nil n0
  have KC0 : Keep h0 h0 [ba] := Keep.refl _ _
  suffices hOW : OW p e below s (QC50 Z ca kc ba kb z cs h0 n0) 0 0 (s₁.setTop (mkF m 0 #[.val (.ref ca), .val (.int (0 : Int32)), .val (.ref ba), .val (.int (0 : Int32)), .val (.int z), .unset, .unset] [])) by
    obtain ⟨oq1_, oq2_, oq3_, oq4_⟩ := hOW
    exact ⟨oq1_, oq2_, castTop (ef_C50 m ca (0 : Int32) ba (0 : Int32) z) oq3_, oq4_⟩
  refine OW.st (B := s₁.setTop (mkF m 3 #[.val (.ref ca), .val (.int (0 : Int32)), .val (.ref ba), .val (.int (0 : Int32)), .val (.int z), .val (.int (0 : Int32)), .unset] [])) (fun _ kk_ => XS.iconst X0.here hx rfl (hb hby d6_0) (XS.istore X0.here hx rfl (hb hby d6_1) rfl (l' := #[.val (.ref ca), .val (.int (0 : Int32)), .val (.ref ba), .val (.int (0 : Int32)), .val (.int z), .val (.int (0 : Int32)), .unset]) rfl kk_)) ?_
  have J20 : ∀ (f : Nat) (T20 : State) (L20 : List Loc) (h20 : Heap) (X20 : Stand p l e ({ frames := 0, cells := 0, slots := 0, locals := 0 } : Room) s m #[(.ref ca), (.int (0 : Int32)), (.ref ba), (.int (0 : Int32)), (.int z)] below meth c T20 L20 0 0) (N20 : Fr n0 L20) (e20 : T20.heap = h20) (O20 : Old Z n0 h20) (KC20 : Keep h0 h20 [ba]) (i : Int32) (sl : Slot) (bs : List Value) (mm : Nat), (sl = .unset ∨ ∃ q : Int32, sl = .val (.int q)) → (Arv Z h20 ca kc .char z (cs.map Value.int) (.int (0 : Int32))) → (Arv Z h20 ba kb .byte z bs (.int (0 : Int32))) → (i.toInt = (mm : Int)) → (mm + f = cs.length) → (OwnPL cs mm bs) → (∀ j : Nat, j < mm → ∀ c : Int32, cs[j]? = some c → ¬ ((255 : Int32) < c)) → OW p e below s (QC50 Z ca kc ba kb z cs h0 n0) 0 0 (T20.setTop (mkF m 3 #[.val (.ref ca), .val (.int i), .val (.ref ba), .val (.int i), .val (.int z), .val (.int i), sl] [])) := by
    intro f
    induction f with
    | zero =>
      intro T20 L20 h20 X20 N20 e20 O20 KC20 i sl bs mm hsl Vc Vb hi hm hp hl
      have hmm : mm = cs.length := by omega
      subst hmm
      refine OW.st (B := T20.setTop (mkF m 46 #[.val (.ref ca), .val (.int i), .val (.ref ba), .val (.int i), .val (.int z), .val (.int i), sl] [(.int z)])) (fun _ kk_ => XS.iload X20.here hx rfl (hb hby d6_3) rfl (XS.iload X20.here hx rfl (hb hby d6_5) rfl (XS.icmpYes X20.here hx rfl (pc0 := 7) (pc' := 44) rfl (hb hby d6_7) rfl (flt (own_nltI hi hz (by omega))).2.1 (by decide) (by decide) (XS.iload X20.here hx rfl (hb hby d6_44) rfl kk_)))) ?_
      exact OW.ret X20 hx hlk (i := .ireturn) Bd.returns rfl (Or.inl ⟨rfl, Or.inl rfl, _, rfl⟩) (hb hby d6_46) e20 (by decide) (by decide) ⟨rfl, N20, KC20, hp.end ▸ Vb⟩
    | succ f ih =>
      intro T20 L20 h20 X20 N20 e20 O20 KC20 i sl bs mm hsl Vc Vb hi hm hp hl
      obtain ⟨cc, hcc⟩ : ∃ cc, cs[mm]? = some cc := ⟨_, List.getElem?_eq_getElem (by omega)⟩
      have hcl := hlat cc (List.mem_of_getElem? hcc)
      refine OW.st (B := T20.setTop (mkF m 12 #[.val (.ref ca), .val (.int i), .val (.ref ba), .val (.int i), .val (.int z), .val (.int i), sl] [(.int i), (.ref ca)])) (fun _ kk_ => XS.iload X20.here hx rfl (hb hby d6_3) rfl (XS.iload X20.here hx rfl (hb hby d6_5) rfl (XS.icmpNo X20.here hx rfl (hb hby d6_7) rfl (tlt (own_ltI hi hz (by omega))).2.1 (XS.aloadN X20.here hx rfl (hb hby d6_10) rfl rfl (XS.iloadN X20.here hx rfl (hb hby d6_11) rfl kk_))))) ?_
      obtain ⟨cl21, Ar21, q21, S21, Ng21, Hs21, G21⟩ := id Vc
      have hin21 : ¬ (i < 0 ∨ cl21.slots.size ≤ (i).toNatClampNeg) := inb_of S21 ⟨own_nneg hi, own_ltI hi hz (by omega)⟩
      refine OW.st (B := T20.setTop (mkF m 31 #[.val (.ref ca), .val (.int i), .val (.ref ba), .val (.int i), .val (.int z), .val (.int i), .val (.int cc)] [(.int (cc.toInt8.toInt32)), (.int i), (.ref ba)])) (fun _ kk_ => (X20.caload hx (j := i) (v := (.int cc)) (by rw [e20]; exact Ar21.1) (State.isArrayOf_alike hZ.alike Ar21.2.1) Ar21.2.2 hin21 (Has.at Hs21 hin21 ((congrArg (fun q => (cs.map Value.int).getD q _) (own_tn hi)).trans (own_getC hcc))) (g := (mkF m 12 #[.val (.ref ca), .val (.int i), .val (.ref ba), .val (.int i), .val (.int z), .val (.int i), sl] [(.int i), (.ref ca)])) rfl rfl (hb hby d6_12)) _ (XS.istore X20.here hx rfl (hb hby d6_13) rfl (l' := #[.val (.ref ca), .val (.int i), .val (.ref ba), .val (.int i), .val (.int z), .val (.int i), .val (.int cc)]) (by rcases hsl with rfl | ⟨_, rfl⟩ <;> rfl) (XS.iload X20.here hx rfl (hb hby d6_15) rfl (XS.sipush X20.here hx rfl (hb hby d6_17) (XS.icmpYes X20.here hx rfl (pc0 := 20) (pc' := 26) rfl (hb hby d6_20) rfl (flt hcl).2.2.2 (by decide) (by decide) (XS.aloadN X20.here hx rfl (hb hby d6_26) rfl rfl (XS.iloadN X20.here hx rfl (hb hby d6_27) rfl (XS.iload X20.here hx rfl (hb hby d6_28) rfl (XS.i2b X20.here hx rfl (hb hby d6_30) rfl kk_))))))))) ?_
      obtain ⟨cl22, Ar22, q22, S22, Ng22, Hs22, G22⟩ := id Vb
      have hin22 : ¬ (i < 0 ∨ cl22.slots.size ≤ (i).toNatClampNeg) := inb_of S22 ⟨own_nneg hi, own_ltI hi hz (by omega)⟩
      obtain ⟨T23, h23, X23, e23, W23, st23⟩ := stB X20 hx hZ e20 Ar22 (j := i) hin22 (g := (mkF m 31 #[.val (.ref ca), .val (.int i), .val (.ref ba), .val (.int i), .val (.int z), .val (.int i), .val (.int cc)] [(.int (cc.toInt8.toInt32)), (.int i), (.ref ba)])) rfl rfl (hb hby d6_31)
      have N23 := Fr.snoc X23 N20 gb
      have O23 : Old Z n0 h23 := O20.wr W23 gb
      have KC23 : Keep h0 h23 [ba] := KC20.wr W23 (Or.inl (List.mem_of_getElem? (i := 0) rfl))
      have V23 : Arv Z h23 ba kb .byte z (bs.set mm (.int (nar .byte (cc.toInt8.toInt32)))) (.int (0 : Int32)) := Arv.set Ar22 q22 S22 Ng22 Hs22 G22 (fits_nar_byte _) W23 mm (own_tn hi) (by rw [hp.1]; omega)
      refine OW.st (B := T23.setTop (mkF m 3 #[.val (.ref ca), .val (.int (i + (1 : Int32))), .val (.ref ba), .val (.int (i + (1 : Int32))), .val (.int z), .val (.int (i + (1 : Int32))), .val (.int cc)] [])) (fun _ kk_ => st23 _ (XS.iinc X23.here hx rfl (hb hby d6_32) rfl (l' := #[.val (.ref ca), .val (.int (i + (1 : Int32))), .val (.ref ba), .val (.int i), .val (.int z), .val (.int i), .val (.int cc)]) rfl (XS.iinc X23.here hx rfl (hb hby d6_35) rfl (l' := #[.val (.ref ca), .val (.int (i + (1 : Int32))), .val (.ref ba), .val (.int (i + (1 : Int32))), .val (.int z), .val (.int i), .val (.int cc)]) rfl (XS.iinc X23.here hx rfl (hb hby d6_38) rfl (l' := #[.val (.ref ca), .val (.int (i + (1 : Int32))), .val (.ref ba), .val (.int (i + (1 : Int32))), .val (.int z), .val (.int (i + (1 : Int32))), .val (.int cc)]) rfl (XS.goto X23.here hx rfl (pc0 := 41) (pc' := 3) rfl (hb hby d6_41) (by decide) (by decide) kk_))))) ?_
      exact ih _ _ _ X23 N23 e23 O23 KC23 _ _ _ (mm + 1) (Or.inr ⟨_, rfl⟩) (Vc.other W23 hne) V23 (own_suc hi (by omega)) (by omega) (hp.step hcc) (fun j hj c hc => by rcases Nat.lt_succ_iff_lt_or_eq.mp hj with q | rfl; exact hl j q c hc; rw [hcc] at hc; cases hc; exact hcl)
  exact J20 cs.length _ _ _ X0 N0 e0 O0 KC0 _ _ _ 0 (Or.inl rfl) V B rfl (Nat.zero_add _) (OwnPL.start cs _) (fun j hj => absurd hj (Nat.not_lt_zero _))
theorem ef_C51 (m : MethodId) (x0 : Addr) (x1 : Int32) (x2 : Addr) (x3 : Int32) (x4 : Int32) : entryFrame m #[(.ref x0), (.int x1), (.ref x2), (.int x3), (.int x4)] 7 = mkF m 0 #[.val (.ref x0), .val (.int x1), .val (.ref x2), .val (.int x3), .val (.int x4), .unset, .unset] [] := by first | (simp [entryFrame, mkF, argsToLocals, Value.category]; done) | rfl
def QC51 (Z : State) (ca : Addr) (kc : ClassId) (ba : Addr) (kb : ClassId) (z : Int32) (cs : List Int32) (h0 : Heap) (n0 : Nat) (v : Option Value) (h : Heap) (L : List Loc) : Prop := ∃ (i : Int32) (mm : Nat) (c : Int32), v = some (.int i) ∧ Fr n0 L ∧ Keep h0 h [ba] ∧ i.toInt = (mm : Int) ∧ cs[mm]? = some c ∧ (255 : Int32) < c
set_option maxRecDepth 65536 in
set_option maxHeartbeats 40000000 in
theorem rmC51 (l : Launch) (Z : State) (a0 : Array Value) (hw : ∀ d ∈ tables_1, d.before a0 Z = true) (ws : List Jvm.Cond) (ca : Addr) (kc : ClassId) (ba : Addr) (kb : ClassId) (z : Int32) (cs : List Int32) (h0 : Heap) (n0 : Nat) (O0 : Old Z n0 h0) (V : Arv Z h0 ca kc .char z (cs.map Value.int) (.int (0 : Int32))) (hz : z.toInt = (cs.length : Int)) (hmax : cs.length ≤ 10) (B : Arv Z h0 ba kb .byte z (List.replicate cs.length (.int (0 : Int32))) (.int (0 : Int32))) (gb : n0 ≤ ba) (hne : ca ≠ ba) (hhi : OwnHi cs) :
    MetFree l (⟨"java/lang/StringUTF16", "compress", "([CI[BII)I"⟩ : MethodName) (head1 (Jvm.Cond.code (⟨"java/lang/StringUTF16", "compress", "([CI[BII)I"⟩ : MethodName) jdk_52_method_21_code 7 (some .int) :: ws) ({ frames := 0, cells := 0, slots := 0, locals := 0 } : Room)) (fun aa_ UU_ => aa_ = #[(.ref ca), (.int (0 : Int32)), (.ref ba), (.int (0 : Int32)), (.int z)] ∧ Z.Warmed39 UU_.vm ∧ UU_.heap = h0) (fun _ _ _ _ _ => True) (fun _ UU_ oo_ UV_ => ∃ vv_ LL_, oo_ = .returned vv_ ∧ QC51 Z ca kc ba kb z cs h0 n0 vv_ UV_.heap LL_ ∧ FrameEnd UU_ oo_ UV_ LL_ ({ frames := 0, cells := 0, slots := 0, locals := 0 } : Room).cells ({ frames := 0, cells := 0, slots := 0, locals := 0 } : Room).slots) := by
  refine MetFree.of_bodySF (plainFor_of_name pn_2) hisR ?_
  intro p e s m args below meth c s₁ Bd hml0 hP hK
  obtain ⟨rfl, hZ, hh⟩ := hP
  have hx := Bd.exec
  have hby := Bd.bytes
  have hlk := BodyLoose.notSynchronized Bd
  have hml : c.maxLocals = 7 := hml0
  have hown : s.vm.findClass "java/lang/StringUTF16" = some m.cls := findClass_of_methodNamed Bd.named
  have hnm := (name_of_methodNamed Bd.named Bd.method).1
  have X0 : Stand p l e ({ frames := 0, cells := 0, slots := 0, locals := 0 } : Room) s m #[(.ref ca), (.int (0 : Int32)), (.ref ba), (.int (0 : Int32)), (.int z)] below meth c s₁ [] 0 0 := Stand.of_body Bd
  have e0 : s₁.heap = h0 := by rw [← hh, Bd.state]; rfl
  have N0 := Fr.nil n0
  have KC0 : Keep h0 h0 [ba] := Keep.refl _ _
  suffices hOW : OW p e below s (QC51 Z ca kc ba kb z cs h0 n0) 0 0 (s₁.setTop (mkF m 0 #[.val (.ref ca), .val (.int (0 : Int32)), .val (.ref ba), .val (.int (0 : Int32)), .val (.int z), .unset, .unset] [])) by
    obtain ⟨oq1_, oq2_, oq3_, oq4_⟩ := hOW
    exact ⟨oq1_, oq2_, castTop (ef_C51 m ca (0 : Int32) ba (0 : Int32) z) oq3_, oq4_⟩
  refine OW.st (B := s₁.setTop (mkF m 3 #[.val (.ref ca), .val (.int (0 : Int32)), .val (.ref ba), .val (.int (0 : Int32)), .val (.int z), .val (.int (0 : Int32)), .unset] [])) (fun _ kk_ => XS.iconst X0.here hx rfl (hb hby d6_0) (XS.istore X0.here hx rfl (hb hby d6_1) rfl (l' := #[.val (.ref ca), .val (.int (0 : Int32)), .val (.ref ba), .val (.int (0 : Int32)), .val (.int z), .val (.int (0 : Int32)), .unset]) rfl kk_)) ?_
  have J24 : ∀ (f : Nat) (T24 : State) (L24 : List Loc) (h24 : Heap) (X24 : Stand p l e ({ frames := 0, cells := 0, slots := 0, locals := 0 } : Room) s m #[(.ref ca), (.int (0 : Int32)), (.ref ba), (.int (0 : Int32)), (.int z)] below meth c T24 L24 0 0) (N24 : Fr n0 L24) (e24 : T24.heap = h24) (O24 : Old Z n0 h24) (KC24 : Keep h0 h24 [ba]) (i : Int32) (sl : Slot) (bs : List Value) (mm : Nat), (sl = .unset ∨ ∃ q : Int32, sl = .val (.int q)) → (Arv Z h24 ca kc .char z (cs.map Value.int) (.int (0 : Int32))) → (Arv Z h24 ba kb .byte z bs (.int (0 : Int32))) → (i.toInt = (mm : Int)) → (mm + f = cs.length) → (OwnPL cs mm bs) → (∀ j : Nat, j < mm → ∀ c : Int32, cs[j]? = some c → ¬ ((255 : Int32) < c)) → OW p e below s (QC51 Z ca kc ba kb z cs h0 n0) 0 0 (T24.setTop (mkF m 3 #[.val (.ref ca), .val (.int i), .val (.ref ba), .val (.int i), .val (.int z), .val (.int i), sl] [])) := by
    intro f
    induction f with
    | zero =>
      intro T24 L24 h24 X24 N24 e24 O24 KC24 i sl bs mm hsl Vc Vb hi hm hp hl
      have hmm : mm = cs.length := by omega
      subst hmm
      exact (hhi.not fun j c hc => hl j (List.getElem?_eq_some_iff.mp hc).1 c hc).elim
    | succ f ih =>
      intro T24 L24 h24 X24 N24 e24 O24 KC24 i sl bs mm hsl Vc Vb hi hm hp hl
      obtain ⟨cc, hcc⟩ : ∃ cc, cs[mm]? = some cc := ⟨_, List.getElem?_eq_getElem (by omega)⟩
      refine OW.st (B := T24.setTop (mkF m 12 #[.val (.ref ca), .val (.int i), .val (.ref ba), .val (.int i), .val (.int z), .val (.int i), sl] [(.int i), (.ref ca)])) (fun _ kk_ => XS.iload X24.here hx rfl (hb hby d6_3) rfl (XS.iload X24.here hx rfl (hb hby d6_5) rfl (XS.icmpNo X24.here hx rfl (hb hby d6_7) rfl (tlt (own_ltI hi hz (by omega))).2.1 (XS.aloadN X24.here hx rfl (hb hby d6_10) rfl rfl (XS.iloadN X24.here hx rfl (hb hby d6_11) rfl kk_))))) ?_
      obtain ⟨cl25, Ar25, q25, S25, Ng25, Hs25, G25⟩ := id Vc
      have hin25 : ¬ (i < 0 ∨ cl25.slots.size ≤ (i).toNatClampNeg) := inb_of S25 ⟨own_nneg hi, own_ltI hi hz (by omega)⟩
      refine OW.st (B := T24.setTop (mkF m 20 #[.val (.ref ca), .val (.int i), .val (.ref ba), .val (.int i), .val (.int z), .val (.int i), .val (.int cc)] [(.int (255 : Int32)), (.int cc)])) (fun _ kk_ => (X24.caload hx (j := i) (v := (.int cc)) (by rw [e24]; exact Ar25.1) (State.isArrayOf_alike hZ.alike Ar25.2.1) Ar25.2.2 hin25 (Has.at Hs25 hin25 ((congrArg (fun q => (cs.map Value.int).getD q _) (own_tn hi)).trans (own_getC hcc))) (g := (mkF m 12 #[.val (.ref ca), .val (.int i), .val (.ref ba), .val (.int i), .val (.int z), .val (.int i), sl] [(.int i), (.ref ca)])) rfl rfl (hb hby d6_12)) _ (XS.istore X24.here hx rfl (hb hby d6_13) rfl (l' := #[.val (.ref ca), .val (.int i), .val (.ref ba), .val (.int i), .val (.int z), .val (.int i), .val (.int cc)]) (by rcases hsl with rfl | ⟨_, rfl⟩ <;> rfl) (XS.iload X24.here hx rfl (hb hby d6_15) rfl (XS.sipush X24.here hx rfl (hb hby d6_17) kk_)))) ?_
      by_cases hc26 : (255 : Int32) < cc
      · refine OW.st (B := T24.setTop (mkF m 25 #[.val (.ref ca), .val (.int i), .val (.ref ba), .val (.int i), .val (.int z), .val (.int i), .val (.int cc)] [(.int i)])) (fun _ kk_ => XS.icmpNo X24.here hx rfl (hb hby d6_20) rfl (tlt hc26).2.2.2 (XS.iload X24.here hx rfl (hb hby d6_23) rfl kk_)) ?_
        exact OW.ret X24 hx hlk (i := .ireturn) Bd.returns rfl (Or.inl ⟨rfl, Or.inl rfl, _, rfl⟩) (hb hby d6_25) e24 (by decide) (by decide) ⟨i, mm, cc, rfl, N24, KC24, hi, hcc, hc26⟩
      · refine OW.st (B := T24.setTop (mkF m 31 #[.val (.ref ca), .val (.int i), .val (.ref ba), .val (.int i), .val (.int z), .val (.int i), .val (.int cc)] [(.int (cc.toInt8.toInt32)), (.int i), (.ref ba)])) (fun _ kk_ => XS.icmpYes X24.here hx rfl (pc0 := 20) (pc' := 26) rfl (hb hby d6_20) rfl (flt hc26).2.2.2 (by decide) (by decide) (XS.aloadN X24.here hx rfl (hb hby d6_26) rfl rfl (XS.iloadN X24.here hx rfl (hb hby d6_27) rfl (XS.iload X24.here hx rfl (hb hby d6_28) rfl (XS.i2b X24.here hx rfl (hb hby d6_30) rfl kk_))))) ?_
        obtain ⟨cl27, Ar27, q27, S27, Ng27, Hs27, G27⟩ := id Vb
        have hin27 : ¬ (i < 0 ∨ cl27.slots.size ≤ (i).toNatClampNeg) := inb_of S27 ⟨own_nneg hi, own_ltI hi hz (by omega)⟩
        obtain ⟨T28, h28, X28, e28, W28, st28⟩ := stB X24 hx hZ e24 Ar27 (j := i) hin27 (g := (mkF m 31 #[.val (.ref ca), .val (.int i), .val (.ref ba), .val (.int i), .val (.int z), .val (.int i), .val (.int cc)] [(.int (cc.toInt8.toInt32)), (.int i), (.ref ba)])) rfl rfl (hb hby d6_31)
        have N28 := Fr.snoc X28 N24 gb
        have O28 : Old Z n0 h28 := O24.wr W28 gb
        have KC28 : Keep h0 h28 [ba] := KC24.wr W28 (Or.inl (List.mem_of_getElem? (i := 0) rfl))
        have V28 : Arv Z h28 ba kb .byte z (bs.set mm (.int (nar .byte (cc.toInt8.toInt32)))) (.int (0 : Int32)) := Arv.set Ar27 q27 S27 Ng27 Hs27 G27 (fits_nar_byte _) W28 mm (own_tn hi) (by rw [hp.1]; omega)
        refine OW.st (B := T28.setTop (mkF m 3 #[.val (.ref ca), .val (.int (i + (1 : Int32))), .val (.ref ba), .val (.int (i + (1 : Int32))), .val (.int z), .val (.int (i + (1 : Int32))), .val (.int cc)] [])) (fun _ kk_ => st28 _ (XS.iinc X28.here hx rfl (hb hby d6_32) rfl (l' := #[.val (.ref ca), .val (.int (i + (1 : Int32))), .val (.ref ba), .val (.int i), .val (.int z), .val (.int i), .val (.int cc)]) rfl (XS.iinc X28.here hx rfl (hb hby d6_35) rfl (l' := #[.val (.ref ca), .val (.int (i + (1 : Int32))), .val (.ref ba), .val (.int (i + (1 : Int32))), .val (.int z), .val (.int i), .val (.int cc)]) rfl (XS.iinc X28.here hx rfl (hb hby d6_38) rfl (l' := #[.val (.ref ca), .val (.int (i + (1 : Int32))), .val (.ref ba), .val (.int (i + (1 : Int32))), .val (.int z), .val (.int (i + (1 : Int32))), .val (.int cc)]) rfl (XS.goto X28.here hx rfl (pc0 := 41) (pc' := 3) rfl (hb hby d6_41) (by decide) (by decide) kk_))))) ?_
        exact ih _ _ _ X28 N28 e28 O28 KC28 _ _ _ (mm + 1) (Or.inr ⟨_, rfl⟩) (Vc.other W28 hne) V28 (own_suc hi (by omega)) (by omega) (hp.step hcc) (fun j hj c hc => by rcases Nat.lt_succ_iff_lt_or_eq.mp hj with q | rfl; exact hl j q c hc; rw [hcc] at hc; cases hc; exact hc26)
  exact J24 cs.length _ _ _ X0 N0 e0 O0 KC0 _ _ _ 0 (Or.inl rfl) V B rfl (Nat.zero_add _) (OwnPL.start cs _) (fun j hj => absurd hj (Nat.not_lt_zero _))
theorem ef_PC (m : MethodId) (x0 : Addr) (x1 : Int32) (x2 : Int32) : entryFrame m #[(.ref x0), (.int x1), (.int x2)] 3 = mkF m 0 #[.val (.ref x0), .val (.int x1), .val (.int x2)] [] := by first | (simp [entryFrame, mkF, argsToLocals, Value.category]; done) | rfl
def QPC (Z : State) (ba : Addr) (kb : ClassId) (zb : Int32) (bs : List Value) (i : Int32) (mm : Nat) (cc : Int32) (i_COMPACT_STRINGS : Int32) (v_SIOOBE_FORMATTER : Value) (h0 : Heap) (n0 : Nat) (v : Option Value) (h : Heap) (L : List Loc) : Prop := v = none ∧ Fr n0 L ∧ Keep h0 h [ba] ∧ Arv Z h ba kb .byte zb ((bs.set (2 * mm) (.int (own_b0 cc))).set (2 * mm + 1) (.int (own_b1 cc))) (.int (0 : Int32))
set_option maxRecDepth 65536 in
set_option maxHeartbeats 40000000 in
theorem rmPC (l : Launch) (Z : State) (a0 : Array Value) (hw : ∀ d ∈ tables_1, d.before a0 Z = true) (ws : List Jvm.Cond) (ba : Addr) (kb : ClassId) (zb : Int32) (bs : List Value) (i : Int32) (mm : Nat) (cc : Int32) (i_COMPACT_STRINGS : Int32) (v_SIOOBE_FORMATTER : Value) (h0 : Heap) (n0 : Nat) (O0 : Old Z n0 h0) (B : Arv Z h0 ba kb .byte zb bs (.int (0 : Int32))) (gb : n0 ≤ ba) (hzb : zb.toInt = (bs.length : Int)) (hmb : 2 * mm + 1 < bs.length) (hbb : bs.length ≤ 20) (hi : i.toInt = (mm : Int)) (hS : OwnS Z i_COMPACT_STRINGS v_SIOOBE_FORMATTER) :
    MetFree l (⟨"java/lang/StringUTF16", "putChar", "([BII)V"⟩ : MethodName) (head1 (Jvm.Cond.code (⟨"java/lang/StringUTF16", "putChar", "([BII)V"⟩ : MethodName) jdk_52_method_4_code 3 none :: ws) ({ frames := 0, cells := 0, slots := 0, locals := 0 } : Room)) (fun aa_ UU_ => aa_ = #[(.ref ba), (.int i), (.int cc)] ∧ Z.Warmed39 UU_.vm ∧ UU_.heap = h0) (fun _ _ _ _ _ => True) (fun _ UU_ oo_ UV_ => ∃ vv_ LL_, oo_ = .returned vv_ ∧ QPC Z ba kb zb bs i mm cc i_COMPACT_STRINGS v_SIOOBE_FORMATTER h0 n0 vv_ UV_.heap LL_ ∧ FrameEnd UU_ oo_ UV_ LL_ ({ frames := 0, cells := 0, slots := 0, locals := 0 } : Room).cells ({ frames := 0, cells := 0, slots := 0, locals := 0 } : Room).slots) := by
  refine MetFree.of_bodySF (plainFor_of_name pn_2) hisR ?_
  intro p e s m args below meth c s₁ Bd hml0 hP hK
  obtain ⟨rfl, hZ, hh⟩ := hP
  have hx := Bd.exec
  have hby := Bd.bytes
  have hlk := BodyLoose.notSynchronized Bd
  have hml : c.maxLocals = 3 := hml0
  have hown : s.vm.findClass "java/lang/StringUTF16" = some m.cls := findClass_of_methodNamed Bd.named
  have hnm := (name_of_methodNamed Bd.named Bd.method).1
  have X0 : Stand p l e ({ frames := 0, cells := 0, slots := 0, locals := 0 } : Room) s m #[(.ref ba), (.int i), (.int cc)] below meth c s₁ [] 0 0 := Stand.of_body Bd
  have e0 : s₁.heap = h0 := by rw [← hh, Bd.state]; rfl
  have N0 := Fr.nil n0
  have KC0 : Keep h0 h0 [ba] := Keep.refl _ _
  suffices hOW : OW p e below s (QPC Z ba kb zb bs i mm cc i_COMPACT_STRINGS v_SIOOBE_FORMATTER h0 n0) 0 0 (s₁.setTop (mkF m 0 #[.val (.ref ba), .val (.int i), .val (.int cc)] [])) by
    obtain ⟨oq1_, oq2_, oq3_, oq4_⟩ := hOW
    exact ⟨oq1_, oq2_, castTop (ef_PC m ba i cc) oq3_, oq4_⟩
  have hS' := hS
  obtain ⟨Si_COMPACT_STRINGS, Sv_SIOOBE_FORMATTER, Rv_SIOOBE_FORMATTER, S__assertionsDisabled, S_HI_BYTE_SHIFT, S_LO_BYTE_SHIFT, Pi_COMPACT_STRINGS⟩ := hS'
  have hj1 : (i <<< ((1 : Int32) &&& 31)).toInt = ((2 * mm : Nat) : Int) := own_dbl hi (by omega)
  have hj2 : ((i <<< ((1 : Int32) &&& 31)) + (1 : Int32)).toInt = ((2 * mm + 1 : Nat) : Int) := own_suc hj1 (by omega)
  obtain ⟨T29, X29, e29, st29⟩ := getS2 X0 hx hZ hown (host := "") (Or.inl (w_118 hw)) Via.refl e0 (S__assertionsDisabled.ext O0.2) (g := (mkF m 0 #[.val (.ref ba), .val (.int i), .val (.int cc)] [])) rfl (hb hby d24_0)
  refine OW.st (B := T29.setTop (mkF m 38 #[.val (.ref ba), .val (.int ((i <<< ((1 : Int32) &&& 31)) + (1 : Int32))), .val (.int cc)] [(.int cc), (.int (i <<< ((1 : Int32) &&& 31))), (.ref ba)])) (fun _ kk_ => st29 _ (XS.ifYes X29.here hx rfl (pc0 := 3) (pc' := 28) rfl (hb hby d24_3) rfl ((if0 _ _).trans (feq (by decide)).2) (by decide) (by decide) (XS.iloadN X29.here hx rfl (hb hby d24_28) rfl (XS.iconst X29.here hx rfl (hb hby d24_29) (XS.ishl X29.here hx rfl (hb hby d24_30) rfl (XS.istoreN X29.here hx rfl (hb hby d24_31) rfl (l' := #[.val (.ref ba), .val (.int (i <<< ((1 : Int32) &&& 31))), .val (.int cc)]) rfl (XS.aloadN X29.here hx rfl (hb hby d24_32) rfl rfl (XS.iloadN X29.here hx rfl (hb hby d24_33) rfl (XS.iinc X29.here hx rfl (hb hby d24_34) rfl (l' := #[.val (.ref ba), .val (.int ((i <<< ((1 : Int32) &&& 31)) + (1 : Int32))), .val (.int cc)]) rfl (XS.iloadN X29.here hx rfl (hb hby d24_37) rfl kk_)))))))))) ?_
  obtain ⟨T30, X30, e30, st30⟩ := getS2 X29 hx hZ hown (host := "") (Or.inl (w_119 hw)) Via.refl e29 (S_HI_BYTE_SHIFT.ext O0.2) (g := (mkF m 38 #[.val (.ref ba), .val (.int ((i <<< ((1 : Int32) &&& 31)) + (1 : Int32))), .val (.int cc)] [(.int cc), (.int (i <<< ((1 : Int32) &&& 31))), (.ref ba)])) rfl (hb hby d24_38)
  refine OW.st (B := T30.setTop (mkF m 43 #[.val (.ref ba), .val (.int ((i <<< ((1 : Int32) &&& 31)) + (1 : Int32))), .val (.int cc)] [(.int ((cc >>> ((0 : Int32) &&& 31)).toInt8.toInt32)), (.int (i <<< ((1 : Int32) &&& 31))), (.ref ba)])) (fun _ kk_ => st30 _ (XS.ishr X30.here hx rfl (hb hby d24_41) rfl (XS.i2b X30.here hx rfl (hb hby d24_42) rfl kk_))) ?_
  obtain ⟨cl31, Ar31, q31, S31, Ng31, Hs31, G31⟩ := id B
  have hin31 : ¬ ((i <<< ((1 : Int32) &&& 31)) < 0 ∨ cl31.slots.size ≤ ((i <<< ((1 : Int32) &&& 31))).toNatClampNeg) := inb_of S31 ⟨own_nneg hj1, own_ltI hj1 hzb (by omega)⟩
  obtain ⟨T32, h32, X32, e32, W32, st32⟩ := stB X30 hx hZ e30 Ar31 (j := (i <<< ((1 : Int32) &&& 31))) hin31 (g := (mkF m 43 #[.val (.ref ba), .val (.int ((i <<< ((1 : Int32) &&& 31)) + (1 : Int32))), .val (.int cc)] [(.int ((cc >>> ((0 : Int32) &&& 31)).toInt8.toInt32)), (.int (i <<< ((1 : Int32) &&& 31))), (.ref ba)])) rfl rfl (hb hby d24_43)
  have N32 := Fr.snoc X32 N0 gb
  have O32 : Old Z n0 h32 := O0.wr W32 gb
  have KC32 : Keep h0 h32 [ba] := KC0.wr W32 (Or.inl (List.mem_of_getElem? (i := 0) rfl))
  have V32 : Arv Z h32 ba kb .byte zb (bs.set (2 * mm) (.int (nar .byte ((cc >>> ((0 : Int32) &&& 31)).toInt8.toInt32)))) (.int (0 : Int32)) := Arv.set Ar31 q31 S31 Ng31 Hs31 G31 (fits_nar_byte _) W32 (2 * mm) (own_tn hj1) (by omega)
  refine OW.st (B := T32.setTop (mkF m 47 #[.val (.ref ba), .val (.int ((i <<< ((1 : Int32) &&& 31)) + (1 : Int32))), .val (.int cc)] [(.int cc), (.int ((i <<< ((1 : Int32) &&& 31)) + (1 : Int32))), (.ref ba)])) (fun _ kk_ => st32 _ (XS.aloadN X32.here hx rfl (hb hby d24_44) rfl rfl (XS.iloadN X32.here hx rfl (hb hby d24_45) rfl (XS.iloadN X32.here hx rfl (hb hby d24_46) rfl kk_)))) ?_
  obtain ⟨T33, X33, e33, st33⟩ := getS2 X32 hx hZ hown (host := "") (Or.inl (w_120 hw)) Via.refl e32 (S_LO_BYTE_SHIFT.ext O32.2) (g := (mkF m 47 #[.val (.ref ba), .val (.int ((i <<< ((1 : Int32) &&& 31)) + (1 : Int32))), .val (.int cc)] [(.int cc), (.int ((i <<< ((1 : Int32) &&& 31)) + (1 : Int32))), (.ref ba)])) rfl (hb hby d24_47)
  refine OW.st (B := T33.setTop (mkF m 52 #[.val (.ref ba), .val (.int ((i <<< ((1 : Int32) &&& 31)) + (1 : Int32))), .val (.int cc)] [(.int ((cc >>> ((8 : Int32) &&& 31)).toInt8.toInt32)), (.int ((i <<< ((1 : Int32) &&& 31)) + (1 : Int32))), (.ref ba)])) (fun _ kk_ => st33 _ (XS.ishr X33.here hx rfl (hb hby d24_50) rfl (XS.i2b X33.here hx rfl (hb hby d24_51) rfl kk_))) ?_
  obtain ⟨cl34, Ar34, q34, S34, Ng34, Hs34, G34⟩ := id V32
  have hin34 : ¬ (((i <<< ((1 : Int32) &&& 31)) + (1 : Int32)) < 0 ∨ cl34.slots.size ≤ (((i <<< ((1 : Int32) &&& 31)) + (1 : Int32))).toNatClampNeg) := inb_of S34 ⟨own_nneg hj2, own_ltI hj2 hzb (by omega)⟩
  obtain ⟨T35, h35, X35, e35, W35, st35⟩ := stB X33 hx hZ e33 Ar34 (j := ((i <<< ((1 : Int32) &&& 31)) + (1 : Int32))) hin34 (g := (mkF m 52 #[.val (.ref ba), .val (.int ((i <<< ((1 : Int32) &&& 31)) + (1 : Int32))), .val (.int cc)] [(.int ((cc >>> ((8 : Int32) &&& 31)).toInt8.toInt32)), (.int ((i <<< ((1 : Int32) &&& 31)) + (1 : Int32))), (.ref ba)])) rfl rfl (hb hby d24_52)
  have N35 := Fr.snoc X35 N32 gb
  have O35 : Old Z n0 h35 := O32.wr W35 gb
  have KC35 : Keep h0 h35 [ba] := KC32.wr W35 (Or.inl (List.mem_of_getElem? (i := 0) rfl))
  have V35 : Arv Z h35 ba kb .byte zb ((bs.set (2 * mm) (.int (nar .byte ((cc >>> ((0 : Int32) &&& 31)).toInt8.toInt32)))).set (2 * mm + 1) (.int (nar .byte ((cc >>> ((8 : Int32) &&& 31)).toInt8.toInt32)))) (.int (0 : Int32)) := Arv.set Ar34 q34 S34 Ng34 Hs34 G34 (fits_nar_byte _) W35 (2 * mm + 1) (own_tn hj2) (by rw [List.length_set]; omega)
  refine OW.st (B := T35.setTop (mkF m 53 #[.val (.ref ba), .val (.int ((i <<< ((1 : Int32) &&& 31)) + (1 : Int32))), .val (.int cc)] [])) (fun _ kk_ => st35 _ kk_) ?_
  exact OW.retV X35 hx hlk Bd.returns (hb hby d24_53) e35 (by decide) (by decide) ⟨rfl, N35, KC35, V35⟩
theorem ef_GC (m : MethodId) (x0 : Addr) (x1 : Int32) : entryFrame m #[(.ref x0), (.int x1)] 2 = mkF m 0 #[.val (.ref x0), .val (.int x1)] [] := by first | (simp [entryFrame, mkF, argsToLocals, Value.category]; done) | rfl
def QGC (Z : State) (ba : Addr) (kb : ClassId) (zb : Int32) (cs : List Int32) (i : Int32) (mm : Nat) (cc : Int32) (i_COMPACT_STRINGS : Int32) (v_SIOOBE_FORMATTER : Value) (h0 : Heap) (n0 : Nat) (v : Option Value) (h : Heap) (L : List Loc) : Prop := v = some (.int cc) ∧ Fr n0 L ∧ h = h0
set_option maxRecDepth 65536 in
set_option maxHeartbeats 40000000 in
theorem rmGC (l : Launch) (Z : State) (a0 : Array Value) (hw : ∀ d ∈ tables_1, d.before a0 Z = true) (ws : List Jvm.Cond) (ba : Addr) (kb : ClassId) (zb : Int32) (cs : List Int32) (i : Int32) (mm : Nat) (cc : Int32) (i_COMPACT_STRINGS : Int32) (v_SIOOBE_FORMATTER : Value) (h0 : Heap) (n0 : Nat) (O0 : Old Z n0 h0) (B : Arv Z h0 ba kb .byte zb (OwnU cs) (.int (0 : Int32))) (hzb : zb.toInt = ((2 * cs.length : Nat) : Int)) (hmax : cs.length ≤ 10) (hi : i.toInt = (mm : Int)) (hcc : cs[mm]? = some cc) (hn : nar .char cc = cc) (hS : OwnS Z i_COMPACT_STRINGS v_SIOOBE_FORMATTER) :
    MetFree l (⟨"java/lang/StringUTF16", "getChar", "([BI)C"⟩ : MethodName) (head1 (Jvm.Cond.code (⟨"java/lang/StringUTF16", "getChar", "([BI)C"⟩ : MethodName) jdk_52_method_5_code 2 (some .char) :: ws) ({ frames := 0, cells := 0, slots := 0, locals := 0 } : Room)) (fun aa_ UU_ => aa_ = #[(.ref ba), (.int i)] ∧ Z.Warmed39 UU_.vm ∧ UU_.heap = h0) (fun _ _ _ _ _ => True) (fun _ UU_ oo_ UV_ => ∃ vv_ LL_, oo_ = .returned vv_ ∧ QGC Z ba kb zb cs i mm cc i_COMPACT_STRINGS v_SIOOBE_FORMATTER h0 n0 vv_ UV_.heap LL_ ∧ FrameEnd UU_ oo_ UV_ LL_ ({ frames := 0, cells := 0, slots := 0, locals := 0 } : Room).cells ({ frames := 0, cells := 0, slots := 0, locals := 0 } : Room).slots) := by
  refine MetFree.of_bodySF (plainFor_of_name pn_2) hisR ?_
  intro p e s m args below meth c s₁ Bd hml0 hP hK
  obtain ⟨rfl, hZ, hh⟩ := hP
  have hx := Bd.exec
  have hby := Bd.bytes
  have hlk := BodyLoose.notSynchronized Bd
  have hml : c.maxLocals = 2 := hml0
  have hown : s.vm.findClass "java/lang/StringUTF16" = some m.cls := findClass_of_methodNamed Bd.named
  have hnm := (name_of_methodNamed Bd.named Bd.method).1
  have X0 : Stand p l e ({ frames := 0, cells := 0, slots := 0, locals := 0 } : Room) s m #[(.ref ba), (.int i)] below meth c s₁ [] 0 0 := Stand.of_body Bd
  have e0 : s₁.heap = h0 := by rw [← hh, Bd.state]; rfl
  have N0 := Fr.nil n0
  suffices hOW : OW p e below s (QGC Z ba kb zb cs i mm cc i_COMPACT_STRINGS v_SIOOBE_FORMATTER h0 n0) 0 0 (s₁.setTop (mkF m 0 #[.val (.ref ba), .val (.int i)] [])) by
    obtain ⟨oq1_, oq2_, oq3_, oq4_⟩ := hOW
    exact ⟨oq1_, oq2_, castTop (ef_GC m ba i) oq3_, oq4_⟩
  have hS' := hS
  obtain ⟨Si_COMPACT_STRINGS, Sv_SIOOBE_FORMATTER, Rv_SIOOBE_FORMATTER, S__assertionsDisabled, S_HI_BYTE_SHIFT, S_LO_BYTE_SHIFT, Pi_COMPACT_STRINGS⟩ := hS'
  have hmm : mm < cs.length := (List.getElem?_eq_some_iff.mp hcc).1
  have hj1 : (i <<< ((1 : Int32) &&& 31)).toInt = ((2 * mm : Nat) : Int) := own_dbl hi (by omega)
  have hj2 : ((i <<< ((1 : Int32) &&& 31)) + (1 : Int32)).toInt = ((2 * mm + 1 : Nat) : Int) := own_suc hj1 (by omega)
  obtain ⟨T36, X36, e36, st36⟩ := getS2 X0 hx hZ hown (host := "") (Or.inl (w_118 hw)) Via.refl e0 (S__assertionsDisabled.ext O0.2) (g := (mkF m 0 #[.val (.ref ba), .val (.int i)] [])) rfl (hb hby d25_0)
  refine OW.st (B := T36.setTop (mkF m 37 #[.val (.ref ba), .val (.int ((i <<< ((1 : Int32) &&& 31)) + (1 : Int32)))] [(.int (i <<< ((1 : Int32) &&& 31))), (.ref ba)])) (fun _ kk_ => st36 _ (XS.ifYes X36.here hx rfl (pc0 := 3) (pc' := 28) rfl (hb hby d25_3) rfl ((if0 _ _).trans (feq (by decide)).2) (by decide) (by decide) (XS.iloadN X36.here hx rfl (hb hby d25_28) rfl (XS.iconst X36.here hx rfl (hb hby d25_29) (XS.ishl X36.here hx rfl (hb hby d25_30) rfl (XS.istoreN X36.here hx rfl (hb hby d25_31) rfl (l' := #[.val (.ref ba), .val (.int (i <<< ((1 : Int32) &&& 31)))]) rfl (XS.aloadN X36.here hx rfl (hb hby d25_32) rfl rfl (XS.iloadN X36.here hx rfl (hb hby d25_33) rfl (XS.iinc X36.here hx rfl (hb hby d25_34) rfl (l' := #[.val (.ref ba), .val (.int ((i <<< ((1 : Int32) &&& 31)) + (1 : Int32)))]) rfl kk_))))))))) ?_
  obtain ⟨cl37, Ar37, q37, S37, Ng37, Hs37, G37⟩ := id B
  have hin37 : ¬ ((i <<< ((1 : Int32) &&& 31)) < 0 ∨ cl37.slots.size ≤ ((i <<< ((1 : Int32) &&& 31))).toNatClampNeg) := inb_of S37 ⟨own_nneg hj1, own_ltI hj1 hzb (by omega)⟩
  refine OW.st (B := T36.setTop (mkF m 42 #[.val (.ref ba), .val (.int ((i <<< ((1 : Int32) &&& 31)) + (1 : Int32)))] [(.int ((own_b0 cc) &&& (255 : Int32)))])) (fun _ kk_ => (X36.baloadBytes hx (j := (i <<< ((1 : Int32) &&& 31))) (v := (.int (own_b0 cc))) (by rw [e36]; exact Ar37.1) (State.isArrayOf_alike hZ.alike Ar37.2.1) Ar37.2.2 hin37 (Has.at Hs37 hin37 ((congrArg (fun q => (OwnU cs).getD q _) (own_tn hj1)).trans (own_getU0 hcc))) (g := (mkF m 37 #[.val (.ref ba), .val (.int ((i <<< ((1 : Int32) &&& 31)) + (1 : Int32)))] [(.int (i <<< ((1 : Int32) &&& 31))), (.ref ba)])) rfl rfl (hb hby d25_37)) _ (XS.sipush X36.here hx rfl (hb hby d25_38) (XS.iand X36.here hx rfl (hb hby d25_41) rfl kk_))) ?_
  obtain ⟨T38, X38, e38, st38⟩ := getS2 X36 hx hZ hown (host := "") (Or.inl (w_119 hw)) Via.refl e36 (S_HI_BYTE_SHIFT.ext O0.2) (g := (mkF m 42 #[.val (.ref ba), .val (.int ((i <<< ((1 : Int32) &&& 31)) + (1 : Int32)))] [(.int ((own_b0 cc) &&& (255 : Int32)))])) rfl (hb hby d25_42)
  refine OW.st (B := T38.setTop (mkF m 48 #[.val (.ref ba), .val (.int ((i <<< ((1 : Int32) &&& 31)) + (1 : Int32)))] [(.int ((i <<< ((1 : Int32) &&& 31)) + (1 : Int32))), (.ref ba), (.int (((own_b0 cc) &&& (255 : Int32)) <<< ((0 : Int32) &&& 31)))])) (fun _ kk_ => st38 _ (XS.ishl X38.here hx rfl (hb hby d25_45) rfl (XS.aloadN X38.here hx rfl (hb hby d25_46) rfl rfl (XS.iloadN X38.here hx rfl (hb hby d25_47) rfl kk_)))) ?_
  obtain ⟨cl39, Ar39, q39, S39, Ng39, Hs39, G39⟩ := id B
  have hin39 : ¬ (((i <<< ((1 : Int32) &&& 31)) + (1 : Int32)) < 0 ∨ cl39.slots.size ≤ (((i <<< ((1 : Int32) &&& 31)) + (1 : Int32))).toNatClampNeg) := inb_of S39 ⟨own_nneg hj2, own_ltI hj2 hzb (by omega)⟩
  refine OW.st (B := T38.setTop (mkF m 53 #[.val (.ref ba), .val (.int ((i <<< ((1 : Int32) &&& 31)) + (1 : Int32)))] [(.int ((own_b1 cc) &&& (255 : Int32))), (.int (((own_b0 cc) &&& (255 : Int32)) <<< ((0 : Int32) &&& 31)))])) (fun _ kk_ => (X38.baloadBytes hx (j := ((i <<< ((1 : Int32) &&& 31)) + (1 : Int32))) (v := (.int (own_b1 cc))) (by rw [e38]; exact Ar39.1) (State.isArrayOf_alike hZ.alike Ar39.2.1) Ar39.2.2 hin39 (Has.at Hs39 hin39 ((congrArg (fun q => (OwnU cs).getD q _) (own_tn hj2)).trans (own_getU1 hcc))) (g := (mkF m 48 #[.val (.ref ba), .val (.int ((i <<< ((1 : Int32) &&& 31)) + (1 : Int32)))] [(.int ((i <<< ((1 : Int32) &&& 31)) + (1 : Int32))), (.ref ba), (.int (((own_b0 cc) &&& (255 : Int32)) <<< ((0 : Int32) &&& 31)))])) rfl rfl (hb hby d25_48)) _ (XS.sipush X38.here hx rfl (hb hby d25_49) (XS.iand X38.here hx rfl (hb hby d25_52) rfl kk_))) ?_
  obtain ⟨T40, X40, e40, st40⟩ := getS2 X38 hx hZ hown (host := "") (Or.inl (w_120 hw)) Via.refl e38 (S_LO_BYTE_SHIFT.ext O0.2) (g := (mkF m 53 #[.val (.ref ba), .val (.int ((i <<< ((1 : Int32) &&& 31)) + (1 : Int32)))] [(.int ((own_b1 cc) &&& (255 : Int32))), (.int (((own_b0 cc) &&& (255 : Int32)) <<< ((0 : Int32) &&& 31)))])) rfl (hb hby d25_53)
  refine OW.st (B := T40.setTop (mkF m 59 #[.val (.ref ba), .val (.int ((i <<< ((1 : Int32) &&& 31)) + (1 : Int32)))] [(.int (((((own_b0 cc) &&& (255 : Int32)) <<< ((0 : Int32) &&& 31)) ||| (((own_b1 cc) &&& (255 : Int32)) <<< ((8 : Int32) &&& 31))).toUInt32.toUInt16.toUInt32.toInt32))])) (fun _ kk_ => st40 _ (XS.ishl X40.here hx rfl (hb hby d25_56) rfl (XS.ior X40.here hx rfl (hb hby d25_57) rfl (XS.i2c X40.here hx rfl (hb hby d25_58) rfl kk_)))) ?_
  exact OW.ret X40 hx hlk (i := .ireturn) Bd.returns (own_nc _) (Or.inl ⟨rfl, Or.inr (Or.inr (Or.inr (Or.inl rfl))), _, rfl⟩) (hb hby d25_59) e40 (by decide) (by decide) ⟨congrArg (fun z => some (Value.int z)) (own_gc hn), N0, rfl⟩
theorem ef_NL (m : MethodId) (x0 : Int32) : entryFrame m #[(.int x0)] 1 = mkF m 0 #[.val (.int x0)] [] := by first | (simp [entryFrame, mkF, argsToLocals, Value.category]; done) | rfl
def QNL (Z : State) (z : Int32) (nn : Nat) (h0 : Heap) (n0 : Nat) (v : Option Value) (h : Heap) (L : List Loc) : Prop := v = some (.int (z <<< ((1 : Int32) &&& 31))) ∧ Fr n0 L ∧ h = h0
set_option maxRecDepth 65536 in
set_option maxHeartbeats 40000000 in
theorem rmNL (l : Launch) (Z : State) (a0 : Array Value) (hw : ∀ d ∈ tables_1, d.before a0 Z = true) (ws : List Jvm.Cond) (z : Int32) (nn : Nat) (h0 : Heap) (n0 : Nat) (O0 : Old Z n0 h0) (hz : z.toInt = (nn : Int)) (hmax : nn ≤ 10) :
    MetFree l (⟨"java/lang/StringUTF16", "newBytesLength", "(I)I"⟩ : MethodName) (head1 (Jvm.Cond.code (⟨"java/lang/StringUTF16", "newBytesLength", "(I)I"⟩ : MethodName) jdk_52_method_3_code 1 (some .int) :: ws) ({ frames := 0, cells := 0, slots := 0, locals := 0 } : Room)) (fun aa_ UU_ => aa_ = #[(.int z)] ∧ Z.Warmed39 UU_.vm ∧ UU_.heap = h0) (fun _ _ _ _ _ => True) (fun _ UU_ oo_ UV_ => ∃ vv_ LL_, oo_ = .returned vv_ ∧ QNL Z z nn h0 n0 vv_ UV_.heap LL_ ∧ FrameEnd UU_ oo_ UV_ LL_ ({ frames := 0, cells := 0, slots := 0, locals := 0 } : Room).cells ({ frames := 0, cells := 0, slots := 0, locals := 0 } : Room).slots) := by
  refine MetFree.of_bodySF (plainFor_of_name pn_2) hisR ?_
  intro p e s m args below meth c s₁ Bd hml0 hP hK
  obtain ⟨rfl, hZ, hh⟩ := hP
  have hx := Bd.exec
  have hby := Bd.bytes
  have hlk := BodyLoose.notSynchronized Bd
  have hml : c.maxLocals = 1 := hml0
  have hown : s.vm.findClass "java/lang/StringUTF16" = some m.cls := findClass_of_methodNamed Bd.named
  have hnm := (name_of_methodNamed Bd.named Bd.method).1
  have X0 : Stand p l e ({ frames := 0, cells := 0, slots := 0, locals := 0 } : Room) s m #[(.int z)] below meth c s₁ [] 0 0 := Stand.of_body Bd
  have e0 : s₁.heap = h0 := by rw [← hh, Bd.state]; rfl
  have N0 := Fr.nil n0
  suffices hOW : OW p e below s (QNL Z z nn h0 n0) 0 0 (s₁.setTop (mkF m 0 #[.val (.int z)] [])) by
    obtain ⟨oq1_, oq2_, oq3_, oq4_⟩ := hOW
    exact ⟨oq1_, oq2_, castTop (ef_NL m z) oq3_, oq4_⟩
  have hq1 := own_nneg hz
  have hq2 : z < (1073741823 : Int32) := own_ltI hz (n := 1073741823) (by decide) (by omega)
  refine OW.st (B := s₁.setTop (mkF m 58 #[.val (.int z)] [(.int (z <<< ((1 : Int32) &&& 31)))])) (fun _ kk_ => XS.iloadN X0.here hx rfl (hb hby d23_0) rfl (XS.ifYes X0.here hx rfl (pc0 := 1) (pc' := 12) rfl (hb hby d23_1) rfl ((if0 _ _).trans (flt hq1).2.1) (by decide) (by decide) (XS.iloadN X0.here hx rfl (hb hby d23_12) rfl ((X0.ldcInt hx hown (mvT hZ (w_114 hw)) (g := (mkF m 13 #[.val (.int z)] [(.int z)])) rfl (hb hby d23_13)) _ (XS.icmpYes X0.here hx rfl (pc0 := 15) (pc' := 55) rfl (hb hby d23_15) rfl (tlt hq2).1 (by decide) (by decide) (XS.iloadN X0.here hx rfl (hb hby d23_55) rfl (XS.iconst X0.here hx rfl (hb hby d23_56) (XS.ishl X0.here hx rfl (hb hby d23_57) rfl kk_)))))))) ?_
  exact OW.ret X0 hx hlk (i := .ireturn) Bd.returns rfl (Or.inl ⟨rfl, Or.inl rfl, _, rfl⟩) (hb hby d23_58) e0 (by decide) (by decide) ⟨rfl, N0, rfl⟩
theorem ef_NF (m : MethodId) (x0 : Int32) : entryFrame m #[(.int x0)] 1 = mkF m 0 #[.val (.int x0)] [] := by first | (simp [entryFrame, mkF, argsToLocals, Value.category]; done) | rfl
def QNF (Z : State) (z : Int32) (nn : Nat) (h0 : Heap) (n0 : Nat) (v : Option Value) (h : Heap) (L : List Loc) : Prop := ∃ (ba : Addr) (kb : ClassId), v = some (.ref ba) ∧ Fr n0 L ∧ Keep h0 h [] ∧ n0 ≤ ba ∧ h0.size ≤ ba ∧ Arv Z h ba kb .byte (z <<< ((1 : Int32) &&& 31)) (List.replicate (2 * nn) (.int (0 : Int32))) (.int (0 : Int32))
set_option maxRecDepth 65536 in
set_option maxHeartbeats 40000000 in
theorem rmNF (l : Launch) (Z : State) (a0 : Array Value) (hw : ∀ d ∈ tables_1, d.before a0 Z = true) (ws : List Jvm.Cond) (z : Int32) (nn : Nat) (h0 : Heap) (n0 : Nat) (O0 : Old Z n0 h0) (hz : z.toInt = (nn : Int)) (hmax : nn ≤ 10) :
    MetFree l (⟨"java/lang/StringUTF16", "newBytesFor", "(I)[B"⟩ : MethodName) (head1 (Jvm.Cond.code (⟨"java/lang/StringUTF16", "newBytesFor", "(I)[B"⟩ : MethodName) jdk_52_method_2_code 1 (some (.array .byte)) :: ws) ({ frames := 1, cells := 1, slots := 20, locals := 12 } : Room)) (fun aa_ UU_ => aa_ = #[(.int z)] ∧ Z.Warmed39 UU_.vm ∧ UU_.heap = h0) (fun _ _ _ _ _ => True) (fun _ UU_ oo_ UV_ => ∃ vv_ LL_, oo_ = .returned vv_ ∧ QNF Z z nn h0 n0 vv_ UV_.heap LL_ ∧ FrameEnd UU_ oo_ UV_ LL_ ({ frames := 1, cells := 1, slots := 20, locals := 12 } : Room).cells ({ frames := 1, cells := 1, slots := 20, locals := 12 } : Room).slots) := by
  refine MetFree.of_bodySF (plainFor_of_name pn_2) hisR ?_
  intro p e s m args below meth c s₁ Bd hml0 hP hK
  obtain ⟨rfl, hZ, hh⟩ := hP
  have hx := Bd.exec
  have hby := Bd.bytes
  have hlk := BodyLoose.notSynchronized Bd
  have hml : c.maxLocals = 1 := hml0
  have hown : s.vm.findClass "java/lang/StringUTF16" = some m.cls := findClass_of_methodNamed Bd.named
  have hnm := (name_of_methodNamed Bd.named Bd.method).1
  have X0 : Stand p l e ({ frames := 1, cells := 1, slots := 20, locals := 12 } : Room) s m #[(.int z)] below meth c s₁ [] 0 0 := Stand.of_body Bd
  have e0 : s₁.heap = h0 := by rw [← hh, Bd.state]; rfl
  have N0 := Fr.nil n0
  have KC0 : Keep h0 h0 [] := Keep.refl _ _
  suffices hOW : OW p e below s (QNF Z z nn h0 n0) 1 20 (s₁.setTop (mkF m 0 #[.val (.int z)] [])) by
    obtain ⟨oq1_, oq2_, oq3_, oq4_⟩ := hOW
    exact ⟨oq1_, oq2_, castTop (ef_NF m z) oq3_, oq4_⟩
  have hd := own_dbl hz (by omega)
  refine OW.st (B := s₁.setTop (mkF m 1 #[.val (.int z)] [(.int z)])) (fun _ kk_ => XS.iloadN X0.here hx rfl (hb hby d22_0) rfl kk_) ?_
  obtain ⟨_, _, ⟨T41, L41, k41, n41⟩, -, X41, ⟨Lc41, hQ41, l41, y41, z41⟩, st41⟩ := Jvm.LawKit.callS X0 hx (y := (⟨"java/lang/StringUTF16", "newBytesLength", "(I)I"⟩ : MethodName)) hown (mvT hZ (w_111 hw)) (mvT hZ (w_112 hw)) (mvT hZ (w_22 hw)) (mvT hZ (w_113 hw)) (by decide) (backOf (W := 0) (rmNL l Z a0 hw [] z nn h0 n0 O0 hz hmax) hZ (w_113 hw) (w_22 hw) (by decide) (by decide)) (g := (mkF m 1 #[.val (.int z)] [(.int z)])) rfl (by rw [hml]; rfl) (argsL := [(.int z)]) (rest := []) (lenOf pd_2 rfl) rfl (by show 2 * 0 + _ ≤ _; exact Nat.le_of_eq rfl) (hb hby d22_1) (fun _ _ => ⟨rfl, e0, (by decide : 0 + 0 ≤ _), (by decide : 0 + 0 ≤ _)⟩)
  dsimp only [Pt.U, Pt.locs, Pt.cells, Pt.slots] at X41 l41 y41 z41 st41 hQ41
  subst l41 y41 z41
  obtain ⟨rfl, Nq41, e41⟩ := hQ41
  have N41 := Fr.app N0 Nq41
  refine OW.st (B := T41.setTop (mkF m 4 #[.val (.int z)] [(.int (z <<< ((1 : Int32) &&& 31)))])) (fun _ kk_ => st41 _ kk_) ?_
  obtain ⟨T42, h42, k42, X42, e42, E42, A42, st42⟩ := newP (aty := .byte) X41 hx hZ (w_24 hw) e41 (g := (mkF m 4 #[.val (.int z)] [(.int (z <<< ((1 : Int32) &&& 31)))])) rfl (hb hby d22_4) rfl (own_nneg hd) (cap := 20) (by rw [own_tn hd]; omega) (by decide) (by decide) (by decide)
  obtain ⟨b42, g42⟩ : ∃ z, z = h0.size := ⟨_, rfl⟩
  rw [← g42] at A42 st42
  have n_b42 : n0 ≤ b42 := Nat.le_trans (own_oldle O0) (Nat.le_of_eq g42.symm)
  have O42 : Old Z n0 h42 := O0.ext E42
  have sz_b42 : h0.size ≤ b42 := Nat.le_trans KC0.1 (Nat.le_of_eq g42.symm)
  have KC42 : Keep h0 h42 [] := KC0.ext E42
  have V42 : Arv Z h42 b42 k42 .byte (z <<< ((1 : Int32) &&& 31)) (List.replicate (2 * nn) (.int (0 : Int32))) (.int (0 : Int32)) := (Arv.new A42 (own_nneg hd)).pad (pad_rep [] (.int (0 : Int32)) (2 * nn))
  refine OW.st (B := T42.setTop (mkF m 6 #[.val (.int z)] [(.ref b42)])) (fun _ kk_ => st42 _ kk_) ?_
  exact OW.ret X42 hx hlk (i := .areturn) Bd.returns rfl (Or.inr (Or.inr (Or.inr (Or.inr ⟨rfl, rfl, rfl⟩)))) (hb hby d22_6) e42 (by decide) (by decide) ⟨b42, k42, rfl, N41, KC42, n_b42, sz_b42, V42⟩
theorem ef_TB (m : MethodId) (x0 : Addr) (x1 : Int32) (x2 : Int32) : entryFrame m #[(.ref x0), (.int x1), (.int x2)] 5 = mkF m 0 #[.val (.ref x0), .val (.int x1), .val (.int x2), .unset, .unset] [] := by first | (simp [entryFrame, mkF, argsToLocals, Value.category]; done) | rfl
def QTB (Z : State) (ca : Addr) (kc : ClassId) (z : Int32) (cs : List Int32) (i_COMPACT_STRINGS : Int32) (v_SIOOBE_FORMATTER : Value) (h0 : Heap) (n0 : Nat) (v : Option Value) (h : Heap) (L : List Loc) : Prop := ∃ (ba : Addr) (kb : ClassId), v = some (.ref ba) ∧ Fr n0 L ∧ Keep h0 h [] ∧ n0 ≤ ba ∧ h0.size ≤ ba ∧ Arv Z h ba kb .byte (z <<< ((1 : Int32) &&& 31)) (OwnU cs) (.int (0 : Int32))
set_option maxRecDepth 65536 in
set_option maxHeartbeats 40000000 in
theorem rmTB (l : Launch) (Z : State) (a0 : Array Value) (hw : ∀ d ∈ tables_1, d.before a0 Z = true) (ws : List Jvm.Cond) (ca : Addr) (kc : ClassId) (z : Int32) (cs : List Int32) (i_COMPACT_STRINGS : Int32) (v_SIOOBE_FORMATTER : Value) (h0 : Heap) (n0 : Nat) (O0 : Old Z n0 h0) (V : Arv Z h0 ca kc .char z (cs.map Value.int) (.int (0 : Int32))) (hz : z.toInt = (cs.length : Int)) (hmax : cs.length ≤ 10) (hS : OwnS Z i_COMPACT_STRINGS v_SIOOBE_FORMATTER) :
    MetFree l (⟨"java/lang/StringUTF16", "toBytes", "([CII)[B"⟩ : MethodName) (head1 (Jvm.Cond.code (⟨"java/lang/StringUTF16", "toBytes", "([CII)[B"⟩ : MethodName) jdk_52_method_14_code 5 (some (.array .byte)) :: ws) ({ frames := 2, cells := 1, slots := 20, locals := 24 } : Room)) (fun aa_ UU_ => aa_ = #[(.ref ca), (.int (0 : Int32)), (.int z)] ∧ Z.Warmed39 UU_.vm ∧ UU_.heap = h0) (fun _ _ _ _ _ => True) (fun _ UU_ oo_ UV_ => ∃ vv_ LL_, oo_ = .returned vv_ ∧ QTB Z ca kc z cs i_COMPACT_STRINGS v_SIOOBE_FORMATTER h0 n0 vv_ UV_.heap LL_ ∧ FrameEnd UU_ oo_ UV_ LL_ ({ frames := 2, cells := 1, slots := 20, locals := 24 } : Room).cells ({ frames := 2, cells := 1, slots := 20, locals := 24 } : Room).slots) := by
  refine MetFree.of_bodySF (plainFor_of_name pn_2) hisR ?_
  intro p e s m args below meth c s₁ Bd hml0 hP hK
  obtain ⟨rfl, hZ, hh⟩ := hP
  have hx := Bd.exec
  have hby := Bd.bytes
  have hlk := BodyLoose.notSynchronized Bd
  have hml : c.maxLocals = 5 := hml0
  have hown : s.vm.findClass "java/lang/StringUTF16" = some m.cls := findClass_of_methodNamed Bd.named
  have hnm := (name_of_methodNamed Bd.named Bd.method).1
  have X0 : Stand p l e ({ frames := 2, cells := 1, slots := 20, locals := 24 } : Room) s m #[(.ref ca), (.int (0 : Int32)), (.int z)] below meth c s₁ [] 0 0 := Stand.of_body Bd
  have e0 : s₁.heap = h0 := by rw [← hh, Bd.state]; rfl
  have N0 := Fr.nil n0
  have KC0 : Keep h0 h0 [] := Keep.refl _ _
  suffices hOW : OW p e below s (QTB Z ca kc z cs i_COMPACT_STRINGS v_SIOOBE_FORMATTER h0 n0) 1 20 (s₁.setTop (mkF m 0 #[.val (.ref ca), .val (.int (0 : Int32)), .val (.int z), .unset, .unset] [])) by
    obtain ⟨oq1_, oq2_, oq3_, oq4_⟩ := hOW
    exact ⟨oq1_, oq2_, castTop (ef_TB m ca (0 : Int32) z) oq3_, oq4_⟩
  have hS' := hS
  obtain ⟨Si_COMPACT_STRINGS, Sv_SIOOBE_FORMATTER, Rv_SIOOBE_FORMATTER, S__assertionsDisabled, S_HI_BYTE_SHIFT, S_LO_BYTE_SHIFT, Pi_COMPACT_STRINGS⟩ := hS'
  refine OW.st (B := s₁.setTop (mkF m 1 #[.val (.ref ca), .val (.int (0 : Int32)), .val (.int z), .unset, .unset] [(.int z)])) (fun _ kk_ => XS.iloadN X0.here hx rfl (hb hby d21_0) rfl kk_) ?_
  obtain ⟨_, _, ⟨T43, L43, k43, n43⟩, -, X43, ⟨Lc43, hQ43, l43, y43, z43⟩, st43⟩ := Jvm.LawKit.callS X0 hx (y := (⟨"java/lang/StringUTF16", "newBytesFor", "(I)[B"⟩ : MethodName)) hown (mvT hZ (w_108 hw)) (mvT hZ (w_109 hw)) (mvT hZ (w_22 hw)) (mvT hZ (w_110 hw)) (by decide) (backOf (W := 0) (rmNF l Z a0 hw [] z cs.length h0 n0 O0 hz hmax) hZ (w_110 hw) (w_22 hw) (by decide) (by decide)) (g := (mkF m 1 #[.val (.ref ca), .val (.int (0 : Int32)), .val (.int z), .unset, .unset] [(.int z)])) rfl (by rw [hml]; rfl) (argsL := [(.int z)]) (rest := []) (lenOf pd_3 rfl) rfl (by show 2 * 0 + _ ≤ _; exact Nat.le_of_eq rfl) (hb hby d21_1) (fun _ _ => ⟨rfl, e0, (by decide : 0 + 1 ≤ _), (by decide : 0 + 20 ≤ _)⟩)
  dsimp only [Pt.U, Pt.locs, Pt.cells, Pt.slots] at X43 l43 y43 z43 st43 hQ43
  subst l43 y43 z43
  obtain ⟨b43, kb43, rfl, Nq43, K43, gb43, zb43, Vb43⟩ := hQ43
  have N43 := Fr.app N0 Nq43
  have O43 : Old Z n0 T43.heap := O0.keep K43 all0
  have KC43 : Keep h0 T43.heap [] := KC0.trans K43 all0
  have sz_b43 : h0.size ≤ b43 := Nat.le_trans KC0.1 zb43
  refine OW.st (B := T43.setTop (mkF m 8 #[.val (.ref ca), .val (.int (0 : Int32)), .val (.int z), .val (.ref b43), .val (.int (0 : Int32))] [])) (fun _ kk_ => st43 _ (XS.astoreN X43.here hx rfl (hb hby d21_4) rfl rfl (l' := #[.val (.ref ca), .val (.int (0 : Int32)), .val (.int z), .val (.ref b43), .unset]) rfl (XS.iconst X43.here hx rfl (hb hby d21_5) (XS.istore X43.here hx rfl (hb hby d21_6) rfl (l' := #[.val (.ref ca), .val (.int (0 : Int32)), .val (.int z), .val (.ref b43), .val (.int (0 : Int32))]) rfl kk_)))) ?_
  have hd := own_dbl hz (by omega)
  have J44 : ∀ (f : Nat) (T44 : State) (L44 : List Loc) (h44 : Heap) (X44 : Stand p l e ({ frames := 2, cells := 1, slots := 20, locals := 24 } : Room) s m #[(.ref ca), (.int (0 : Int32)), (.int z)] below meth c T44 L44 1 20) (N44 : Fr n0 L44) (e44 : T44.heap = h44) (O44 : Old Z n0 h44) (KC44 : Keep h0 h44 []) (i : Int32) (bs : List Value) (mm : Nat), (Arv Z h44 ca kc .char z (cs.map Value.int) (.int (0 : Int32))) → (Arv Z h44 b43 kb43 .byte (z <<< ((1 : Int32) &&& 31)) bs (.int (0 : Int32))) → (i.toInt = (mm : Int)) → (mm + f = cs.length) → (OwnPU cs mm bs) → OW p e below s (QTB Z ca kc z cs i_COMPACT_STRINGS v_SIOOBE_FORMATTER h0 n0) 1 20 (T44.setTop (mkF m 8 #[.val (.ref ca), .val (.int i), .val (.int z), .val (.ref b43), .val (.int i)] [])) := by
    intro f
    induction f with
    | zero =>
      intro T44 L44 h44 X44 N44 e44 O44 KC44 i bs mm Vc Vb hi hm hp
      have hmm : mm = cs.length := by omega
      subst hmm
      refine OW.st (B := T44.setTop (mkF m 33 #[.val (.ref ca), .val (.int i), .val (.int z), .val (.ref b43), .val (.int i)] [(.ref b43)])) (fun _ kk_ => XS.iload X44.here hx rfl (hb hby d21_8) rfl (XS.iloadN X44.here hx rfl (hb hby d21_10) rfl (XS.icmpYes X44.here hx rfl (pc0 := 11) (pc' := 32) rfl (hb hby d21_11) rfl (flt (own_nltI hi hz (by omega))).2.1 (by decide) (by decide) (XS.aloadN X44.here hx rfl (hb hby d21_32) rfl rfl kk_)))) ?_
      exact OW.ret X44 hx hlk (i := .areturn) Bd.returns rfl (Or.inr (Or.inr (Or.inr (Or.inr ⟨rfl, rfl, rfl⟩)))) (hb hby d21_33) e44 (by decide) (by decide) ⟨b43, kb43, rfl, N44, KC44, gb43, sz_b43, hp.end ▸ Vb⟩
    | succ f ih =>
      intro T44 L44 h44 X44 N44 e44 O44 KC44 i bs mm Vc Vb hi hm hp
      obtain ⟨cc, hcc⟩ : ∃ cc, cs[mm]? = some cc := ⟨_, List.getElem?_eq_getElem (by omega)⟩
      have hbl := hp.1
      refine OW.st (B := T44.setTop (mkF m 19 #[.val (.ref ca), .val (.int i), .val (.int z), .val (.ref b43), .val (.int i)] [(.int i), (.ref ca), (.int i), (.ref b43)])) (fun _ kk_ => XS.iload X44.here hx rfl (hb hby d21_8) rfl (XS.iloadN X44.here hx rfl (hb hby d21_10) rfl (XS.icmpNo X44.here hx rfl (hb hby d21_11) rfl (tlt (own_ltI hi hz (by omega))).2.1 (XS.aloadN X44.here hx rfl (hb hby d21_14) rfl rfl (XS.iload X44.here hx rfl (hb hby d21_15) rfl (XS.aloadN X44.here hx rfl (hb hby d21_17) rfl rfl (XS.iloadN X44.here hx rfl (hb hby d21_18) rfl kk_))))))) ?_
      obtain ⟨cl45, Ar45, q45, S45, Ng45, Hs45, G45⟩ := id Vc
      have hin45 : ¬ (i < 0 ∨ cl45.slots.size ≤ (i).toNatClampNeg) := inb_of S45 ⟨own_nneg hi, own_ltI hi hz (by omega)⟩
      refine OW.st (B := T44.setTop (mkF m 20 #[.val (.ref ca), .val (.int i), .val (.int z), .val (.ref b43), .val (.int i)] [(.int cc), (.int i), (.ref b43)])) (fun _ kk_ => (X44.caload hx (j := i) (v := (.int cc)) (by rw [e44]; exact Ar45.1) (State.isArrayOf_alike hZ.alike Ar45.2.1) Ar45.2.2 hin45 (Has.at Hs45 hin45 ((congrArg (fun q => (cs.map Value.int).getD q _) (own_tn hi)).trans (own_getC hcc))) (g := (mkF m 19 #[.val (.ref ca), .val (.int i), .val (.int z), .val (.ref b43), .val (.int i)] [(.int i), (.ref ca), (.int i), (.ref b43)])) rfl rfl (hb hby d21_19)) _ kk_) ?_
      obtain ⟨_, _, ⟨T46, L46, k46, n46⟩, -, X46, ⟨Lc46, hQ46, l46, y46, z46⟩, st46⟩ := Jvm.LawKit.callS X44 hx (y := (⟨"java/lang/StringUTF16", "putChar", "([BII)V"⟩ : MethodName)) hown (mvT hZ (w_115 hw)) (mvT hZ (w_116 hw)) (mvT hZ (w_22 hw)) (mvT hZ (w_117 hw)) (by decide) (backOf (W := 0) (rmPC l Z a0 hw [] b43 kb43 (z <<< ((1 : Int32) &&& 31)) bs i mm cc i_COMPACT_STRINGS v_SIOOBE_FORMATTER h44 n0 O44 Vb gb43 (by rw [hbl]; exact hd) (by omega) (by omega) hi hS) hZ (w_117 hw) (w_22 hw) (by decide) (by decide)) (g := (mkF m 20 #[.val (.ref ca), .val (.int i), .val (.int z), .val (.ref b43), .val (.int i)] [(.int cc), (.int i), (.ref b43)])) rfl (by rw [hml]; rfl) (argsL := [(.ref b43), (.int i), (.int cc)]) (rest := []) (lenOf pd_4 rfl) rfl (by show 2 * 0 + _ ≤ _; exact Nat.le_of_eq rfl) (hb hby d21_20) (fun _ _ => ⟨rfl, e44, (by decide : 1 + 0 ≤ _), (by decide : 20 + 0 ≤ _)⟩)
      dsimp only [Pt.U, Pt.locs, Pt.cells, Pt.slots] at X46 l46 y46 z46 st46 hQ46
      subst l46 y46 z46
      obtain ⟨rfl, Nq46, K46, Vp46⟩ := hQ46
      have N46 := Fr.app N44 Nq46
      have O46 : Old Z n0 T46.heap := O44.keep K46 (allS gb43 all0)
      have KC46 : Keep h0 T46.heap [] := KC44.trans K46 (allS (Or.inr sz_b43) all0)
      refine OW.st (B := T46.setTop (mkF m 8 #[.val (.ref ca), .val (.int (i + (1 : Int32))), .val (.int z), .val (.ref b43), .val (.int (i + (1 : Int32)))] [])) (fun _ kk_ => st46 _ (XS.iinc X46.here hx rfl (hb hby d21_23) rfl (l' := #[.val (.ref ca), .val (.int (i + (1 : Int32))), .val (.int z), .val (.ref b43), .val (.int i)]) rfl (XS.iinc X46.here hx rfl (hb hby d21_26) rfl (l' := #[.val (.ref ca), .val (.int (i + (1 : Int32))), .val (.int z), .val (.ref b43), .val (.int (i + (1 : Int32)))]) rfl (XS.goto X46.here hx rfl (pc0 := 29) (pc' := 8) rfl (hb hby d21_29) (by decide) (by decide) kk_)))) ?_
      exact ih _ _ _ X46 N46 rfl O46 KC46 _ _ (mm + 1) (Vc.keep K46 (ninS (own_neTy Vc Vb (by decide)) nin0)) Vp46 (own_suc hi (by omega)) (by omega) (hp.step hcc)
  exact J44 cs.length _ _ _ X43 N43 rfl O43 KC43 _ _ 0 (V.keep K43 nin0) Vb43 rfl (Nat.zero_add _) (OwnPU.start cs _)
theorem ef_C30 (m : MethodId) (x0 : Addr) (x1 : Int32) (x2 : Int32) : entryFrame m #[(.ref x0), (.int x1), (.int x2)] 6 = mkF m 0 #[.val (.ref x0), .val (.int x1), .val (.int x2), .unset, .unset, .unset] [] := by first | (simp [entryFrame, mkF, argsToLocals, Value.category]; done) | rfl
def QC30 (Z : State) (ca : Addr) (kc : ClassId) (z : Int32) (cs : List Int32) (i_COMPACT_STRINGS : Int32) (v_SIOOBE_FORMATTER : Value) (h0 : Heap) (n0 : Nat) (v : Option Value) (h : Heap) (L : List Loc) : Prop := ∃ (ba : Addr) (kb : ClassId), v = some (.ref ba) ∧ Fr n0 L ∧ Keep h0 h [] ∧ n0 ≤ ba ∧ h0.size ≤ ba ∧ Arv Z h ba kb .byte z (OwnL cs) (.int (0 : Int32))
set_option maxRecDepth 65536 in
set_option maxHeartbeats 40000000 in
theorem rmC30 (l : Launch) (Z : State) (a0 : Array Value) (hw : ∀ d ∈ tables_1, d.before a0 Z = true) (ws : List Jvm.Cond) (ca : Addr) (kc : ClassId) (z : Int32) (cs : List Int32) (i_COMPACT_STRINGS : Int32) (v_SIOOBE_FORMATTER : Value) (h0 : Heap) (n0 : Nat) (O0 : Old Z n0 h0) (V : Arv Z h0 ca kc .char z (cs.map Value.int) (.int (0 : Int32))) (hz : z.toInt = (cs.length : Int)) (hmax : cs.length ≤ 10) (hch : OwnChs cs) (hlat : OwnLat cs) (hS : OwnS Z i_COMPACT_STRINGS v_SIOOBE_FORMATTER) :
    MetFree l (⟨"java/lang/StringUTF16", "compress", "([CII)[B"⟩ : MethodName) (head1 (Jvm.Cond.code (⟨"java/lang/StringUTF16", "compress", "([CII)[B"⟩ : MethodName) jdk_52_method_16_code 6 (some (.array .byte)) :: ws) ({ frames := 1, cells := 1, slots := 10, locals := 18 } : Room)) (fun aa_ UU_ => aa_ = #[(.ref ca), (.int (0 : Int32)), (.int z)] ∧ Z.Warmed39 UU_.vm ∧ UU_.heap = h0) (fun _ _ _ _ _ => True) (fun _ UU_ oo_ UV_ => ∃ vv_ LL_, oo_ = .returned vv_ ∧ QC30 Z ca kc z cs i_COMPACT_STRINGS v_SIOOBE_FORMATTER h0 n0 vv_ UV_.heap LL_ ∧ FrameEnd UU_ oo_ UV_ LL_ ({ frames := 1, cells := 1, slots := 10, locals := 18 } : Room).cells ({ frames := 1, cells := 1, slots := 10, locals := 18 } : Room).slots) := by
  refine MetFree.of_bodySF (plainFor_of_name pn_2) hisR ?_
  intro p e s m args below meth c s₁ Bd hml0 hP hK
  obtain ⟨rfl, hZ, hh⟩ := hP
  have hx := Bd.exec
  have hby := Bd.bytes
  have hlk := BodyLoose.notSynchronized Bd
  have hml : c.maxLocals = 6 := hml0
  have hown : s.vm.findClass "java/lang/StringUTF16" = some m.cls := findClass_of_methodNamed Bd.named
  have hnm := (name_of_methodNamed Bd.named Bd.method).1
  have X0 : Stand p l e ({ frames := 1, cells := 1, slots := 10, locals := 18 } : Room) s m #[(.ref ca), (.int (0 : Int32)), (.int z)] below meth c s₁ [] 0 0 := Stand.of_body Bd
  have e0 : s₁.heap = h0 := by rw [← hh, Bd.state]; rfl
  have N0 := Fr.nil n0
  have KC0 : Keep h0 h0 [] := Keep.refl _ _
  suffices hOW : OW p e below s (QC30 Z ca kc z cs i_COMPACT_STRINGS v_SIOOBE_FORMATTER h0 n0) 1 10 (s₁.setTop (mkF m 0 #[.val (.ref ca), .val (.int (0 : Int32)), .val (.int z), .unset, .unset, .unset] [])) by
    obtain ⟨oq1_, oq2_, oq3_, oq4_⟩ := hOW
    exact ⟨oq1_, oq2_, castTop (ef_C30 m ca (0 : Int32) z) oq3_, oq4_⟩
  have hS' := hS
  obtain ⟨Si_COMPACT_STRINGS, Sv_SIOOBE_FORMATTER, Rv_SIOOBE_FORMATTER, S__assertionsDisabled, S_HI_BYTE_SHIFT, S_LO_BYTE_SHIFT, Pi_COMPACT_STRINGS⟩ := hS'
  refine OW.st (B := s₁.setTop (mkF m 1 #[.val (.ref ca), .val (.int (0 : Int32)), .val (.int z), .unset, .unset, .unset] [(.int z)])) (fun _ kk_ => XS.iloadN X0.here hx rfl (hb hby d5_0) rfl kk_) ?_
  obtain ⟨T47, h47, k47, X47, e47, E47, A47, st47⟩ := newP (aty := .byte) X0 hx hZ (w_24 hw) e0 (g := (mkF m 1 #[.val (.ref ca), .val (.int (0 : Int32)), .val (.int z), .unset, .unset, .unset] [(.int z)])) rfl (hb hby d5_1) rfl (own_nneg hz) (cap := 10) (by rw [own_tn hz]; exact hmax) (by decide) (by decide) (by decide)
  obtain ⟨b47, g47⟩ : ∃ z, z = h0.size := ⟨_, rfl⟩
  rw [← g47] at A47 st47
  have n_b47 : n0 ≤ b47 := Nat.le_trans (own_oldle O0) (Nat.le_of_eq g47.symm)
  have O47 : Old Z n0 h47 := O0.ext E47
  have sz_b47 : h0.size ≤ b47 := Nat.le_trans KC0.1 (Nat.le_of_eq g47.symm)
  have KC47 : Keep h0 h47 [] := KC0.ext E47
  have V47 : Arv Z h47 b47 k47 .byte z (List.replicate cs.length (.int (0 : Int32))) (.int (0 : Int32)) := (Arv.new A47 (own_nneg hz)).pad (pad_rep [] (.int (0 : Int32)) cs.length)
  refine OW.st (B := T47.setTop (mkF m 9 #[.val (.ref ca), .val (.int (0 : Int32)), .val (.int z), .val (.ref b47), .unset, .unset] [(.int z), (.int (0 : Int32)), (.ref b47), (.int (0 : Int32)), (.ref ca)])) (fun _ kk_ => st47 _ (XS.astoreN X47.here hx rfl (hb hby d5_3) rfl rfl (l' := #[.val (.ref ca), .val (.int (0 : Int32)), .val (.int z), .val (.ref b47), .unset, .unset]) rfl (XS.aloadN X47.here hx rfl (hb hby d5_4) rfl rfl (XS.iloadN X47.here hx rfl (hb hby d5_5) rfl (XS.aloadN X47.here hx rfl (hb hby d5_6) rfl rfl (XS.iconst X47.here hx rfl (hb hby d5_7) (XS.iloadN X47.here hx rfl (hb hby d5_8) rfl kk_))))))) ?_
  obtain ⟨_, _, ⟨T48, L48, k48, n48⟩, -, X48, ⟨Lc48, hQ48, l48, y48, z48⟩, st48⟩ := Jvm.LawKit.callS X47 hx (y := (⟨"java/lang/StringUTF16", "compress", "([CI[BII)I"⟩ : MethodName)) hown (mvT hZ (w_25 hw)) (mvT hZ (w_26 hw)) (mvT hZ (w_22 hw)) (mvT hZ (w_27 hw)) (by decide) (backOf (W := 0) (rmC50 l Z a0 hw [] ca kc b47 k47 z cs h47 n0 O47 (V.ext E47) hz hmax V47 n_b47 (Nat.ne_of_lt (Nat.lt_of_lt_of_le V.lt (Nat.le_of_eq g47.symm))) hlat) hZ (w_27 hw) (w_22 hw) (by decide) (by decide)) (g := (mkF m 9 #[.val (.ref ca), .val (.int (0 : Int32)), .val (.int z), .val (.ref b47), .unset, .unset] [(.int z), (.int (0 : Int32)), (.ref b47), (.int (0 : Int32)), (.ref ca)])) rfl (by rw [hml]; rfl) (argsL := [(.ref ca), (.int (0 : Int32)), (.ref b47), (.int (0 : Int32)), (.int z)]) (rest := []) (lenOf pd_5 rfl) rfl (by show 2 * 0 + _ ≤ _; exact Nat.le_of_eq rfl) (hb hby d5_9) (fun _ _ => ⟨rfl, e47, (by decide : 1 + 0 ≤ _), (by decide : 10 + 0 ≤ _)⟩)
  dsimp only [Pt.U, Pt.locs, Pt.cells, Pt.slots] at X48 l48 y48 z48 st48 hQ48
  subst l48 y48 z48
  obtain ⟨rfl, Nq48, K48, Vb48⟩ := hQ48
  have N48 := Fr.app N0 Nq48
  have O48 : Old Z n0 T48.heap := O47.keep K48 (allS n_b47 all0)
  have KC48 : Keep h0 T48.heap [] := KC47.trans K48 (allS (Or.inr sz_b47) all0)
  refine OW.st (B := T48.setTop (mkF m 58 #[.val (.ref ca), .val (.int (0 : Int32)), .val (.int z), .val (.ref b47), .val (.int z), .unset] [(.ref b47)])) (fun _ kk_ => st48 _ (XS.istore X48.here hx rfl (hb hby d5_12) rfl (l' := #[.val (.ref ca), .val (.int (0 : Int32)), .val (.int z), .val (.ref b47), .val (.int z), .unset]) rfl (XS.iload X48.here hx rfl (hb hby d5_14) rfl (XS.iloadN X48.here hx rfl (hb hby d5_16) rfl (XS.icmpYes X48.here hx rfl (pc0 := 17) (pc' := 57) rfl (hb hby d5_17) rfl (teq rfl).1 (by decide) (by decide) (XS.aloadN X48.here hx rfl (hb hby d5_57) rfl rfl kk_)))))) ?_
  exact OW.ret X48 hx hlk (i := .areturn) Bd.returns rfl (Or.inr (Or.inr (Or.inr (Or.inr ⟨rfl, rfl, rfl⟩)))) (hb hby d5_58) rfl (by decide) (by decide) ⟨b47, k47, rfl, N48, KC48, n_b47, sz_b47, Vb48⟩
theorem ef_CL0 (m : MethodId) (x0 : Addr) (x1 : Int32) : entryFrame m #[(.ref x0), (.int x1)] 2 = mkF m 0 #[.val (.ref x0), .val (.int x1)] [] := by first | (simp [entryFrame, mkF, argsToLocals, Value.category]; done) | rfl
def QCL0 (Z : State) (ba : Addr) (kb : ClassId) (z : Int32) (cs : List Int32) (h0 : Heap) (n0 : Nat) (v : Option Value) (h : Heap) (L : List Loc) : Prop := v = some (.int (0 : Int32)) ∧ Fr n0 L ∧ h = h0
set_option maxRecDepth 65536 in
set_option maxHeartbeats 40000000 in
theorem rmCL0 (l : Launch) (Z : State) (a0 : Array Value) (hw : ∀ d ∈ tables_1, d.before a0 Z = true) (ws : List Jvm.Cond) (ba : Addr) (kb : ClassId) (z : Int32) (cs : List Int32) (h0 : Heap) (n0 : Nat) (O0 : Old Z n0 h0) (B : Arv Z h0 ba kb .byte z (OwnL cs) (.int (0 : Int32))) (hz : z.toInt = (cs.length : Int)) (hmax : cs.length ≤ 10) (hpos : 0 < cs.length) :
    MetFree l (⟨"java/lang/StringUTF16", "coderFromArrayLen", "([BI)B"⟩ : MethodName) (head1 (Jvm.Cond.code (⟨"java/lang/StringUTF16", "coderFromArrayLen", "([BI)B"⟩ : MethodName) jdk_52_method_15_code 2 (some .byte) :: ws) ({ frames := 0, cells := 0, slots := 0, locals := 0 } : Room)) (fun aa_ UU_ => aa_ = #[(.ref ba), (.int z)] ∧ Z.Warmed39 UU_.vm ∧ UU_.heap = h0) (fun _ _ _ _ _ => True) (fun _ UU_ oo_ UV_ => ∃ vv_ LL_, oo_ = .returned vv_ ∧ QCL0 Z ba kb z cs h0 n0 vv_ UV_.heap LL_ ∧ FrameEnd UU_ oo_ UV_ LL_ ({ frames := 0, cells := 0, slots := 0, locals := 0 } : Room).cells ({ frames := 0, cells := 0, slots := 0, locals := 0 } : Room).slots) := by
  refine MetFree.of_bodySF (plainFor_of_name pn_2) hisR ?_
  intro p e s m args below meth c s₁ Bd hml0 hP hK
  obtain ⟨rfl, hZ, hh⟩ := hP
  have hx := Bd.exec
  have hby := Bd.bytes
  have hlk := BodyLoose.notSynchronized Bd
  have hml : c.maxLocals = 2 := hml0
  have hown : s.vm.findClass "java/lang/StringUTF16" = some m.cls := findClass_of_methodNamed Bd.named
  have hnm := (name_of_methodNamed Bd.named Bd.method).1
  have X0 : Stand p l e ({ frames := 0, cells := 0, slots := 0, locals := 0 } : Room) s m #[(.ref ba), (.int z)] below meth c s₁ [] 0 0 := Stand.of_body Bd
  have e0 : s₁.heap = h0 := by rw [← hh, Bd.state]; rfl
  have N0 := Fr.nil n0
  suffices hOW : OW p e below s (QCL0 Z ba kb z cs h0 n0) 0 0 (s₁.setTop (mkF m 0 #[.val (.ref ba), .val (.int z)] [])) by
    obtain ⟨oq1_, oq2_, oq3_, oq4_⟩ := hOW
    exact ⟨oq1_, oq2_, castTop (ef_CL0 m ba z) oq3_, oq4_⟩
  refine OW.st (B := s₁.setTop (mkF m 2 #[.val (.ref ba), .val (.int z)] [(.ref ba), (.int z)])) (fun _ kk_ => XS.iloadN X0.here hx rfl (hb hby d7_0) rfl (XS.aloadN X0.here hx rfl (hb hby d7_1) rfl rfl kk_)) ?_
  obtain ⟨cl49, Ar49, q49, S49, Ng49, Hs49, G49⟩ := id B
  refine OW.st (X0.arraylength hx (by rw [e0]; exact Ar49.1) (State.isArrayOf_alike hZ.alike Ar49.2.1) (g := (mkF m 2 #[.val (.ref ba), .val (.int z)] [(.ref ba), (.int z)])) rfl rfl (hb hby d7_2)) ?_
  rw [len_of S49 Ng49]
  show OW p e below s (QCL0 Z ba kb z cs h0 n0) 0 0 (s₁.setTop (mkF m 3 #[.val (.ref ba), .val (.int z)] [(.int z), (.int z)]))
  refine OW.st (B := s₁.setTop (mkF m 8 #[.val (.ref ba), .val (.int z)] [(.int ((((z - z).toUInt32 >>> ((31 : Int32) &&& 31).toUInt32).toInt32).toInt8.toInt32))])) (fun _ kk_ => XS.isub X0.here hx rfl (hb hby d7_3) rfl (XS.bipush X0.here hx rfl (hb hby d7_4) (XS.iushr X0.here hx rfl (hb hby d7_6) rfl (XS.i2b X0.here hx rfl (hb hby d7_7) rfl kk_)))) ?_
  exact OW.ret X0 hx hlk (i := .ireturn) Bd.returns (by rw [own_clL z]; rfl) (Or.inl ⟨rfl, Or.inr (Or.inr (Or.inl rfl)), _, rfl⟩) (hb hby d7_8) e0 (by decide) (by decide) ⟨congrArg (fun z => some (Value.int z)) (own_clL z), N0, rfl⟩
theorem ef_S10 (m : MethodId) (x0 : Addr) (x1 : Addr) (x2 : Int32) (x3 : Int32) : entryFrame m #[(.ref x0), (.ref x1), (.int x2), (.int x3), .null] 6 = mkF m 0 #[.val (.ref x0), .val (.ref x1), .val (.int x2), .val (.int x3), .val .null, .unset] [] := by first | (simp [entryFrame, mkF, argsToLocals, Value.category]; done) | rfl
def QS10 (Z : State) (b : Addr) (ca : Addr) (kc : ClassId) (z : Int32) (cs : List Int32) (i_COMPACT_STRINGS : Int32) (v_SIOOBE_FORMATTER : Value) (h0 : Heap) (n0 : Nat) (v : Option Value) (h : Heap) (L : List Loc) : Prop := v = none ∧ Fr n0 L ∧ Keep h0 h [b] ∧ Exa Z h b "java/lang/String" ∧ ∃ (ba : Addr) (kb : ClassId), n0 ≤ ba ∧ b ≠ ba ∧ Fld Z h b "java/lang/String" "coder" "B" (.int (0 : Int32)) ∧ Fld Z h b "java/lang/String" "value" "[B" (.ref ba) ∧ Arv Z h ba kb .byte z (OwnL cs) (.int (0 : Int32))
set_option maxRecDepth 65536 in
set_option maxHeartbeats 40000000 in
theorem rmS10 (l : Launch) (Z : State) (a0 : Array Value) (hw : ∀ d ∈ tables_1, d.before a0 Z = true) (ws : List Jvm.Cond) (b : Addr) (ca : Addr) (kc : ClassId) (z : Int32) (cs : List Int32) (i_COMPACT_STRINGS : Int32) (v_SIOOBE_FORMATTER : Value) (h0 : Heap) (n0 : Nat) (O0 : Old Z n0 h0) (E : Exa Z h0 b "java/lang/String") (F1 : Fld Z h0 b "java/lang/String" "value" "[B" .null) (F2 : Fld Z h0 b "java/lang/String" "coder" "B" (.int (0 : Int32))) (g : n0 ≤ b) (V : Arv Z h0 ca kc .char z (cs.map Value.int) (.int (0 : Int32))) (hz : z.toInt = (cs.length : Int)) (hmax : cs.length ≤ 10) (hpos : 0 < cs.length) (hch : OwnChs cs) (hlat : OwnLat cs) (hS : OwnS Z i_COMPACT_STRINGS v_SIOOBE_FORMATTER) :
    MetFree l (⟨"java/lang/String", "<init>", "([CIILjava/lang/Void;)V"⟩ : MethodName) (head1 (Jvm.Cond.code (⟨"java/lang/String", "<init>", "([CIILjava/lang/Void;)V"⟩ : MethodName) jdk_42_method_149_code 6 none :: ws) ({ frames := 2, cells := 1, slots := 10, locals := 35 } : Room)) (fun aa_ UU_ => aa_ = #[(.ref b), (.ref ca), (.int (0 : Int32)), (.int z), .null] ∧ Z.Warmed39 UU_.vm ∧ UU_.heap = h0) (fun _ _ _ _ _ => True) (fun _ UU_ oo_ UV_ => ∃ vv_ LL_, oo_ = .returned vv_ ∧ QS10 Z b ca kc z cs i_COMPACT_STRINGS v_SIOOBE_FORMATTER h0 n0 vv_ UV_.heap LL_ ∧ FrameEnd UU_ oo_ UV_ LL_ ({ frames := 2, cells := 1, slots := 10, locals := 35 } : Room).cells ({ frames := 2, cells := 1, slots := 10, locals := 35 } : Room).slots) := by
  refine MetFree.of_bodySF (plainFor_of_name pn_0) hisR ?_
  intro p e s m args below meth c s₁ Bd hml0 hP hK
  obtain ⟨rfl, hZ, hh⟩ := hP
  have hx := Bd.exec
  have hby := Bd.bytes
  have hlk := BodyLoose.notSynchronized Bd
  have hml : c.maxLocals = 6 := hml0
  have hown : s.vm.findClass "java/lang/String" = some m.cls := findClass_of_methodNamed Bd.named
  have hnm := (name_of_methodNamed Bd.named Bd.method).1
  have X0 : Stand p l e ({ frames := 2, cells := 1, slots := 10, locals := 35 } : Room) s m #[(.ref b), (.ref ca), (.int (0 : Int32)), (.int z), .null] below meth c s₁ [] 0 0 := Stand.of_body Bd
  have e0 : s₁.heap = h0 := by rw [← hh, Bd.state]; rfl
  have N0 := Fr.nil n0
  have KC0 : Keep h0 h0 [b] := Keep.refl _ _
  suffices hOW : OW p e below s (QS10 Z b ca kc z cs i_COMPACT_STRINGS v_SIOOBE_FORMATTER h0 n0) 1 10 (s₁.setTop (mkF m 0 #[.val (.ref b), .val (.ref ca), .val (.int (0 : Int32)), .val (.int z), .val .null, .unset] [])) by
    obtain ⟨oq1_, oq2_, oq3_, oq4_⟩ := hOW
    exact ⟨oq1_, oq2_, castTop (ef_S10 m b ca (0 : Int32) z) oq3_, oq4_⟩
  have hS' := hS
  obtain ⟨Si_COMPACT_STRINGS, Sv_SIOOBE_FORMATTER, Rv_SIOOBE_FORMATTER, S__assertionsDisabled, S_HI_BYTE_SHIFT, S_LO_BYTE_SHIFT, Pi_COMPACT_STRINGS⟩ := hS'
  refine OW.st (B := s₁.setTop (mkF m 1 #[.val (.ref b), .val (.ref ca), .val (.int (0 : Int32)), .val (.int z), .val .null, .unset] [(.ref b)])) (fun _ kk_ => XS.aloadN X0.here hx rfl (hb hby d3_0) rfl rfl kk_) ?_
  obtain ⟨T50, X50, e50, st50⟩ := initO X0 hx hZ hown (w_16 hw) (w_17 hw) (w_18 hw) e0 (g := (mkF m 1 #[.val (.ref b), .val (.ref ca), .val (.int (0 : Int32)), .val (.int z), .val .null, .unset] [(.ref b)])) rfl (by rw [hml]; rfl) rfl (hb hby d3_1) (by decide) (W := 0) (by show 2 * 0 + _ ≤ _; exact Nat.le_of_eq rfl) (by decide)
  refine OW.st (B := T50.setTop (mkF m 27 #[.val (.ref b), .val (.ref ca), .val (.int (0 : Int32)), .val (.int z), .val .null, .unset] [])) (fun _ kk_ => st50 _ (XS.iloadN X50.here hx rfl (hb hby d3_4) rfl (XS.ifYes X50.here hx rfl (pc0 := 5) (pc' := 27) rfl (hb hby d3_5) rfl ((if0 _ _).trans (feq (own_n0 hz hpos)).2) (by decide) (by decide) kk_))) ?_
  obtain ⟨T51, X51, e51, st51⟩ := getS2 X50 hx hZ hown (host := "") (Or.inl (w_19 hw)) Via.refl e50 (Si_COMPACT_STRINGS.ext O0.2) (g := (mkF m 27 #[.val (.ref b), .val (.ref ca), .val (.int (0 : Int32)), .val (.int z), .val .null, .unset] [])) rfl (hb hby d3_27)
  refine OW.st (B := T51.setTop (mkF m 36 #[.val (.ref b), .val (.ref ca), .val (.int (0 : Int32)), .val (.int z), .val .null, .unset] [(.int z), (.int (0 : Int32)), (.ref ca)])) (fun _ kk_ => st51 _ (XS.ifNo X51.here hx rfl (hb hby d3_30) rfl ((if0 _ _).trans (feq Pi_COMPACT_STRINGS).1) (XS.aloadN X51.here hx rfl (hb hby d3_33) rfl rfl (XS.iloadN X51.here hx rfl (hb hby d3_34) rfl (XS.iloadN X51.here hx rfl (hb hby d3_35) rfl kk_))))) ?_
  obtain ⟨_, _, ⟨T52, L52, k52, n52⟩, -, X52, ⟨Lc52, hQ52, l52, y52, z52⟩, st52⟩ := Jvm.LawKit.callS X51 hx (y := (⟨"java/lang/StringUTF16", "compress", "([CII)[B"⟩ : MethodName)) hown (mvT hZ (w_20 hw)) (mvT hZ (w_21 hw)) (mvT hZ (w_22 hw)) (mvT hZ (w_23 hw)) (by decide) (backOf (W := 0) (rmC30 l Z a0 hw [] ca kc z cs i_COMPACT_STRINGS v_SIOOBE_FORMATTER h0 n0 O0 V hz hmax hch hlat hS) hZ (w_23 hw) (w_22 hw) (by decide) (by decide)) (g := (mkF m 36 #[.val (.ref b), .val (.ref ca), .val (.int (0 : Int32)), .val (.int z), .val .null, .unset] [(.int z), (.int (0 : Int32)), (.ref ca)])) rfl (by rw [hml]; rfl) (argsL := [(.ref ca), (.int (0 : Int32)), (.int z)]) (rest := []) (lenOf pd_6 rfl) rfl (by show 2 * 0 + _ ≤ _; exact Nat.le_of_eq rfl) (hb hby d3_36) (fun _ _ => ⟨rfl, e51, (by decide : 0 + 1 ≤ _), (by decide : 0 + 10 ≤ _)⟩)
  dsimp only [Pt.U, Pt.locs, Pt.cells, Pt.slots] at X52 l52 y52 z52 st52 hQ52
  subst l52 y52 z52
  obtain ⟨b52, kb52, rfl, Nq52, K52, gb52, zb52, Vb52⟩ := hQ52
  have N52 := Fr.app N0 Nq52
  have O52 : Old Z n0 T52.heap := O0.keep K52 all0
  have KC52 : Keep h0 T52.heap [b] := KC0.trans K52 all0
  have sz_b52 : h0.size ≤ b52 := Nat.le_trans KC0.1 zb52
  refine OW.st (B := T52.setTop (mkF m 45 #[.val (.ref b), .val (.ref ca), .val (.int (0 : Int32)), .val (.int z), .val .null, .val (.ref b52)] [(.int z), (.ref b52), (.ref b)])) (fun _ kk_ => st52 _ (XS.astore X52.here hx rfl (hb hby d3_39) rfl rfl (l' := #[.val (.ref b), .val (.ref ca), .val (.int (0 : Int32)), .val (.int z), .val .null, .val (.ref b52)]) rfl (XS.aloadN X52.here hx rfl (hb hby d3_41) rfl rfl (XS.aload X52.here hx rfl (hb hby d3_42) rfl rfl (XS.iloadN X52.here hx rfl (hb hby d3_44) rfl kk_))))) ?_
  obtain ⟨_, _, ⟨T53, L53, k53, n53⟩, -, X53, ⟨Lc53, hQ53, l53, y53, z53⟩, st53⟩ := Jvm.LawKit.callS X52 hx (y := (⟨"java/lang/StringUTF16", "coderFromArrayLen", "([BI)B"⟩ : MethodName)) hown (mvT hZ (w_28 hw)) (mvT hZ (w_29 hw)) (mvT hZ (w_22 hw)) (mvT hZ (w_30 hw)) (by decide) (backOf (W := 1) (rmCL0 l Z a0 hw [] b52 kb52 z cs T52.heap n0 O52 Vb52 hz hmax hpos) hZ (w_30 hw) (w_22 hw) (by decide) (by decide)) (g := (mkF m 45 #[.val (.ref b), .val (.ref ca), .val (.int (0 : Int32)), .val (.int z), .val .null, .val (.ref b52)] [(.int z), (.ref b52), (.ref b)])) rfl (by rw [hml]; rfl) (argsL := [(.ref b52), (.int z)]) (rest := [(.ref b)]) (lenOf pd_7 rfl) rfl (by show 2 * 0 + _ ≤ _; exact Nat.le_of_eq rfl) (hb hby d3_45) (fun _ _ => ⟨rfl, rfl, (by decide : 1 + 0 ≤ _), (by decide : 10 + 0 ≤ _)⟩)
  dsimp only [Pt.U, Pt.locs, Pt.cells, Pt.slots] at X53 l53 y53 z53 st53 hQ53
  subst l53 y53 z53
  obtain ⟨rfl, Nq53, e53⟩ := hQ53
  have N53 := Fr.app N52 Nq53
  refine OW.st (B := T53.setTop (mkF m 48 #[.val (.ref b), .val (.ref ca), .val (.int (0 : Int32)), .val (.int z), .val .null, .val (.ref b52)] [(.int (0 : Int32)), (.ref b)])) (fun _ kk_ => st53 _ kk_) ?_
  obtain ⟨T54, h54, X54, e54, W54, st54⟩ := putFN X53 hx hZ hown (w_31 hw) Via.refl e53 (F2.keep K52 nin0) (E.keep K52) (Or.inr ⟨(w_32 hw), rfl, hnm⟩) (w_6 hw) (ty := .byte) (v' := (.int (0 : Int32))) (by decide) rfl rfl (g := (mkF m 48 #[.val (.ref b), .val (.ref ca), .val (.int (0 : Int32)), .val (.int z), .val .null, .val (.ref b52)] [(.int (0 : Int32)), (.ref b)])) rfl rfl (hb hby d3_48)
  have N54 := Fr.snoc X54 N53 g
  have O54 : Old Z n0 h54 := O52.wr W54 g
  have KC54 : Keep h0 h54 [b] := KC52.wr W54 (Or.inl (List.mem_of_getElem? (i := 0) rfl))
  have F54 : Fld Z h54 b "java/lang/String" "coder" "B" (.int (0 : Int32)) := Fld.same W54 (F2.keep K52 nin0)
  refine OW.st (B := T54.setTop (mkF m 54 #[.val (.ref b), .val (.ref ca), .val (.int (0 : Int32)), .val (.int z), .val .null, .val (.ref b52)] [(.ref b52), (.ref b)])) (fun _ kk_ => st54 _ (XS.aloadN X54.here hx rfl (hb hby d3_51) rfl rfl (XS.aload X54.here hx rfl (hb hby d3_52) rfl rfl kk_))) ?_
  obtain ⟨T55, h55, X55, e55, W55, st55⟩ := putF X54 hx hZ hown (host := "") (Or.inl (w_33 hw)) Via.refl e54 ((F1.keep K52 nin0).other W54 (Or.inr (slot_ne (Or.inr (w_34 hw)) (Or.inr (w_32 hw)) (by decide) (t := (.array .byte)) (t' := .byte) (by decide) (by decide)))) ((E.keep K52).wr W54) (Or.inr ⟨(w_34 hw), rfl, hnm⟩) (w_6 hw) (ty := (.array .byte)) (by decide) rfl rfl (g := (mkF m 54 #[.val (.ref b), .val (.ref ca), .val (.int (0 : Int32)), .val (.int z), .val .null, .val (.ref b52)] [(.ref b52), (.ref b)])) rfl rfl (hb hby d3_54)
  have N55 := Fr.snoc X55 N54 g
  have O55 : Old Z n0 h55 := O54.wr W55 g
  have KC55 : Keep h0 h55 [b] := KC54.wr W55 (Or.inl (List.mem_of_getElem? (i := 0) rfl))
  have F55 : Fld Z h55 b "java/lang/String" "value" "[B" (.ref b52) := Fld.same W55 ((F1.keep K52 nin0).other W54 (Or.inr (slot_ne (Or.inr (w_34 hw)) (Or.inr (w_32 hw)) (by decide) (t := (.array .byte)) (t' := .byte) (by decide) (by decide))))
  refine OW.st (B := T55.setTop (mkF m 57 #[.val (.ref b), .val (.ref ca), .val (.int (0 : Int32)), .val (.int z), .val .null, .val (.ref b52)] [])) (fun _ kk_ => st55 _ kk_) ?_
  exact OW.retV X55 hx hlk Bd.returns (hb hby d3_57) e55 (by decide) (by decide) ⟨rfl, N55, KC55, (((E.keep K52).wr W54).wr W55), b52, kb52, gb52, (Nat.ne_of_lt (Nat.lt_of_lt_of_le E.lt zb52)), (F54.other W55 (Or.inr (slot_ne (Or.inr (w_32 hw)) (Or.inr (w_34 hw)) (by decide) (t := .byte) (t' := (.array .byte)) (by decide) (by decide)))), F55, ((Vb52.other W54 (Ne.symm (Nat.ne_of_lt (Nat.lt_of_lt_of_le E.lt zb52)))).other W55 (Ne.symm (Nat.ne_of_lt (Nat.lt_of_lt_of_le E.lt zb52))))⟩
theorem ef_S00 (m : MethodId) (x0 : Addr) (x1 : Addr) : entryFrame m #[(.ref x0), (.ref x1)] 2 = mkF m 0 #[.val (.ref x0), .val (.ref x1)] [] := by first | (simp [entryFrame, mkF, argsToLocals, Value.category]; done) | rfl
def QS00 (Z : State) (b : Addr) (ca : Addr) (kc : ClassId) (z : Int32) (cs : List Int32) (i_COMPACT_STRINGS : Int32) (v_SIOOBE_FORMATTER : Value) (h0 : Heap) (n0 : Nat) (v : Option Value) (h : Heap) (L : List Loc) : Prop := v = none ∧ Fr n0 L ∧ Keep h0 h [b] ∧ Exa Z h b "java/lang/String" ∧ ∃ (ba : Addr) (kb : ClassId), n0 ≤ ba ∧ b ≠ ba ∧ Fld Z h b "java/lang/String" "coder" "B" (.int (0 : Int32)) ∧ Fld Z h b "java/lang/String" "value" "[B" (.ref ba) ∧ Arv Z h ba kb .byte z (OwnL cs) (.int (0 : Int32))
set_option maxRecDepth 65536 in
set_option maxHeartbeats 40000000 in
theorem rmS00 (l : Launch) (Z : State) (a0 : Array Value) (hw : ∀ d ∈ tables_1, d.before a0 Z = true) (ws : List Jvm.Cond) (b : Addr) (ca : Addr) (kc : ClassId) (z : Int32) (cs : List Int32) (i_COMPACT_STRINGS : Int32) (v_SIOOBE_FORMATTER : Value) (h0 : Heap) (n0 : Nat) (O0 : Old Z n0 h0) (E : Exa Z h0 b "java/lang/String") (F1 : Fld Z h0 b "java/lang/String" "value" "[B" .null) (F2 : Fld Z h0 b "java/lang/String" "coder" "B" (.int (0 : Int32))) (g : n0 ≤ b) (V : Arv Z h0 ca kc .char z (cs.map Value.int) (.int (0 : Int32))) (hz : z.toInt = (cs.length : Int)) (hmax : cs.length ≤ 10) (hpos : 0 < cs.length) (hch : OwnChs cs) (hlat : OwnLat cs) (hS : OwnS Z i_COMPACT_STRINGS v_SIOOBE_FORMATTER) :
    MetFree l (⟨"java/lang/String", "<init>", "([C)V"⟩ : MethodName) (head1 (Jvm.Cond.code (⟨"java/lang/String", "<init>", "([C)V"⟩ : MethodName) jdk_42_method_3_code 2 none :: ws) ({ frames := 3, cells := 1, slots := 10, locals := 52 } : Room)) (fun aa_ UU_ => aa_ = #[(.ref b), (.ref ca)] ∧ Z.Warmed39 UU_.vm ∧ UU_.heap = h0) (fun _ _ _ _ _ => True) (fun _ UU_ oo_ UV_ => ∃ vv_ LL_, oo_ = .returned vv_ ∧ QS00 Z b ca kc z cs i_COMPACT_STRINGS v_SIOOBE_FORMATTER h0 n0 vv_ UV_.heap LL_ ∧ FrameEnd UU_ oo_ UV_ LL_ ({ frames := 3, cells := 1, slots := 10, locals := 52 } : Room).cells ({ frames := 3, cells := 1, slots := 10, locals := 52 } : Room).slots) := by
  refine MetFree.of_bodySF (plainFor_of_name pn_0) hisR ?_
  intro p e s m args below meth c s₁ Bd hml0 hP hK
  obtain ⟨rfl, hZ, hh⟩ := hP
  have hx := Bd.exec
  have hby := Bd.bytes
  have hlk := BodyLoose.notSynchronized Bd
  have hml : c.maxLocals = 2 := hml0
  have hown : s.vm.findClass "java/lang/String" = some m.cls := findClass_of_methodNamed Bd.named
  have hnm := (name_of_methodNamed Bd.named Bd.method).1
  have X0 : Stand p l e ({ frames := 3, cells := 1, slots := 10, locals := 52 } : Room) s m #[(.ref b), (.ref ca)] below meth c s₁ [] 0 0 := Stand.of_body Bd
  have e0 : s₁.heap = h0 := by rw [← hh, Bd.state]; rfl
  have N0 := Fr.nil n0
  have KC0 : Keep h0 h0 [b] := Keep.refl _ _
  suffices hOW : OW p e below s (QS00 Z b ca kc z cs i_COMPACT_STRINGS v_SIOOBE_FORMATTER h0 n0) 1 10 (s₁.setTop (mkF m 0 #[.val (.ref b), .val (.ref ca)] [])) by
    obtain ⟨oq1_, oq2_, oq3_, oq4_⟩ := hOW
    exact ⟨oq1_, oq2_, castTop (ef_S00 m b ca) oq3_, oq4_⟩
  have hS' := hS
  obtain ⟨Si_COMPACT_STRINGS, Sv_SIOOBE_FORMATTER, Rv_SIOOBE_FORMATTER, S__assertionsDisabled, S_HI_BYTE_SHIFT, S_LO_BYTE_SHIFT, Pi_COMPACT_STRINGS⟩ := hS'
  refine OW.st (B := s₁.setTop (mkF m 4 #[.val (.ref b), .val (.ref ca)] [(.ref ca), (.int (0 : Int32)), (.ref ca), (.ref b)])) (fun _ kk_ => XS.aloadN X0.here hx rfl (hb hby d2_0) rfl rfl (XS.aloadN X0.here hx rfl (hb hby d2_1) rfl rfl (XS.iconst X0.here hx rfl (hb hby d2_2) (XS.aloadN X0.here hx rfl (hb hby d2_3) rfl rfl kk_)))) ?_
  obtain ⟨cl56, Ar56, q56, S56, Ng56, Hs56, G56⟩ := id V
  refine OW.st (X0.arraylength hx (by rw [e0]; exact Ar56.1) (State.isArrayOf_alike hZ.alike Ar56.2.1) (g := (mkF m 4 #[.val (.ref b), .val (.ref ca)] [(.ref ca), (.int (0 : Int32)), (.ref ca), (.ref b)])) rfl rfl (hb hby d2_4)) ?_
  rw [len_of S56 Ng56]
  show OW p e below s (QS00 Z b ca kc z cs i_COMPACT_STRINGS v_SIOOBE_FORMATTER h0 n0) 1 10 (s₁.setTop (mkF m 5 #[.val (.ref b), .val (.ref ca)] [(.int z), (.int (0 : Int32)), (.ref ca), (.ref b)]))
  refine OW.st (B := s₁.setTop (mkF m 6 #[.val (.ref b), .val (.ref ca)] [.null, (.int z), (.int (0 : Int32)), (.ref ca), (.ref b)])) (fun _ kk_ => XS.aconstNull X0.here hx rfl (hb hby d2_5) kk_) ?_
  obtain ⟨_, _, ⟨T57, L57, k57, n57⟩, -, X57, ⟨Lc57, hQ57, l57, y57, z57⟩, st57⟩ := X0.specialBack hx (y := (⟨"java/lang/String", "<init>", "([CIILjava/lang/Void;)V"⟩ : MethodName)) rfl hown (mvT hZ (w_12 hw)) (mvT hZ (w_13 hw)) (mvT hZ (w_15 hw)) (by decide) (backOf (W := 0) (rmS10 l Z a0 hw [] b ca kc z cs i_COMPACT_STRINGS v_SIOOBE_FORMATTER h0 n0 O0 E F1 F2 g V hz hmax hpos hch hlat hS) hZ (w_15 hw) (w_7 hw) (by decide) (by decide)) (g := (mkF m 6 #[.val (.ref b), .val (.ref ca)] [.null, (.int z), (.int (0 : Int32)), (.ref ca), (.ref b)])) rfl (by rw [hml]; rfl) (Steps.refl _) (a := b) (argsL := [(.ref ca), (.int (0 : Int32)), (.int z), .null]) (rest := []) (lenOf pd_1 rfl) rfl (by show 2 * 0 + _ ≤ _; exact Nat.le_of_eq rfl) (hb hby d2_6) (fun _ _ => ⟨rfl, e0, (by decide : 0 + 1 ≤ _), (by decide : 0 + 10 ≤ _)⟩)
  dsimp only [Pt.U, Pt.locs, Pt.cells, Pt.slots] at X57 l57 y57 z57 st57 hQ57
  subst l57 y57 z57
  obtain ⟨rfl, Nq57, K57, Es57, ba57, kb57, gba57, nba57, Fc57, Fv57, Vs57⟩ := hQ57
  have N57 := Fr.app N0 Nq57
  have O57 : Old Z n0 T57.heap := O0.keep K57 (allS g all0)
  have KC57 : Keep h0 T57.heap [b] := KC0.trans K57 (allS (Or.inl (List.mem_of_getElem? (i := 0) rfl)) all0)
  refine OW.tr (B := T57.setTop (mkF m 9 #[.val (.ref b), .val (.ref ca)] [])) (st57) ?_
  exact OW.retV X57 hx hlk Bd.returns (hb hby d2_9) rfl (by decide) (by decide) ⟨rfl, N57, KC57, (E.keep K57), ba57, kb57, gba57, nba57, Fc57, Fv57, Vs57⟩
theorem ef_C31 (m : MethodId) (x0 : Addr) (x1 : Int32) (x2 : Int32) : entryFrame m #[(.ref x0), (.int x1), (.int x2)] 6 = mkF m 0 #[.val (.ref x0), .val (.int x1), .val (.int x2), .unset, .unset, .unset] [] := by first | (simp [entryFrame, mkF, argsToLocals, Value.category]; done) | rfl
def QC31 (Z : State) (ca : Addr) (kc : ClassId) (z : Int32) (cs : List Int32) (i_COMPACT_STRINGS : Int32) (v_SIOOBE_FORMATTER : Value) (h0 : Heap) (n0 : Nat) (v : Option Value) (h : Heap) (L : List Loc) : Prop := ∃ (ba : Addr) (kb : ClassId), v = some (.ref ba) ∧ Fr n0 L ∧ Keep h0 h [] ∧ n0 ≤ ba ∧ h0.size ≤ ba ∧ Arv Z h ba kb .byte (z <<< ((1 : Int32) &&& 31)) (OwnU cs) (.int (0 : Int32))
set_option maxRecDepth 65536 in
set_option maxHeartbeats 40000000 in
theorem rmC31 (l : Launch) (Z : State) (a0 : Array Value) (hw : ∀ d ∈ tables_1, d.before a0 Z = true) (ws : List Jvm.Cond) (ca : Addr) (kc : ClassId) (z : Int32) (cs : List Int32) (i_COMPACT_STRINGS : Int32) (v_SIOOBE_FORMATTER : Value) (h0 : Heap) (n0 : Nat) (O0 : Old Z n0 h0) (V : Arv Z h0 ca kc .char z (cs.map Value.int) (.int (0 : Int32))) (hz : z.toInt = (cs.length : Int)) (hmax : cs.length ≤ 10) (hch : OwnChs cs) (hhi : OwnHi cs) (hS : OwnS Z i_COMPACT_STRINGS v_SIOOBE_FORMATTER) :
    MetFree l (⟨"java/lang/StringUTF16", "compress", "([CII)[B"⟩ : MethodName) (head1 (Jvm.Cond.code (⟨"java/lang/StringUTF16", "compress", "([CII)[B"⟩ : MethodName) jdk_52_method_16_code 6 (some (.array .byte)) :: ws) ({ frames := 3, cells := 2, slots := 30, locals := 40 } : Room)) (fun aa_ UU_ => aa_ = #[(.ref ca), (.int (0 : Int32)), (.int z)] ∧ Z.Warmed39 UU_.vm ∧ UU_.heap = h0) (fun _ _ _ _ _ => True) (fun _ UU_ oo_ UV_ => ∃ vv_ LL_, oo_ = .returned vv_ ∧ QC31 Z ca kc z cs i_COMPACT_STRINGS v_SIOOBE_FORMATTER h0 n0 vv_ UV_.heap LL_ ∧ FrameEnd UU_ oo_ UV_ LL_ ({ frames := 3, cells := 2, slots := 30, locals := 40 } : Room).cells ({ frames := 3, cells := 2, slots := 30, locals := 40 } : Room).slots) := by
  refine MetFree.of_bodySF (plainFor_of_name pn_2) hisR ?_
  intro p e s m args below meth c s₁ Bd hml0 hP hK
  obtain ⟨rfl, hZ, hh⟩ := hP
  have hx := Bd.exec
  have hby := Bd.bytes
  have hlk := BodyLoose.notSynchronized Bd
  have hml : c.maxLocals = 6 := hml0
  have hown : s.vm.findClass "java/lang/StringUTF16" = some m.cls := findClass_of_methodNamed Bd.named
  have hnm := (name_of_methodNamed Bd.named Bd.method).1
  have X0 : Stand p l e ({ frames := 3, cells := 2, slots := 30, locals := 40 } : Room) s m #[(.ref ca), (.int (0 : Int32)), (.int z)] below meth c s₁ [] 0 0 := Stand.of_body Bd
  have e0 : s₁.heap = h0 := by rw [← hh, Bd.state]; rfl
  have N0 := Fr.nil n0
  have KC0 : Keep h0 h0 [] := Keep.refl _ _
  suffices hOW : OW p e below s (QC31 Z ca kc z cs i_COMPACT_STRINGS v_SIOOBE_FORMATTER h0 n0) 2 30 (s₁.setTop (mkF m 0 #[.val (.ref ca), .val (.int (0 : Int32)), .val (.int z), .unset, .unset, .unset] [])) by
    obtain ⟨oq1_, oq2_, oq3_, oq4_⟩ := hOW
    exact ⟨oq1_, oq2_, castTop (ef_C31 m ca (0 : Int32) z) oq3_, oq4_⟩
  have hS' := hS
  obtain ⟨Si_COMPACT_STRINGS, Sv_SIOOBE_FORMATTER, Rv_SIOOBE_FORMATTER, S__assertionsDisabled, S_HI_BYTE_SHIFT, S_LO_BYTE_SHIFT, Pi_COMPACT_STRINGS⟩ := hS'
  have hz2 : (z <<< ((1 : Int32) &&& 31)).toInt = ((2 * cs.length : Nat) : Int) := own_dbl hz (by omega)
  refine OW.st (B := s₁.setTop (mkF m 1 #[.val (.ref ca), .val (.int (0 : Int32)), .val (.int z), .unset, .unset, .unset] [(.int z)])) (fun _ kk_ => XS.iloadN X0.here hx rfl (hb hby d5_0) rfl kk_) ?_
  obtain ⟨T58, h58, k58, X58, e58, E58, A58, st58⟩ := newP (aty := .byte) X0 hx hZ (w_24 hw) e0 (g := (mkF m 1 #[.val (.ref ca), .val (.int (0 : Int32)), .val (.int z), .unset, .unset, .unset] [(.int z)])) rfl (hb hby d5_1) rfl (own_nneg hz) (cap := 10) (by rw [own_tn hz]; exact hmax) (by decide) (by decide) (by decide)
  obtain ⟨b58, g58⟩ : ∃ z, z = h0.size := ⟨_, rfl⟩
  rw [← g58] at A58 st58
  have n_b58 : n0 ≤ b58 := Nat.le_trans (own_oldle O0) (Nat.le_of_eq g58.symm)
  have O58 : Old Z n0 h58 := O0.ext E58
  have sz_b58 : h0.size ≤ b58 := Nat.le_trans KC0.1 (Nat.le_of_eq g58.symm)
  have KC58 : Keep h0 h58 [] := KC0.ext E58
  have V58 : Arv Z h58 b58 k58 .byte z (List.replicate cs.length (.int (0 : Int32))) (.int (0 : Int32)) := (Arv.new A58 (own_nneg hz)).pad (pad_rep [] (.int (0 : Int32)) cs.length)
  refine OW.st (B := T58.setTop (mkF m 9 #[.val (.ref ca), .val (.int (0 : Int32)), .val (.int z), .val (.ref b58), .unset, .unset] [(.int z), (.int (0 : Int32)), (.ref b58), (.int (0 : Int32)), (.ref ca)])) (fun _ kk_ => st58 _ (XS.astoreN X58.here hx rfl (hb hby d5_3) rfl rfl (l' := #[.val (.ref ca), .val (.int (0 : Int32)), .val (.int z), .val (.ref b58), .unset, .unset]) rfl (XS.aloadN X58.here hx rfl (hb hby d5_4) rfl rfl (XS.iloadN X58.here hx rfl (hb hby d5_5) rfl (XS.aloadN X58.here hx rfl (hb hby d5_6) rfl rfl (XS.iconst X58.here hx rfl (hb hby d5_7) (XS.iloadN X58.here hx rfl (hb hby d5_8) rfl kk_))))))) ?_
  obtain ⟨_, _, ⟨T59, L59, k59, n59⟩, -, X59, ⟨Lc59, hQ59, l59, y59, z59⟩, st59⟩ := Jvm.LawKit.callS X58 hx (y := (⟨"java/lang/StringUTF16", "compress", "([CI[BII)I"⟩ : MethodName)) hown (mvT hZ (w_25 hw)) (mvT hZ (w_26 hw)) (mvT hZ (w_22 hw)) (mvT hZ (w_27 hw)) (by decide) (backOf (W := 0) (rmC51 l Z a0 hw [] ca kc b58 k58 z cs h58 n0 O58 (V.ext E58) hz hmax V58 n_b58 (Nat.ne_of_lt (Nat.lt_of_lt_of_le V.lt (Nat.le_of_eq g58.symm))) hhi) hZ (w_27 hw) (w_22 hw) (by decide) (by decide)) (g := (mkF m 9 #[.val (.ref ca), .val (.int (0 : Int32)), .val (.int z), .val (.ref b58), .unset, .unset] [(.int z), (.int (0 : Int32)), (.ref b58), (.int (0 : Int32)), (.ref ca)])) rfl (by rw [hml]; rfl) (argsL := [(.ref ca), (.int (0 : Int32)), (.ref b58), (.int (0 : Int32)), (.int z)]) (rest := []) (lenOf pd_5 rfl) rfl (by show 2 * 0 + _ ≤ _; exact Nat.le_of_eq rfl) (hb hby d5_9) (fun _ _ => ⟨rfl, e58, (by decide : 1 + 0 ≤ _), (by decide : 10 + 0 ≤ _)⟩)
  dsimp only [Pt.U, Pt.locs, Pt.cells, Pt.slots] at X59 l59 y59 z59 st59 hQ59
  subst l59 y59 z59
  obtain ⟨i59, mm59, cc59, rfl, Nq59, K59, hi59, hcc59, hgt59⟩ := hQ59
  have N59 := Fr.app N0 Nq59
  have O59 : Old Z n0 T59.heap := O58.keep K59 (allS n_b58 all0)
  have KC59 : Keep h0 T59.heap [] := KC58.trans K59 (allS (Or.inr sz_b58) all0)
  refine OW.st (B := T59.setTop (mkF m 23 #[.val (.ref ca), .val (.int (0 : Int32)), .val (.int z), .val (.ref b58), .val (.int i59), .unset] [(.int z), (.int (0 : Int32)), (.ref ca)])) (fun _ kk_ => st59 _ (XS.istore X59.here hx rfl (hb hby d5_12) rfl (l' := #[.val (.ref ca), .val (.int (0 : Int32)), .val (.int z), .val (.ref b58), .val (.int i59), .unset]) rfl (XS.iload X59.here hx rfl (hb hby d5_14) rfl (XS.iloadN X59.here hx rfl (hb hby d5_16) rfl (XS.icmpNo X59.here hx rfl (hb hby d5_17) rfl (feq (own_neI hi59 hz (List.getElem?_eq_some_iff.mp hcc59).1)).1 (XS.aloadN X59.here hx rfl (hb hby d5_20) rfl rfl (XS.iloadN X59.here hx rfl (hb hby d5_21) rfl (XS.iloadN X59.here hx rfl (hb hby d5_22) rfl kk_)))))))) ?_
  obtain ⟨_, _, ⟨T60, L60, k60, n60⟩, -, X60, ⟨Lc60, hQ60, l60, y60, z60⟩, st60⟩ := Jvm.LawKit.callS X59 hx (y := (⟨"java/lang/StringUTF16", "toBytes", "([CII)[B"⟩ : MethodName)) hown (mvT hZ (w_105 hw)) (mvT hZ (w_106 hw)) (mvT hZ (w_22 hw)) (mvT hZ (w_107 hw)) (by decide) (backOf (W := 0) (rmTB l Z a0 hw [] ca kc z cs i_COMPACT_STRINGS v_SIOOBE_FORMATTER T59.heap n0 O59 ((V.ext E58).keep K59 (ninS (Nat.ne_of_lt (Nat.lt_of_lt_of_le V.lt (Nat.le_of_eq g58.symm))) nin0)) hz hmax hS) hZ (w_107 hw) (w_22 hw) (by decide) (by decide)) (g := (mkF m 23 #[.val (.ref ca), .val (.int (0 : Int32)), .val (.int z), .val (.ref b58), .val (.int i59), .unset] [(.int z), (.int (0 : Int32)), (.ref ca)])) rfl (by rw [hml]; rfl) (argsL := [(.ref ca), (.int (0 : Int32)), (.int z)]) (rest := []) (lenOf pd_6 rfl) rfl (by show 2 * 0 + _ ≤ _; exact Nat.le_of_eq rfl) (hb hby d5_23) (fun _ _ => ⟨rfl, rfl, (by decide : 1 + 1 ≤ _), (by decide : 10 + 20 ≤ _)⟩)
  dsimp only [Pt.U, Pt.locs, Pt.cells, Pt.slots] at X60 l60 y60 z60 st60 hQ60
  subst l60 y60 z60
  obtain ⟨b60, kb60, rfl, Nq60, K60, gb60, zb60, Vb60⟩ := hQ60
  have N60 := Fr.app N59 Nq60
  have O60 : Old Z n0 T60.heap := O59.keep K60 all0
  have KC60 : Keep h0 T60.heap [] := KC59.trans K60 all0
  have sz_b60 : h0.size ≤ b60 := Nat.le_trans KC59.1 zb60
  refine OW.st (B := T60.setTop (mkF m 32 #[.val (.ref ca), .val (.int (0 : Int32)), .val (.int z), .val (.ref b58), .val (.int i59), .val (.ref b60)] [(.int i59), (.ref b60)])) (fun _ kk_ => st60 _ (XS.astore X60.here hx rfl (hb hby d5_26) rfl rfl (l' := #[.val (.ref ca), .val (.int (0 : Int32)), .val (.int z), .val (.ref b58), .val (.int i59), .val (.ref b60)]) rfl (XS.aload X60.here hx rfl (hb hby d5_28) rfl rfl (XS.iload X60.here hx rfl (hb hby d5_30) rfl kk_)))) ?_
  obtain ⟨_, _, ⟨T61, L61, k61, n61⟩, -, X61, ⟨Lc61, hQ61, l61, y61, z61⟩, st61⟩ := Jvm.LawKit.callS X60 hx (y := (⟨"java/lang/StringUTF16", "getChar", "([BI)C"⟩ : MethodName)) hown (mvT hZ (w_121 hw)) (mvT hZ (w_122 hw)) (mvT hZ (w_22 hw)) (mvT hZ (w_123 hw)) (by decide) (backOf (W := 0) (rmGC l Z a0 hw [] b60 kb60 (z <<< ((1 : Int32) &&& 31)) cs i59 mm59 cc59 i_COMPACT_STRINGS v_SIOOBE_FORMATTER T60.heap n0 O60 Vb60 hz2 hmax hi59 hcc59 (hch _ (List.mem_of_getElem? hcc59)) hS) hZ (w_123 hw) (w_22 hw) (by decide) (by decide)) (g := (mkF m 32 #[.val (.ref ca), .val (.int (0 : Int32)), .val (.int z), .val (.ref b58), .val (.int i59), .val (.ref b60)] [(.int i59), (.ref b60)])) rfl (by rw [hml]; rfl) (argsL := [(.ref b60), (.int i59)]) (rest := []) (lenOf pd_8 rfl) rfl (by show 2 * 0 + _ ≤ _; exact Nat.le_of_eq rfl) (hb hby d5_32) (fun _ _ => ⟨rfl, rfl, (by decide : 2 + 0 ≤ _), (by decide : 30 + 0 ≤ _)⟩)
  dsimp only [Pt.U, Pt.locs, Pt.cells, Pt.slots] at X61 l61 y61 z61 st61 hQ61
  subst l61 y61 z61
  obtain ⟨rfl, Nq61, e61⟩ := hQ61
  have N61 := Fr.app N60 Nq61
  refine OW.st (B := T61.setTop (mkF m 56 #[.val (.ref ca), .val (.int (0 : Int32)), .val (.int z), .val (.ref b58), .val (.int i59), .val (.ref b60)] [(.ref b60)])) (fun _ kk_ => st61 _ (XS.sipush X61.here hx rfl (hb hby d5_35) (XS.icmpYes X61.here hx rfl (pc0 := 38) (pc' := 54) rfl (hb hby d5_38) rfl (tlt hgt59).2.2.1 (by decide) (by decide) (XS.aload X61.here hx rfl (hb hby d5_54) rfl rfl kk_)))) ?_
  exact OW.ret X61 hx hlk (i := .areturn) Bd.returns rfl (Or.inr (Or.inr (Or.inr (Or.inr ⟨rfl, rfl, rfl⟩)))) (hb hby d5_56) e61 (by decide) (by decide) ⟨b60, kb60, rfl, N61, KC60, gb60, sz_b60, Vb60⟩
theorem ef_CL1 (m : MethodId) (x0 : Addr) (x1 : Int32) : entryFrame m #[(.ref x0), (.int x1)] 2 = mkF m 0 #[.val (.ref x0), .val (.int x1)] [] := by first | (simp [entryFrame, mkF, argsToLocals, Value.category]; done) | rfl
def QCL1 (Z : State) (ba : Addr) (kb : ClassId) (z : Int32) (cs : List Int32) (h0 : Heap) (n0 : Nat) (v : Option Value) (h : Heap) (L : List Loc) : Prop := v = some (.int (1 : Int32)) ∧ Fr n0 L ∧ h = h0
set_option maxRecDepth 65536 in
set_option maxHeartbeats 40000000 in
theorem rmCL1 (l : Launch) (Z : State) (a0 : Array Value) (hw : ∀ d ∈ tables_1, d.before a0 Z = true) (ws : List Jvm.Cond) (ba : Addr) (kb : ClassId) (z : Int32) (cs : List Int32) (h0 : Heap) (n0 : Nat) (O0 : Old Z n0 h0) (B : Arv Z h0 ba kb .byte (z <<< ((1 : Int32) &&& 31)) (OwnU cs) (.int (0 : Int32))) (hz : z.toInt = (cs.length : Int)) (hmax : cs.length ≤ 10) (hpos : 0 < cs.length) :
    MetFree l (⟨"java/lang/StringUTF16", "coderFromArrayLen", "([BI)B"⟩ : MethodName) (head1 (Jvm.Cond.code (⟨"java/lang/StringUTF16", "coderFromArrayLen", "([BI)B"⟩ : MethodName) jdk_52_method_15_code 2 (some .byte) :: ws) ({ frames := 0, cells := 0, slots := 0, locals := 0 } : Room)) (fun aa_ UU_ => aa_ = #[(.ref ba), (.int z)] ∧ Z.Warmed39 UU_.vm ∧ UU_.heap = h0) (fun _ _ _ _ _ => True) (fun _ UU_ oo_ UV_ => ∃ vv_ LL_, oo_ = .returned vv_ ∧ QCL1 Z ba kb z cs h0 n0 vv_ UV_.heap LL_ ∧ FrameEnd UU_ oo_ UV_ LL_ ({ frames := 0, cells := 0, slots := 0, locals := 0 } : Room).cells ({ frames := 0, cells := 0, slots := 0, locals := 0 } : Room).slots) := by
  refine MetFree.of_bodySF (plainFor_of_name pn_2) hisR ?_
  intro p e s m args below meth c s₁ Bd hml0 hP hK
  obtain ⟨rfl, hZ, hh⟩ := hP
  have hx := Bd.exec
  have hby := Bd.bytes
  have hlk := BodyLoose.notSynchronized Bd
  have hml : c.maxLocals = 2 := hml0
  have hown : s.vm.findClass "java/lang/StringUTF16" = some m.cls := findClass_of_methodNamed Bd.named
  have hnm := (name_of_methodNamed Bd.named Bd.method).1
  have X0 : Stand p l e ({ frames := 0, cells := 0, slots := 0, locals := 0 } : Room) s m #[(.ref ba), (.int z)] below meth c s₁ [] 0 0 := Stand.of_body Bd
  have e0 : s₁.heap = h0 := by rw [← hh, Bd.state]; rfl
  have N0 := Fr.nil n0
  suffices hOW : OW p e below s (QCL1 Z ba kb z cs h0 n0) 0 0 (s₁.setTop (mkF m 0 #[.val (.ref ba), .val (.int z)] [])) by
    obtain ⟨oq1_, oq2_, oq3_, oq4_⟩ := hOW
    exact ⟨oq1_, oq2_, castTop (ef_CL1 m ba z) oq3_, oq4_⟩
  refine OW.st (B := s₁.setTop (mkF m 2 #[.val (.ref ba), .val (.int z)] [(.ref ba), (.int z)])) (fun _ kk_ => XS.iloadN X0.here hx rfl (hb hby d7_0) rfl (XS.aloadN X0.here hx rfl (hb hby d7_1) rfl rfl kk_)) ?_
  obtain ⟨cl62, Ar62, q62, S62, Ng62, Hs62, G62⟩ := id B
  refine OW.st (X0.arraylength hx (by rw [e0]; exact Ar62.1) (State.isArrayOf_alike hZ.alike Ar62.2.1) (g := (mkF m 2 #[.val (.ref ba), .val (.int z)] [(.ref ba), (.int z)])) rfl rfl (hb hby d7_2)) ?_
  rw [len_of S62 Ng62]
  show OW p e below s (QCL1 Z ba kb z cs h0 n0) 0 0 (s₁.setTop (mkF m 3 #[.val (.ref ba), .val (.int z)] [(.int (z <<< ((1 : Int32) &&& 31))), (.int z)]))
  refine OW.st (B := s₁.setTop (mkF m 8 #[.val (.ref ba), .val (.int z)] [(.int ((((z - (z <<< ((1 : Int32) &&& 31))).toUInt32 >>> ((31 : Int32) &&& 31).toUInt32).toInt32).toInt8.toInt32))])) (fun _ kk_ => XS.isub X0.here hx rfl (hb hby d7_3) rfl (XS.bipush X0.here hx rfl (hb hby d7_4) (XS.iushr X0.here hx rfl (hb hby d7_6) rfl (XS.i2b X0.here hx rfl (hb hby d7_7) rfl kk_)))) ?_
  exact OW.ret X0 hx hlk (i := .ireturn) Bd.returns (by rw [own_clU hz hpos (by omega)]; rfl) (Or.inl ⟨rfl, Or.inr (Or.inr (Or.inl rfl)), _, rfl⟩) (hb hby d7_8) e0 (by decide) (by decide) ⟨congrArg (fun z => some (Value.int z)) (own_clU hz hpos (by omega)), N0, rfl⟩
theorem ef_S11 (m : MethodId) (x0 : Addr) (x1 : Addr) (x2 : Int32) (x3 : Int32) : entryFrame m #[(.ref x0), (.ref x1), (.int x2), (.int x3), .null] 6 = mkF m 0 #[.val (.ref x0), .val (.ref x1), .val (.int x2), .val (.int x3), .val .null, .unset] [] := by first | (simp [entryFrame, mkF, argsToLocals, Value.category]; done) | rfl
def QS11 (Z : State) (b : Addr) (ca : Addr) (kc : ClassId) (z : Int32) (cs : List Int32) (i_COMPACT_STRINGS : Int32) (v_SIOOBE_FORMATTER : Value) (h0 : Heap) (n0 : Nat) (v : Option Value) (h : Heap) (L : List Loc) : Prop := v = none ∧ Fr n0 L ∧ Keep h0 h [b] ∧ Exa Z h b "java/lang/String" ∧ ∃ (ba : Addr) (kb : ClassId), n0 ≤ ba ∧ b ≠ ba ∧ Fld Z h b "java/lang/String" "coder" "B" (.int (1 : Int32)) ∧ Fld Z h b "java/lang/String" "value" "[B" (.ref ba) ∧ Arv Z h ba kb .byte (z <<< ((1 : Int32) &&& 31)) (OwnU cs) (.int (0 : Int32))
set_option maxRecDepth 65536 in
set_option maxHeartbeats 40000000 in
theorem rmS11 (l : Launch) (Z : State) (a0 : Array Value) (hw : ∀ d ∈ tables_1, d.before a0 Z = true) (ws : List Jvm.Cond) (b : Addr) (ca : Addr) (kc : ClassId) (z : Int32) (cs : List Int32) (i_COMPACT_STRINGS : Int32) (v_SIOOBE_FORMATTER : Value) (h0 : Heap) (n0 : Nat) (O0 : Old Z n0 h0) (E : Exa Z h0 b "java/lang/String") (F1 : Fld Z h0 b "java/lang/String" "value" "[B" .null) (F2 : Fld Z h0 b "java/lang/String" "coder" "B" (.int (0 : Int32))) (g : n0 ≤ b) (V : Arv Z h0 ca kc .char z (cs.map Value.int) (.int (0 : Int32))) (hz : z.toInt = (cs.length : Int)) (hmax : cs.length ≤ 10) (hpos : 0 < cs.length) (hch : OwnChs cs) (hhi : OwnHi cs) (hS : OwnS Z i_COMPACT_STRINGS v_SIOOBE_FORMATTER) :
    MetFree l (⟨"java/lang/String", "<init>", "([CIILjava/lang/Void;)V"⟩ : MethodName) (head1 (Jvm.Cond.code (⟨"java/lang/String", "<init>", "([CIILjava/lang/Void;)V"⟩ : MethodName) jdk_42_method_149_code 6 none :: ws) ({ frames := 4, cells := 2, slots := 30, locals := 57 } : Room)) (fun aa_ UU_ => aa_ = #[(.ref b), (.ref ca), (.int (0 : Int32)), (.int z), .null] ∧ Z.Warmed39 UU_.vm ∧ UU_.heap = h0) (fun _ _ _ _ _ => True) (fun _ UU_ oo_ UV_ => ∃ vv_ LL_, oo_ = .returned vv_ ∧ QS11 Z b ca kc z cs i_COMPACT_STRINGS v_SIOOBE_FORMATTER h0 n0 vv_ UV_.heap LL_ ∧ FrameEnd UU_ oo_ UV_ LL_ ({ frames := 4, cells := 2, slots := 30, locals := 57 } : Room).cells ({ frames := 4, cells := 2, slots := 30, locals := 57 } : Room).slots) := by
  refine MetFree.of_bodySF (plainFor_of_name pn_0) hisR ?_
  intro p e s m args below meth c s₁ Bd hml0 hP hK
  obtain ⟨rfl, hZ, hh⟩ := hP
  have hx := Bd.exec
  have hby := Bd.bytes
  have hlk := BodyLoose.notSynchronized Bd
  have hml : c.maxLocals = 6 := hml0
  have hown : s.vm.findClass "java/lang/String" = some m.cls := findClass_of_methodNamed Bd.named
  have hnm := (name_of_methodNamed Bd.named Bd.method).1
  have X0 : Stand p l e ({ frames := 4, cells := 2, slots := 30, locals := 57 } : Room) s m #[(.ref b), (.ref ca), (.int (0 : Int32)), (.int z), .null] below meth c s₁ [] 0 0 := Stand.of_body Bd
  have e0 : s₁.heap = h0 := by rw [← hh, Bd.state]; rfl
  have N0 := Fr.nil n0
  have KC0 : Keep h0 h0 [b] := Keep.refl _ _
  suffices hOW : OW p e below s (QS11 Z b ca kc z cs i_COMPACT_STRINGS v_SIOOBE_FORMATTER h0 n0) 2 30 (s₁.setTop (mkF m 0 #[.val (.ref b), .val (.ref ca), .val (.int (0 : Int32)), .val (.int z), .val .null, .unset] [])) by
    obtain ⟨oq1_, oq2_, oq3_, oq4_⟩ := hOW
    exact ⟨oq1_, oq2_, castTop (ef_S11 m b ca (0 : Int32) z) oq3_, oq4_⟩
  have hS' := hS
  obtain ⟨Si_COMPACT_STRINGS, Sv_SIOOBE_FORMATTER, Rv_SIOOBE_FORMATTER, S__assertionsDisabled, S_HI_BYTE_SHIFT, S_LO_BYTE_SHIFT, Pi_COMPACT_STRINGS⟩ := hS'
  refine OW.st (B := s₁.setTop (mkF m 1 #[.val (.ref b), .val (.ref ca), .val (.int (0 : Int32)), .val (.int z), .val .null, .unset] [(.ref b)])) (fun _ kk_ => XS.aloadN X0.here hx rfl (hb hby d3_0) rfl rfl kk_) ?_
  obtain ⟨T63, X63, e63, st63⟩ := initO X0 hx hZ hown (w_16 hw) (w_17 hw) (w_18 hw) e0 (g := (mkF m 1 #[.val (.ref b), .val (.ref ca), .val (.int (0 : Int32)), .val (.int z), .val .null, .unset] [(.ref b)])) rfl (by rw [hml]; rfl) rfl (hb hby d3_1) (by decide) (W := 0) (by show 2 * 0 + _ ≤ _; exact Nat.le_of_eq rfl) (by decide)
  refine OW.st (B := T63.setTop (mkF m 27 #[.val (.ref b), .val (.ref ca), .val (.int (0 : Int32)), .val (.int z), .val .null, .unset] [])) (fun _ kk_ => st63 _ (XS.iloadN X63.here hx rfl (hb hby d3_4) rfl (XS.ifYes X63.here hx rfl (pc0 := 5) (pc' := 27) rfl (hb hby d3_5) rfl ((if0 _ _).trans (feq (own_n0 hz hpos)).2) (by decide) (by decide) kk_))) ?_
  obtain ⟨T64, X64, e64, st64⟩ := getS2 X63 hx hZ hown (host := "") (Or.inl (w_19 hw)) Via.refl e63 (Si_COMPACT_STRINGS.ext O0.2) (g := (mkF m 27 #[.val (.ref b), .val (.ref ca), .val (.int (0 : Int32)), .val (.int z), .val .null, .unset] [])) rfl (hb hby d3_27)
  refine OW.st (B := T64.setTop (mkF m 36 #[.val (.ref b), .val (.ref ca), .val (.int (0 : Int32)), .val (.int z), .val .null, .unset] [(.int z), (.int (0 : Int32)), (.ref ca)])) (fun _ kk_ => st64 _ (XS.ifNo X64.here hx rfl (hb hby d3_30) rfl ((if0 _ _).trans (feq Pi_COMPACT_STRINGS).1) (XS.aloadN X64.here hx rfl (hb hby d3_33) rfl rfl (XS.iloadN X64.here hx rfl (hb hby d3_34) rfl (XS.iloadN X64.here hx rfl (hb hby d3_35) rfl kk_))))) ?_
  obtain ⟨_, _, ⟨T65, L65, k65, n65⟩, -, X65, ⟨Lc65, hQ65, l65, y65, z65⟩, st65⟩ := Jvm.LawKit.callS X64 hx (y := (⟨"java/lang/StringUTF16", "compress", "([CII)[B"⟩ : MethodName)) hown (mvT hZ (w_20 hw)) (mvT hZ (w_21 hw)) (mvT hZ (w_22 hw)) (mvT hZ (w_23 hw)) (by decide) (backOf (W := 0) (rmC31 l Z a0 hw [] ca kc z cs i_COMPACT_STRINGS v_SIOOBE_FORMATTER h0 n0 O0 V hz hmax hch hhi hS) hZ (w_23 hw) (w_22 hw) (by decide) (by decide)) (g := (mkF m 36 #[.val (.ref b), .val (.ref ca), .val (.int (0 : Int32)), .val (.int z), .val .null, .unset] [(.int z), (.int (0 : Int32)), (.ref ca)])) rfl (by rw [hml]; rfl) (argsL := [(.ref ca), (.int (0 : Int32)), (.int z)]) (rest := []) (lenOf pd_6 rfl) rfl (by show 2 * 0 + _ ≤ _; exact Nat.le_of_eq rfl) (hb hby d3_36) (fun _ _ => ⟨rfl, e64, (by decide : 0 + 2 ≤ _), (by decide : 0 + 30 ≤ _)⟩)
  dsimp only [Pt.U, Pt.locs, Pt.cells, Pt.slots] at X65 l65 y65 z65 st65 hQ65
  subst l65 y65 z65
  obtain ⟨b65, kb65, rfl, Nq65, K65, gb65, zb65, Vb65⟩ := hQ65
  have N65 := Fr.app N0 Nq65
  have O65 : Old Z n0 T65.heap := O0.keep K65 all0
  have KC65 : Keep h0 T65.heap [b] := KC0.trans K65 all0
  have sz_b65 : h0.size ≤ b65 := Nat.le_trans KC0.1 zb65
  refine OW.st (B := T65.setTop (mkF m 45 #[.val (.ref b), .val (.ref ca), .val (.int (0 : Int32)), .val (.int z), .val .null, .val (.ref b65)] [(.int z), (.ref b65), (.ref b)])) (fun _ kk_ => st65 _ (XS.astore X65.here hx rfl (hb hby d3_39) rfl rfl (l' := #[.val (.ref b), .val (.ref ca), .val (.int (0 : Int32)), .val (.int z), .val .null, .val (.ref b65)]) rfl (XS.aloadN X65.here hx rfl (hb hby d3_41) rfl rfl (XS.aload X65.here hx rfl (hb hby d3_42) rfl rfl (XS.iloadN X65.here hx rfl (hb hby d3_44) rfl kk_))))) ?_
  obtain ⟨_, _, ⟨T66, L66, k66, n66⟩, -, X66, ⟨Lc66, hQ66, l66, y66, z66⟩, st66⟩ := Jvm.LawKit.callS X65 hx (y := (⟨"java/lang/StringUTF16", "coderFromArrayLen", "([BI)B"⟩ : MethodName)) hown (mvT hZ (w_28 hw)) (mvT hZ (w_29 hw)) (mvT hZ (w_22 hw)) (mvT hZ (w_30 hw)) (by decide) (backOf (W := 1) (rmCL1 l Z a0 hw [] b65 kb65 z cs T65.heap n0 O65 Vb65 hz hmax hpos) hZ (w_30 hw) (w_22 hw) (by decide) (by decide)) (g := (mkF m 45 #[.val (.ref b), .val (.ref ca), .val (.int (0 : Int32)), .val (.int z), .val .null, .val (.ref b65)] [(.int z), (.ref b65), (.ref b)])) rfl (by rw [hml]; rfl) (argsL := [(.ref b65), (.int z)]) (rest := [(.ref b)]) (lenOf pd_7 rfl) rfl (by show 2 * 0 + _ ≤ _; exact Nat.le_of_eq rfl) (hb hby d3_45) (fun _ _ => ⟨rfl, rfl, (by decide : 2 + 0 ≤ _), (by decide : 30 + 0 ≤ _)⟩)
  dsimp only [Pt.U, Pt.locs, Pt.cells, Pt.slots] at X66 l66 y66 z66 st66 hQ66
  subst l66 y66 z66
  obtain ⟨rfl, Nq66, e66⟩ := hQ66
  have N66 := Fr.app N65 Nq66
  refine OW.st (B := T66.setTop (mkF m 48 #[.val (.ref b), .val (.ref ca), .val (.int (0 : Int32)), .val (.int z), .val .null, .val (.ref b65)] [(.int (1 : Int32)), (.ref b)])) (fun _ kk_ => st66 _ kk_) ?_
  obtain ⟨T67, h67, X67, e67, W67, st67⟩ := putFN X66 hx hZ hown (w_31 hw) Via.refl e66 (F2.keep K65 nin0) (E.keep K65) (Or.inr ⟨(w_32 hw), rfl, hnm⟩) (w_6 hw) (ty := .byte) (v' := (.int (1 : Int32))) (by decide) rfl rfl (g := (mkF m 48 #[.val (.ref b), .val (.ref ca), .val (.int (0 : Int32)), .val (.int z), .val .null, .val (.ref b65)] [(.int (1 : Int32)), (.ref b)])) rfl rfl (hb hby d3_48)
  have N67 := Fr.snoc X67 N66 g
  have O67 : Old Z n0 h67 := O65.wr W67 g
  have KC67 : Keep h0 h67 [b] := KC65.wr W67 (Or.inl (List.mem_of_getElem? (i := 0) rfl))
  have F67 : Fld Z h67 b "java/lang/String" "coder" "B" (.int (1 : Int32)) := Fld.same W67 (F2.keep K65 nin0)
  refine OW.st (B := T67.setTop (mkF m 54 #[.val (.ref b), .val (.ref ca), .val (.int (0 : Int32)), .val (.int z), .val .null, .val (.ref b65)] [(.ref b65), (.ref b)])) (fun _ kk_ => st67 _ (XS.aloadN X67.here hx rfl (hb hby d3_51) rfl rfl (XS.aload X67.here hx rfl (hb hby d3_52) rfl rfl kk_))) ?_
  obtain ⟨T68, h68, X68, e68, W68, st68⟩ := putF X67 hx hZ hown (host := "") (Or.inl (w_33 hw)) Via.refl e67 ((F1.keep K65 nin0).other W67 (Or.inr (slot_ne (Or.inr (w_34 hw)) (Or.inr (w_32 hw)) (by decide) (t := (.array .byte)) (t' := .byte) (by decide) (by decide)))) ((E.keep K65).wr W67) (Or.inr ⟨(w_34 hw), rfl, hnm⟩) (w_6 hw) (ty := (.array .byte)) (by decide) rfl rfl (g := (mkF m 54 #[.val (.ref b), .val (.ref ca), .val (.int (0 : Int32)), .val (.int z), .val .null, .val (.ref b65)] [(.ref b65), (.ref b)])) rfl rfl (hb hby d3_54)
  have N68 := Fr.snoc X68 N67 g
  have O68 : Old Z n0 h68 := O67.wr W68 g
  have KC68 : Keep h0 h68 [b] := KC67.wr W68 (Or.inl (List.mem_of_getElem? (i := 0) rfl))
  have F68 : Fld Z h68 b "java/lang/String" "value" "[B" (.ref b65) := Fld.same W68 ((F1.keep K65 nin0).other W67 (Or.inr (slot_ne (Or.inr (w_34 hw)) (Or.inr (w_32 hw)) (by decide) (t := (.array .byte)) (t' := .byte) (by decide) (by decide))))
  refine OW.st (B := T68.setTop (mkF m 57 #[.val (.ref b), .val (.ref ca), .val (.int (0 : Int32)), .val (.int z), .val .null, .val (.ref b65)] [])) (fun _ kk_ => st68 _ kk_) ?_
  exact OW.retV X68 hx hlk Bd.returns (hb hby d3_57) e68 (by decide) (by decide) ⟨rfl, N68, KC68, (((E.keep K65).wr W67).wr W68), b65, kb65, gb65, (Nat.ne_of_lt (Nat.lt_of_lt_of_le E.lt zb65)), (F67.other W68 (Or.inr (slot_ne (Or.inr (w_32 hw)) (Or.inr (w_34 hw)) (by decide) (t := .byte) (t' := (.array .byte)) (by decide) (by decide)))), F68, ((Vb65.other W67 (Ne.symm (Nat.ne_of_lt (Nat.lt_of_lt_of_le E.lt zb65)))).other W68 (Ne.symm (Nat.ne_of_lt (Nat.lt_of_lt_of_le E.lt zb65))))⟩
theorem ef_S01 (m : MethodId) (x0 : Addr) (x1 : Addr) : entryFrame m #[(.ref x0), (.ref x1)] 2 = mkF m 0 #[.val (.ref x0), .val (.ref x1)] [] := by first | (simp [entryFrame, mkF, argsToLocals, Value.category]; done) | rfl
def QS01 (Z : State) (b : Addr) (ca : Addr) (kc : ClassId) (z : Int32) (cs : List Int32) (i_COMPACT_STRINGS : Int32) (v_SIOOBE_FORMATTER : Value) (h0 : Heap) (n0 : Nat) (v : Option Value) (h : Heap) (L : List Loc) : Prop := v = none ∧ Fr n0 L ∧ Keep h0 h [b] ∧ Exa Z h b "java/lang/String" ∧ ∃ (ba : Addr) (kb : ClassId), n0 ≤ ba ∧ b ≠ ba ∧ Fld Z h b "java/lang/String" "coder" "B" (.int (1 : Int32)) ∧ Fld Z h b "java/lang/String" "value" "[B" (.ref ba) ∧ Arv Z h ba kb .byte (z <<< ((1 : Int32) &&& 31)) (OwnU cs) (.int (0 : Int32))
set_option maxRecDepth 65536 in
set_option maxHeartbeats 40000000 in
theorem rmS01 (l : Launch) (Z : State) (a0 : Array Value) (hw : ∀ d ∈ tables_1, d.before a0 Z = true) (ws : List Jvm.Cond) (b : Addr) (ca : Addr) (kc : ClassId) (z : Int32) (cs : List Int32) (i_COMPACT_STRINGS : Int32) (v_SIOOBE_FORMATTER : Value) (h0 : Heap) (n0 : Nat) (O0 : Old Z n0 h0) (E : Exa Z h0 b "java/lang/String") (F1 : Fld Z h0 b "java/lang/String" "value" "[B" .null) (F2 : Fld Z h0 b "java/lang/String" "coder" "B" (.int (0 : Int32))) (g : n0 ≤ b) (V : Arv Z h0 ca kc .char z (cs.map Value.int) (.int (0 : Int32))) (hz : z.toInt = (cs.length : Int)) (hmax : cs.length ≤ 10) (hpos : 0 < cs.length) (hch : OwnChs cs) (hhi : OwnHi cs) (hS : OwnS Z i_COMPACT_STRINGS v_SIOOBE_FORMATTER) :
    MetFree l (⟨"java/lang/String", "<init>", "([C)V"⟩ : MethodName) (head1 (Jvm.Cond.code (⟨"java/lang/String", "<init>", "([C)V"⟩ : MethodName) jdk_42_method_3_code 2 none :: ws) ({ frames := 5, cells := 2, slots := 30, locals := 74 } : Room)) (fun aa_ UU_ => aa_ = #[(.ref b), (.ref ca)] ∧ Z.Warmed39 UU_.vm ∧ UU_.heap = h0) (fun _ _ _ _ _ => True) (fun _ UU_ oo_ UV_ => ∃ vv_ LL_, oo_ = .returned vv_ ∧ QS01 Z b ca kc z cs i_COMPACT_STRINGS v_SIOOBE_FORMATTER h0 n0 vv_ UV_.heap LL_ ∧ FrameEnd UU_ oo_ UV_ LL_ ({ frames := 5, cells := 2, slots := 30, locals := 74 } : Room).cells ({ frames := 5, cells := 2, slots := 30, locals := 74 } : Room).slots) := by
  refine MetFree.of_bodySF (plainFor_of_name pn_0) hisR ?_
  intro p e s m args below meth c s₁ Bd hml0 hP hK
  obtain ⟨rfl, hZ, hh⟩ := hP
  have hx := Bd.exec
  have hby := Bd.bytes
  have hlk := BodyLoose.notSynchronized Bd
  have hml : c.maxLocals = 2 := hml0
  have hown : s.vm.findClass "java/lang/String" = some m.cls := findClass_of_methodNamed Bd.named
  have hnm := (name_of_methodNamed Bd.named Bd.method).1
  have X0 : Stand p l e ({ frames := 5, cells := 2, slots := 30, locals := 74 } : Room) s m #[(.ref b), (.ref ca)] below meth c s₁ [] 0 0 := Stand.of_body Bd
  have e0 : s₁.heap = h0 := by rw [← hh, Bd.state]; rfl
  have N0 := Fr.nil n0
  have KC0 : Keep h0 h0 [b] := Keep.refl _ _
  suffices hOW : OW p e below s (QS01 Z b ca kc z cs i_COMPACT_STRINGS v_SIOOBE_FORMATTER h0 n0) 2 30 (s₁.setTop (mkF m 0 #[.val (.ref b), .val (.ref ca)] [])) by
    obtain ⟨oq1_, oq2_, oq3_, oq4_⟩ := hOW
    exact ⟨oq1_, oq2_, castTop (ef_S01 m b ca) oq3_, oq4_⟩
  have hS' := hS
  obtain ⟨Si_COMPACT_STRINGS, Sv_SIOOBE_FORMATTER, Rv_SIOOBE_FORMATTER, S__assertionsDisabled, S_HI_BYTE_SHIFT, S_LO_BYTE_SHIFT, Pi_COMPACT_STRINGS⟩ := hS'
  refine OW.st (B := s₁.setTop (mkF m 4 #[.val (.ref b), .val (.ref ca)] [(.ref ca), (.int (0 : Int32)), (.ref ca), (.ref b)])) (fun _ kk_ => XS.aloadN X0.here hx rfl (hb hby d2_0) rfl rfl (XS.aloadN X0.here hx rfl (hb hby d2_1) rfl rfl (XS.iconst X0.here hx rfl (hb hby d2_2) (XS.aloadN X0.here hx rfl (hb hby d2_3) rfl rfl kk_)))) ?_
  obtain ⟨cl69, Ar69, q69, S69, Ng69, Hs69, G69⟩ := id V
  refine OW.st (X0.arraylength hx (by rw [e0]; exact Ar69.1) (State.isArrayOf_alike hZ.alike Ar69.2.1) (g := (mkF m 4 #[.val (.ref b), .val (.ref ca)] [(.ref ca), (.int (0 : Int32)), (.ref ca), (.ref b)])) rfl rfl (hb hby d2_4)) ?_
  rw [len_of S69 Ng69]
  show OW p e below s (QS01 Z b ca kc z cs i_COMPACT_STRINGS v_SIOOBE_FORMATTER h0 n0) 2 30 (s₁.setTop (mkF m 5 #[.val (.ref b), .val (.ref ca)] [(.int z), (.int (0 : Int32)), (.ref ca), (.ref b)]))
  refine OW.st (B := s₁.setTop (mkF m 6 #[.val (.ref b), .val (.ref ca)] [.null, (.int z), (.int (0 : Int32)), (.ref ca), (.ref b)])) (fun _ kk_ => XS.aconstNull X0.here hx rfl (hb hby d2_5) kk_) ?_
  obtain ⟨_, _, ⟨T70, L70, k70, n70⟩, -, X70, ⟨Lc70, hQ70, l70, y70, z70⟩, st70⟩ := X0.specialBack hx (y := (⟨"java/lang/String", "<init>", "([CIILjava/lang/Void;)V"⟩ : MethodName)) rfl hown (mvT hZ (w_12 hw)) (mvT hZ (w_13 hw)) (mvT hZ (w_15 hw)) (by decide) (backOf (W := 0) (rmS11 l Z a0 hw [] b ca kc z cs i_COMPACT_STRINGS v_SIOOBE_FORMATTER h0 n0 O0 E F1 F2 g V hz hmax hpos hch hhi hS) hZ (w_15 hw) (w_7 hw) (by decide) (by decide)) (g := (mkF m 6 #[.val (.ref b), .val (.ref ca)] [.null, (.int z), (.int (0 : Int32)), (.ref ca), (.ref b)])) rfl (by rw [hml]; rfl) (Steps.refl _) (a := b) (argsL := [(.ref ca), (.int (0 : Int32)), (.int z), .null]) (rest := []) (lenOf pd_1 rfl) rfl (by show 2 * 0 + _ ≤ _; exact Nat.le_of_eq rfl) (hb hby d2_6) (fun _ _ => ⟨rfl, e0, (by decide : 0 + 2 ≤ _), (by decide : 0 + 30 ≤ _)⟩)
  dsimp only [Pt.U, Pt.locs, Pt.cells, Pt.slots] at X70 l70 y70 z70 st70 hQ70
  subst l70 y70 z70
  obtain ⟨rfl, Nq70, K70, Es70, ba70, kb70, gba70, nba70, Fc70, Fv70, Vs70⟩ := hQ70
  have N70 := Fr.app N0 Nq70
  have O70 : Old Z n0 T70.heap := O0.keep K70 (allS g all0)
  have KC70 : Keep h0 T70.heap [b] := KC0.trans K70 (allS (Or.inl (List.mem_of_getElem? (i := 0) rfl)) all0)
  refine OW.tr (B := T70.setTop (mkF m 9 #[.val (.ref b), .val (.ref ca)] [])) (st70) ?_
  exact OW.retV X70 hx hlk Bd.returns (hb hby d2_9) rfl (by decide) (by decide) ⟨rfl, N70, KC70, (E.keep K70), ba70, kb70, gba70, nba70, Fc70, Fv70, Vs70⟩
theorem ef_LE0 (m : MethodId) (x0 : Addr) : entryFrame m #[(.ref x0)] 1 = mkF m 0 #[.val (.ref x0)] [] := by first | (simp [entryFrame, mkF, argsToLocals, Value.category]; done) | rfl
def QLE0 (Z : State) (b : Addr) (ba : Addr) (kb : ClassId) (zb : Int32) (cs : List Int32) (zr : Int32) (i_COMPACT_STRINGS : Int32) (v_SIOOBE_FORMATTER : Value) (h0 : Heap) (n0 : Nat) (v : Option Value) (h : Heap) (L : List Loc) : Prop := v = some (.int zr) ∧ Fr n0 L ∧ h = h0
set_option maxRecDepth 65536 in
set_option maxHeartbeats 40000000 in
theorem rmLE0 (l : Launch) (Z : State) (a0 : Array Value) (hw : ∀ d ∈ tables_1, d.before a0 Z = true) (ws : List Jvm.Cond) (b : Addr) (ba : Addr) (kb : ClassId) (zb : Int32) (cs : List Int32) (zr : Int32) (i_COMPACT_STRINGS : Int32) (v_SIOOBE_FORMATTER : Value) (h0 : Heap) (n0 : Nat) (O0 : Old Z n0 h0) (E : Exa Z h0 b "java/lang/String") (F1 : Fld Z h0 b "java/lang/String" "value" "[B" (.ref ba)) (F2 : Fld Z h0 b "java/lang/String" "coder" "B" (.int (0 : Int32))) (B : Arv Z h0 ba kb .byte zb (OwnL cs) (.int (0 : Int32))) (hr : (zb >>> ((0 : Int32) &&& 31)) = zr) (hS : OwnS Z i_COMPACT_STRINGS v_SIOOBE_FORMATTER) :
    MetFree l (⟨"java/lang/String", "length", "()I"⟩ : MethodName) (head1 (Jvm.Cond.code (⟨"java/lang/String", "length", "()I"⟩ : MethodName) jdk_42_method_54_code 1 (some .int) :: ws) ({ frames := 1, cells := 0, slots := 0, locals := 13 } : Room)) (fun aa_ UU_ => aa_ = #[(.ref b)] ∧ Z.Warmed39 UU_.vm ∧ UU_.heap = h0) (fun _ _ _ _ _ => True) (fun _ UU_ oo_ UV_ => ∃ vv_ LL_, oo_ = .returned vv_ ∧ QLE0 Z b ba kb zb cs zr i_COMPACT_STRINGS v_SIOOBE_FORMATTER h0 n0 vv_ UV_.heap LL_ ∧ FrameEnd UU_ oo_ UV_ LL_ ({ frames := 1, cells := 0, slots := 0, locals := 13 } : Room).cells ({ frames := 1, cells := 0, slots := 0, locals := 13 } : Room).slots) := by
  refine MetFree.of_bodySF (plainFor_of_name pn_0) hisR ?_
  intro p e s m args below meth c s₁ Bd hml0 hP hK
  obtain ⟨rfl, hZ, hh⟩ := hP
  have hx := Bd.exec
  have hby := Bd.bytes
  have hlk := BodyLoose.notSynchronized Bd
  have hml : c.maxLocals = 1 := hml0
  have hown : s.vm.findClass "java/lang/String" = some m.cls := findClass_of_methodNamed Bd.named
  have hnm := (name_of_methodNamed Bd.named Bd.method).1
  have X0 : Stand p l e ({ frames := 1, cells := 0, slots := 0, locals := 13 } : Room) s m #[(.ref b)] below meth c s₁ [] 0 0 := Stand.of_body Bd
  have e0 : s₁.heap = h0 := by rw [← hh, Bd.state]; rfl
  have N0 := Fr.nil n0
  suffices hOW : OW p e below s (QLE0 Z b ba kb zb cs zr i_COMPACT_STRINGS v_SIOOBE_FORMATTER h0 n0) 0 0 (s₁.setTop (mkF m 0 #[.val (.ref b)] [])) by
    obtain ⟨oq1_, oq2_, oq3_, oq4_⟩ := hOW
    exact ⟨oq1_, oq2_, castTop (ef_LE0 m b) oq3_, oq4_⟩
  have hS' := hS
  obtain ⟨Si_COMPACT_STRINGS, Sv_SIOOBE_FORMATTER, Rv_SIOOBE_FORMATTER, S__assertionsDisabled, S_HI_BYTE_SHIFT, S_LO_BYTE_SHIFT, Pi_COMPACT_STRINGS⟩ := hS'
  refine OW.st (B := s₁.setTop (mkF m 1 #[.val (.ref b)] [(.ref b)])) (fun _ kk_ => XS.aloadN X0.here hx rfl (hb hby d13_0) rfl rfl kk_) ?_
  obtain ⟨T71, X71, e71, st71⟩ := getF X0 hx hZ hown (host := "") (Or.inl (w_33 hw)) Via.refl e0 F1 (g := (mkF m 1 #[.val (.ref b)] [(.ref b)])) rfl rfl (hb hby d13_1)
  refine OW.st (B := T71.setTop (mkF m 4 #[.val (.ref b)] [(.ref ba)])) (fun _ kk_ => st71 _ kk_) ?_
  obtain ⟨cl72, Ar72, q72, S72, Ng72, Hs72, G72⟩ := id B
  refine OW.st (X71.arraylength hx (by rw [e71]; exact Ar72.1) (State.isArrayOf_alike hZ.alike Ar72.2.1) (g := (mkF m 4 #[.val (.ref b)] [(.ref ba)])) rfl rfl (hb hby d13_4)) ?_
  rw [len_of S72 Ng72]
  show OW p e below s (QLE0 Z b ba kb zb cs zr i_COMPACT_STRINGS v_SIOOBE_FORMATTER h0 n0) 0 0 (T71.setTop (mkF m 5 #[.val (.ref b)] [(.int zb)]))
  refine OW.st (B := T71.setTop (mkF m 6 #[.val (.ref b)] [(.ref b), (.int zb)])) (fun _ kk_ => XS.aloadN X71.here hx rfl (hb hby d13_5) rfl rfl kk_) ?_
  obtain ⟨cq73, kq73, q73a, q73b, q73c⟩ := isOf hZ e71 E
  obtain ⟨_, _, ⟨T73, L73, k73, n73⟩, -, X73, ⟨Lc73, hQ73, l73, y73, z73⟩, st73⟩ := X71.virtualBack hx (y := (⟨"java/lang/String", "coder", "()B"⟩ : MethodName)) (z := (⟨"java/lang/String", "coder", "()B"⟩ : MethodName)) hown (mvT hZ (w_72 hw)) (mvT hZ (w_73 hw)) (notFace_of_selects (args := #[]) (mvT hZ (w_75 hw))) (mvT hZ (w_75 hw)) (mvT hZ (w_74 hw)) (by decide) (backOf (W := 1) (rmCO0 l Z a0 hw [] b i_COMPACT_STRINGS v_SIOOBE_FORMATTER h0 n0 O0 F2 hS) hZ (w_76 hw) (w_7 hw) (by decide) (by decide)) q73a q73c (g := (mkF m 6 #[.val (.ref b)] [(.ref b), (.int zb)])) rfl (by rw [hml]; rfl) (Steps.refl _) (argsL := []) (rest := [(.int zb)]) (lenOf pd_9 rfl) rfl (by show 2 * 0 + _ ≤ _; exact Nat.le_of_eq rfl) (hb hby d13_6) (fun _ _ => ⟨rfl, e71, (by decide : 0 + 0 ≤ _), (by decide : 0 + 0 ≤ _)⟩)
  dsimp only [Pt.U, Pt.locs, Pt.cells, Pt.slots] at X73 l73 y73 z73 st73 hQ73
  subst l73 y73 z73
  obtain ⟨rfl, Nq73, e73⟩ := hQ73
  have N73 := Fr.app N0 Nq73
  refine OW.tr (B := T73.setTop (mkF m 9 #[.val (.ref b)] [(.int (0 : Int32)), (.int zb)])) (st73) ?_
  refine OW.st (B := T73.setTop (mkF m 10 #[.val (.ref b)] [(.int (zb >>> ((0 : Int32) &&& 31)))])) (fun _ kk_ => XS.ishr X73.here hx rfl (hb hby d13_9) rfl kk_) ?_
  exact OW.ret X73 hx hlk (i := .ireturn) Bd.returns rfl (Or.inl ⟨rfl, Or.inl rfl, _, rfl⟩) (hb hby d13_10) e73 (by decide) (by decide) ⟨congrArg (fun z => some (Value.int z)) hr, N73, rfl⟩
theorem ef_CX0 (m : MethodId) (x0 : Addr) (x1 : Int32) : entryFrame m #[(.ref x0), (.int x1)] 2 = mkF m 0 #[.val (.ref x0), .val (.int x1)] [] := by first | (simp [entryFrame, mkF, argsToLocals, Value.category]; done) | rfl
def QCX0 (Z : State) (ba : Addr) (kb : ClassId) (zb : Int32) (cs : List Int32) (i : Int32) (mm : Nat) (cc : Int32) (i_COMPACT_STRINGS : Int32) (v_SIOOBE_FORMATTER : Value) (h0 : Heap) (n0 : Nat) (v : Option Value) (h : Heap) (L : List Loc) : Prop := v = some (.int cc) ∧ Fr n0 L ∧ h = h0
set_option maxRecDepth 65536 in
set_option maxHeartbeats 40000000 in
theorem rmCX0 (l : Launch) (Z : State) (a0 : Array Value) (hw : ∀ d ∈ tables_1, d.before a0 Z = true) (ws : List Jvm.Cond) (ba : Addr) (kb : ClassId) (zb : Int32) (cs : List Int32) (i : Int32) (mm : Nat) (cc : Int32) (i_COMPACT_STRINGS : Int32) (v_SIOOBE_FORMATTER : Value) (h0 : Heap) (n0 : Nat) (O0 : Old Z n0 h0) (B : Arv Z h0 ba kb .byte zb (OwnL cs) (.int (0 : Int32))) (hzb : zb.toInt = ((cs.length : Nat) : Int)) (hmax : cs.length ≤ 10) (hi : i.toInt = (mm : Int)) (hcc : cs[mm]? = some cc) (hn : nar .char cc = cc) (hl : ¬ ((255 : Int32) < cc)) (hS : OwnS Z i_COMPACT_STRINGS v_SIOOBE_FORMATTER) :
    MetFree l (⟨"java/lang/StringLatin1", "charAt", "([BI)C"⟩ : MethodName) (head1 (Jvm.Cond.code (⟨"java/lang/StringLatin1", "charAt", "([BI)C"⟩ : MethodName) jdk_43_method_2_code 2 (some .char) :: ws) ({ frames := 2, cells := 0, slots := 0, locals := 27 } : Room)) (fun aa_ UU_ => aa_ = #[(.ref ba), (.int i)] ∧ Z.Warmed39 UU_.vm ∧ UU_.heap = h0) (fun _ _ _ _ _ => True) (fun _ UU_ oo_ UV_ => ∃ vv_ LL_, oo_ = .returned vv_ ∧ QCX0 Z ba kb zb cs i mm cc i_COMPACT_STRINGS v_SIOOBE_FORMATTER h0 n0 vv_ UV_.heap LL_ ∧ FrameEnd UU_ oo_ UV_ LL_ ({ frames := 2, cells := 0, slots := 0, locals := 27 } : Room).cells ({ frames := 2, cells := 0, slots := 0, locals := 27 } : Room).slots) := by
  refine MetFree.of_bodySF (plainFor_of_name pn_3) hisR ?_
  intro p e s m args below meth c s₁ Bd hml0 hP hK
  obtain ⟨rfl, hZ, hh⟩ := hP
  have hx := Bd.exec
  have hby := Bd.bytes
  have hlk := BodyLoose.notSynchronized Bd
  have hml : c.maxLocals = 2 := hml0
  have hown : s.vm.findClass "java/lang/StringLatin1" = some m.cls := findClass_of_methodNamed Bd.named
  have hnm := (name_of_methodNamed Bd.named Bd.method).1
  have X0 : Stand p l e ({ frames := 2, cells := 0, slots := 0, locals := 27 } : Room) s m #[(.ref ba), (.int i)] below meth c s₁ [] 0 0 := Stand.of_body Bd
  have e0 : s₁.heap = h0 := by rw [← hh, Bd.state]; rfl
  have N0 := Fr.nil n0
  suffices hOW : OW p e below s (QCX0 Z ba kb zb cs i mm cc i_COMPACT_STRINGS v_SIOOBE_FORMATTER h0 n0) 0 0 (s₁.setTop (mkF m 0 #[.val (.ref ba), .val (.int i)] [])) by
    obtain ⟨oq1_, oq2_, oq3_, oq4_⟩ := hOW
    exact ⟨oq1_, oq2_, castTop (ef_CX0 m ba i) oq3_, oq4_⟩
  have hS' := hS
  obtain ⟨Si_COMPACT_STRINGS, Sv_SIOOBE_FORMATTER, Rv_SIOOBE_FORMATTER, S__assertionsDisabled, S_HI_BYTE_SHIFT, S_LO_BYTE_SHIFT, Pi_COMPACT_STRINGS⟩ := hS'
  have hmm : mm < cs.length := (List.getElem?_eq_some_iff.mp hcc).1
  refine OW.st (B := s₁.setTop (mkF m 2 #[.val (.ref ba), .val (.int i)] [(.ref ba), (.int i)])) (fun _ kk_ => XS.iloadN X0.here hx rfl (hb hby d17_0) rfl (XS.aloadN X0.here hx rfl (hb hby d17_1) rfl rfl kk_)) ?_
  obtain ⟨cl74, Ar74, q74, S74, Ng74, Hs74, G74⟩ := id B
  refine OW.st (X0.arraylength hx (by rw [e0]; exact Ar74.1) (State.isArrayOf_alike hZ.alike Ar74.2.1) (g := (mkF m 2 #[.val (.ref ba), .val (.int i)] [(.ref ba), (.int i)])) rfl rfl (hb hby d17_2)) ?_
  rw [len_of S74 Ng74]
  show OW p e below s (QCX0 Z ba kb zb cs i mm cc i_COMPACT_STRINGS v_SIOOBE_FORMATTER h0 n0) 0 0 (s₁.setTop (mkF m 3 #[.val (.ref ba), .val (.int i)] [(.int zb), (.int i)]))
  obtain ⟨_, _, ⟨T75, L75, k75, n75⟩, -, X75, ⟨Lc75, hQ75, l75, y75, z75⟩, st75⟩ := Jvm.LawKit.callS X0 hx (y := (⟨"java/lang/String", "checkIndex", "(II)V"⟩ : MethodName)) hown (mvT hZ (w_91 hw)) (mvT hZ (w_92 hw)) (mvT hZ (w_7 hw)) (mvT hZ (w_93 hw)) (by decide) (backOf (W := 0) (rmCK l Z a0 hw [] i zb i_COMPACT_STRINGS v_SIOOBE_FORMATTER h0 n0 O0 (own_nneg hi) (own_ltI hi hzb hmm) hS) hZ (w_93 hw) (w_7 hw) (by decide) (by decide)) (g := (mkF m 3 #[.val (.ref ba), .val (.int i)] [(.int zb), (.int i)])) rfl (by rw [hml]; rfl) (argsL := [(.int i), (.int zb)]) (rest := []) (lenOf pd_10 rfl) rfl (by show 2 * 0 + _ ≤ _; exact Nat.le_of_eq rfl) (hb hby d17_3) (fun _ _ => ⟨rfl, e0, (by decide : 0 + 0 ≤ _), (by decide : 0 + 0 ≤ _)⟩)
  dsimp only [Pt.U, Pt.locs, Pt.cells, Pt.slots] at X75 l75 y75 z75 st75 hQ75
  subst l75 y75 z75
  obtain ⟨rfl, Nq75, e75⟩ := hQ75
  have N75 := Fr.app N0 Nq75
  refine OW.st (B := T75.setTop (mkF m 8 #[.val (.ref ba), .val (.int i)] [(.int i), (.ref ba)])) (fun _ kk_ => st75 _ (XS.aloadN X75.here hx rfl (hb hby d17_6) rfl rfl (XS.iloadN X75.here hx rfl (hb hby d17_7) rfl kk_))) ?_
  obtain ⟨cl76, Ar76, q76, S76, Ng76, Hs76, G76⟩ := id B
  have hin76 : ¬ (i < 0 ∨ cl76.slots.size ≤ (i).toNatClampNeg) := inb_of S76 ⟨own_nneg hi, own_ltI hi hzb hmm⟩
  refine OW.st (B := T75.setTop (mkF m 14 #[.val (.ref ba), .val (.int i)] [(.int (((own_by cc) &&& (255 : Int32)).toUInt32.toUInt16.toUInt32.toInt32))])) (fun _ kk_ => (X75.baloadBytes hx (j := i) (v := (.int (own_by cc))) (by rw [e75]; exact Ar76.1) (State.isArrayOf_alike hZ.alike Ar76.2.1) Ar76.2.2 hin76 (Has.at Hs76 hin76 ((congrArg (fun q => (OwnL cs).getD q _) (own_tn hi)).trans (own_getL hcc))) (g := (mkF m 8 #[.val (.ref ba), .val (.int i)] [(.int i), (.ref ba)])) rfl rfl (hb hby d17_8)) _ (XS.sipush X75.here hx rfl (hb hby d17_9) (XS.iand X75.here hx rfl (hb hby d17_12) rfl (XS.i2c X75.here hx rfl (hb hby d17_13) rfl kk_)))) ?_
  exact OW.ret X75 hx hlk (i := .ireturn) Bd.returns (own_nc _) (Or.inl ⟨rfl, Or.inr (Or.inr (Or.inr (Or.inl rfl))), _, rfl⟩) (hb hby d17_14) e75 (by decide) (by decide) ⟨congrArg (fun z => some (Value.int z)) (own_lc hn hl), N75, rfl⟩
theorem ef_CA0 (m : MethodId) (x0 : Addr) (x1 : Int32) : entryFrame m #[(.ref x0), (.int x1)] 2 = mkF m 0 #[.val (.ref x0), .val (.int x1)] [] := by first | (simp [entryFrame, mkF, argsToLocals, Value.category]; done) | rfl
def QCA0 (Z : State) (b : Addr) (ba : Addr) (kb : ClassId) (zb : Int32) (cs : List Int32) (i : Int32) (mm : Nat) (cc : Int32) (i_COMPACT_STRINGS : Int32) (v_SIOOBE_FORMATTER : Value) (h0 : Heap) (n0 : Nat) (v : Option Value) (h : Heap) (L : List Loc) : Prop := v = some (.int cc) ∧ Fr n0 L ∧ h = h0
set_option maxRecDepth 65536 in
set_option maxHeartbeats 40000000 in
theorem rmCA0 (l : Launch) (Z : State) (a0 : Array Value) (hw : ∀ d ∈ tables_1, d.before a0 Z = true) (ws : List Jvm.Cond) (b : Addr) (ba : Addr) (kb : ClassId) (zb : Int32) (cs : List Int32) (i : Int32) (mm : Nat) (cc : Int32) (i_COMPACT_STRINGS : Int32) (v_SIOOBE_FORMATTER : Value) (h0 : Heap) (n0 : Nat) (O0 : Old Z n0 h0) (E : Exa Z h0 b "java/lang/String") (F1 : Fld Z h0 b "java/lang/String" "value" "[B" (.ref ba)) (F2 : Fld Z h0 b "java/lang/String" "coder" "B" (.int (0 : Int32))) (B : Arv Z h0 ba kb .byte zb (OwnL cs) (.int (0 : Int32))) (hzb : zb.toInt = ((cs.length : Nat) : Int)) (hmax : cs.length ≤ 10) (hi : i.toInt = (mm : Int)) (hcc : cs[mm]? = some cc) (hn : nar .char cc = cc) (hl : ¬ ((255 : Int32) < cc)) (hS : OwnS Z i_COMPACT_STRINGS v_SIOOBE_FORMATTER) :
    MetFree l (⟨"java/lang/String", "charAt", "(I)C"⟩ : MethodName) (head1 (Jvm.Cond.code (⟨"java/lang/String", "charAt", "(I)C"⟩ : MethodName) jdk_42_method_56_code 2 (some .char) :: ws) ({ frames := 3, cells := 0, slots := 0, locals := 40 } : Room)) (fun aa_ UU_ => aa_ = #[(.ref b), (.int i)] ∧ Z.Warmed39 UU_.vm ∧ UU_.heap = h0) (fun _ _ _ _ _ => True) (fun _ UU_ oo_ UV_ => ∃ vv_ LL_, oo_ = .returned vv_ ∧ QCA0 Z b ba kb zb cs i mm cc i_COMPACT_STRINGS v_SIOOBE_FORMATTER h0 n0 vv_ UV_.heap LL_ ∧ FrameEnd UU_ oo_ UV_ LL_ ({ frames := 3, cells := 0, slots := 0, locals := 40 } : Room).cells ({ frames := 3, cells := 0, slots := 0, locals := 40 } : Room).slots) := by
  refine MetFree.of_bodySF (plainFor_of_name pn_0) hisR ?_
  intro p e s m args below meth c s₁ Bd hml0 hP hK
  obtain ⟨rfl, hZ, hh⟩ := hP
  have hx := Bd.exec
  have hby := Bd.bytes
  have hlk := BodyLoose.notSynchronized Bd
  have hml : c.maxLocals = 2 := hml0
  have hown : s.vm.findClass "java/lang/String" = some m.cls := findClass_of_methodNamed Bd.named
  have hnm := (name_of_methodNamed Bd.named Bd.method).1
  have X0 : Stand p l e ({ frames := 3, cells := 0, slots := 0, locals := 40 } : Room) s m #[(.ref b), (.int i)] below meth c s₁ [] 0 0 := Stand.of_body Bd
  have e0 : s₁.heap = h0 := by rw [← hh, Bd.state]; rfl
  have N0 := Fr.nil n0
  suffices hOW : OW p e below s (QCA0 Z b ba kb zb cs i mm cc i_COMPACT_STRINGS v_SIOOBE_FORMATTER h0 n0) 0 0 (s₁.setTop (mkF m 0 #[.val (.ref b), .val (.int i)] [])) by
    obtain ⟨oq1_, oq2_, oq3_, oq4_⟩ := hOW
    exact ⟨oq1_, oq2_, castTop (ef_CA0 m b i) oq3_, oq4_⟩
  have hS' := hS
  obtain ⟨Si_COMPACT_STRINGS, Sv_SIOOBE_FORMATTER, Rv_SIOOBE_FORMATTER, S__assertionsDisabled, S_HI_BYTE_SHIFT, S_LO_BYTE_SHIFT, Pi_COMPACT_STRINGS⟩ := hS'
  have hmm : mm < cs.length := (List.getElem?_eq_some_iff.mp hcc).1
  refine OW.st (B := s₁.setTop (mkF m 1 #[.val (.ref b), .val (.int i)] [(.ref b)])) (fun _ kk_ => XS.aloadN X0.here hx rfl (hb hby d15_0) rfl rfl kk_) ?_
  obtain ⟨cq77, kq77, q77a, q77b, q77c⟩ := isOf hZ e0 E
  obtain ⟨_, _, ⟨T77, L77, k77, n77⟩, -, X77, ⟨Lc77, hQ77, l77, y77, z77⟩, st77⟩ := X0.virtualBack hx (y := (⟨"java/lang/String", "isLatin1", "()Z"⟩ : MethodName)) (z := (⟨"java/lang/String", "isLatin1", "()Z"⟩ : MethodName)) hown (mvT hZ (w_82 hw)) (mvT hZ (w_83 hw)) (notFace_of_selects (args := #[]) (mvT hZ (w_85 hw))) (mvT hZ (w_85 hw)) (mvT hZ (w_84 hw)) (by decide) (backOf (W := 0) (rmIL0 l Z a0 hw [] b i_COMPACT_STRINGS v_SIOOBE_FORMATTER h0 n0 O0 F2 hS) hZ (w_86 hw) (w_7 hw) (by decide) (by decide)) q77a q77c (g := (mkF m 1 #[.val (.ref b), .val (.int i)] [(.ref b)])) rfl (by rw [hml]; rfl) (Steps.refl _) (argsL := []) (rest := []) (lenOf pd_11 rfl) rfl (by show 2 * 0 + _ ≤ _; exact Nat.le_of_eq rfl) (hb hby d15_1) (fun _ _ => ⟨rfl, e0, (by decide : 0 + 0 ≤ _), (by decide : 0 + 0 ≤ _)⟩)
  dsimp only [Pt.U, Pt.locs, Pt.cells, Pt.slots] at X77 l77 y77 z77 st77 hQ77
  subst l77 y77 z77
  obtain ⟨rfl, Nq77, e77⟩ := hQ77
  have N77 := Fr.app N0 Nq77
  refine OW.tr (B := T77.setTop (mkF m 4 #[.val (.ref b), .val (.int i)] [(.int (1 : Int32))])) (st77) ?_
  refine OW.st (B := T77.setTop (mkF m 8 #[.val (.ref b), .val (.int i)] [(.ref b)])) (fun _ kk_ => XS.ifNo X77.here hx rfl (hb hby d15_4) rfl ((if0 _ _).trans (feq (by decide)).1) (XS.aloadN X77.here hx rfl (hb hby d15_7) rfl rfl kk_)) ?_
  obtain ⟨T78, X78, e78, st78⟩ := getF X77 hx hZ hown (host := "") (Or.inl (w_33 hw)) Via.refl e77 F1 (g := (mkF m 8 #[.val (.ref b), .val (.int i)] [(.ref b)])) rfl rfl (hb hby d15_8)
  refine OW.st (B := T78.setTop (mkF m 12 #[.val (.ref b), .val (.int i)] [(.int i), (.ref ba)])) (fun _ kk_ => st78 _ (XS.iloadN X78.here hx rfl (hb hby d15_11) rfl kk_)) ?_
  obtain ⟨_, _, ⟨T79, L79, k79, n79⟩, -, X79, ⟨Lc79, hQ79, l79, y79, z79⟩, st79⟩ := Jvm.LawKit.callS X78 hx (y := (⟨"java/lang/StringLatin1", "charAt", "([BI)C"⟩ : MethodName)) hown (mvT hZ (w_87 hw)) (mvT hZ (w_88 hw)) (mvT hZ (w_89 hw)) (mvT hZ (w_90 hw)) (by decide) (backOf (W := 0) (rmCX0 l Z a0 hw [] ba kb zb cs i mm cc i_COMPACT_STRINGS v_SIOOBE_FORMATTER h0 n0 O0 B hzb hmax hi hcc hn hl hS) hZ (w_90 hw) (w_89 hw) (by decide) (by decide)) (g := (mkF m 12 #[.val (.ref b), .val (.int i)] [(.int i), (.ref ba)])) rfl (by rw [hml]; rfl) (argsL := [(.ref ba), (.int i)]) (rest := []) (lenOf pd_8 rfl) rfl (by show 2 * 0 + _ ≤ _; exact Nat.le_of_eq rfl) (hb hby d15_12) (fun _ _ => ⟨rfl, e78, (by decide : 0 + 0 ≤ _), (by decide : 0 + 0 ≤ _)⟩)
  dsimp only [Pt.U, Pt.locs, Pt.cells, Pt.slots] at X79 l79 y79 z79 st79 hQ79
  subst l79 y79 z79
  obtain ⟨rfl, Nq79, e79⟩ := hQ79
  have N79 := Fr.app N77 Nq79
  refine OW.st (B := T79.setTop (mkF m 15 #[.val (.ref b), .val (.int i)] [(.int cc)])) (fun _ kk_ => st79 _ kk_) ?_
  exact OW.ret X79 hx hlk (i := .ireturn) Bd.returns (congrArg Value.int hn) (Or.inl ⟨rfl, Or.inr (Or.inr (Or.inr (Or.inl rfl))), _, rfl⟩) (hb hby d15_15) e79 (by decide) (by decide) ⟨rfl, N79, rfl⟩
theorem ef_LE1 (m : MethodId) (x0 : Addr) : entryFrame m #[(.ref x0)] 1 = mkF m 0 #[.val (.ref x0)] [] := by first | (simp [entryFrame, mkF, argsToLocals, Value.category]; done) | rfl
def QLE1 (Z : State) (b : Addr) (ba : Addr) (kb : ClassId) (zb : Int32) (cs : List Int32) (zr : Int32) (i_COMPACT_STRINGS : Int32) (v_SIOOBE_FORMATTER : Value) (h0 : Heap) (n0 : Nat) (v : Option Value) (h : Heap) (L : List Loc) : Prop := v = some (.int zr) ∧ Fr n0 L ∧ h = h0
set_option maxRecDepth 65536 in
set_option maxHeartbeats 40000000 in
theorem rmLE1 (l : Launch) (Z : State) (a0 : Array Value) (hw : ∀ d ∈ tables_1, d.before a0 Z = true) (ws : List Jvm.Cond) (b : Addr) (ba : Addr) (kb : ClassId) (zb : Int32) (cs : List Int32) (zr : Int32) (i_COMPACT_STRINGS : Int32) (v_SIOOBE_FORMATTER : Value) (h0 : Heap) (n0 : Nat) (O0 : Old Z n0 h0) (E : Exa Z h0 b "java/lang/String") (F1 : Fld Z h0 b "java/lang/String" "value" "[B" (.ref ba)) (F2 : Fld Z h0 b "java/lang/String" "coder" "B" (.int (1 : Int32))) (B : Arv Z h0 ba kb .byte zb (OwnU cs) (.int (0 : Int32))) (hr : (zb >>> ((1 : Int32) &&& 31)) = zr) (hS : OwnS Z i_COMPACT_STRINGS v_SIOOBE_FORMATTER) :
    MetFree l (⟨"java/lang/String", "length", "()I"⟩ : MethodName) (head1 (Jvm.Cond.code (⟨"java/lang/String", "length", "()I"⟩ : MethodName) jdk_42_method_54_code 1 (some .int) :: ws) ({ frames := 1, cells := 0, slots := 0, locals := 13 } : Room)) (fun aa_ UU_ => aa_ = #[(.ref b)] ∧ Z.Warmed39 UU_.vm ∧ UU_.heap = h0) (fun _ _ _ _ _ => True) (fun _ UU_ oo_ UV_ => ∃ vv_ LL_, oo_ = .returned vv_ ∧ QLE1 Z b ba kb zb cs zr i_COMPACT_STRINGS v_SIOOBE_FORMATTER h0 n0 vv_ UV_.heap LL_ ∧ FrameEnd UU_ oo_ UV_ LL_ ({ frames := 1, cells := 0, slots := 0, locals := 13 } : Room).cells ({ frames := 1, cells := 0, slots := 0, locals := 13 } : Room).slots) := by
  refine MetFree.of_bodySF (plainFor_of_name pn_0) hisR ?_
  intro p e s m args below meth c s₁ Bd hml0 hP hK
  obtain ⟨rfl, hZ, hh⟩ := hP
  have hx := Bd.exec
  have hby := Bd.bytes
  have hlk := BodyLoose.notSynchronized Bd
  have hml : c.maxLocals = 1 := hml0
  have hown : s.vm.findClass "java/lang/String" = some m.cls := findClass_of_methodNamed Bd.named
  have hnm := (name_of_methodNamed Bd.named Bd.method).1
  have X0 : Stand p l e ({ frames := 1, cells := 0, slots := 0, locals := 13 } : Room) s m #[(.ref b)] below meth c s₁ [] 0 0 := Stand.of_body Bd
  have e0 : s₁.heap = h0 := by rw [← hh, Bd.state]; rfl
  have N0 := Fr.nil n0
  suffices hOW : OW p e below s (QLE1 Z b ba kb zb cs zr i_COMPACT_STRINGS v_SIOOBE_FORMATTER h0 n0) 0 0 (s₁.setTop (mkF m 0 #[.val (.ref b)] [])) by
    obtain ⟨oq1_, oq2_, oq3_, oq4_⟩ := hOW
    exact ⟨oq1_, oq2_, castTop (ef_LE1 m b) oq3_, oq4_⟩
  have hS' := hS
  obtain ⟨Si_COMPACT_STRINGS, Sv_SIOOBE_FORMATTER, Rv_SIOOBE_FORMATTER, S__assertionsDisabled, S_HI_BYTE_SHIFT, S_LO_BYTE_SHIFT, Pi_COMPACT_STRINGS⟩ := hS'
  refine OW.st (B := s₁.setTop (mkF m 1 #[.val (.ref b)] [(.ref b)])) (fun _ kk_ => XS.aloadN X0.here hx rfl (hb hby d13_0) rfl rfl kk_) ?_
  obtain ⟨T80, X80, e80, st80⟩ := getF X0 hx hZ hown (host := "") (Or.inl (w_33 hw)) Via.refl e0 F1 (g := (mkF m 1 #[.val (.ref b)] [(.ref b)])) rfl rfl (hb hby d13_1)
  refine OW.st (B := T80.setTop (mkF m 4 #[.val (.ref b)] [(.ref ba)])) (fun _ kk_ => st80 _ kk_) ?_
  obtain ⟨cl81, Ar81, q81, S81, Ng81, Hs81, G81⟩ := id B
  refine OW.st (X80.arraylength hx (by rw [e80]; exact Ar81.1) (State.isArrayOf_alike hZ.alike Ar81.2.1) (g := (mkF m 4 #[.val (.ref b)] [(.ref ba)])) rfl rfl (hb hby d13_4)) ?_
  rw [len_of S81 Ng81]
  show OW p e below s (QLE1 Z b ba kb zb cs zr i_COMPACT_STRINGS v_SIOOBE_FORMATTER h0 n0) 0 0 (T80.setTop (mkF m 5 #[.val (.ref b)] [(.int zb)]))
  refine OW.st (B := T80.setTop (mkF m 6 #[.val (.ref b)] [(.ref b), (.int zb)])) (fun _ kk_ => XS.aloadN X80.here hx rfl (hb hby d13_5) rfl rfl kk_) ?_
  obtain ⟨cq82, kq82, q82a, q82b, q82c⟩ := isOf hZ e80 E
  obtain ⟨_, _, ⟨T82, L82, k82, n82⟩, -, X82, ⟨Lc82, hQ82, l82, y82, z82⟩, st82⟩ := X80.virtualBack hx (y := (⟨"java/lang/String", "coder", "()B"⟩ : MethodName)) (z := (⟨"java/lang/String", "coder", "()B"⟩ : MethodName)) hown (mvT hZ (w_72 hw)) (mvT hZ (w_73 hw)) (notFace_of_selects (args := #[]) (mvT hZ (w_75 hw))) (mvT hZ (w_75 hw)) (mvT hZ (w_74 hw)) (by decide) (backOf (W := 1) (rmCO1 l Z a0 hw [] b i_COMPACT_STRINGS v_SIOOBE_FORMATTER h0 n0 O0 F2 hS) hZ (w_76 hw) (w_7 hw) (by decide) (by decide)) q82a q82c (g := (mkF m 6 #[.val (.ref b)] [(.ref b), (.int zb)])) rfl (by rw [hml]; rfl) (Steps.refl _) (argsL := []) (rest := [(.int zb)]) (lenOf pd_9 rfl) rfl (by show 2 * 0 + _ ≤ _; exact Nat.le_of_eq rfl) (hb hby d13_6) (fun _ _ => ⟨rfl, e80, (by decide : 0 + 0 ≤ _), (by decide : 0 + 0 ≤ _)⟩)
  dsimp only [Pt.U, Pt.locs, Pt.cells, Pt.slots] at X82 l82 y82 z82 st82 hQ82
  subst l82 y82 z82
  obtain ⟨rfl, Nq82, e82⟩ := hQ82
  have N82 := Fr.app N0 Nq82
  refine OW.tr (B := T82.setTop (mkF m 9 #[.val (.ref b)] [(.int (1 : Int32)), (.int zb)])) (st82) ?_
  refine OW.st (B := T82.setTop (mkF m 10 #[.val (.ref b)] [(.int (zb >>> ((1 : Int32) &&& 31)))])) (fun _ kk_ => XS.ishr X82.here hx rfl (hb hby d13_9) rfl kk_) ?_
  exact OW.ret X82 hx hlk (i := .ireturn) Bd.returns rfl (Or.inl ⟨rfl, Or.inl rfl, _, rfl⟩) (hb hby d13_10) e82 (by decide) (by decide) ⟨congrArg (fun z => some (Value.int z)) hr, N82, rfl⟩
theorem ef_UL (m : MethodId) (x0 : Addr) : entryFrame m #[(.ref x0)] 1 = mkF m 0 #[.val (.ref x0)] [] := by first | (simp [entryFrame, mkF, argsToLocals, Value.category]; done) | rfl
def QUL (Z : State) (ba : Addr) (kb : ClassId) (zb : Int32) (cs : List Int32) (h0 : Heap) (n0 : Nat) (v : Option Value) (h : Heap) (L : List Loc) : Prop := v = some (.int (zb >>> ((1 : Int32) &&& 31))) ∧ Fr n0 L ∧ h = h0
set_option maxRecDepth 65536 in
set_option maxHeartbeats 40000000 in
theorem rmUL (l : Launch) (Z : State) (a0 : Array Value) (hw : ∀ d ∈ tables_1, d.before a0 Z = true) (ws : List Jvm.Cond) (ba : Addr) (kb : ClassId) (zb : Int32) (cs : List Int32) (h0 : Heap) (n0 : Nat) (O0 : Old Z n0 h0) (B : Arv Z h0 ba kb .byte zb (OwnU cs) (.int (0 : Int32))) :
    MetFree l (⟨"java/lang/StringUTF16", "length", "([B)I"⟩ : MethodName) (head1 (Jvm.Cond.code (⟨"java/lang/StringUTF16", "length", "([B)I"⟩ : MethodName) jdk_52_method_6_code 1 (some .int) :: ws) ({ frames := 0, cells := 0, slots := 0, locals := 0 } : Room)) (fun aa_ UU_ => aa_ = #[(.ref ba)] ∧ Z.Warmed39 UU_.vm ∧ UU_.heap = h0) (fun _ _ _ _ _ => True) (fun _ UU_ oo_ UV_ => ∃ vv_ LL_, oo_ = .returned vv_ ∧ QUL Z ba kb zb cs h0 n0 vv_ UV_.heap LL_ ∧ FrameEnd UU_ oo_ UV_ LL_ ({ frames := 0, cells := 0, slots := 0, locals := 0 } : Room).cells ({ frames := 0, cells := 0, slots := 0, locals := 0 } : Room).slots) := by
  refine MetFree.of_bodySF (plainFor_of_name pn_2) hisR ?_
  intro p e s m args below meth c s₁ Bd hml0 hP hK
  obtain ⟨rfl, hZ, hh⟩ := hP
  have hx := Bd.exec
  have hby := Bd.bytes
  have hlk := BodyLoose.notSynchronized Bd
  have hml : c.maxLocals = 1 := hml0
  have hown : s.vm.findClass "java/lang/StringUTF16" = some m.cls := findClass_of_methodNamed Bd.named
  have hnm := (name_of_methodNamed Bd.named Bd.method).1
  have X0 : Stand p l e ({ frames := 0, cells := 0, slots := 0, locals := 0 } : Room) s m #[(.ref ba)] below meth c s₁ [] 0 0 := Stand.of_body Bd
  have e0 : s₁.heap = h0 := by rw [← hh, Bd.state]; rfl
  have N0 := Fr.nil n0
  suffices hOW : OW p e below s (QUL Z ba kb zb cs h0 n0) 0 0 (s₁.setTop (mkF m 0 #[.val (.ref ba)] [])) by
    obtain ⟨oq1_, oq2_, oq3_, oq4_⟩ := hOW
    exact ⟨oq1_, oq2_, castTop (ef_UL m ba) oq3_, oq4_⟩
  refine OW.st (B := s₁.setTop (mkF m 1 #[.val (.ref ba)] [(.ref ba)])) (fun _ kk_ => XS.aloadN X0.here hx rfl (hb hby d28_0) rfl rfl kk_) ?_
  obtain ⟨cl83, Ar83, q83, S83, Ng83, Hs83, G83⟩ := id B
  refine OW.st (X0.arraylength hx (by rw [e0]; exact Ar83.1) (State.isArrayOf_alike hZ.alike Ar83.2.1) (g := (mkF m 1 #[.val (.ref ba)] [(.ref ba)])) rfl rfl (hb hby d28_1)) ?_
  rw [len_of S83 Ng83]
  show OW p e below s (QUL Z ba kb zb cs h0 n0) 0 0 (s₁.setTop (mkF m 2 #[.val (.ref ba)] [(.int zb)]))
  refine OW.st (B := s₁.setTop (mkF m 4 #[.val (.ref ba)] [(.int (zb >>> ((1 : Int32) &&& 31)))])) (fun _ kk_ => XS.iconst X0.here hx rfl (hb hby d28_2) (XS.ishr X0.here hx rfl (hb hby d28_3) rfl kk_)) ?_
  exact OW.ret X0 hx hlk (i := .ireturn) Bd.returns rfl (Or.inl ⟨rfl, Or.inl rfl, _, rfl⟩) (hb hby d28_4) e0 (by decide) (by decide) ⟨rfl, N0, rfl⟩
theorem ef_UK (m : MethodId) (x0 : Int32) (x1 : Addr) : entryFrame m #[(.int x0), (.ref x1)] 2 = mkF m 0 #[.val (.int x0), .val (.ref x1)] [] := by first | (simp [entryFrame, mkF, argsToLocals, Value.category]; done) | rfl
def QUK (Z : State) (ba : Addr) (kb : ClassId) (zb : Int32) (cs : List Int32) (i : Int32) (mm : Nat) (i_COMPACT_STRINGS : Int32) (v_SIOOBE_FORMATTER : Value) (h0 : Heap) (n0 : Nat) (v : Option Value) (h : Heap) (L : List Loc) : Prop := v = none ∧ Fr n0 L ∧ h = h0
set_option maxRecDepth 65536 in
set_option maxHeartbeats 40000000 in
theorem rmUK (l : Launch) (Z : State) (a0 : Array Value) (hw : ∀ d ∈ tables_1, d.before a0 Z = true) (ws : List Jvm.Cond) (ba : Addr) (kb : ClassId) (zb : Int32) (cs : List Int32) (i : Int32) (mm : Nat) (i_COMPACT_STRINGS : Int32) (v_SIOOBE_FORMATTER : Value) (h0 : Heap) (n0 : Nat) (O0 : Old Z n0 h0) (B : Arv Z h0 ba kb .byte zb (OwnU cs) (.int (0 : Int32))) (hzb : zb.toInt = ((2 * cs.length : Nat) : Int)) (hmax : cs.length ≤ 10) (hi : i.toInt = (mm : Int)) (hmm : mm < cs.length) (hS : OwnS Z i_COMPACT_STRINGS v_SIOOBE_FORMATTER) :
    MetFree l (⟨"java/lang/StringUTF16", "checkIndex", "(I[B)V"⟩ : MethodName) (head1 (Jvm.Cond.code (⟨"java/lang/StringUTF16", "checkIndex", "(I[B)V"⟩ : MethodName) jdk_52_method_91_code 2 none :: ws) ({ frames := 2, cells := 0, slots := 0, locals := 27 } : Room)) (fun aa_ UU_ => aa_ = #[(.int i), (.ref ba)] ∧ Z.Warmed39 UU_.vm ∧ UU_.heap = h0) (fun _ _ _ _ _ => True) (fun _ UU_ oo_ UV_ => ∃ vv_ LL_, oo_ = .returned vv_ ∧ QUK Z ba kb zb cs i mm i_COMPACT_STRINGS v_SIOOBE_FORMATTER h0 n0 vv_ UV_.heap LL_ ∧ FrameEnd UU_ oo_ UV_ LL_ ({ frames := 2, cells := 0, slots := 0, locals := 27 } : Room).cells ({ frames := 2, cells := 0, slots := 0, locals := 27 } : Room).slots) := by
  refine MetFree.of_bodySF (plainFor_of_name pn_2) hisR ?_
  intro p e s m args below meth c s₁ Bd hml0 hP hK
  obtain ⟨rfl, hZ, hh⟩ := hP
  have hx := Bd.exec
  have hby := Bd.bytes
  have hlk := BodyLoose.notSynchronized Bd
  have hml : c.maxLocals = 2 := hml0
  have hown : s.vm.findClass "java/lang/StringUTF16" = some m.cls := findClass_of_methodNamed Bd.named
  have hnm := (name_of_methodNamed Bd.named Bd.method).1
  have X0 : Stand p l e ({ frames := 2, cells := 0, slots := 0, locals := 27 } : Room) s m #[(.int i), (.ref ba)] below meth c s₁ [] 0 0 := Stand.of_body Bd
  have e0 : s₁.heap = h0 := by rw [← hh, Bd.state]; rfl
  have N0 := Fr.nil n0
  suffices hOW : OW p e below s (QUK Z ba kb zb cs i mm i_COMPACT_STRINGS v_SIOOBE_FORMATTER h0 n0) 0 0 (s₁.setTop (mkF m 0 #[.val (.int i), .val (.ref ba)] [])) by
    obtain ⟨oq1_, oq2_, oq3_, oq4_⟩ := hOW
    exact ⟨oq1_, oq2_, castTop (ef_UK m i ba) oq3_, oq4_⟩
  have hS' := hS
  obtain ⟨Si_COMPACT_STRINGS, Sv_SIOOBE_FORMATTER, Rv_SIOOBE_FORMATTER, S__assertionsDisabled, S_HI_BYTE_SHIFT, S_LO_BYTE_SHIFT, Pi_COMPACT_STRINGS⟩ := hS'
  refine OW.st (B := s₁.setTop (mkF m 2 #[.val (.int i), .val (.ref ba)] [(.ref ba), (.int i)])) (fun _ kk_ => XS.iloadN X0.here hx rfl (hb hby d27_0) rfl (XS.aloadN X0.here hx rfl (hb hby d27_1) rfl rfl kk_)) ?_
  obtain ⟨_, _, ⟨T84, L84, k84, n84⟩, -, X84, ⟨Lc84, hQ84, l84, y84, z84⟩, st84⟩ := Jvm.LawKit.callS X0 hx (y := (⟨"java/lang/StringUTF16", "length", "([B)I"⟩ : MethodName)) hown (mvT hZ (w_130 hw)) (mvT hZ (w_131 hw)) (mvT hZ (w_22 hw)) (mvT hZ (w_132 hw)) (by decide) (backOf (W := 1) (rmUL l Z a0 hw [] ba kb zb cs h0 n0 O0 B) hZ (w_132 hw) (w_22 hw) (by decide) (by decide)) (g := (mkF m 2 #[.val (.int i), .val (.ref ba)] [(.ref ba), (.int i)])) rfl (by rw [hml]; rfl) (argsL := [(.ref ba)]) (rest := [(.int i)]) (lenOf pd_12 rfl) rfl (by show 2 * 0 + _ ≤ _; exact Nat.le_of_eq rfl) (hb hby d27_2) (fun _ _ => ⟨rfl, e0, (by decide : 0 + 0 ≤ _), (by decide : 0 + 0 ≤ _)⟩)
  dsimp only [Pt.U, Pt.locs, Pt.cells, Pt.slots] at X84 l84 y84 z84 st84 hQ84
  subst l84 y84 z84
  obtain ⟨rfl, Nq84, e84⟩ := hQ84
  have N84 := Fr.app N0 Nq84
  refine OW.st (B := T84.setTop (mkF m 5 #[.val (.int i), .val (.ref ba)] [(.int (zb >>> ((1 : Int32) &&& 31))), (.int i)])) (fun _ kk_ => st84 _ kk_) ?_
  obtain ⟨_, _, ⟨T85, L85, k85, n85⟩, -, X85, ⟨Lc85, hQ85, l85, y85, z85⟩, st85⟩ := Jvm.LawKit.callS X84 hx (y := (⟨"java/lang/String", "checkIndex", "(II)V"⟩ : MethodName)) hown (mvT hZ (w_133 hw)) (mvT hZ (w_92 hw)) (mvT hZ (w_7 hw)) (mvT hZ (w_93 hw)) (by decide) (backOf (W := 0) (rmCK l Z a0 hw [] i (zb >>> ((1 : Int32) &&& 31)) i_COMPACT_STRINGS v_SIOOBE_FORMATTER h0 n0 O0 (own_nneg hi) (own_hlf hi hzb hmm hmax) hS) hZ (w_93 hw) (w_7 hw) (by decide) (by decide)) (g := (mkF m 5 #[.val (.int i), .val (.ref ba)] [(.int (zb >>> ((1 : Int32) &&& 31))), (.int i)])) rfl (by rw [hml]; rfl) (argsL := [(.int i), (.int (zb >>> ((1 : Int32) &&& 31)))]) (rest := []) (lenOf pd_10 rfl) rfl (by show 2 * 0 + _ ≤ _; exact Nat.le_of_eq rfl) (hb hby d27_5) (fun _ _ => ⟨rfl, e84, (by decide : 0 + 0 ≤ _), (by decide : 0 + 0 ≤ _)⟩)
  dsimp only [Pt.U, Pt.locs, Pt.cells, Pt.slots] at X85 l85 y85 z85 st85 hQ85
  subst l85 y85 z85
  obtain ⟨rfl, Nq85, e85⟩ := hQ85
  have N85 := Fr.app N84 Nq85
  refine OW.st (B := T85.setTop (mkF m 8 #[.val (.int i), .val (.ref ba)] [])) (fun _ kk_ => st85 _ kk_) ?_
  exact OW.retV X85 hx hlk Bd.returns (hb hby d27_8) e85 (by decide) (by decide) ⟨rfl, N85, rfl⟩
theorem ef_CX1 (m : MethodId) (x0 : Addr) (x1 : Int32) : entryFrame m #[(.ref x0), (.int x1)] 2 = mkF m 0 #[.val (.ref x0), .val (.int x1)] [] := by first | (simp [entryFrame, mkF, argsToLocals, Value.category]; done) | rfl
def QCX1 (Z : State) (ba : Addr) (kb : ClassId) (zb : Int32) (cs : List Int32) (i : Int32) (mm : Nat) (cc : Int32) (i_COMPACT_STRINGS : Int32) (v_SIOOBE_FORMATTER : Value) (h0 : Heap) (n0 : Nat) (v : Option Value) (h : Heap) (L : List Loc) : Prop := v = some (.int cc) ∧ Fr n0 L ∧ h = h0
set_option maxRecDepth 65536 in
set_option maxHeartbeats 40000000 in
theorem rmCX1 (l : Launch) (Z : State) (a0 : Array Value) (hw : ∀ d ∈ tables_1, d.before a0 Z = true) (ws : List Jvm.Cond) (ba : Addr) (kb : ClassId) (zb : Int32) (cs : List Int32) (i : Int32) (mm : Nat) (cc : Int32) (i_COMPACT_STRINGS : Int32) (v_SIOOBE_FORMATTER : Value) (h0 : Heap) (n0 : Nat) (O0 : Old Z n0 h0) (B : Arv Z h0 ba kb .byte zb (OwnU cs) (.int (0 : Int32))) (hzb : zb.toInt = ((2 * cs.length : Nat) : Int)) (hmax : cs.length ≤ 10) (hi : i.toInt = (mm : Int)) (hcc : cs[mm]? = some cc) (hn : nar .char cc = cc) (hS : OwnS Z i_COMPACT_STRINGS v_SIOOBE_FORMATTER) :
    MetFree l (⟨"java/lang/StringUTF16", "charAt", "([BI)C"⟩ : MethodName) (head1 (Jvm.Cond.code (⟨"java/lang/StringUTF16", "charAt", "([BI)C"⟩ : MethodName) jdk_52_method_83_code 2 (some .char) :: ws) ({ frames := 3, cells := 0, slots := 0, locals := 40 } : Room)) (fun aa_ UU_ => aa_ = #[(.ref ba), (.int i)] ∧ Z.Warmed39 UU_.vm ∧ UU_.heap = h0) (fun _ _ _ _ _ => True) (fun _ UU_ oo_ UV_ => ∃ vv_ LL_, oo_ = .returned vv_ ∧ QCX1 Z ba kb zb cs i mm cc i_COMPACT_STRINGS v_SIOOBE_FORMATTER h0 n0 vv_ UV_.heap LL_ ∧ FrameEnd UU_ oo_ UV_ LL_ ({ frames := 3, cells := 0, slots := 0, locals := 40 } : Room).cells ({ frames := 3, cells := 0, slots := 0, locals := 40 } : Room).slots) := by
  refine MetFree.of_bodySF (plainFor_of_name pn_2) hisR ?_
  intro p e s m args below meth c s₁ Bd hml0 hP hK
  obtain ⟨rfl, hZ, hh⟩ := hP
  have hx := Bd.exec
  have hby := Bd.bytes
  have hlk := BodyLoose.notSynchronized Bd
  have hml : c.maxLocals = 2 := hml0
  have hown : s.vm.findClass "java/lang/StringUTF16" = some m.cls := findClass_of_methodNamed Bd.named
  have hnm := (name_of_methodNamed Bd.named Bd.method).1
  have X0 : Stand p l e ({ frames := 3, cells := 0, slots := 0, locals := 40 } : Room) s m #[(.ref ba), (.int i)] below meth c s₁ [] 0 0 := Stand.of_body Bd
  have e0 : s₁.heap = h0 := by rw [← hh, Bd.state]; rfl
  have N0 := Fr.nil n0
  suffices hOW : OW p e below s (QCX1 Z ba kb zb cs i mm cc i_COMPACT_STRINGS v_SIOOBE_FORMATTER h0 n0) 0 0 (s₁.setTop (mkF m 0 #[.val (.ref ba), .val (.int i)] [])) by
    obtain ⟨oq1_, oq2_, oq3_, oq4_⟩ := hOW
    exact ⟨oq1_, oq2_, castTop (ef_CX1 m ba i) oq3_, oq4_⟩
  have hS' := hS
  obtain ⟨Si_COMPACT_STRINGS, Sv_SIOOBE_FORMATTER, Rv_SIOOBE_FORMATTER, S__assertionsDisabled, S_HI_BYTE_SHIFT, S_LO_BYTE_SHIFT, Pi_COMPACT_STRINGS⟩ := hS'
  have hmm : mm < cs.length := (List.getElem?_eq_some_iff.mp hcc).1
  have hz2 := hzb
  have hch' := hn
  refine OW.st (B := s₁.setTop (mkF m 2 #[.val (.ref ba), .val (.int i)] [(.ref ba), (.int i)])) (fun _ kk_ => XS.iloadN X0.here hx rfl (hb hby d26_0) rfl (XS.aloadN X0.here hx rfl (hb hby d26_1) rfl rfl kk_)) ?_
  obtain ⟨_, _, ⟨T86, L86, k86, n86⟩, -, X86, ⟨Lc86, hQ86, l86, y86, z86⟩, st86⟩ := Jvm.LawKit.callS X0 hx (y := (⟨"java/lang/StringUTF16", "checkIndex", "(I[B)V"⟩ : MethodName)) hown (mvT hZ (w_127 hw)) (mvT hZ (w_128 hw)) (mvT hZ (w_22 hw)) (mvT hZ (w_129 hw)) (by decide) (backOf (W := 0) (rmUK l Z a0 hw [] ba kb zb cs i mm i_COMPACT_STRINGS v_SIOOBE_FORMATTER h0 n0 O0 B hzb hmax hi hmm hS) hZ (w_129 hw) (w_22 hw) (by decide) (by decide)) (g := (mkF m 2 #[.val (.ref ba), .val (.int i)] [(.ref ba), (.int i)])) rfl (by rw [hml]; rfl) (argsL := [(.int i), (.ref ba)]) (rest := []) (lenOf pd_13 rfl) rfl (by show 2 * 0 + _ ≤ _; exact Nat.le_of_eq rfl) (hb hby d26_2) (fun _ _ => ⟨rfl, e0, (by decide : 0 + 0 ≤ _), (by decide : 0 + 0 ≤ _)⟩)
  dsimp only [Pt.U, Pt.locs, Pt.cells, Pt.slots] at X86 l86 y86 z86 st86 hQ86
  subst l86 y86 z86
  obtain ⟨rfl, Nq86, e86⟩ := hQ86
  have N86 := Fr.app N0 Nq86
  refine OW.st (B := T86.setTop (mkF m 7 #[.val (.ref ba), .val (.int i)] [(.int i), (.ref ba)])) (fun _ kk_ => st86 _ (XS.aloadN X86.here hx rfl (hb hby d26_5) rfl rfl (XS.iloadN X86.here hx rfl (hb hby d26_6) rfl kk_))) ?_
  obtain ⟨_, _, ⟨T87, L87, k87, n87⟩, -, X87, ⟨Lc87, hQ87, l87, y87, z87⟩, st87⟩ := Jvm.LawKit.callS X86 hx (y := (⟨"java/lang/StringUTF16", "getChar", "([BI)C"⟩ : MethodName)) hown (mvT hZ (w_121 hw)) (mvT hZ (w_122 hw)) (mvT hZ (w_22 hw)) (mvT hZ (w_123 hw)) (by decide) (backOf (W := 0) (rmGC l Z a0 hw [] ba kb zb cs i mm cc i_COMPACT_STRINGS v_SIOOBE_FORMATTER h0 n0 O0 B hz2 hmax hi hcc hn hS) hZ (w_123 hw) (w_22 hw) (by decide) (by decide)) (g := (mkF m 7 #[.val (.ref ba), .val (.int i)] [(.int i), (.ref ba)])) rfl (by rw [hml]; rfl) (argsL := [(.ref ba), (.int i)]) (rest := []) (lenOf pd_8 rfl) rfl (by show 2 * 0 + _ ≤ _; exact Nat.le_of_eq rfl) (hb hby d26_7) (fun _ _ => ⟨rfl, e86, (by decide : 0 + 0 ≤ _), (by decide : 0 + 0 ≤ _)⟩)
  dsimp only [Pt.U, Pt.locs, Pt.cells, Pt.slots] at X87 l87 y87 z87 st87 hQ87
  subst l87 y87 z87
  obtain ⟨rfl, Nq87, e87⟩ := hQ87
  have N87 := Fr.app N86 Nq87
  refine OW.st (B := T87.setTop (mkF m 10 #[.val (.ref ba), .val (.int i)] [(.int cc)])) (fun _ kk_ => st87 _ kk_) ?_
  exact OW.ret X87 hx hlk (i := .ireturn) Bd.returns (congrArg Value.int hn) (Or.inl ⟨rfl, Or.inr (Or.inr (Or.inr (Or.inl rfl))), _, rfl⟩) (hb hby d26_10) e87 (by decide) (by decide) ⟨rfl, N87, rfl⟩
theorem ef_CA1 (m : MethodId) (x0 : Addr) (x1 : Int32) : entryFrame m #[(.ref x0), (.int x1)] 2 = mkF m 0 #[.val (.ref x0), .val (.int x1)] [] := by first | (simp [entryFrame, mkF, argsToLocals, Value.category]; done) | rfl
def QCA1 (Z : State) (b : Addr) (ba : Addr) (kb : ClassId) (zb : Int32) (cs : List Int32) (i : Int32) (mm : Nat) (cc : Int32) (i_COMPACT_STRINGS : Int32) (v_SIOOBE_FORMATTER : Value) (h0 : Heap) (n0 : Nat) (v : Option Value) (h : Heap) (L : List Loc) : Prop := v = some (.int cc) ∧ Fr n0 L ∧ h = h0
set_option maxRecDepth 65536 in
set_option maxHeartbeats 40000000 in
theorem rmCA1 (l : Launch) (Z : State) (a0 : Array Value) (hw : ∀ d ∈ tables_1, d.before a0 Z = true) (ws : List Jvm.Cond) (b : Addr) (ba : Addr) (kb : ClassId) (zb : Int32) (cs : List Int32) (i : Int32) (mm : Nat) (cc : Int32) (i_COMPACT_STRINGS : Int32) (v_SIOOBE_FORMATTER : Value) (h0 : Heap) (n0 : Nat) (O0 : Old Z n0 h0) (E : Exa Z h0 b "java/lang/String") (F1 : Fld Z h0 b "java/lang/String" "value" "[B" (.ref ba)) (F2 : Fld Z h0 b "java/lang/String" "coder" "B" (.int (1 : Int32))) (B : Arv Z h0 ba kb .byte zb (OwnU cs) (.int (0 : Int32))) (hzb : zb.toInt = ((2 * cs.length : Nat) : Int)) (hmax : cs.length ≤ 10) (hi : i.toInt = (mm : Int)) (hcc : cs[mm]? = some cc) (hn : nar .char cc = cc) (hS : OwnS Z i_COMPACT_STRINGS v_SIOOBE_FORMATTER) :
    MetFree l (⟨"java/lang/String", "charAt", "(I)C"⟩ : MethodName) (head1 (Jvm.Cond.code (⟨"java/lang/String", "charAt", "(I)C"⟩ : MethodName) jdk_42_method_56_code 2 (some .char) :: ws) ({ frames := 4, cells := 0, slots := 0, locals := 53 } : Room)) (fun aa_ UU_ => aa_ = #[(.ref b), (.int i)] ∧ Z.Warmed39 UU_.vm ∧ UU_.heap = h0) (fun _ _ _ _ _ => True) (fun _ UU_ oo_ UV_ => ∃ vv_ LL_, oo_ = .returned vv_ ∧ QCA1 Z b ba kb zb cs i mm cc i_COMPACT_STRINGS v_SIOOBE_FORMATTER h0 n0 vv_ UV_.heap LL_ ∧ FrameEnd UU_ oo_ UV_ LL_ ({ frames := 4, cells := 0, slots := 0, locals := 53 } : Room).cells ({ frames := 4, cells := 0, slots := 0, locals := 53 } : Room).slots) := by
  refine MetFree.of_bodySF (plainFor_of_name pn_0) hisR ?_
  intro p e s m args below meth c s₁ Bd hml0 hP hK
  obtain ⟨rfl, hZ, hh⟩ := hP
  have hx := Bd.exec
  have hby := Bd.bytes
  have hlk := BodyLoose.notSynchronized Bd
  have hml : c.maxLocals = 2 := hml0
  have hown : s.vm.findClass "java/lang/String" = some m.cls := findClass_of_methodNamed Bd.named
  have hnm := (name_of_methodNamed Bd.named Bd.method).1
  have X0 : Stand p l e ({ frames := 4, cells := 0, slots := 0, locals := 53 } : Room) s m #[(.ref b), (.int i)] below meth c s₁ [] 0 0 := Stand.of_body Bd
  have e0 : s₁.heap = h0 := by rw [← hh, Bd.state]; rfl
  have N0 := Fr.nil n0
  suffices hOW : OW p e below s (QCA1 Z b ba kb zb cs i mm cc i_COMPACT_STRINGS v_SIOOBE_FORMATTER h0 n0) 0 0 (s₁.setTop (mkF m 0 #[.val (.ref b), .val (.int i)] [])) by
    obtain ⟨oq1_, oq2_, oq3_, oq4_⟩ := hOW
    exact ⟨oq1_, oq2_, castTop (ef_CA1 m b i) oq3_, oq4_⟩
  have hS' := hS
  obtain ⟨Si_COMPACT_STRINGS, Sv_SIOOBE_FORMATTER, Rv_SIOOBE_FORMATTER, S__assertionsDisabled, S_HI_BYTE_SHIFT, S_LO_BYTE_SHIFT, Pi_COMPACT_STRINGS⟩ := hS'
  have hmm : mm < cs.length := (List.getElem?_eq_some_iff.mp hcc).1
  refine OW.st (B := s₁.setTop (mkF m 1 #[.val (.ref b), .val (.int i)] [(.ref b)])) (fun _ kk_ => XS.aloadN X0.here hx rfl (hb hby d15_0) rfl rfl kk_) ?_
  obtain ⟨cq88, kq88, q88a, q88b, q88c⟩ := isOf hZ e0 E
  obtain ⟨_, _, ⟨T88, L88, k88, n88⟩, -, X88, ⟨Lc88, hQ88, l88, y88, z88⟩, st88⟩ := X0.virtualBack hx (y := (⟨"java/lang/String", "isLatin1", "()Z"⟩ : MethodName)) (z := (⟨"java/lang/String", "isLatin1", "()Z"⟩ : MethodName)) hown (mvT hZ (w_82 hw)) (mvT hZ (w_83 hw)) (notFace_of_selects (args := #[]) (mvT hZ (w_85 hw))) (mvT hZ (w_85 hw)) (mvT hZ (w_84 hw)) (by decide) (backOf (W := 0) (rmIL1 l Z a0 hw [] b i_COMPACT_STRINGS v_SIOOBE_FORMATTER h0 n0 O0 F2 hS) hZ (w_86 hw) (w_7 hw) (by decide) (by decide)) q88a q88c (g := (mkF m 1 #[.val (.ref b), .val (.int i)] [(.ref b)])) rfl (by rw [hml]; rfl) (Steps.refl _) (argsL := []) (rest := []) (lenOf pd_11 rfl) rfl (by show 2 * 0 + _ ≤ _; exact Nat.le_of_eq rfl) (hb hby d15_1) (fun _ _ => ⟨rfl, e0, (by decide : 0 + 0 ≤ _), (by decide : 0 + 0 ≤ _)⟩)
  dsimp only [Pt.U, Pt.locs, Pt.cells, Pt.slots] at X88 l88 y88 z88 st88 hQ88
  subst l88 y88 z88
  obtain ⟨rfl, Nq88, e88⟩ := hQ88
  have N88 := Fr.app N0 Nq88
  refine OW.tr (B := T88.setTop (mkF m 4 #[.val (.ref b), .val (.int i)] [(.int (0 : Int32))])) (st88) ?_
  refine OW.st (B := T88.setTop (mkF m 17 #[.val (.ref b), .val (.int i)] [(.ref b)])) (fun _ kk_ => XS.ifYes X88.here hx rfl (pc0 := 4) (pc' := 16) rfl (hb hby d15_4) rfl ((if0 _ _).trans (teq (by decide)).1) (by decide) (by decide) (XS.aloadN X88.here hx rfl (hb hby d15_16) rfl rfl kk_)) ?_
  obtain ⟨T89, X89, e89, st89⟩ := getF X88 hx hZ hown (host := "") (Or.inl (w_33 hw)) Via.refl e88 F1 (g := (mkF m 17 #[.val (.ref b), .val (.int i)] [(.ref b)])) rfl rfl (hb hby d15_17)
  refine OW.st (B := T89.setTop (mkF m 21 #[.val (.ref b), .val (.int i)] [(.int i), (.ref ba)])) (fun _ kk_ => st89 _ (XS.iloadN X89.here hx rfl (hb hby d15_20) rfl kk_)) ?_
  obtain ⟨_, _, ⟨T90, L90, k90, n90⟩, -, X90, ⟨Lc90, hQ90, l90, y90, z90⟩, st90⟩ := Jvm.LawKit.callS X89 hx (y := (⟨"java/lang/StringUTF16", "charAt", "([BI)C"⟩ : MethodName)) hown (mvT hZ (w_124 hw)) (mvT hZ (w_125 hw)) (mvT hZ (w_22 hw)) (mvT hZ (w_126 hw)) (by decide) (backOf (W := 0) (rmCX1 l Z a0 hw [] ba kb zb cs i mm cc i_COMPACT_STRINGS v_SIOOBE_FORMATTER h0 n0 O0 B hzb hmax hi hcc hn hS) hZ (w_126 hw) (w_22 hw) (by decide) (by decide)) (g := (mkF m 21 #[.val (.ref b), .val (.int i)] [(.int i), (.ref ba)])) rfl (by rw [hml]; rfl) (argsL := [(.ref ba), (.int i)]) (rest := []) (lenOf pd_8 rfl) rfl (by show 2 * 0 + _ ≤ _; exact Nat.le_of_eq rfl) (hb hby d15_21) (fun _ _ => ⟨rfl, e89, (by decide : 0 + 0 ≤ _), (by decide : 0 + 0 ≤ _)⟩)
  dsimp only [Pt.U, Pt.locs, Pt.cells, Pt.slots] at X90 l90 y90 z90 st90 hQ90
  subst l90 y90 z90
  obtain ⟨rfl, Nq90, e90⟩ := hQ90
  have N90 := Fr.app N88 Nq90
  refine OW.st (B := T90.setTop (mkF m 24 #[.val (.ref b), .val (.int i)] [(.int cc)])) (fun _ kk_ => st90 _ kk_) ?_
  exact OW.ret X90 hx hlk (i := .ireturn) Bd.returns (congrArg Value.int hn) (Or.inl ⟨rfl, Or.inr (Or.inr (Or.inr (Or.inl rfl))), _, rfl⟩) (hb hby d15_24) e90 (by decide) (by decide) ⟨rfl, N90, rfl⟩
theorem ef_MK00 (m : MethodId) (x0 : Int32) (x1 : Int32) (x2 : Int32) (x3 : Int32) : entryFrame m #[(.int x0), (.int x1), (.int x2), (.int x3)] 4 = mkF m 0 #[.val (.int x0), .val (.int x1), .val (.int x2), .val (.int x3)] [] := by first | (simp [entryFrame, mkF, argsToLocals, Value.category]; done) | rfl
def QMK00 (Z : State) (c0 : Int32) (c1 : Int32) (c2 : Int32) (i_COMPACT_STRINGS : Int32) (v_SIOOBE_FORMATTER : Value) (h0 : Heap) (n0 : Nat) (v : Option Value) (h : Heap) (L : List Loc) : Prop := ∃ (b ba : Addr) (kb : ClassId), v = some (.ref b) ∧ Fr n0 L ∧ Keep h0 h [] ∧ n0 ≤ b ∧ Exa Z h b "java/lang/String" ∧ Fld Z h b "java/lang/String" "value" "[B" (.ref ba) ∧ Fld Z h b "java/lang/String" "coder" "B" (.int (0 : Int32)) ∧ Arv Z h ba kb .byte (0 : Int32) (OwnL []) (.int (0 : Int32))
set_option maxRecDepth 65536 in
set_option maxHeartbeats 40000000 in
theorem rmMK00 (l : Launch) (Z : State) (a0 : Array Value) (hw : ∀ d ∈ tables_1, d.before a0 Z = true) (ws : List Jvm.Cond) (c0 : Int32) (c1 : Int32) (c2 : Int32) (i_COMPACT_STRINGS : Int32) (v_SIOOBE_FORMATTER : Value) (h0 : Heap) (n0 : Nat) (O0 : Old Z n0 h0) (hnc0 : nar .char c0 = c0) (hnc1 : nar .char c1 = c1) (hnc2 : nar .char c2 = c2) (hS : OwnS Z i_COMPACT_STRINGS v_SIOOBE_FORMATTER) :
    MetFree l (⟨"com/example/cartulary/cartulary/entity/AttachmentValueOfStringPinLaw", "make", "(ICCC)Ljava/lang/String;"⟩ : MethodName) (head1 (Jvm.Cond.code (⟨"com/example/cartulary/cartulary/entity/AttachmentValueOfStringPinLaw", "make", "(ICCC)Ljava/lang/String;"⟩ : MethodName) method_3_code 4 (some (.object "java/lang/String")) :: ws) ({ frames := 3, cells := 6, slots := 12, locals := 43 } : Room)) (fun aa_ UU_ => aa_ = #[(.int (0 : Int32)), (.int c0), (.int c1), (.int c2)] ∧ Z.Warmed39 UU_.vm ∧ UU_.heap = h0 ∧ CHv Z consts_1 UU_.vm h0) (fun _ _ _ _ _ => True) (fun _ UU_ oo_ UV_ => ∃ vv_ LL_, oo_ = .returned vv_ ∧ QMK00 Z c0 c1 c2 i_COMPACT_STRINGS v_SIOOBE_FORMATTER h0 n0 vv_ UV_.heap LL_ ∧ CHr Z consts_1 UU_.vm UU_.heap UV_.vm UV_.heap ∧ ReturnedEndW UU_ oo_ UV_ LL_ ({ frames := 3, cells := 6, slots := 12, locals := 43 } : Room).cells ({ frames := 3, cells := 6, slots := 12, locals := 43 } : Room).slots) := by
  refine MetFree.of_bodySF (plainFor_of_name pn_4) hisR ?_
  intro p e s m args below meth c s₁ Bd hml0 hP hK
  obtain ⟨rfl, hZ, hh, hCH⟩ := hP
  have hx := Bd.exec
  have hby := Bd.bytes
  have hlk := BodyLoose.notSynchronized Bd
  have hml : c.maxLocals = 4 := hml0
  have hown : s.vm.findClass "com/example/cartulary/cartulary/entity/AttachmentValueOfStringPinLaw" = some m.cls := findClass_of_methodNamed Bd.named
  have hnm := (name_of_methodNamed Bd.named Bd.method).1
  have X0 : Stand p l e ({ frames := 3, cells := 6, slots := 12, locals := 43 } : Room) s m #[(.int (0 : Int32)), (.int c0), (.int c1), (.int c2)] below meth c s₁ [] 0 0 := Stand.of_body Bd
  have e0 : s₁.heap = h0 := by rw [← hh, Bd.state]; rfl
  have N0 := Fr.nil n0
  have hS0 : s.Since s.vm 0 := (State.WarmedH.refl s).since 0
  have hk0 : 0 ≤ h0.size := Nat.zero_le _
  have CR0 : CHr Z consts_1 s.vm h0 s.vm h0 := CHr.refl hCH
  have KC0 : Keep h0 h0 [] := Keep.refl _ _
  suffices hOW : OWH Z consts_1 h0 p e below s (QMK00 Z c0 c1 c2 i_COMPACT_STRINGS v_SIOOBE_FORMATTER h0 n0) 6 12 (s₁.setTop (mkF m 0 #[.val (.int (0 : Int32)), .val (.int c0), .val (.int c1), .val (.int c2)] [])) by
    obtain ⟨oq1_, oq2_, oq3_, oq4_⟩ := hOW
    obtain ⟨oq5_, oq6_, oq7_, oq8_, oq9_, or1_, or2_, or3_⟩ := oq4_
    exact ⟨oq1_, oq2_, castTop (ef_MK00 m (0 : Int32) c0 c1 c2) oq3_, oq5_, oq6_, oq7_, oq8_, oq9_, or1_, by rw [hh]; exact or2_, or3_⟩
  have hS' := hS
  obtain ⟨Si_COMPACT_STRINGS, Sv_SIOOBE_FORMATTER, Rv_SIOOBE_FORMATTER, S__assertionsDisabled, S_HI_BYTE_SHIFT, S_LO_BYTE_SHIFT, Pi_COMPACT_STRINGS⟩ := hS'
  refine OWH.st (B := s₁.setTop (mkF m 4 #[.val (.int (0 : Int32)), .val (.int c0), .val (.int c1), .val (.int c2)] [])) (fun _ kk_ => XS.iloadN X0.here hx rfl (hb hby d1_0) rfl (XS.ifNo X0.here hx rfl (hb hby d1_1) rfl ((if0 _ _).trans (teq (by decide)).2) kk_)) ?_
  obtain ⟨T91, h91, X91, e91, E91, A91, D91, -, st91⟩ := newO X0 hx hZ hown (w_5 hw) (w_6 hw) (w_7 hw) e0 (g := (mkF m 4 #[.val (.int (0 : Int32)), .val (.int c0), .val (.int c1), .val (.int c2)] [])) rfl (hb hby d1_4) (by decide) (by decide)
  obtain ⟨b91, g91⟩ : ∃ z, z = h0.size := ⟨_, rfl⟩
  rw [← g91] at A91 D91 st91
  have n_b91 : n0 ≤ b91 := Nat.le_trans (own_oldle O0) (Nat.le_of_eq g91.symm)
  have O91 : Old Z n0 h91 := O0.ext E91
  have sz_b91 : h0.size ≤ b91 := Nat.le_trans KC0.1 (Nat.le_of_eq g91.symm)
  have CS91 : CHr Z consts_1 s.vm h0 s.vm h91 := CHr.ext E91 CR0.1
  have CR91 := CHr.trans CR0 CS91
  have Sf91_b91 : Safe Z consts_1 s.vm h91 b91 := Safe.ext E91 CR0.1 (Safe.new (Nat.le_of_eq g91.symm))
  have KC91 : Keep h0 h91 [] := KC0.ext E91
  have F91_32 : Fld Z h91 b91 "java/lang/String" "coder" "B" (.int (0 : Int32)) := D91 (Or.inr (w_32 hw)) (ty := .byte) (by decide)
  have F91_34 : Fld Z h91 b91 "java/lang/String" "value" "[B" .null := D91 (Or.inr (w_34 hw)) (ty := (.array .byte)) (by decide)
  refine OWH.st (B := T91.setTop (mkF m 9 #[.val (.int (0 : Int32)), .val (.int c0), .val (.int c1), .val (.int c2)] [(.int (0 : Int32)), (.ref b91), (.ref b91)])) (fun _ kk_ => st91 _ (XS.dup X91.here hx rfl (hb hby d1_7) rfl rfl (XS.iconst X91.here hx rfl (hb hby d1_8) kk_))) ?_
  obtain ⟨T92, h92, k92, X92, e92, E92, A92, st92⟩ := newP (aty := .char) X91 hx hZ (w_8 hw) e91 (g := (mkF m 9 #[.val (.int (0 : Int32)), .val (.int c0), .val (.int c1), .val (.int c2)] [(.int (0 : Int32)), (.ref b91), (.ref b91)])) rfl (hb hby d1_9) rfl (by decide) (cap := 0) (by decide +kernel) (by decide +kernel) (by decide +kernel) (by decide +kernel)
  obtain ⟨b92, g92⟩ : ∃ z, z = h91.size := ⟨_, rfl⟩
  rw [← g92] at A92 st92
  have n_b92 : n0 ≤ b92 := Nat.le_trans (own_oldle O91) (Nat.le_of_eq g92.symm)
  have O92 : Old Z n0 h92 := O91.ext E92
  have sz_b92 : h0.size ≤ b92 := Nat.le_trans KC91.1 (Nat.le_of_eq g92.symm)
  have CS92 : CHr Z consts_1 s.vm h91 s.vm h92 := CHr.ext E92 CR91.1
  have Sf92_b91 := CHr.safe CS92 A91.lt Sf91_b91
  have CR92 := CHr.trans CR91 CS92
  have Sf92_b92 : Safe Z consts_1 s.vm h92 b92 := Safe.ext E92 CR91.1 (Safe.new (Nat.le_of_eq g92.symm))
  have KC92 : Keep h0 h92 [] := KC91.ext E92
  have V92 : Arv Z h92 b92 k92 .char (0 : Int32) [] (.int (0 : Int32)) := (Arv.new A92 (by decide)).pad (pad_rep [] (.int (0 : Int32)) 0)
  refine OWH.st (B := T92.setTop (mkF m 11 #[.val (.int (0 : Int32)), .val (.int c0), .val (.int c1), .val (.int c2)] [(.ref b92), (.ref b91), (.ref b91)])) (fun _ kk_ => st92 _ kk_) ?_
  obtain ⟨_, _, ⟨T93, L93, k93, n93⟩, -, X93, hs93, hsz93, ⟨Lc93, hQ93, l93, y93, z93, CQ93⟩, st93⟩ := X92.specialBackS hx (y := (⟨"java/lang/String", "<init>", "([C)V"⟩ : MethodName)) rfl hown (mvT hZ (w_9 hw)) (mvT hZ (w_10 hw)) (mvT hZ (w_11 hw)) (by decide) (backOfSH (W := 1) (rmS0_0 l Z a0 hw [] b91 b92 k92 h92 n0 O92 (A91.ext E92) (F91_34.ext E92) (F91_32.ext E92) n_b91 V92) hZ (w_11 hw) (w_7 hw) (by decide) (by decide) (own_EW hw) CR92.1) (g := (mkF m 11 #[.val (.int (0 : Int32)), .val (.int c0), .val (.int c1), .val (.int c2)] [(.ref b92), (.ref b91), (.ref b91)])) rfl (by rw [hml]; rfl) (Steps.refl _) (a := b91) (argsL := [(.ref b92)]) (rest := [(.ref b91)]) (lenOf pd_14 rfl) rfl (by show 2 * 0 + _ ≤ _; exact Nat.le_of_eq rfl) (hb hby d1_11) (fun _ _ => ⟨rfl, e92, (by decide : 2 + 4 ≤ _), (by decide : 4 + 8 ≤ _)⟩)
  dsimp only [Pt.U, Pt.locs, Pt.cells, Pt.slots] at hs93 hsz93
  have hS93 := foldS hS0 (show _ ≤ T92.heap.size by rw [e92]; exact (Nat.le_trans (Nat.le_trans hk0 E91.1) E92.1)) hs93 hsz93
  have hZ93 : Z.Warmed39 (s.setVm T93.vm).vm := State.Warmed39.trans (t := s) hZ hs93.1
  have hown93 : (s.setVm T93.vm).vm.findClass "com/example/cartulary/cartulary/entity/AttachmentValueOfStringPinLaw" = some m.cls := by rw [show (s.setVm T93.vm).vm = T93.vm from rfl, hs93.1.alike.findClass]; exact hown
  dsimp only [Pt.U, Pt.locs, Pt.cells, Pt.slots] at X93 l93 y93 z93 st93 hQ93 CQ93
  subst l93 y93 z93
  obtain ⟨rfl, Nq93, K93, Es93, ba93, kb93, Fc93, Fv93, Vs93⟩ := hQ93
  have N93 := Fr.app N0 Nq93
  have O93 : Old Z n0 T93.heap := O92.keep K93 (allS n_b91 all0)
  have CS93 : CHr Z consts_1 s.vm h92 T93.vm T93.heap := CQ93
  have Sf93_b91 := CHr.safe CS93 (A91.ext E92).lt Sf92_b91
  have Sf93_b92 := CHr.safe CS93 V92.lt Sf92_b92
  have CR93 := CHr.trans CR92 CS93
  have KC93 : Keep h0 T93.heap [] := KC92.trans K93 (allS (Or.inr sz_b91) all0)
  have hk93 : T93.heap.size ≤ T93.heap.size := Nat.le_of_eq (by rfl)
  refine OWH.tr (B := T93.setTop (mkF m 14 #[.val (.int (0 : Int32)), .val (.int c0), .val (.int c1), .val (.int c2)] [(.ref b91)])) (st93) ?_
  exact OWH.ret X93 (s := s) (vm0 := T93.vm) hS93 hk93 hx hlk CR93 hZ93 (own_EW hw) (i := .areturn) Bd.returns rfl (Or.inr (Or.inr (Or.inr (Or.inr ⟨rfl, rfl, rfl⟩)))) (hb hby d1_14) rfl (by decide) (by decide) ⟨b91, ba93, kb93, rfl, N93, KC93, n_b91, ((A91.ext E92).keep K93), Fv93, Fc93, Vs93⟩
theorem ef_MK10 (m : MethodId) (x0 : Int32) (x1 : Int32) (x2 : Int32) (x3 : Int32) : entryFrame m #[(.int x0), (.int x1), (.int x2), (.int x3)] 4 = mkF m 0 #[.val (.int x0), .val (.int x1), .val (.int x2), .val (.int x3)] [] := by first | (simp [entryFrame, mkF, argsToLocals, Value.category]; done) | rfl
def QMK10 (Z : State) (c0 : Int32) (c1 : Int32) (c2 : Int32) (i_COMPACT_STRINGS : Int32) (v_SIOOBE_FORMATTER : Value) (h0 : Heap) (n0 : Nat) (v : Option Value) (h : Heap) (L : List Loc) : Prop := ∃ (b ba : Addr) (kb : ClassId), v = some (.ref b) ∧ Fr n0 L ∧ Keep h0 h [] ∧ n0 ≤ b ∧ Exa Z h b "java/lang/String" ∧ Fld Z h b "java/lang/String" "value" "[B" (.ref ba) ∧ Fld Z h b "java/lang/String" "coder" "B" (.int (0 : Int32)) ∧ Arv Z h ba kb .byte (1 : Int32) (OwnL [c0]) (.int (0 : Int32))
set_option maxRecDepth 65536 in
set_option maxHeartbeats 40000000 in
theorem rmMK10 (l : Launch) (Z : State) (a0 : Array Value) (hw : ∀ d ∈ tables_1, d.before a0 Z = true) (ws : List Jvm.Cond) (c0 : Int32) (c1 : Int32) (c2 : Int32) (i_COMPACT_STRINGS : Int32) (v_SIOOBE_FORMATTER : Value) (h0 : Heap) (n0 : Nat) (O0 : Old Z n0 h0) (hnc0 : nar .char c0 = c0) (hnc1 : nar .char c1 = c1) (hnc2 : nar .char c2 = c2) (hlc0 : ¬ ((255 : Int32) < c0)) (hS : OwnS Z i_COMPACT_STRINGS v_SIOOBE_FORMATTER) :
    MetFree l (⟨"com/example/cartulary/cartulary/entity/AttachmentValueOfStringPinLaw", "make", "(ICCC)Ljava/lang/String;"⟩ : MethodName) (head1 (Jvm.Cond.code (⟨"com/example/cartulary/cartulary/entity/AttachmentValueOfStringPinLaw", "make", "(ICCC)Ljava/lang/String;"⟩ : MethodName) method_3_code 4 (some (.object "java/lang/String")) :: ws) ({ frames := 4, cells := 3, slots := 15, locals := 66 } : Room)) (fun aa_ UU_ => aa_ = #[(.int (1 : Int32)), (.int c0), (.int c1), (.int c2)] ∧ Z.Warmed39 UU_.vm ∧ UU_.heap = h0) (fun _ _ _ _ _ => True) (fun _ UU_ oo_ UV_ => ∃ vv_ LL_, oo_ = .returned vv_ ∧ QMK10 Z c0 c1 c2 i_COMPACT_STRINGS v_SIOOBE_FORMATTER h0 n0 vv_ UV_.heap LL_ ∧ FrameEnd UU_ oo_ UV_ LL_ ({ frames := 4, cells := 3, slots := 15, locals := 66 } : Room).cells ({ frames := 4, cells := 3, slots := 15, locals := 66 } : Room).slots) := by
  refine MetFree.of_bodySF (plainFor_of_name pn_4) hisR ?_
  intro p e s m args below meth c s₁ Bd hml0 hP hK
  obtain ⟨rfl, hZ, hh⟩ := hP
  have hx := Bd.exec
  have hby := Bd.bytes
  have hlk := BodyLoose.notSynchronized Bd
  have hml : c.maxLocals = 4 := hml0
  have hown : s.vm.findClass "com/example/cartulary/cartulary/entity/AttachmentValueOfStringPinLaw" = some m.cls := findClass_of_methodNamed Bd.named
  have hnm := (name_of_methodNamed Bd.named Bd.method).1
  have X0 : Stand p l e ({ frames := 4, cells := 3, slots := 15, locals := 66 } : Room) s m #[(.int (1 : Int32)), (.int c0), (.int c1), (.int c2)] below meth c s₁ [] 0 0 := Stand.of_body Bd
  have e0 : s₁.heap = h0 := by rw [← hh, Bd.state]; rfl
  have N0 := Fr.nil n0
  have KC0 : Keep h0 h0 [] := Keep.refl _ _
  suffices hOW : OW p e below s (QMK10 Z c0 c1 c2 i_COMPACT_STRINGS v_SIOOBE_FORMATTER h0 n0) 3 15 (s₁.setTop (mkF m 0 #[.val (.int (1 : Int32)), .val (.int c0), .val (.int c1), .val (.int c2)] [])) by
    obtain ⟨oq1_, oq2_, oq3_, oq4_⟩ := hOW
    exact ⟨oq1_, oq2_, castTop (ef_MK10 m (1 : Int32) c0 c1 c2) oq3_, oq4_⟩
  have hS' := hS
  obtain ⟨Si_COMPACT_STRINGS, Sv_SIOOBE_FORMATTER, Rv_SIOOBE_FORMATTER, S__assertionsDisabled, S_HI_BYTE_SHIFT, S_LO_BYTE_SHIFT, Pi_COMPACT_STRINGS⟩ := hS'
  refine OW.st (B := s₁.setTop (mkF m 20 #[.val (.int (1 : Int32)), .val (.int c0), .val (.int c1), .val (.int c2)] [])) (fun _ kk_ => XS.iloadN X0.here hx rfl (hb hby d1_0) rfl (XS.ifYes X0.here hx rfl (pc0 := 1) (pc' := 15) rfl (hb hby d1_1) rfl ((if0 _ _).trans (feq (by decide)).2) (by decide) (by decide) (XS.iloadN X0.here hx rfl (hb hby d1_15) rfl (XS.iconst X0.here hx rfl (hb hby d1_16) (XS.icmpNo X0.here hx rfl (hb hby d1_17) rfl (teq (by decide)).2 kk_))))) ?_
  obtain ⟨T94, h94, X94, e94, E94, A94, D94, -, st94⟩ := newO X0 hx hZ hown (w_5 hw) (w_6 hw) (w_7 hw) e0 (g := (mkF m 20 #[.val (.int (1 : Int32)), .val (.int c0), .val (.int c1), .val (.int c2)] [])) rfl (hb hby d1_20) (by decide) (by decide)
  obtain ⟨b94, g94⟩ : ∃ z, z = h0.size := ⟨_, rfl⟩
  rw [← g94] at A94 D94 st94
  have n_b94 : n0 ≤ b94 := Nat.le_trans (own_oldle O0) (Nat.le_of_eq g94.symm)
  have O94 : Old Z n0 h94 := O0.ext E94
  have sz_b94 : h0.size ≤ b94 := Nat.le_trans KC0.1 (Nat.le_of_eq g94.symm)
  have KC94 : Keep h0 h94 [] := KC0.ext E94
  have F94_32 : Fld Z h94 b94 "java/lang/String" "coder" "B" (.int (0 : Int32)) := D94 (Or.inr (w_32 hw)) (ty := .byte) (by decide)
  have F94_34 : Fld Z h94 b94 "java/lang/String" "value" "[B" .null := D94 (Or.inr (w_34 hw)) (ty := (.array .byte)) (by decide)
  refine OW.st (B := T94.setTop (mkF m 25 #[.val (.int (1 : Int32)), .val (.int c0), .val (.int c1), .val (.int c2)] [(.int (1 : Int32)), (.ref b94), (.ref b94)])) (fun _ kk_ => st94 _ (XS.dup X94.here hx rfl (hb hby d1_23) rfl rfl (XS.iconst X94.here hx rfl (hb hby d1_24) kk_))) ?_
  obtain ⟨T95, h95, k95, X95, e95, E95, A95, st95⟩ := newP (aty := .char) X94 hx hZ (w_8 hw) e94 (g := (mkF m 25 #[.val (.int (1 : Int32)), .val (.int c0), .val (.int c1), .val (.int c2)] [(.int (1 : Int32)), (.ref b94), (.ref b94)])) rfl (hb hby d1_25) rfl (by decide) (cap := 1) (by decide +kernel) (by decide +kernel) (by decide +kernel) (by decide +kernel)
  obtain ⟨b95, g95⟩ : ∃ z, z = h94.size := ⟨_, rfl⟩
  rw [← g95] at A95 st95
  have n_b95 : n0 ≤ b95 := Nat.le_trans (own_oldle O94) (Nat.le_of_eq g95.symm)
  have O95 : Old Z n0 h95 := O94.ext E95
  have sz_b95 : h0.size ≤ b95 := Nat.le_trans KC94.1 (Nat.le_of_eq g95.symm)
  have KC95 : Keep h0 h95 [] := KC94.ext E95
  have V95 : Arv Z h95 b95 k95 .char (1 : Int32) [(.int (0 : Int32))] (.int (0 : Int32)) := (Arv.new A95 (by decide)).pad (pad_rep [] (.int (0 : Int32)) 1)
  refine OW.st (B := T95.setTop (mkF m 30 #[.val (.int (1 : Int32)), .val (.int c0), .val (.int c1), .val (.int c2)] [(.int c0), (.int (0 : Int32)), (.ref b95), (.ref b95), (.ref b94), (.ref b94)])) (fun _ kk_ => st95 _ (XS.dup X95.here hx rfl (hb hby d1_27) rfl rfl (XS.iconst X95.here hx rfl (hb hby d1_28) (XS.iloadN X95.here hx rfl (hb hby d1_29) rfl kk_)))) ?_
  obtain ⟨cl96, Ar96, q96, S96, Ng96, Hs96, G96⟩ := id V95
  have hin96 : ¬ ((0 : Int32) < 0 ∨ cl96.slots.size ≤ ((0 : Int32)).toNatClampNeg) := inb_of S96 ⟨by decide, by decide⟩
  obtain ⟨T97, h97, X97, e97, W97, st97⟩ := stC X95 hx hZ e95 Ar96 (j := (0 : Int32)) hin96 (g := (mkF m 30 #[.val (.int (1 : Int32)), .val (.int c0), .val (.int c1), .val (.int c2)] [(.int c0), (.int (0 : Int32)), (.ref b95), (.ref b95), (.ref b94), (.ref b94)])) rfl rfl (hb hby d1_30)
  rw [hnc0] at W97
  have N97 := Fr.snoc X97 N0 n_b95
  have O97 : Old Z n0 h97 := O95.wr W97 n_b95
  have KC97 : Keep h0 h97 [] := KC95.wr W97 (Or.inr sz_b95)
  have V97 : Arv Z h97 b95 k95 .char (1 : Int32) [(.int c0)] (.int (0 : Int32)) := Arv.set Ar96 q96 S96 Ng96 Hs96 G96 (hnc0 ▸ (fits_nar_char _)) W97 0 rfl (Nat.le_of_ble_eq_true rfl)
  refine OW.st (B := T97.setTop (mkF m 31 #[.val (.int (1 : Int32)), .val (.int c0), .val (.int c1), .val (.int c2)] [(.ref b95), (.ref b94), (.ref b94)])) (fun _ kk_ => st97 _ kk_) ?_
  obtain ⟨_, _, ⟨T98, L98, k98, n98⟩, -, X98, ⟨Lc98, hQ98, l98, y98, z98⟩, st98⟩ := X97.specialBack hx (y := (⟨"java/lang/String", "<init>", "([C)V"⟩ : MethodName)) rfl hown (mvT hZ (w_9 hw)) (mvT hZ (w_10 hw)) (mvT hZ (w_11 hw)) (by decide) (backOf (W := 1) (rmS00 l Z a0 hw [] b94 b95 k95 (1 : Int32) [c0] i_COMPACT_STRINGS v_SIOOBE_FORMATTER h97 n0 O97 ((A94.ext E95).wr W97) ((F94_34.ext E95).other W97 (Or.inl (Nat.ne_of_lt (Nat.lt_of_lt_of_le A94.lt (Nat.le_of_eq g95.symm))))) ((F94_32.ext E95).other W97 (Or.inl (Nat.ne_of_lt (Nat.lt_of_lt_of_le A94.lt (Nat.le_of_eq g95.symm))))) n_b94 V97 rfl (Nat.le_of_ble_eq_true rfl) (Nat.zero_lt_succ _) (OwnChs.cons hnc0 OwnChs.nil) (OwnLat.cons hlc0 OwnLat.nil) hS) hZ (w_11 hw) (w_7 hw) (by decide) (by decide)) (g := (mkF m 31 #[.val (.int (1 : Int32)), .val (.int c0), .val (.int c1), .val (.int c2)] [(.ref b95), (.ref b94), (.ref b94)])) rfl (by rw [hml]; rfl) (Steps.refl _) (a := b94) (argsL := [(.ref b95)]) (rest := [(.ref b94)]) (lenOf pd_14 rfl) rfl (by show 2 * 0 + _ ≤ _; exact Nat.le_of_eq rfl) (hb hby d1_31) (fun _ _ => ⟨rfl, e97, (by decide : 2 + 1 ≤ _), (by decide : 5 + 10 ≤ _)⟩)
  dsimp only [Pt.U, Pt.locs, Pt.cells, Pt.slots] at X98 l98 y98 z98 st98 hQ98
  subst l98 y98 z98
  obtain ⟨rfl, Nq98, K98, Es98, ba98, kb98, gba98, nba98, Fc98, Fv98, Vs98⟩ := hQ98
  have N98 := Fr.app N97 Nq98
  have O98 : Old Z n0 T98.heap := O97.keep K98 (allS n_b94 all0)
  have KC98 : Keep h0 T98.heap [] := KC97.trans K98 (allS (Or.inr sz_b94) all0)
  refine OW.tr (B := T98.setTop (mkF m 34 #[.val (.int (1 : Int32)), .val (.int c0), .val (.int c1), .val (.int c2)] [(.ref b94)])) (st98) ?_
  exact OW.ret X98 hx hlk (i := .areturn) Bd.returns rfl (Or.inr (Or.inr (Or.inr (Or.inr ⟨rfl, rfl, rfl⟩)))) (hb hby d1_34) rfl (by decide) (by decide) ⟨b94, ba98, kb98, rfl, N98, KC98, n_b94, (((A94.ext E95).wr W97).keep K98), Fv98, Fc98, Vs98⟩
theorem ef_MK11 (m : MethodId) (x0 : Int32) (x1 : Int32) (x2 : Int32) (x3 : Int32) : entryFrame m #[(.int x0), (.int x1), (.int x2), (.int x3)] 4 = mkF m 0 #[.val (.int x0), .val (.int x1), .val (.int x2), .val (.int x3)] [] := by first | (simp [entryFrame, mkF, argsToLocals, Value.category]; done) | rfl
def QMK11 (Z : State) (c0 : Int32) (c1 : Int32) (c2 : Int32) (i_COMPACT_STRINGS : Int32) (v_SIOOBE_FORMATTER : Value) (h0 : Heap) (n0 : Nat) (v : Option Value) (h : Heap) (L : List Loc) : Prop := ∃ (b ba : Addr) (kb : ClassId), v = some (.ref b) ∧ Fr n0 L ∧ Keep h0 h [] ∧ n0 ≤ b ∧ Exa Z h b "java/lang/String" ∧ Fld Z h b "java/lang/String" "value" "[B" (.ref ba) ∧ Fld Z h b "java/lang/String" "coder" "B" (.int (1 : Int32)) ∧ Arv Z h ba kb .byte (2 : Int32) (OwnU [c0]) (.int (0 : Int32))
set_option maxRecDepth 65536 in
set_option maxHeartbeats 40000000 in
theorem rmMK11 (l : Launch) (Z : State) (a0 : Array Value) (hw : ∀ d ∈ tables_1, d.before a0 Z = true) (ws : List Jvm.Cond) (c0 : Int32) (c1 : Int32) (c2 : Int32) (i_COMPACT_STRINGS : Int32) (v_SIOOBE_FORMATTER : Value) (h0 : Heap) (n0 : Nat) (O0 : Old Z n0 h0) (hnc0 : nar .char c0 = c0) (hnc1 : nar .char c1 = c1) (hnc2 : nar .char c2 = c2) (hu : (255 : Int32) < c0) (hS : OwnS Z i_COMPACT_STRINGS v_SIOOBE_FORMATTER) :
    MetFree l (⟨"com/example/cartulary/cartulary/entity/AttachmentValueOfStringPinLaw", "make", "(ICCC)Ljava/lang/String;"⟩ : MethodName) (head1 (Jvm.Cond.code (⟨"com/example/cartulary/cartulary/entity/AttachmentValueOfStringPinLaw", "make", "(ICCC)Ljava/lang/String;"⟩ : MethodName) method_3_code 4 (some (.object "java/lang/String")) :: ws) ({ frames := 6, cells := 4, slots := 35, locals := 88 } : Room)) (fun aa_ UU_ => aa_ = #[(.int (1 : Int32)), (.int c0), (.int c1), (.int c2)] ∧ Z.Warmed39 UU_.vm ∧ UU_.heap = h0) (fun _ _ _ _ _ => True) (fun _ UU_ oo_ UV_ => ∃ vv_ LL_, oo_ = .returned vv_ ∧ QMK11 Z c0 c1 c2 i_COMPACT_STRINGS v_SIOOBE_FORMATTER h0 n0 vv_ UV_.heap LL_ ∧ FrameEnd UU_ oo_ UV_ LL_ ({ frames := 6, cells := 4, slots := 35, locals := 88 } : Room).cells ({ frames := 6, cells := 4, slots := 35, locals := 88 } : Room).slots) := by
  refine MetFree.of_bodySF (plainFor_of_name pn_4) hisR ?_
  intro p e s m args below meth c s₁ Bd hml0 hP hK
  obtain ⟨rfl, hZ, hh⟩ := hP
  have hx := Bd.exec
  have hby := Bd.bytes
  have hlk := BodyLoose.notSynchronized Bd
  have hml : c.maxLocals = 4 := hml0
  have hown : s.vm.findClass "com/example/cartulary/cartulary/entity/AttachmentValueOfStringPinLaw" = some m.cls := findClass_of_methodNamed Bd.named
  have hnm := (name_of_methodNamed Bd.named Bd.method).1
  have X0 : Stand p l e ({ frames := 6, cells := 4, slots := 35, locals := 88 } : Room) s m #[(.int (1 : Int32)), (.int c0), (.int c1), (.int c2)] below meth c s₁ [] 0 0 := Stand.of_body Bd
  have e0 : s₁.heap = h0 := by rw [← hh, Bd.state]; rfl
  have N0 := Fr.nil n0
  have KC0 : Keep h0 h0 [] := Keep.refl _ _
  suffices hOW : OW p e below s (QMK11 Z c0 c1 c2 i_COMPACT_STRINGS v_SIOOBE_FORMATTER h0 n0) 4 35 (s₁.setTop (mkF m 0 #[.val (.int (1 : Int32)), .val (.int c0), .val (.int c1), .val (.int c2)] [])) by
    obtain ⟨oq1_, oq2_, oq3_, oq4_⟩ := hOW
    exact ⟨oq1_, oq2_, castTop (ef_MK11 m (1 : Int32) c0 c1 c2) oq3_, oq4_⟩
  have hS' := hS
  obtain ⟨Si_COMPACT_STRINGS, Sv_SIOOBE_FORMATTER, Rv_SIOOBE_FORMATTER, S__assertionsDisabled, S_HI_BYTE_SHIFT, S_LO_BYTE_SHIFT, Pi_COMPACT_STRINGS⟩ := hS'
  refine OW.st (B := s₁.setTop (mkF m 20 #[.val (.int (1 : Int32)), .val (.int c0), .val (.int c1), .val (.int c2)] [])) (fun _ kk_ => XS.iloadN X0.here hx rfl (hb hby d1_0) rfl (XS.ifYes X0.here hx rfl (pc0 := 1) (pc' := 15) rfl (hb hby d1_1) rfl ((if0 _ _).trans (feq (by decide)).2) (by decide) (by decide) (XS.iloadN X0.here hx rfl (hb hby d1_15) rfl (XS.iconst X0.here hx rfl (hb hby d1_16) (XS.icmpNo X0.here hx rfl (hb hby d1_17) rfl (teq (by decide)).2 kk_))))) ?_
  obtain ⟨T99, h99, X99, e99, E99, A99, D99, -, st99⟩ := newO X0 hx hZ hown (w_5 hw) (w_6 hw) (w_7 hw) e0 (g := (mkF m 20 #[.val (.int (1 : Int32)), .val (.int c0), .val (.int c1), .val (.int c2)] [])) rfl (hb hby d1_20) (by decide) (by decide)
  obtain ⟨b99, g99⟩ : ∃ z, z = h0.size := ⟨_, rfl⟩
  rw [← g99] at A99 D99 st99
  have n_b99 : n0 ≤ b99 := Nat.le_trans (own_oldle O0) (Nat.le_of_eq g99.symm)
  have O99 : Old Z n0 h99 := O0.ext E99
  have sz_b99 : h0.size ≤ b99 := Nat.le_trans KC0.1 (Nat.le_of_eq g99.symm)
  have KC99 : Keep h0 h99 [] := KC0.ext E99
  have F99_32 : Fld Z h99 b99 "java/lang/String" "coder" "B" (.int (0 : Int32)) := D99 (Or.inr (w_32 hw)) (ty := .byte) (by decide)
  have F99_34 : Fld Z h99 b99 "java/lang/String" "value" "[B" .null := D99 (Or.inr (w_34 hw)) (ty := (.array .byte)) (by decide)
  refine OW.st (B := T99.setTop (mkF m 25 #[.val (.int (1 : Int32)), .val (.int c0), .val (.int c1), .val (.int c2)] [(.int (1 : Int32)), (.ref b99), (.ref b99)])) (fun _ kk_ => st99 _ (XS.dup X99.here hx rfl (hb hby d1_23) rfl rfl (XS.iconst X99.here hx rfl (hb hby d1_24) kk_))) ?_
  obtain ⟨T100, h100, k100, X100, e100, E100, A100, st100⟩ := newP (aty := .char) X99 hx hZ (w_8 hw) e99 (g := (mkF m 25 #[.val (.int (1 : Int32)), .val (.int c0), .val (.int c1), .val (.int c2)] [(.int (1 : Int32)), (.ref b99), (.ref b99)])) rfl (hb hby d1_25) rfl (by decide) (cap := 1) (by decide +kernel) (by decide +kernel) (by decide +kernel) (by decide +kernel)
  obtain ⟨b100, g100⟩ : ∃ z, z = h99.size := ⟨_, rfl⟩
  rw [← g100] at A100 st100
  have n_b100 : n0 ≤ b100 := Nat.le_trans (own_oldle O99) (Nat.le_of_eq g100.symm)
  have O100 : Old Z n0 h100 := O99.ext E100
  have sz_b100 : h0.size ≤ b100 := Nat.le_trans KC99.1 (Nat.le_of_eq g100.symm)
  have KC100 : Keep h0 h100 [] := KC99.ext E100
  have V100 : Arv Z h100 b100 k100 .char (1 : Int32) [(.int (0 : Int32))] (.int (0 : Int32)) := (Arv.new A100 (by decide)).pad (pad_rep [] (.int (0 : Int32)) 1)
  refine OW.st (B := T100.setTop (mkF m 30 #[.val (.int (1 : Int32)), .val (.int c0), .val (.int c1), .val (.int c2)] [(.int c0), (.int (0 : Int32)), (.ref b100), (.ref b100), (.ref b99), (.ref b99)])) (fun _ kk_ => st100 _ (XS.dup X100.here hx rfl (hb hby d1_27) rfl rfl (XS.iconst X100.here hx rfl (hb hby d1_28) (XS.iloadN X100.here hx rfl (hb hby d1_29) rfl kk_)))) ?_
  obtain ⟨cl101, Ar101, q101, S101, Ng101, Hs101, G101⟩ := id V100
  have hin101 : ¬ ((0 : Int32) < 0 ∨ cl101.slots.size ≤ ((0 : Int32)).toNatClampNeg) := inb_of S101 ⟨by decide, by decide⟩
  obtain ⟨T102, h102, X102, e102, W102, st102⟩ := stC X100 hx hZ e100 Ar101 (j := (0 : Int32)) hin101 (g := (mkF m 30 #[.val (.int (1 : Int32)), .val (.int c0), .val (.int c1), .val (.int c2)] [(.int c0), (.int (0 : Int32)), (.ref b100), (.ref b100), (.ref b99), (.ref b99)])) rfl rfl (hb hby d1_30)
  rw [hnc0] at W102
  have N102 := Fr.snoc X102 N0 n_b100
  have O102 : Old Z n0 h102 := O100.wr W102 n_b100
  have KC102 : Keep h0 h102 [] := KC100.wr W102 (Or.inr sz_b100)
  have V102 : Arv Z h102 b100 k100 .char (1 : Int32) [(.int c0)] (.int (0 : Int32)) := Arv.set Ar101 q101 S101 Ng101 Hs101 G101 (hnc0 ▸ (fits_nar_char _)) W102 0 rfl (Nat.le_of_ble_eq_true rfl)
  refine OW.st (B := T102.setTop (mkF m 31 #[.val (.int (1 : Int32)), .val (.int c0), .val (.int c1), .val (.int c2)] [(.ref b100), (.ref b99), (.ref b99)])) (fun _ kk_ => st102 _ kk_) ?_
  obtain ⟨_, _, ⟨T103, L103, k103, n103⟩, -, X103, ⟨Lc103, hQ103, l103, y103, z103⟩, st103⟩ := X102.specialBack hx (y := (⟨"java/lang/String", "<init>", "([C)V"⟩ : MethodName)) rfl hown (mvT hZ (w_9 hw)) (mvT hZ (w_10 hw)) (mvT hZ (w_11 hw)) (by decide) (backOf (W := 1) (rmS01 l Z a0 hw [] b99 b100 k100 (1 : Int32) [c0] i_COMPACT_STRINGS v_SIOOBE_FORMATTER h102 n0 O102 ((A99.ext E100).wr W102) ((F99_34.ext E100).other W102 (Or.inl (Nat.ne_of_lt (Nat.lt_of_lt_of_le A99.lt (Nat.le_of_eq g100.symm))))) ((F99_32.ext E100).other W102 (Or.inl (Nat.ne_of_lt (Nat.lt_of_lt_of_le A99.lt (Nat.le_of_eq g100.symm))))) n_b99 V102 rfl (Nat.le_of_ble_eq_true rfl) (Nat.zero_lt_succ _) (OwnChs.cons hnc0 OwnChs.nil) (OwnHi.here hu) hS) hZ (w_11 hw) (w_7 hw) (by decide) (by decide)) (g := (mkF m 31 #[.val (.int (1 : Int32)), .val (.int c0), .val (.int c1), .val (.int c2)] [(.ref b100), (.ref b99), (.ref b99)])) rfl (by rw [hml]; rfl) (Steps.refl _) (a := b99) (argsL := [(.ref b100)]) (rest := [(.ref b99)]) (lenOf pd_14 rfl) rfl (by show 2 * 0 + _ ≤ _; exact Nat.le_of_eq rfl) (hb hby d1_31) (fun _ _ => ⟨rfl, e102, (by decide : 2 + 2 ≤ _), (by decide : 5 + 30 ≤ _)⟩)
  dsimp only [Pt.U, Pt.locs, Pt.cells, Pt.slots] at X103 l103 y103 z103 st103 hQ103
  subst l103 y103 z103
  obtain ⟨rfl, Nq103, K103, Es103, ba103, kb103, gba103, nba103, Fc103, Fv103, Vs103⟩ := hQ103
  have N103 := Fr.app N102 Nq103
  have O103 : Old Z n0 T103.heap := O102.keep K103 (allS n_b99 all0)
  have KC103 : Keep h0 T103.heap [] := KC102.trans K103 (allS (Or.inr sz_b99) all0)
  refine OW.tr (B := T103.setTop (mkF m 34 #[.val (.int (1 : Int32)), .val (.int c0), .val (.int c1), .val (.int c2)] [(.ref b99)])) (st103) ?_
  exact OW.ret X103 hx hlk (i := .areturn) Bd.returns rfl (Or.inr (Or.inr (Or.inr (Or.inr ⟨rfl, rfl, rfl⟩)))) (hb hby d1_34) rfl (by decide) (by decide) ⟨b99, ba103, kb103, rfl, N103, KC103, n_b99, (((A99.ext E100).wr W102).keep K103), Fv103, Fc103, Vs103⟩
theorem ef_MK20 (m : MethodId) (x0 : Int32) (x1 : Int32) (x2 : Int32) (x3 : Int32) : entryFrame m #[(.int x0), (.int x1), (.int x2), (.int x3)] 4 = mkF m 0 #[.val (.int x0), .val (.int x1), .val (.int x2), .val (.int x3)] [] := by first | (simp [entryFrame, mkF, argsToLocals, Value.category]; done) | rfl
def QMK20 (Z : State) (c0 : Int32) (c1 : Int32) (c2 : Int32) (i_COMPACT_STRINGS : Int32) (v_SIOOBE_FORMATTER : Value) (h0 : Heap) (n0 : Nat) (v : Option Value) (h : Heap) (L : List Loc) : Prop := ∃ (b ba : Addr) (kb : ClassId), v = some (.ref b) ∧ Fr n0 L ∧ Keep h0 h [] ∧ n0 ≤ b ∧ Exa Z h b "java/lang/String" ∧ Fld Z h b "java/lang/String" "value" "[B" (.ref ba) ∧ Fld Z h b "java/lang/String" "coder" "B" (.int (0 : Int32)) ∧ Arv Z h ba kb .byte (2 : Int32) (OwnL [c0, c1]) (.int (0 : Int32))
set_option maxRecDepth 65536 in
set_option maxHeartbeats 40000000 in
theorem rmMK20 (l : Launch) (Z : State) (a0 : Array Value) (hw : ∀ d ∈ tables_1, d.before a0 Z = true) (ws : List Jvm.Cond) (c0 : Int32) (c1 : Int32) (c2 : Int32) (i_COMPACT_STRINGS : Int32) (v_SIOOBE_FORMATTER : Value) (h0 : Heap) (n0 : Nat) (O0 : Old Z n0 h0) (hnc0 : nar .char c0 = c0) (hnc1 : nar .char c1 = c1) (hnc2 : nar .char c2 = c2) (hlc0 : ¬ ((255 : Int32) < c0)) (hlc1 : ¬ ((255 : Int32) < c1)) (hS : OwnS Z i_COMPACT_STRINGS v_SIOOBE_FORMATTER) :
    MetFree l (⟨"com/example/cartulary/cartulary/entity/AttachmentValueOfStringPinLaw", "make", "(ICCC)Ljava/lang/String;"⟩ : MethodName) (head1 (Jvm.Cond.code (⟨"com/example/cartulary/cartulary/entity/AttachmentValueOfStringPinLaw", "make", "(ICCC)Ljava/lang/String;"⟩ : MethodName) method_3_code 4 (some (.object "java/lang/String")) :: ws) ({ frames := 4, cells := 3, slots := 16, locals := 66 } : Room)) (fun aa_ UU_ => aa_ = #[(.int (2 : Int32)), (.int c0), (.int c1), (.int c2)] ∧ Z.Warmed39 UU_.vm ∧ UU_.heap = h0) (fun _ _ _ _ _ => True) (fun _ UU_ oo_ UV_ => ∃ vv_ LL_, oo_ = .returned vv_ ∧ QMK20 Z c0 c1 c2 i_COMPACT_STRINGS v_SIOOBE_FORMATTER h0 n0 vv_ UV_.heap LL_ ∧ FrameEnd UU_ oo_ UV_ LL_ ({ frames := 4, cells := 3, slots := 16, locals := 66 } : Room).cells ({ frames := 4, cells := 3, slots := 16, locals := 66 } : Room).slots) := by
  refine MetFree.of_bodySF (plainFor_of_name pn_4) hisR ?_
  intro p e s m args below meth c s₁ Bd hml0 hP hK
  obtain ⟨rfl, hZ, hh⟩ := hP
  have hx := Bd.exec
  have hby := Bd.bytes
  have hlk := BodyLoose.notSynchronized Bd
  have hml : c.maxLocals = 4 := hml0
  have hown : s.vm.findClass "com/example/cartulary/cartulary/entity/AttachmentValueOfStringPinLaw" = some m.cls := findClass_of_methodNamed Bd.named
  have hnm := (name_of_methodNamed Bd.named Bd.method).1
  have X0 : Stand p l e ({ frames := 4, cells := 3, slots := 16, locals := 66 } : Room) s m #[(.int (2 : Int32)), (.int c0), (.int c1), (.int c2)] below meth c s₁ [] 0 0 := Stand.of_body Bd
  have e0 : s₁.heap = h0 := by rw [← hh, Bd.state]; rfl
  have N0 := Fr.nil n0
  have KC0 : Keep h0 h0 [] := Keep.refl _ _
  suffices hOW : OW p e below s (QMK20 Z c0 c1 c2 i_COMPACT_STRINGS v_SIOOBE_FORMATTER h0 n0) 3 16 (s₁.setTop (mkF m 0 #[.val (.int (2 : Int32)), .val (.int c0), .val (.int c1), .val (.int c2)] [])) by
    obtain ⟨oq1_, oq2_, oq3_, oq4_⟩ := hOW
    exact ⟨oq1_, oq2_, castTop (ef_MK20 m (2 : Int32) c0 c1 c2) oq3_, oq4_⟩
  have hS' := hS
  obtain ⟨Si_COMPACT_STRINGS, Sv_SIOOBE_FORMATTER, Rv_SIOOBE_FORMATTER, S__assertionsDisabled, S_HI_BYTE_SHIFT, S_LO_BYTE_SHIFT, Pi_COMPACT_STRINGS⟩ := hS'
  refine OW.st (B := s₁.setTop (mkF m 40 #[.val (.int (2 : Int32)), .val (.int c0), .val (.int c1), .val (.int c2)] [])) (fun _ kk_ => XS.iloadN X0.here hx rfl (hb hby d1_0) rfl (XS.ifYes X0.here hx rfl (pc0 := 1) (pc' := 15) rfl (hb hby d1_1) rfl ((if0 _ _).trans (feq (by decide)).2) (by decide) (by decide) (XS.iloadN X0.here hx rfl (hb hby d1_15) rfl (XS.iconst X0.here hx rfl (hb hby d1_16) (XS.icmpYes X0.here hx rfl (pc0 := 17) (pc' := 35) rfl (hb hby d1_17) rfl (feq (by decide)).2 (by decide) (by decide) (XS.iloadN X0.here hx rfl (hb hby d1_35) rfl (XS.iconst X0.here hx rfl (hb hby d1_36) (XS.icmpNo X0.here hx rfl (hb hby d1_37) rfl (teq (by decide)).2 kk_)))))))) ?_
  obtain ⟨T104, h104, X104, e104, E104, A104, D104, -, st104⟩ := newO X0 hx hZ hown (w_5 hw) (w_6 hw) (w_7 hw) e0 (g := (mkF m 40 #[.val (.int (2 : Int32)), .val (.int c0), .val (.int c1), .val (.int c2)] [])) rfl (hb hby d1_40) (by decide) (by decide)
  obtain ⟨b104, g104⟩ : ∃ z, z = h0.size := ⟨_, rfl⟩
  rw [← g104] at A104 D104 st104
  have n_b104 : n0 ≤ b104 := Nat.le_trans (own_oldle O0) (Nat.le_of_eq g104.symm)
  have O104 : Old Z n0 h104 := O0.ext E104
  have sz_b104 : h0.size ≤ b104 := Nat.le_trans KC0.1 (Nat.le_of_eq g104.symm)
  have KC104 : Keep h0 h104 [] := KC0.ext E104
  have F104_32 : Fld Z h104 b104 "java/lang/String" "coder" "B" (.int (0 : Int32)) := D104 (Or.inr (w_32 hw)) (ty := .byte) (by decide)
  have F104_34 : Fld Z h104 b104 "java/lang/String" "value" "[B" .null := D104 (Or.inr (w_34 hw)) (ty := (.array .byte)) (by decide)
  refine OW.st (B := T104.setTop (mkF m 45 #[.val (.int (2 : Int32)), .val (.int c0), .val (.int c1), .val (.int c2)] [(.int (2 : Int32)), (.ref b104), (.ref b104)])) (fun _ kk_ => st104 _ (XS.dup X104.here hx rfl (hb hby d1_43) rfl rfl (XS.iconst X104.here hx rfl (hb hby d1_44) kk_))) ?_
  obtain ⟨T105, h105, k105, X105, e105, E105, A105, st105⟩ := newP (aty := .char) X104 hx hZ (w_8 hw) e104 (g := (mkF m 45 #[.val (.int (2 : Int32)), .val (.int c0), .val (.int c1), .val (.int c2)] [(.int (2 : Int32)), (.ref b104), (.ref b104)])) rfl (hb hby d1_45) rfl (by decide) (cap := 2) (by decide +kernel) (by decide +kernel) (by decide +kernel) (by decide +kernel)
  obtain ⟨b105, g105⟩ : ∃ z, z = h104.size := ⟨_, rfl⟩
  rw [← g105] at A105 st105
  have n_b105 : n0 ≤ b105 := Nat.le_trans (own_oldle O104) (Nat.le_of_eq g105.symm)
  have O105 : Old Z n0 h105 := O104.ext E105
  have sz_b105 : h0.size ≤ b105 := Nat.le_trans KC104.1 (Nat.le_of_eq g105.symm)
  have KC105 : Keep h0 h105 [] := KC104.ext E105
  have V105 : Arv Z h105 b105 k105 .char (2 : Int32) [(.int (0 : Int32)), (.int (0 : Int32))] (.int (0 : Int32)) := (Arv.new A105 (by decide)).pad (pad_rep [] (.int (0 : Int32)) 2)
  refine OW.st (B := T105.setTop (mkF m 50 #[.val (.int (2 : Int32)), .val (.int c0), .val (.int c1), .val (.int c2)] [(.int c0), (.int (0 : Int32)), (.ref b105), (.ref b105), (.ref b104), (.ref b104)])) (fun _ kk_ => st105 _ (XS.dup X105.here hx rfl (hb hby d1_47) rfl rfl (XS.iconst X105.here hx rfl (hb hby d1_48) (XS.iloadN X105.here hx rfl (hb hby d1_49) rfl kk_)))) ?_
  obtain ⟨cl106, Ar106, q106, S106, Ng106, Hs106, G106⟩ := id V105
  have hin106 : ¬ ((0 : Int32) < 0 ∨ cl106.slots.size ≤ ((0 : Int32)).toNatClampNeg) := inb_of S106 ⟨by decide, by decide⟩
  obtain ⟨T107, h107, X107, e107, W107, st107⟩ := stC X105 hx hZ e105 Ar106 (j := (0 : Int32)) hin106 (g := (mkF m 50 #[.val (.int (2 : Int32)), .val (.int c0), .val (.int c1), .val (.int c2)] [(.int c0), (.int (0 : Int32)), (.ref b105), (.ref b105), (.ref b104), (.ref b104)])) rfl rfl (hb hby d1_50)
  rw [hnc0] at W107
  have N107 := Fr.snoc X107 N0 n_b105
  have O107 : Old Z n0 h107 := O105.wr W107 n_b105
  have KC107 : Keep h0 h107 [] := KC105.wr W107 (Or.inr sz_b105)
  have V107 : Arv Z h107 b105 k105 .char (2 : Int32) [(.int c0), (.int (0 : Int32))] (.int (0 : Int32)) := Arv.set Ar106 q106 S106 Ng106 Hs106 G106 (hnc0 ▸ (fits_nar_char _)) W107 0 rfl (Nat.le_of_ble_eq_true rfl)
  refine OW.st (B := T107.setTop (mkF m 54 #[.val (.int (2 : Int32)), .val (.int c0), .val (.int c1), .val (.int c2)] [(.int c1), (.int (1 : Int32)), (.ref b105), (.ref b105), (.ref b104), (.ref b104)])) (fun _ kk_ => st107 _ (XS.dup X107.here hx rfl (hb hby d1_51) rfl rfl (XS.iconst X107.here hx rfl (hb hby d1_52) (XS.iloadN X107.here hx rfl (hb hby d1_53) rfl kk_)))) ?_
  obtain ⟨cl108, Ar108, q108, S108, Ng108, Hs108, G108⟩ := id V107
  have hin108 : ¬ ((1 : Int32) < 0 ∨ cl108.slots.size ≤ ((1 : Int32)).toNatClampNeg) := inb_of S108 ⟨by decide, by decide⟩
  obtain ⟨T109, h109, X109, e109, W109, st109⟩ := stC X107 hx hZ e107 Ar108 (j := (1 : Int32)) hin108 (g := (mkF m 54 #[.val (.int (2 : Int32)), .val (.int c0), .val (.int c1), .val (.int c2)] [(.int c1), (.int (1 : Int32)), (.ref b105), (.ref b105), (.ref b104), (.ref b104)])) rfl rfl (hb hby d1_54)
  rw [hnc1] at W109
  have N109 := Fr.snoc X109 N107 n_b105
  have O109 : Old Z n0 h109 := O107.wr W109 n_b105
  have KC109 : Keep h0 h109 [] := KC107.wr W109 (Or.inr sz_b105)
  have V109 : Arv Z h109 b105 k105 .char (2 : Int32) [(.int c0), (.int c1)] (.int (0 : Int32)) := Arv.set Ar108 q108 S108 Ng108 Hs108 G108 (hnc1 ▸ (fits_nar_char _)) W109 1 rfl (Nat.le_of_ble_eq_true rfl)
  refine OW.st (B := T109.setTop (mkF m 55 #[.val (.int (2 : Int32)), .val (.int c0), .val (.int c1), .val (.int c2)] [(.ref b105), (.ref b104), (.ref b104)])) (fun _ kk_ => st109 _ kk_) ?_
  obtain ⟨_, _, ⟨T110, L110, k110, n110⟩, -, X110, ⟨Lc110, hQ110, l110, y110, z110⟩, st110⟩ := X109.specialBack hx (y := (⟨"java/lang/String", "<init>", "([C)V"⟩ : MethodName)) rfl hown (mvT hZ (w_9 hw)) (mvT hZ (w_10 hw)) (mvT hZ (w_11 hw)) (by decide) (backOf (W := 1) (rmS00 l Z a0 hw [] b104 b105 k105 (2 : Int32) [c0, c1] i_COMPACT_STRINGS v_SIOOBE_FORMATTER h109 n0 O109 (((A104.ext E105).wr W107).wr W109) (((F104_34.ext E105).other W107 (Or.inl (Nat.ne_of_lt (Nat.lt_of_lt_of_le A104.lt (Nat.le_of_eq g105.symm))))).other W109 (Or.inl (Nat.ne_of_lt (Nat.lt_of_lt_of_le A104.lt (Nat.le_of_eq g105.symm))))) (((F104_32.ext E105).other W107 (Or.inl (Nat.ne_of_lt (Nat.lt_of_lt_of_le A104.lt (Nat.le_of_eq g105.symm))))).other W109 (Or.inl (Nat.ne_of_lt (Nat.lt_of_lt_of_le A104.lt (Nat.le_of_eq g105.symm))))) n_b104 V109 rfl (Nat.le_of_ble_eq_true rfl) (Nat.zero_lt_succ _) (OwnChs.cons hnc0 (OwnChs.cons hnc1 OwnChs.nil)) (OwnLat.cons hlc0 (OwnLat.cons hlc1 OwnLat.nil)) hS) hZ (w_11 hw) (w_7 hw) (by decide) (by decide)) (g := (mkF m 55 #[.val (.int (2 : Int32)), .val (.int c0), .val (.int c1), .val (.int c2)] [(.ref b105), (.ref b104), (.ref b104)])) rfl (by rw [hml]; rfl) (Steps.refl _) (a := b104) (argsL := [(.ref b105)]) (rest := [(.ref b104)]) (lenOf pd_14 rfl) rfl (by show 2 * 0 + _ ≤ _; exact Nat.le_of_eq rfl) (hb hby d1_55) (fun _ _ => ⟨rfl, e109, (by decide : 2 + 1 ≤ _), (by decide : 6 + 10 ≤ _)⟩)
  dsimp only [Pt.U, Pt.locs, Pt.cells, Pt.slots] at X110 l110 y110 z110 st110 hQ110
  subst l110 y110 z110
  obtain ⟨rfl, Nq110, K110, Es110, ba110, kb110, gba110, nba110, Fc110, Fv110, Vs110⟩ := hQ110
  have N110 := Fr.app N109 Nq110
  have O110 : Old Z n0 T110.heap := O109.keep K110 (allS n_b104 all0)
  have KC110 : Keep h0 T110.heap [] := KC109.trans K110 (allS (Or.inr sz_b104) all0)
  refine OW.tr (B := T110.setTop (mkF m 58 #[.val (.int (2 : Int32)), .val (.int c0), .val (.int c1), .val (.int c2)] [(.ref b104)])) (st110) ?_
  exact OW.ret X110 hx hlk (i := .areturn) Bd.returns rfl (Or.inr (Or.inr (Or.inr (Or.inr ⟨rfl, rfl, rfl⟩)))) (hb hby d1_58) rfl (by decide) (by decide) ⟨b104, ba110, kb110, rfl, N110, KC110, n_b104, ((((A104.ext E105).wr W107).wr W109).keep K110), Fv110, Fc110, Vs110⟩
theorem ef_MK21 (m : MethodId) (x0 : Int32) (x1 : Int32) (x2 : Int32) (x3 : Int32) : entryFrame m #[(.int x0), (.int x1), (.int x2), (.int x3)] 4 = mkF m 0 #[.val (.int x0), .val (.int x1), .val (.int x2), .val (.int x3)] [] := by first | (simp [entryFrame, mkF, argsToLocals, Value.category]; done) | rfl
def QMK21 (Z : State) (c0 : Int32) (c1 : Int32) (c2 : Int32) (i_COMPACT_STRINGS : Int32) (v_SIOOBE_FORMATTER : Value) (h0 : Heap) (n0 : Nat) (v : Option Value) (h : Heap) (L : List Loc) : Prop := ∃ (b ba : Addr) (kb : ClassId), v = some (.ref b) ∧ Fr n0 L ∧ Keep h0 h [] ∧ n0 ≤ b ∧ Exa Z h b "java/lang/String" ∧ Fld Z h b "java/lang/String" "value" "[B" (.ref ba) ∧ Fld Z h b "java/lang/String" "coder" "B" (.int (1 : Int32)) ∧ Arv Z h ba kb .byte (4 : Int32) (OwnU [c0, c1]) (.int (0 : Int32))
set_option maxRecDepth 65536 in
set_option maxHeartbeats 40000000 in
theorem rmMK21 (l : Launch) (Z : State) (a0 : Array Value) (hw : ∀ d ∈ tables_1, d.before a0 Z = true) (ws : List Jvm.Cond) (c0 : Int32) (c1 : Int32) (c2 : Int32) (i_COMPACT_STRINGS : Int32) (v_SIOOBE_FORMATTER : Value) (h0 : Heap) (n0 : Nat) (O0 : Old Z n0 h0) (hnc0 : nar .char c0 = c0) (hnc1 : nar .char c1 = c1) (hnc2 : nar .char c2 = c2) (hu : (255 : Int32) < c0 ∨ (255 : Int32) < c1) (hS : OwnS Z i_COMPACT_STRINGS v_SIOOBE_FORMATTER) :
    MetFree l (⟨"com/example/cartulary/cartulary/entity/AttachmentValueOfStringPinLaw", "make", "(ICCC)Ljava/lang/String;"⟩ : MethodName) (head1 (Jvm.Cond.code (⟨"com/example/cartulary/cartulary/entity/AttachmentValueOfStringPinLaw", "make", "(ICCC)Ljava/lang/String;"⟩ : MethodName) method_3_code 4 (some (.object "java/lang/String")) :: ws) ({ frames := 6, cells := 4, slots := 36, locals := 88 } : Room)) (fun aa_ UU_ => aa_ = #[(.int (2 : Int32)), (.int c0), (.int c1), (.int c2)] ∧ Z.Warmed39 UU_.vm ∧ UU_.heap = h0) (fun _ _ _ _ _ => True) (fun _ UU_ oo_ UV_ => ∃ vv_ LL_, oo_ = .returned vv_ ∧ QMK21 Z c0 c1 c2 i_COMPACT_STRINGS v_SIOOBE_FORMATTER h0 n0 vv_ UV_.heap LL_ ∧ FrameEnd UU_ oo_ UV_ LL_ ({ frames := 6, cells := 4, slots := 36, locals := 88 } : Room).cells ({ frames := 6, cells := 4, slots := 36, locals := 88 } : Room).slots) := by
  refine MetFree.of_bodySF (plainFor_of_name pn_4) hisR ?_
  intro p e s m args below meth c s₁ Bd hml0 hP hK
  obtain ⟨rfl, hZ, hh⟩ := hP
  have hx := Bd.exec
  have hby := Bd.bytes
  have hlk := BodyLoose.notSynchronized Bd
  have hml : c.maxLocals = 4 := hml0
  have hown : s.vm.findClass "com/example/cartulary/cartulary/entity/AttachmentValueOfStringPinLaw" = some m.cls := findClass_of_methodNamed Bd.named
  have hnm := (name_of_methodNamed Bd.named Bd.method).1
  have X0 : Stand p l e ({ frames := 6, cells := 4, slots := 36, locals := 88 } : Room) s m #[(.int (2 : Int32)), (.int c0), (.int c1), (.int c2)] below meth c s₁ [] 0 0 := Stand.of_body Bd
  have e0 : s₁.heap = h0 := by rw [← hh, Bd.state]; rfl
  have N0 := Fr.nil n0
  have KC0 : Keep h0 h0 [] := Keep.refl _ _
  suffices hOW : OW p e below s (QMK21 Z c0 c1 c2 i_COMPACT_STRINGS v_SIOOBE_FORMATTER h0 n0) 4 36 (s₁.setTop (mkF m 0 #[.val (.int (2 : Int32)), .val (.int c0), .val (.int c1), .val (.int c2)] [])) by
    obtain ⟨oq1_, oq2_, oq3_, oq4_⟩ := hOW
    exact ⟨oq1_, oq2_, castTop (ef_MK21 m (2 : Int32) c0 c1 c2) oq3_, oq4_⟩
  have hS' := hS
  obtain ⟨Si_COMPACT_STRINGS, Sv_SIOOBE_FORMATTER, Rv_SIOOBE_FORMATTER, S__assertionsDisabled, S_HI_BYTE_SHIFT, S_LO_BYTE_SHIFT, Pi_COMPACT_STRINGS⟩ := hS'
  refine OW.st (B := s₁.setTop (mkF m 40 #[.val (.int (2 : Int32)), .val (.int c0), .val (.int c1), .val (.int c2)] [])) (fun _ kk_ => XS.iloadN X0.here hx rfl (hb hby d1_0) rfl (XS.ifYes X0.here hx rfl (pc0 := 1) (pc' := 15) rfl (hb hby d1_1) rfl ((if0 _ _).trans (feq (by decide)).2) (by decide) (by decide) (XS.iloadN X0.here hx rfl (hb hby d1_15) rfl (XS.iconst X0.here hx rfl (hb hby d1_16) (XS.icmpYes X0.here hx rfl (pc0 := 17) (pc' := 35) rfl (hb hby d1_17) rfl (feq (by decide)).2 (by decide) (by decide) (XS.iloadN X0.here hx rfl (hb hby d1_35) rfl (XS.iconst X0.here hx rfl (hb hby d1_36) (XS.icmpNo X0.here hx rfl (hb hby d1_37) rfl (teq (by decide)).2 kk_)))))))) ?_
  obtain ⟨T111, h111, X111, e111, E111, A111, D111, -, st111⟩ := newO X0 hx hZ hown (w_5 hw) (w_6 hw) (w_7 hw) e0 (g := (mkF m 40 #[.val (.int (2 : Int32)), .val (.int c0), .val (.int c1), .val (.int c2)] [])) rfl (hb hby d1_40) (by decide) (by decide)
  obtain ⟨b111, g111⟩ : ∃ z, z = h0.size := ⟨_, rfl⟩
  rw [← g111] at A111 D111 st111
  have n_b111 : n0 ≤ b111 := Nat.le_trans (own_oldle O0) (Nat.le_of_eq g111.symm)
  have O111 : Old Z n0 h111 := O0.ext E111
  have sz_b111 : h0.size ≤ b111 := Nat.le_trans KC0.1 (Nat.le_of_eq g111.symm)
  have KC111 : Keep h0 h111 [] := KC0.ext E111
  have F111_32 : Fld Z h111 b111 "java/lang/String" "coder" "B" (.int (0 : Int32)) := D111 (Or.inr (w_32 hw)) (ty := .byte) (by decide)
  have F111_34 : Fld Z h111 b111 "java/lang/String" "value" "[B" .null := D111 (Or.inr (w_34 hw)) (ty := (.array .byte)) (by decide)
  refine OW.st (B := T111.setTop (mkF m 45 #[.val (.int (2 : Int32)), .val (.int c0), .val (.int c1), .val (.int c2)] [(.int (2 : Int32)), (.ref b111), (.ref b111)])) (fun _ kk_ => st111 _ (XS.dup X111.here hx rfl (hb hby d1_43) rfl rfl (XS.iconst X111.here hx rfl (hb hby d1_44) kk_))) ?_
  obtain ⟨T112, h112, k112, X112, e112, E112, A112, st112⟩ := newP (aty := .char) X111 hx hZ (w_8 hw) e111 (g := (mkF m 45 #[.val (.int (2 : Int32)), .val (.int c0), .val (.int c1), .val (.int c2)] [(.int (2 : Int32)), (.ref b111), (.ref b111)])) rfl (hb hby d1_45) rfl (by decide) (cap := 2) (by decide +kernel) (by decide +kernel) (by decide +kernel) (by decide +kernel)
  obtain ⟨b112, g112⟩ : ∃ z, z = h111.size := ⟨_, rfl⟩
  rw [← g112] at A112 st112
  have n_b112 : n0 ≤ b112 := Nat.le_trans (own_oldle O111) (Nat.le_of_eq g112.symm)
  have O112 : Old Z n0 h112 := O111.ext E112
  have sz_b112 : h0.size ≤ b112 := Nat.le_trans KC111.1 (Nat.le_of_eq g112.symm)
  have KC112 : Keep h0 h112 [] := KC111.ext E112
  have V112 : Arv Z h112 b112 k112 .char (2 : Int32) [(.int (0 : Int32)), (.int (0 : Int32))] (.int (0 : Int32)) := (Arv.new A112 (by decide)).pad (pad_rep [] (.int (0 : Int32)) 2)
  refine OW.st (B := T112.setTop (mkF m 50 #[.val (.int (2 : Int32)), .val (.int c0), .val (.int c1), .val (.int c2)] [(.int c0), (.int (0 : Int32)), (.ref b112), (.ref b112), (.ref b111), (.ref b111)])) (fun _ kk_ => st112 _ (XS.dup X112.here hx rfl (hb hby d1_47) rfl rfl (XS.iconst X112.here hx rfl (hb hby d1_48) (XS.iloadN X112.here hx rfl (hb hby d1_49) rfl kk_)))) ?_
  obtain ⟨cl113, Ar113, q113, S113, Ng113, Hs113, G113⟩ := id V112
  have hin113 : ¬ ((0 : Int32) < 0 ∨ cl113.slots.size ≤ ((0 : Int32)).toNatClampNeg) := inb_of S113 ⟨by decide, by decide⟩
  obtain ⟨T114, h114, X114, e114, W114, st114⟩ := stC X112 hx hZ e112 Ar113 (j := (0 : Int32)) hin113 (g := (mkF m 50 #[.val (.int (2 : Int32)), .val (.int c0), .val (.int c1), .val (.int c2)] [(.int c0), (.int (0 : Int32)), (.ref b112), (.ref b112), (.ref b111), (.ref b111)])) rfl rfl (hb hby d1_50)
  rw [hnc0] at W114
  have N114 := Fr.snoc X114 N0 n_b112
  have O114 : Old Z n0 h114 := O112.wr W114 n_b112
  have KC114 : Keep h0 h114 [] := KC112.wr W114 (Or.inr sz_b112)
  have V114 : Arv Z h114 b112 k112 .char (2 : Int32) [(.int c0), (.int (0 : Int32))] (.int (0 : Int32)) := Arv.set Ar113 q113 S113 Ng113 Hs113 G113 (hnc0 ▸ (fits_nar_char _)) W114 0 rfl (Nat.le_of_ble_eq_true rfl)
  refine OW.st (B := T114.setTop (mkF m 54 #[.val (.int (2 : Int32)), .val (.int c0), .val (.int c1), .val (.int c2)] [(.int c1), (.int (1 : Int32)), (.ref b112), (.ref b112), (.ref b111), (.ref b111)])) (fun _ kk_ => st114 _ (XS.dup X114.here hx rfl (hb hby d1_51) rfl rfl (XS.iconst X114.here hx rfl (hb hby d1_52) (XS.iloadN X114.here hx rfl (hb hby d1_53) rfl kk_)))) ?_
  obtain ⟨cl115, Ar115, q115, S115, Ng115, Hs115, G115⟩ := id V114
  have hin115 : ¬ ((1 : Int32) < 0 ∨ cl115.slots.size ≤ ((1 : Int32)).toNatClampNeg) := inb_of S115 ⟨by decide, by decide⟩
  obtain ⟨T116, h116, X116, e116, W116, st116⟩ := stC X114 hx hZ e114 Ar115 (j := (1 : Int32)) hin115 (g := (mkF m 54 #[.val (.int (2 : Int32)), .val (.int c0), .val (.int c1), .val (.int c2)] [(.int c1), (.int (1 : Int32)), (.ref b112), (.ref b112), (.ref b111), (.ref b111)])) rfl rfl (hb hby d1_54)
  rw [hnc1] at W116
  have N116 := Fr.snoc X116 N114 n_b112
  have O116 : Old Z n0 h116 := O114.wr W116 n_b112
  have KC116 : Keep h0 h116 [] := KC114.wr W116 (Or.inr sz_b112)
  have V116 : Arv Z h116 b112 k112 .char (2 : Int32) [(.int c0), (.int c1)] (.int (0 : Int32)) := Arv.set Ar115 q115 S115 Ng115 Hs115 G115 (hnc1 ▸ (fits_nar_char _)) W116 1 rfl (Nat.le_of_ble_eq_true rfl)
  refine OW.st (B := T116.setTop (mkF m 55 #[.val (.int (2 : Int32)), .val (.int c0), .val (.int c1), .val (.int c2)] [(.ref b112), (.ref b111), (.ref b111)])) (fun _ kk_ => st116 _ kk_) ?_
  obtain ⟨_, _, ⟨T117, L117, k117, n117⟩, -, X117, ⟨Lc117, hQ117, l117, y117, z117⟩, st117⟩ := X116.specialBack hx (y := (⟨"java/lang/String", "<init>", "([C)V"⟩ : MethodName)) rfl hown (mvT hZ (w_9 hw)) (mvT hZ (w_10 hw)) (mvT hZ (w_11 hw)) (by decide) (backOf (W := 1) (rmS01 l Z a0 hw [] b111 b112 k112 (2 : Int32) [c0, c1] i_COMPACT_STRINGS v_SIOOBE_FORMATTER h116 n0 O116 (((A111.ext E112).wr W114).wr W116) (((F111_34.ext E112).other W114 (Or.inl (Nat.ne_of_lt (Nat.lt_of_lt_of_le A111.lt (Nat.le_of_eq g112.symm))))).other W116 (Or.inl (Nat.ne_of_lt (Nat.lt_of_lt_of_le A111.lt (Nat.le_of_eq g112.symm))))) (((F111_32.ext E112).other W114 (Or.inl (Nat.ne_of_lt (Nat.lt_of_lt_of_le A111.lt (Nat.le_of_eq g112.symm))))).other W116 (Or.inl (Nat.ne_of_lt (Nat.lt_of_lt_of_le A111.lt (Nat.le_of_eq g112.symm))))) n_b111 V116 rfl (Nat.le_of_ble_eq_true rfl) (Nat.zero_lt_succ _) (OwnChs.cons hnc0 (OwnChs.cons hnc1 OwnChs.nil)) (hu.elim OwnHi.here (fun q0 => OwnHi.there (OwnHi.here q0))) hS) hZ (w_11 hw) (w_7 hw) (by decide) (by decide)) (g := (mkF m 55 #[.val (.int (2 : Int32)), .val (.int c0), .val (.int c1), .val (.int c2)] [(.ref b112), (.ref b111), (.ref b111)])) rfl (by rw [hml]; rfl) (Steps.refl _) (a := b111) (argsL := [(.ref b112)]) (rest := [(.ref b111)]) (lenOf pd_14 rfl) rfl (by show 2 * 0 + _ ≤ _; exact Nat.le_of_eq rfl) (hb hby d1_55) (fun _ _ => ⟨rfl, e116, (by decide : 2 + 2 ≤ _), (by decide : 6 + 30 ≤ _)⟩)
  dsimp only [Pt.U, Pt.locs, Pt.cells, Pt.slots] at X117 l117 y117 z117 st117 hQ117
  subst l117 y117 z117
  obtain ⟨rfl, Nq117, K117, Es117, ba117, kb117, gba117, nba117, Fc117, Fv117, Vs117⟩ := hQ117
  have N117 := Fr.app N116 Nq117
  have O117 : Old Z n0 T117.heap := O116.keep K117 (allS n_b111 all0)
  have KC117 : Keep h0 T117.heap [] := KC116.trans K117 (allS (Or.inr sz_b111) all0)
  refine OW.tr (B := T117.setTop (mkF m 58 #[.val (.int (2 : Int32)), .val (.int c0), .val (.int c1), .val (.int c2)] [(.ref b111)])) (st117) ?_
  exact OW.ret X117 hx hlk (i := .areturn) Bd.returns rfl (Or.inr (Or.inr (Or.inr (Or.inr ⟨rfl, rfl, rfl⟩)))) (hb hby d1_58) rfl (by decide) (by decide) ⟨b111, ba117, kb117, rfl, N117, KC117, n_b111, ((((A111.ext E112).wr W114).wr W116).keep K117), Fv117, Fc117, Vs117⟩
theorem ef_MK30 (m : MethodId) (x0 : Int32) (x1 : Int32) (x2 : Int32) (x3 : Int32) : entryFrame m #[(.int x0), (.int x1), (.int x2), (.int x3)] 4 = mkF m 0 #[.val (.int x0), .val (.int x1), .val (.int x2), .val (.int x3)] [] := by first | (simp [entryFrame, mkF, argsToLocals, Value.category]; done) | rfl
def QMK30 (Z : State) (c0 : Int32) (c1 : Int32) (c2 : Int32) (i_COMPACT_STRINGS : Int32) (v_SIOOBE_FORMATTER : Value) (h0 : Heap) (n0 : Nat) (v : Option Value) (h : Heap) (L : List Loc) : Prop := ∃ (b ba : Addr) (kb : ClassId), v = some (.ref b) ∧ Fr n0 L ∧ Keep h0 h [] ∧ n0 ≤ b ∧ Exa Z h b "java/lang/String" ∧ Fld Z h b "java/lang/String" "value" "[B" (.ref ba) ∧ Fld Z h b "java/lang/String" "coder" "B" (.int (0 : Int32)) ∧ Arv Z h ba kb .byte (3 : Int32) (OwnL [c0, c1, c2]) (.int (0 : Int32))
set_option maxRecDepth 65536 in
set_option maxHeartbeats 40000000 in
theorem rmMK30 (l : Launch) (Z : State) (a0 : Array Value) (hw : ∀ d ∈ tables_1, d.before a0 Z = true) (ws : List Jvm.Cond) (c0 : Int32) (c1 : Int32) (c2 : Int32) (i_COMPACT_STRINGS : Int32) (v_SIOOBE_FORMATTER : Value) (h0 : Heap) (n0 : Nat) (O0 : Old Z n0 h0) (hnc0 : nar .char c0 = c0) (hnc1 : nar .char c1 = c1) (hnc2 : nar .char c2 = c2) (hlc0 : ¬ ((255 : Int32) < c0)) (hlc1 : ¬ ((255 : Int32) < c1)) (hlc2 : ¬ ((255 : Int32) < c2)) (hS : OwnS Z i_COMPACT_STRINGS v_SIOOBE_FORMATTER) :
    MetFree l (⟨"com/example/cartulary/cartulary/entity/AttachmentValueOfStringPinLaw", "make", "(ICCC)Ljava/lang/String;"⟩ : MethodName) (head1 (Jvm.Cond.code (⟨"com/example/cartulary/cartulary/entity/AttachmentValueOfStringPinLaw", "make", "(ICCC)Ljava/lang/String;"⟩ : MethodName) method_3_code 4 (some (.object "java/lang/String")) :: ws) ({ frames := 4, cells := 3, slots := 17, locals := 66 } : Room)) (fun aa_ UU_ => aa_ = #[(.int (3 : Int32)), (.int c0), (.int c1), (.int c2)] ∧ Z.Warmed39 UU_.vm ∧ UU_.heap = h0) (fun _ _ _ _ _ => True) (fun _ UU_ oo_ UV_ => ∃ vv_ LL_, oo_ = .returned vv_ ∧ QMK30 Z c0 c1 c2 i_COMPACT_STRINGS v_SIOOBE_FORMATTER h0 n0 vv_ UV_.heap LL_ ∧ FrameEnd UU_ oo_ UV_ LL_ ({ frames := 4, cells := 3, slots := 17, locals := 66 } : Room).cells ({ frames := 4, cells := 3, slots := 17, locals := 66 } : Room).slots) := by
  refine MetFree.of_bodySF (plainFor_of_name pn_4) hisR ?_
  intro p e s m args below meth c s₁ Bd hml0 hP hK
  obtain ⟨rfl, hZ, hh⟩ := hP
  have hx := Bd.exec
  have hby := Bd.bytes
  have hlk := BodyLoose.notSynchronized Bd
  have hml : c.maxLocals = 4 := hml0
  have hown : s.vm.findClass "com/example/cartulary/cartulary/entity/AttachmentValueOfStringPinLaw" = some m.cls := findClass_of_methodNamed Bd.named
  have hnm := (name_of_methodNamed Bd.named Bd.method).1
  have X0 : Stand p l e ({ frames := 4, cells := 3, slots := 17, locals := 66 } : Room) s m #[(.int (3 : Int32)), (.int c0), (.int c1), (.int c2)] below meth c s₁ [] 0 0 := Stand.of_body Bd
  have e0 : s₁.heap = h0 := by rw [← hh, Bd.state]; rfl
  have N0 := Fr.nil n0
  have KC0 : Keep h0 h0 [] := Keep.refl _ _
  suffices hOW : OW p e below s (QMK30 Z c0 c1 c2 i_COMPACT_STRINGS v_SIOOBE_FORMATTER h0 n0) 3 17 (s₁.setTop (mkF m 0 #[.val (.int (3 : Int32)), .val (.int c0), .val (.int c1), .val (.int c2)] [])) by
    obtain ⟨oq1_, oq2_, oq3_, oq4_⟩ := hOW
    exact ⟨oq1_, oq2_, castTop (ef_MK30 m (3 : Int32) c0 c1 c2) oq3_, oq4_⟩
  have hS' := hS
  obtain ⟨Si_COMPACT_STRINGS, Sv_SIOOBE_FORMATTER, Rv_SIOOBE_FORMATTER, S__assertionsDisabled, S_HI_BYTE_SHIFT, S_LO_BYTE_SHIFT, Pi_COMPACT_STRINGS⟩ := hS'
  refine OW.st (B := s₁.setTop (mkF m 59 #[.val (.int (3 : Int32)), .val (.int c0), .val (.int c1), .val (.int c2)] [])) (fun _ kk_ => XS.iloadN X0.here hx rfl (hb hby d1_0) rfl (XS.ifYes X0.here hx rfl (pc0 := 1) (pc' := 15) rfl (hb hby d1_1) rfl ((if0 _ _).trans (feq (by decide)).2) (by decide) (by decide) (XS.iloadN X0.here hx rfl (hb hby d1_15) rfl (XS.iconst X0.here hx rfl (hb hby d1_16) (XS.icmpYes X0.here hx rfl (pc0 := 17) (pc' := 35) rfl (hb hby d1_17) rfl (feq (by decide)).2 (by decide) (by decide) (XS.iloadN X0.here hx rfl (hb hby d1_35) rfl (XS.iconst X0.here hx rfl (hb hby d1_36) (XS.icmpYes X0.here hx rfl (pc0 := 37) (pc' := 59) rfl (hb hby d1_37) rfl (feq (by decide)).2 (by decide) (by decide) kk_)))))))) ?_
  obtain ⟨T118, h118, X118, e118, E118, A118, D118, -, st118⟩ := newO X0 hx hZ hown (w_5 hw) (w_6 hw) (w_7 hw) e0 (g := (mkF m 59 #[.val (.int (3 : Int32)), .val (.int c0), .val (.int c1), .val (.int c2)] [])) rfl (hb hby d1_59) (by decide) (by decide)
  obtain ⟨b118, g118⟩ : ∃ z, z = h0.size := ⟨_, rfl⟩
  rw [← g118] at A118 D118 st118
  have n_b118 : n0 ≤ b118 := Nat.le_trans (own_oldle O0) (Nat.le_of_eq g118.symm)
  have O118 : Old Z n0 h118 := O0.ext E118
  have sz_b118 : h0.size ≤ b118 := Nat.le_trans KC0.1 (Nat.le_of_eq g118.symm)
  have KC118 : Keep h0 h118 [] := KC0.ext E118
  have F118_32 : Fld Z h118 b118 "java/lang/String" "coder" "B" (.int (0 : Int32)) := D118 (Or.inr (w_32 hw)) (ty := .byte) (by decide)
  have F118_34 : Fld Z h118 b118 "java/lang/String" "value" "[B" .null := D118 (Or.inr (w_34 hw)) (ty := (.array .byte)) (by decide)
  refine OW.st (B := T118.setTop (mkF m 64 #[.val (.int (3 : Int32)), .val (.int c0), .val (.int c1), .val (.int c2)] [(.int (3 : Int32)), (.ref b118), (.ref b118)])) (fun _ kk_ => st118 _ (XS.dup X118.here hx rfl (hb hby d1_62) rfl rfl (XS.iconst X118.here hx rfl (hb hby d1_63) kk_))) ?_
  obtain ⟨T119, h119, k119, X119, e119, E119, A119, st119⟩ := newP (aty := .char) X118 hx hZ (w_8 hw) e118 (g := (mkF m 64 #[.val (.int (3 : Int32)), .val (.int c0), .val (.int c1), .val (.int c2)] [(.int (3 : Int32)), (.ref b118), (.ref b118)])) rfl (hb hby d1_64) rfl (by decide) (cap := 3) (by decide +kernel) (by decide +kernel) (by decide +kernel) (by decide +kernel)
  obtain ⟨b119, g119⟩ : ∃ z, z = h118.size := ⟨_, rfl⟩
  rw [← g119] at A119 st119
  have n_b119 : n0 ≤ b119 := Nat.le_trans (own_oldle O118) (Nat.le_of_eq g119.symm)
  have O119 : Old Z n0 h119 := O118.ext E119
  have sz_b119 : h0.size ≤ b119 := Nat.le_trans KC118.1 (Nat.le_of_eq g119.symm)
  have KC119 : Keep h0 h119 [] := KC118.ext E119
  have V119 : Arv Z h119 b119 k119 .char (3 : Int32) [(.int (0 : Int32)), (.int (0 : Int32)), (.int (0 : Int32))] (.int (0 : Int32)) := (Arv.new A119 (by decide)).pad (pad_rep [] (.int (0 : Int32)) 3)
  refine OW.st (B := T119.setTop (mkF m 69 #[.val (.int (3 : Int32)), .val (.int c0), .val (.int c1), .val (.int c2)] [(.int c0), (.int (0 : Int32)), (.ref b119), (.ref b119), (.ref b118), (.ref b118)])) (fun _ kk_ => st119 _ (XS.dup X119.here hx rfl (hb hby d1_66) rfl rfl (XS.iconst X119.here hx rfl (hb hby d1_67) (XS.iloadN X119.here hx rfl (hb hby d1_68) rfl kk_)))) ?_
  obtain ⟨cl120, Ar120, q120, S120, Ng120, Hs120, G120⟩ := id V119
  have hin120 : ¬ ((0 : Int32) < 0 ∨ cl120.slots.size ≤ ((0 : Int32)).toNatClampNeg) := inb_of S120 ⟨by decide, by decide⟩
  obtain ⟨T121, h121, X121, e121, W121, st121⟩ := stC X119 hx hZ e119 Ar120 (j := (0 : Int32)) hin120 (g := (mkF m 69 #[.val (.int (3 : Int32)), .val (.int c0), .val (.int c1), .val (.int c2)] [(.int c0), (.int (0 : Int32)), (.ref b119), (.ref b119), (.ref b118), (.ref b118)])) rfl rfl (hb hby d1_69)
  rw [hnc0] at W121
  have N121 := Fr.snoc X121 N0 n_b119
  have O121 : Old Z n0 h121 := O119.wr W121 n_b119
  have KC121 : Keep h0 h121 [] := KC119.wr W121 (Or.inr sz_b119)
  have V121 : Arv Z h121 b119 k119 .char (3 : Int32) [(.int c0), (.int (0 : Int32)), (.int (0 : Int32))] (.int (0 : Int32)) := Arv.set Ar120 q120 S120 Ng120 Hs120 G120 (hnc0 ▸ (fits_nar_char _)) W121 0 rfl (Nat.le_of_ble_eq_true rfl)
  refine OW.st (B := T121.setTop (mkF m 73 #[.val (.int (3 : Int32)), .val (.int c0), .val (.int c1), .val (.int c2)] [(.int c1), (.int (1 : Int32)), (.ref b119), (.ref b119), (.ref b118), (.ref b118)])) (fun _ kk_ => st121 _ (XS.dup X121.here hx rfl (hb hby d1_70) rfl rfl (XS.iconst X121.here hx rfl (hb hby d1_71) (XS.iloadN X121.here hx rfl (hb hby d1_72) rfl kk_)))) ?_
  obtain ⟨cl122, Ar122, q122, S122, Ng122, Hs122, G122⟩ := id V121
  have hin122 : ¬ ((1 : Int32) < 0 ∨ cl122.slots.size ≤ ((1 : Int32)).toNatClampNeg) := inb_of S122 ⟨by decide, by decide⟩
  obtain ⟨T123, h123, X123, e123, W123, st123⟩ := stC X121 hx hZ e121 Ar122 (j := (1 : Int32)) hin122 (g := (mkF m 73 #[.val (.int (3 : Int32)), .val (.int c0), .val (.int c1), .val (.int c2)] [(.int c1), (.int (1 : Int32)), (.ref b119), (.ref b119), (.ref b118), (.ref b118)])) rfl rfl (hb hby d1_73)
  rw [hnc1] at W123
  have N123 := Fr.snoc X123 N121 n_b119
  have O123 : Old Z n0 h123 := O121.wr W123 n_b119
  have KC123 : Keep h0 h123 [] := KC121.wr W123 (Or.inr sz_b119)
  have V123 : Arv Z h123 b119 k119 .char (3 : Int32) [(.int c0), (.int c1), (.int (0 : Int32))] (.int (0 : Int32)) := Arv.set Ar122 q122 S122 Ng122 Hs122 G122 (hnc1 ▸ (fits_nar_char _)) W123 1 rfl (Nat.le_of_ble_eq_true rfl)
  refine OW.st (B := T123.setTop (mkF m 77 #[.val (.int (3 : Int32)), .val (.int c0), .val (.int c1), .val (.int c2)] [(.int c2), (.int (2 : Int32)), (.ref b119), (.ref b119), (.ref b118), (.ref b118)])) (fun _ kk_ => st123 _ (XS.dup X123.here hx rfl (hb hby d1_74) rfl rfl (XS.iconst X123.here hx rfl (hb hby d1_75) (XS.iloadN X123.here hx rfl (hb hby d1_76) rfl kk_)))) ?_
  obtain ⟨cl124, Ar124, q124, S124, Ng124, Hs124, G124⟩ := id V123
  have hin124 : ¬ ((2 : Int32) < 0 ∨ cl124.slots.size ≤ ((2 : Int32)).toNatClampNeg) := inb_of S124 ⟨by decide, by decide⟩
  obtain ⟨T125, h125, X125, e125, W125, st125⟩ := stC X123 hx hZ e123 Ar124 (j := (2 : Int32)) hin124 (g := (mkF m 77 #[.val (.int (3 : Int32)), .val (.int c0), .val (.int c1), .val (.int c2)] [(.int c2), (.int (2 : Int32)), (.ref b119), (.ref b119), (.ref b118), (.ref b118)])) rfl rfl (hb hby d1_77)
  rw [hnc2] at W125
  have N125 := Fr.snoc X125 N123 n_b119
  have O125 : Old Z n0 h125 := O123.wr W125 n_b119
  have KC125 : Keep h0 h125 [] := KC123.wr W125 (Or.inr sz_b119)
  have V125 : Arv Z h125 b119 k119 .char (3 : Int32) [(.int c0), (.int c1), (.int c2)] (.int (0 : Int32)) := Arv.set Ar124 q124 S124 Ng124 Hs124 G124 (hnc2 ▸ (fits_nar_char _)) W125 2 rfl (Nat.le_of_ble_eq_true rfl)
  refine OW.st (B := T125.setTop (mkF m 78 #[.val (.int (3 : Int32)), .val (.int c0), .val (.int c1), .val (.int c2)] [(.ref b119), (.ref b118), (.ref b118)])) (fun _ kk_ => st125 _ kk_) ?_
  obtain ⟨_, _, ⟨T126, L126, k126, n126⟩, -, X126, ⟨Lc126, hQ126, l126, y126, z126⟩, st126⟩ := X125.specialBack hx (y := (⟨"java/lang/String", "<init>", "([C)V"⟩ : MethodName)) rfl hown (mvT hZ (w_9 hw)) (mvT hZ (w_10 hw)) (mvT hZ (w_11 hw)) (by decide) (backOf (W := 1) (rmS00 l Z a0 hw [] b118 b119 k119 (3 : Int32) [c0, c1, c2] i_COMPACT_STRINGS v_SIOOBE_FORMATTER h125 n0 O125 ((((A118.ext E119).wr W121).wr W123).wr W125) ((((F118_34.ext E119).other W121 (Or.inl (Nat.ne_of_lt (Nat.lt_of_lt_of_le A118.lt (Nat.le_of_eq g119.symm))))).other W123 (Or.inl (Nat.ne_of_lt (Nat.lt_of_lt_of_le A118.lt (Nat.le_of_eq g119.symm))))).other W125 (Or.inl (Nat.ne_of_lt (Nat.lt_of_lt_of_le A118.lt (Nat.le_of_eq g119.symm))))) ((((F118_32.ext E119).other W121 (Or.inl (Nat.ne_of_lt (Nat.lt_of_lt_of_le A118.lt (Nat.le_of_eq g119.symm))))).other W123 (Or.inl (Nat.ne_of_lt (Nat.lt_of_lt_of_le A118.lt (Nat.le_of_eq g119.symm))))).other W125 (Or.inl (Nat.ne_of_lt (Nat.lt_of_lt_of_le A118.lt (Nat.le_of_eq g119.symm))))) n_b118 V125 rfl (Nat.le_of_ble_eq_true rfl) (Nat.zero_lt_succ _) (OwnChs.cons hnc0 (OwnChs.cons hnc1 (OwnChs.cons hnc2 OwnChs.nil))) (OwnLat.cons hlc0 (OwnLat.cons hlc1 (OwnLat.cons hlc2 OwnLat.nil))) hS) hZ (w_11 hw) (w_7 hw) (by decide) (by decide)) (g := (mkF m 78 #[.val (.int (3 : Int32)), .val (.int c0), .val (.int c1), .val (.int c2)] [(.ref b119), (.ref b118), (.ref b118)])) rfl (by rw [hml]; rfl) (Steps.refl _) (a := b118) (argsL := [(.ref b119)]) (rest := [(.ref b118)]) (lenOf pd_14 rfl) rfl (by show 2 * 0 + _ ≤ _; exact Nat.le_of_eq rfl) (hb hby d1_78) (fun _ _ => ⟨rfl, e125, (by decide : 2 + 1 ≤ _), (by decide : 7 + 10 ≤ _)⟩)
  dsimp only [Pt.U, Pt.locs, Pt.cells, Pt.slots] at X126 l126 y126 z126 st126 hQ126
  subst l126 y126 z126
  obtain ⟨rfl, Nq126, K126, Es126, ba126, kb126, gba126, nba126, Fc126, Fv126, Vs126⟩ := hQ126
  have N126 := Fr.app N125 Nq126
  have O126 : Old Z n0 T126.heap := O125.keep K126 (allS n_b118 all0)
  have KC126 : Keep h0 T126.heap [] := KC125.trans K126 (allS (Or.inr sz_b118) all0)
  refine OW.tr (B := T126.setTop (mkF m 81 #[.val (.int (3 : Int32)), .val (.int c0), .val (.int c1), .val (.int c2)] [(.ref b118)])) (st126) ?_
  exact OW.ret X126 hx hlk (i := .areturn) Bd.returns rfl (Or.inr (Or.inr (Or.inr (Or.inr ⟨rfl, rfl, rfl⟩)))) (hb hby d1_81) rfl (by decide) (by decide) ⟨b118, ba126, kb126, rfl, N126, KC126, n_b118, (((((A118.ext E119).wr W121).wr W123).wr W125).keep K126), Fv126, Fc126, Vs126⟩
theorem ef_MK31 (m : MethodId) (x0 : Int32) (x1 : Int32) (x2 : Int32) (x3 : Int32) : entryFrame m #[(.int x0), (.int x1), (.int x2), (.int x3)] 4 = mkF m 0 #[.val (.int x0), .val (.int x1), .val (.int x2), .val (.int x3)] [] := by first | (simp [entryFrame, mkF, argsToLocals, Value.category]; done) | rfl
def QMK31 (Z : State) (c0 : Int32) (c1 : Int32) (c2 : Int32) (i_COMPACT_STRINGS : Int32) (v_SIOOBE_FORMATTER : Value) (h0 : Heap) (n0 : Nat) (v : Option Value) (h : Heap) (L : List Loc) : Prop := ∃ (b ba : Addr) (kb : ClassId), v = some (.ref b) ∧ Fr n0 L ∧ Keep h0 h [] ∧ n0 ≤ b ∧ Exa Z h b "java/lang/String" ∧ Fld Z h b "java/lang/String" "value" "[B" (.ref ba) ∧ Fld Z h b "java/lang/String" "coder" "B" (.int (1 : Int32)) ∧ Arv Z h ba kb .byte (6 : Int32) (OwnU [c0, c1, c2]) (.int (0 : Int32))
set_option maxRecDepth 65536 in
set_option maxHeartbeats 40000000 in
theorem rmMK31 (l : Launch) (Z : State) (a0 : Array Value) (hw : ∀ d ∈ tables_1, d.before a0 Z = true) (ws : List Jvm.Cond) (c0 : Int32) (c1 : Int32) (c2 : Int32) (i_COMPACT_STRINGS : Int32) (v_SIOOBE_FORMATTER : Value) (h0 : Heap) (n0 : Nat) (O0 : Old Z n0 h0) (hnc0 : nar .char c0 = c0) (hnc1 : nar .char c1 = c1) (hnc2 : nar .char c2 = c2) (hu : (255 : Int32) < c0 ∨ (255 : Int32) < c1 ∨ (255 : Int32) < c2) (hS : OwnS Z i_COMPACT_STRINGS v_SIOOBE_FORMATTER) :
    MetFree l (⟨"com/example/cartulary/cartulary/entity/AttachmentValueOfStringPinLaw", "make", "(ICCC)Ljava/lang/String;"⟩ : MethodName) (head1 (Jvm.Cond.code (⟨"com/example/cartulary/cartulary/entity/AttachmentValueOfStringPinLaw", "make", "(ICCC)Ljava/lang/String;"⟩ : MethodName) method_3_code 4 (some (.object "java/lang/String")) :: ws) ({ frames := 6, cells := 4, slots := 37, locals := 88 } : Room)) (fun aa_ UU_ => aa_ = #[(.int (3 : Int32)), (.int c0), (.int c1), (.int c2)] ∧ Z.Warmed39 UU_.vm ∧ UU_.heap = h0) (fun _ _ _ _ _ => True) (fun _ UU_ oo_ UV_ => ∃ vv_ LL_, oo_ = .returned vv_ ∧ QMK31 Z c0 c1 c2 i_COMPACT_STRINGS v_SIOOBE_FORMATTER h0 n0 vv_ UV_.heap LL_ ∧ FrameEnd UU_ oo_ UV_ LL_ ({ frames := 6, cells := 4, slots := 37, locals := 88 } : Room).cells ({ frames := 6, cells := 4, slots := 37, locals := 88 } : Room).slots) := by
  refine MetFree.of_bodySF (plainFor_of_name pn_4) hisR ?_
  intro p e s m args below meth c s₁ Bd hml0 hP hK
  obtain ⟨rfl, hZ, hh⟩ := hP
  have hx := Bd.exec
  have hby := Bd.bytes
  have hlk := BodyLoose.notSynchronized Bd
  have hml : c.maxLocals = 4 := hml0
  have hown : s.vm.findClass "com/example/cartulary/cartulary/entity/AttachmentValueOfStringPinLaw" = some m.cls := findClass_of_methodNamed Bd.named
  have hnm := (name_of_methodNamed Bd.named Bd.method).1
  have X0 : Stand p l e ({ frames := 6, cells := 4, slots := 37, locals := 88 } : Room) s m #[(.int (3 : Int32)), (.int c0), (.int c1), (.int c2)] below meth c s₁ [] 0 0 := Stand.of_body Bd
  have e0 : s₁.heap = h0 := by rw [← hh, Bd.state]; rfl
  have N0 := Fr.nil n0
  have KC0 : Keep h0 h0 [] := Keep.refl _ _
  suffices hOW : OW p e below s (QMK31 Z c0 c1 c2 i_COMPACT_STRINGS v_SIOOBE_FORMATTER h0 n0) 4 37 (s₁.setTop (mkF m 0 #[.val (.int (3 : Int32)), .val (.int c0), .val (.int c1), .val (.int c2)] [])) by
    obtain ⟨oq1_, oq2_, oq3_, oq4_⟩ := hOW
    exact ⟨oq1_, oq2_, castTop (ef_MK31 m (3 : Int32) c0 c1 c2) oq3_, oq4_⟩
  have hS' := hS
  obtain ⟨Si_COMPACT_STRINGS, Sv_SIOOBE_FORMATTER, Rv_SIOOBE_FORMATTER, S__assertionsDisabled, S_HI_BYTE_SHIFT, S_LO_BYTE_SHIFT, Pi_COMPACT_STRINGS⟩ := hS'
  refine OW.st (B := s₁.setTop (mkF m 59 #[.val (.int (3 : Int32)), .val (.int c0), .val (.int c1), .val (.int c2)] [])) (fun _ kk_ => XS.iloadN X0.here hx rfl (hb hby d1_0) rfl (XS.ifYes X0.here hx rfl (pc0 := 1) (pc' := 15) rfl (hb hby d1_1) rfl ((if0 _ _).trans (feq (by decide)).2) (by decide) (by decide) (XS.iloadN X0.here hx rfl (hb hby d1_15) rfl (XS.iconst X0.here hx rfl (hb hby d1_16) (XS.icmpYes X0.here hx rfl (pc0 := 17) (pc' := 35) rfl (hb hby d1_17) rfl (feq (by decide)).2 (by decide) (by decide) (XS.iloadN X0.here hx rfl (hb hby d1_35) rfl (XS.iconst X0.here hx rfl (hb hby d1_36) (XS.icmpYes X0.here hx rfl (pc0 := 37) (pc' := 59) rfl (hb hby d1_37) rfl (feq (by decide)).2 (by decide) (by decide) kk_)))))))) ?_
  obtain ⟨T127, h127, X127, e127, E127, A127, D127, -, st127⟩ := newO X0 hx hZ hown (w_5 hw) (w_6 hw) (w_7 hw) e0 (g := (mkF m 59 #[.val (.int (3 : Int32)), .val (.int c0), .val (.int c1), .val (.int c2)] [])) rfl (hb hby d1_59) (by decide) (by decide)
  obtain ⟨b127, g127⟩ : ∃ z, z = h0.size := ⟨_, rfl⟩
  rw [← g127] at A127 D127 st127
  have n_b127 : n0 ≤ b127 := Nat.le_trans (own_oldle O0) (Nat.le_of_eq g127.symm)
  have O127 : Old Z n0 h127 := O0.ext E127
  have sz_b127 : h0.size ≤ b127 := Nat.le_trans KC0.1 (Nat.le_of_eq g127.symm)
  have KC127 : Keep h0 h127 [] := KC0.ext E127
  have F127_32 : Fld Z h127 b127 "java/lang/String" "coder" "B" (.int (0 : Int32)) := D127 (Or.inr (w_32 hw)) (ty := .byte) (by decide)
  have F127_34 : Fld Z h127 b127 "java/lang/String" "value" "[B" .null := D127 (Or.inr (w_34 hw)) (ty := (.array .byte)) (by decide)
  refine OW.st (B := T127.setTop (mkF m 64 #[.val (.int (3 : Int32)), .val (.int c0), .val (.int c1), .val (.int c2)] [(.int (3 : Int32)), (.ref b127), (.ref b127)])) (fun _ kk_ => st127 _ (XS.dup X127.here hx rfl (hb hby d1_62) rfl rfl (XS.iconst X127.here hx rfl (hb hby d1_63) kk_))) ?_
  obtain ⟨T128, h128, k128, X128, e128, E128, A128, st128⟩ := newP (aty := .char) X127 hx hZ (w_8 hw) e127 (g := (mkF m 64 #[.val (.int (3 : Int32)), .val (.int c0), .val (.int c1), .val (.int c2)] [(.int (3 : Int32)), (.ref b127), (.ref b127)])) rfl (hb hby d1_64) rfl (by decide) (cap := 3) (by decide +kernel) (by decide +kernel) (by decide +kernel) (by decide +kernel)
  obtain ⟨b128, g128⟩ : ∃ z, z = h127.size := ⟨_, rfl⟩
  rw [← g128] at A128 st128
  have n_b128 : n0 ≤ b128 := Nat.le_trans (own_oldle O127) (Nat.le_of_eq g128.symm)
  have O128 : Old Z n0 h128 := O127.ext E128
  have sz_b128 : h0.size ≤ b128 := Nat.le_trans KC127.1 (Nat.le_of_eq g128.symm)
  have KC128 : Keep h0 h128 [] := KC127.ext E128
  have V128 : Arv Z h128 b128 k128 .char (3 : Int32) [(.int (0 : Int32)), (.int (0 : Int32)), (.int (0 : Int32))] (.int (0 : Int32)) := (Arv.new A128 (by decide)).pad (pad_rep [] (.int (0 : Int32)) 3)
  refine OW.st (B := T128.setTop (mkF m 69 #[.val (.int (3 : Int32)), .val (.int c0), .val (.int c1), .val (.int c2)] [(.int c0), (.int (0 : Int32)), (.ref b128), (.ref b128), (.ref b127), (.ref b127)])) (fun _ kk_ => st128 _ (XS.dup X128.here hx rfl (hb hby d1_66) rfl rfl (XS.iconst X128.here hx rfl (hb hby d1_67) (XS.iloadN X128.here hx rfl (hb hby d1_68) rfl kk_)))) ?_
  obtain ⟨cl129, Ar129, q129, S129, Ng129, Hs129, G129⟩ := id V128
  have hin129 : ¬ ((0 : Int32) < 0 ∨ cl129.slots.size ≤ ((0 : Int32)).toNatClampNeg) := inb_of S129 ⟨by decide, by decide⟩
  obtain ⟨T130, h130, X130, e130, W130, st130⟩ := stC X128 hx hZ e128 Ar129 (j := (0 : Int32)) hin129 (g := (mkF m 69 #[.val (.int (3 : Int32)), .val (.int c0), .val (.int c1), .val (.int c2)] [(.int c0), (.int (0 : Int32)), (.ref b128), (.ref b128), (.ref b127), (.ref b127)])) rfl rfl (hb hby d1_69)
  rw [hnc0] at W130
  have N130 := Fr.snoc X130 N0 n_b128
  have O130 : Old Z n0 h130 := O128.wr W130 n_b128
  have KC130 : Keep h0 h130 [] := KC128.wr W130 (Or.inr sz_b128)
  have V130 : Arv Z h130 b128 k128 .char (3 : Int32) [(.int c0), (.int (0 : Int32)), (.int (0 : Int32))] (.int (0 : Int32)) := Arv.set Ar129 q129 S129 Ng129 Hs129 G129 (hnc0 ▸ (fits_nar_char _)) W130 0 rfl (Nat.le_of_ble_eq_true rfl)
  refine OW.st (B := T130.setTop (mkF m 73 #[.val (.int (3 : Int32)), .val (.int c0), .val (.int c1), .val (.int c2)] [(.int c1), (.int (1 : Int32)), (.ref b128), (.ref b128), (.ref b127), (.ref b127)])) (fun _ kk_ => st130 _ (XS.dup X130.here hx rfl (hb hby d1_70) rfl rfl (XS.iconst X130.here hx rfl (hb hby d1_71) (XS.iloadN X130.here hx rfl (hb hby d1_72) rfl kk_)))) ?_
  obtain ⟨cl131, Ar131, q131, S131, Ng131, Hs131, G131⟩ := id V130
  have hin131 : ¬ ((1 : Int32) < 0 ∨ cl131.slots.size ≤ ((1 : Int32)).toNatClampNeg) := inb_of S131 ⟨by decide, by decide⟩
  obtain ⟨T132, h132, X132, e132, W132, st132⟩ := stC X130 hx hZ e130 Ar131 (j := (1 : Int32)) hin131 (g := (mkF m 73 #[.val (.int (3 : Int32)), .val (.int c0), .val (.int c1), .val (.int c2)] [(.int c1), (.int (1 : Int32)), (.ref b128), (.ref b128), (.ref b127), (.ref b127)])) rfl rfl (hb hby d1_73)
  rw [hnc1] at W132
  have N132 := Fr.snoc X132 N130 n_b128
  have O132 : Old Z n0 h132 := O130.wr W132 n_b128
  have KC132 : Keep h0 h132 [] := KC130.wr W132 (Or.inr sz_b128)
  have V132 : Arv Z h132 b128 k128 .char (3 : Int32) [(.int c0), (.int c1), (.int (0 : Int32))] (.int (0 : Int32)) := Arv.set Ar131 q131 S131 Ng131 Hs131 G131 (hnc1 ▸ (fits_nar_char _)) W132 1 rfl (Nat.le_of_ble_eq_true rfl)
  refine OW.st (B := T132.setTop (mkF m 77 #[.val (.int (3 : Int32)), .val (.int c0), .val (.int c1), .val (.int c2)] [(.int c2), (.int (2 : Int32)), (.ref b128), (.ref b128), (.ref b127), (.ref b127)])) (fun _ kk_ => st132 _ (XS.dup X132.here hx rfl (hb hby d1_74) rfl rfl (XS.iconst X132.here hx rfl (hb hby d1_75) (XS.iloadN X132.here hx rfl (hb hby d1_76) rfl kk_)))) ?_
  obtain ⟨cl133, Ar133, q133, S133, Ng133, Hs133, G133⟩ := id V132
  have hin133 : ¬ ((2 : Int32) < 0 ∨ cl133.slots.size ≤ ((2 : Int32)).toNatClampNeg) := inb_of S133 ⟨by decide, by decide⟩
  obtain ⟨T134, h134, X134, e134, W134, st134⟩ := stC X132 hx hZ e132 Ar133 (j := (2 : Int32)) hin133 (g := (mkF m 77 #[.val (.int (3 : Int32)), .val (.int c0), .val (.int c1), .val (.int c2)] [(.int c2), (.int (2 : Int32)), (.ref b128), (.ref b128), (.ref b127), (.ref b127)])) rfl rfl (hb hby d1_77)
  rw [hnc2] at W134
  have N134 := Fr.snoc X134 N132 n_b128
  have O134 : Old Z n0 h134 := O132.wr W134 n_b128
  have KC134 : Keep h0 h134 [] := KC132.wr W134 (Or.inr sz_b128)
  have V134 : Arv Z h134 b128 k128 .char (3 : Int32) [(.int c0), (.int c1), (.int c2)] (.int (0 : Int32)) := Arv.set Ar133 q133 S133 Ng133 Hs133 G133 (hnc2 ▸ (fits_nar_char _)) W134 2 rfl (Nat.le_of_ble_eq_true rfl)
  refine OW.st (B := T134.setTop (mkF m 78 #[.val (.int (3 : Int32)), .val (.int c0), .val (.int c1), .val (.int c2)] [(.ref b128), (.ref b127), (.ref b127)])) (fun _ kk_ => st134 _ kk_) ?_
  obtain ⟨_, _, ⟨T135, L135, k135, n135⟩, -, X135, ⟨Lc135, hQ135, l135, y135, z135⟩, st135⟩ := X134.specialBack hx (y := (⟨"java/lang/String", "<init>", "([C)V"⟩ : MethodName)) rfl hown (mvT hZ (w_9 hw)) (mvT hZ (w_10 hw)) (mvT hZ (w_11 hw)) (by decide) (backOf (W := 1) (rmS01 l Z a0 hw [] b127 b128 k128 (3 : Int32) [c0, c1, c2] i_COMPACT_STRINGS v_SIOOBE_FORMATTER h134 n0 O134 ((((A127.ext E128).wr W130).wr W132).wr W134) ((((F127_34.ext E128).other W130 (Or.inl (Nat.ne_of_lt (Nat.lt_of_lt_of_le A127.lt (Nat.le_of_eq g128.symm))))).other W132 (Or.inl (Nat.ne_of_lt (Nat.lt_of_lt_of_le A127.lt (Nat.le_of_eq g128.symm))))).other W134 (Or.inl (Nat.ne_of_lt (Nat.lt_of_lt_of_le A127.lt (Nat.le_of_eq g128.symm))))) ((((F127_32.ext E128).other W130 (Or.inl (Nat.ne_of_lt (Nat.lt_of_lt_of_le A127.lt (Nat.le_of_eq g128.symm))))).other W132 (Or.inl (Nat.ne_of_lt (Nat.lt_of_lt_of_le A127.lt (Nat.le_of_eq g128.symm))))).other W134 (Or.inl (Nat.ne_of_lt (Nat.lt_of_lt_of_le A127.lt (Nat.le_of_eq g128.symm))))) n_b127 V134 rfl (Nat.le_of_ble_eq_true rfl) (Nat.zero_lt_succ _) (OwnChs.cons hnc0 (OwnChs.cons hnc1 (OwnChs.cons hnc2 OwnChs.nil))) (hu.elim OwnHi.here (fun q0 => OwnHi.there (q0.elim OwnHi.here (fun q1 => OwnHi.there (OwnHi.here q1))))) hS) hZ (w_11 hw) (w_7 hw) (by decide) (by decide)) (g := (mkF m 78 #[.val (.int (3 : Int32)), .val (.int c0), .val (.int c1), .val (.int c2)] [(.ref b128), (.ref b127), (.ref b127)])) rfl (by rw [hml]; rfl) (Steps.refl _) (a := b127) (argsL := [(.ref b128)]) (rest := [(.ref b127)]) (lenOf pd_14 rfl) rfl (by show 2 * 0 + _ ≤ _; exact Nat.le_of_eq rfl) (hb hby d1_78) (fun _ _ => ⟨rfl, e134, (by decide : 2 + 2 ≤ _), (by decide : 7 + 30 ≤ _)⟩)
  dsimp only [Pt.U, Pt.locs, Pt.cells, Pt.slots] at X135 l135 y135 z135 st135 hQ135
  subst l135 y135 z135
  obtain ⟨rfl, Nq135, K135, Es135, ba135, kb135, gba135, nba135, Fc135, Fv135, Vs135⟩ := hQ135
  have N135 := Fr.app N134 Nq135
  have O135 : Old Z n0 T135.heap := O134.keep K135 (allS n_b127 all0)
  have KC135 : Keep h0 T135.heap [] := KC134.trans K135 (allS (Or.inr sz_b127) all0)
  refine OW.tr (B := T135.setTop (mkF m 81 #[.val (.int (3 : Int32)), .val (.int c0), .val (.int c1), .val (.int c2)] [(.ref b127)])) (st135) ?_
  exact OW.ret X135 hx hlk (i := .areturn) Bd.returns rfl (Or.inr (Or.inr (Or.inr (Or.inr ⟨rfl, rfl, rfl⟩)))) (hb hby d1_81) rfl (by decide) (by decide) ⟨b127, ba135, kb135, rfl, N135, KC135, n_b127, (((((A127.ext E128).wr W130).wr W132).wr W134).keep K135), Fv135, Fc135, Vs135⟩
theorem ef_NN (m : MethodId) (x0 : Addr) (x1 : Addr) : entryFrame m #[(.ref x0), (.ref x1)] 2 = mkF m 0 #[.val (.ref x0), .val (.ref x1)] [] := by first | (simp [entryFrame, mkF, argsToLocals, Value.category]; done) | rfl
def QNN (Z : State) (a : Addr) (b : Addr) (h0 : Heap) (n0 : Nat) (v : Option Value) (h : Heap) (L : List Loc) : Prop := v = some (.ref a) ∧ Fr n0 L ∧ h = h0
set_option maxRecDepth 65536 in
set_option maxHeartbeats 40000000 in
theorem rmNN (l : Launch) (Z : State) (a0 : Array Value) (hw : ∀ d ∈ tables_1, d.before a0 Z = true) (ws : List Jvm.Cond) (a : Addr) (b : Addr) (h0 : Heap) (n0 : Nat) (O0 : Old Z n0 h0) :
    MetFree l (⟨"java/util/Objects", "requireNonNull", "(Ljava/lang/Object;Ljava/lang/String;)Ljava/lang/Object;"⟩ : MethodName) (head1 (Jvm.Cond.code (⟨"java/util/Objects", "requireNonNull", "(Ljava/lang/Object;Ljava/lang/String;)Ljava/lang/Object;"⟩ : MethodName) jdk_31_method_11_code 2 (some (.object "java/lang/Object")) :: ws) ({ frames := 0, cells := 0, slots := 0, locals := 0 } : Room)) (fun aa_ UU_ => aa_ = #[(.ref a), (.ref b)] ∧ Z.Warmed39 UU_.vm ∧ UU_.heap = h0) (fun _ _ _ _ _ => True) (fun _ UU_ oo_ UV_ => ∃ vv_ LL_, oo_ = .returned vv_ ∧ QNN Z a b h0 n0 vv_ UV_.heap LL_ ∧ FrameEnd UU_ oo_ UV_ LL_ ({ frames := 0, cells := 0, slots := 0, locals := 0 } : Room).cells ({ frames := 0, cells := 0, slots := 0, locals := 0 } : Room).slots) := by
  refine MetFree.of_bodySF (plainFor_of_name pn_5) hisR ?_
  intro p e s m args below meth c s₁ Bd hml0 hP hK
  obtain ⟨rfl, hZ, hh⟩ := hP
  have hx := Bd.exec
  have hby := Bd.bytes
  have hlk := BodyLoose.notSynchronized Bd
  have hml : c.maxLocals = 2 := hml0
  have hown : s.vm.findClass "java/util/Objects" = some m.cls := findClass_of_methodNamed Bd.named
  have hnm := (name_of_methodNamed Bd.named Bd.method).1
  have X0 : Stand p l e ({ frames := 0, cells := 0, slots := 0, locals := 0 } : Room) s m #[(.ref a), (.ref b)] below meth c s₁ [] 0 0 := Stand.of_body Bd
  have e0 : s₁.heap = h0 := by rw [← hh, Bd.state]; rfl
  have N0 := Fr.nil n0
  suffices hOW : OW p e below s (QNN Z a b h0 n0) 0 0 (s₁.setTop (mkF m 0 #[.val (.ref a), .val (.ref b)] [])) by
    obtain ⟨oq1_, oq2_, oq3_, oq4_⟩ := hOW
    exact ⟨oq1_, oq2_, castTop (ef_NN m a b) oq3_, oq4_⟩
  refine OW.st (B := s₁.setTop (mkF m 14 #[.val (.ref a), .val (.ref b)] [(.ref a)])) (fun _ kk_ => XS.aloadN X0.here hx rfl (hb hby d9_0) rfl rfl (XS.ifnonnullYes X0.here hx rfl (pc0 := 1) (pc' := 13) rfl (hb hby d9_1) rfl (by decide) (by decide) (XS.aloadN X0.here hx rfl (hb hby d9_13) rfl rfl kk_))) ?_
  exact OW.ret X0 hx hlk (i := .areturn) Bd.returns rfl (Or.inr (Or.inr (Or.inr (Or.inr ⟨rfl, rfl, rfl⟩)))) (hb hby d9_14) e0 (by decide) (by decide) ⟨rfl, N0, rfl⟩
theorem ef_AI (m : MethodId) (x0 : Addr) (x1 : Addr) (x2 : Int32) : entryFrame m #[(.ref x0), (.ref x1), (.int x2)] 3 = mkF m 0 #[.val (.ref x0), .val (.ref x1), .val (.int x2)] [] := by first | (simp [entryFrame, mkF, argsToLocals, Value.category]; done) | rfl
def QAI (Z : State) (b : Addr) (sa : Addr) (h0 : Heap) (n0 : Nat) (v : Option Value) (h : Heap) (L : List Loc) : Prop := v = none ∧ Fr n0 L ∧ Keep h0 h [b] ∧ Fld Z h b "com/example/cartulary/cartulary/entity/AttachmentValue" "text" "Ljava/lang/String;" (.ref sa) ∧ Fld Z h b "com/example/cartulary/cartulary/entity/AttachmentValue" "uri" "Z" (.int (0 : Int32))
set_option maxRecDepth 65536 in
set_option maxHeartbeats 40000000 in
theorem rmAI (l : Launch) (Z : State) (a0 : Array Value) (hw : ∀ d ∈ tables_1, d.before a0 Z = true) (ws : List Jvm.Cond) (b : Addr) (sa : Addr) (h0 : Heap) (n0 : Nat) (O0 : Old Z n0 h0) (E : Exa Z h0 b "com/example/cartulary/cartulary/entity/AttachmentValue") (F1 : Fld Z h0 b "com/example/cartulary/cartulary/entity/AttachmentValue" "text" "Ljava/lang/String;" .null) (F2 : Fld Z h0 b "com/example/cartulary/cartulary/entity/AttachmentValue" "uri" "Z" (.int (0 : Int32))) (g : n0 ≤ b) :
    MetFree l (⟨"com/example/cartulary/cartulary/entity/AttachmentValue", "<init>", "(Ljava/lang/String;Z)V"⟩ : MethodName) (head1 (Jvm.Cond.code (⟨"com/example/cartulary/cartulary/entity/AttachmentValue", "<init>", "(Ljava/lang/String;Z)V"⟩ : MethodName) prog_19_method_1_code 3 none :: ws) ({ frames := 1, cells := 0, slots := 0, locals := 12 } : Room)) (fun aa_ UU_ => aa_ = #[(.ref b), (.ref sa), (.int (0 : Int32))] ∧ Z.Warmed39 UU_.vm ∧ UU_.heap = h0) (fun _ _ _ _ _ => True) (fun _ UU_ oo_ UV_ => ∃ vv_ LL_, oo_ = .returned vv_ ∧ QAI Z b sa h0 n0 vv_ UV_.heap LL_ ∧ FrameEnd UU_ oo_ UV_ LL_ ({ frames := 1, cells := 0, slots := 0, locals := 12 } : Room).cells ({ frames := 1, cells := 0, slots := 0, locals := 12 } : Room).slots) := by
  refine MetFree.of_bodySF (plainFor_of_name pn_6) hisR ?_
  intro p e s m args below meth c s₁ Bd hml0 hP hK
  obtain ⟨rfl, hZ, hh⟩ := hP
  have hx := Bd.exec
  have hby := Bd.bytes
  have hlk := BodyLoose.notSynchronized Bd
  have hml : c.maxLocals = 3 := hml0
  have hown : s.vm.findClass "com/example/cartulary/cartulary/entity/AttachmentValue" = some m.cls := findClass_of_methodNamed Bd.named
  have hnm := (name_of_methodNamed Bd.named Bd.method).1
  have X0 : Stand p l e ({ frames := 1, cells := 0, slots := 0, locals := 12 } : Room) s m #[(.ref b), (.ref sa), (.int (0 : Int32))] below meth c s₁ [] 0 0 := Stand.of_body Bd
  have e0 : s₁.heap = h0 := by rw [← hh, Bd.state]; rfl
  have N0 := Fr.nil n0
  have KC0 : Keep h0 h0 [b] := Keep.refl _ _
  suffices hOW : OW p e below s (QAI Z b sa h0 n0) 0 0 (s₁.setTop (mkF m 0 #[.val (.ref b), .val (.ref sa), .val (.int (0 : Int32))] [])) by
    obtain ⟨oq1_, oq2_, oq3_, oq4_⟩ := hOW
    exact ⟨oq1_, oq2_, castTop (ef_AI m b sa (0 : Int32)) oq3_, oq4_⟩
  refine OW.st (B := s₁.setTop (mkF m 1 #[.val (.ref b), .val (.ref sa), .val (.int (0 : Int32))] [(.ref b)])) (fun _ kk_ => XS.aloadN X0.here hx rfl (hb hby d10_0) rfl rfl kk_) ?_
  obtain ⟨T136, X136, e136, st136⟩ := initO X0 hx hZ hown (w_52 hw) (w_17 hw) (w_18 hw) e0 (g := (mkF m 1 #[.val (.ref b), .val (.ref sa), .val (.int (0 : Int32))] [(.ref b)])) rfl (by rw [hml]; rfl) rfl (hb hby d10_1) (by decide) (W := 0) (by show 2 * 0 + _ ≤ _; exact Nat.le_of_eq rfl) (by decide)
  refine OW.st (B := T136.setTop (mkF m 6 #[.val (.ref b), .val (.ref sa), .val (.int (0 : Int32))] [(.ref sa), (.ref b)])) (fun _ kk_ => st136 _ (XS.aloadN X136.here hx rfl (hb hby d10_4) rfl rfl (XS.aloadN X136.here hx rfl (hb hby d10_5) rfl rfl kk_))) ?_
  obtain ⟨T137, h137, X137, e137, W137, st137⟩ := putF X136 hx hZ hown (host := "") (Or.inl (w_53 hw)) Via.refl e136 F1 E (Or.inr ⟨(w_54 hw), rfl, hnm⟩) (w_40 hw) (ty := (.object "java/lang/String")) (by decide) rfl rfl (g := (mkF m 6 #[.val (.ref b), .val (.ref sa), .val (.int (0 : Int32))] [(.ref sa), (.ref b)])) rfl rfl (hb hby d10_6)
  have N137 := Fr.snoc X137 N0 g
  have O137 : Old Z n0 h137 := O0.wr W137 g
  have KC137 : Keep h0 h137 [b] := KC0.wr W137 (Or.inl (List.mem_of_getElem? (i := 0) rfl))
  have F137 : Fld Z h137 b "com/example/cartulary/cartulary/entity/AttachmentValue" "text" "Ljava/lang/String;" (.ref sa) := Fld.same W137 F1
  refine OW.st (B := T137.setTop (mkF m 11 #[.val (.ref b), .val (.ref sa), .val (.int (0 : Int32))] [(.int (0 : Int32)), (.ref b)])) (fun _ kk_ => st137 _ (XS.aloadN X137.here hx rfl (hb hby d10_9) rfl rfl (XS.iloadN X137.here hx rfl (hb hby d10_10) rfl kk_))) ?_
  obtain ⟨T138, h138, X138, e138, W138, st138⟩ := putFN X137 hx hZ hown (w_55 hw) Via.refl e137 (F2.other W137 (Or.inr (slot_ne (Or.inr (w_56 hw)) (Or.inr (w_54 hw)) (by decide) (t := .boolean) (t' := (.object "java/lang/String")) (by decide) (by decide)))) (E.wr W137) (Or.inr ⟨(w_56 hw), rfl, hnm⟩) (w_40 hw) (ty := .boolean) (v' := (.int (0 : Int32))) (by decide) rfl rfl (g := (mkF m 11 #[.val (.ref b), .val (.ref sa), .val (.int (0 : Int32))] [(.int (0 : Int32)), (.ref b)])) rfl rfl (hb hby d10_11)
  have N138 := Fr.snoc X138 N137 g
  have O138 : Old Z n0 h138 := O137.wr W138 g
  have KC138 : Keep h0 h138 [b] := KC137.wr W138 (Or.inl (List.mem_of_getElem? (i := 0) rfl))
  have F138 : Fld Z h138 b "com/example/cartulary/cartulary/entity/AttachmentValue" "uri" "Z" (.int (0 : Int32)) := Fld.same W138 (F2.other W137 (Or.inr (slot_ne (Or.inr (w_56 hw)) (Or.inr (w_54 hw)) (by decide) (t := .boolean) (t' := (.object "java/lang/String")) (by decide) (by decide))))
  refine OW.st (B := T138.setTop (mkF m 14 #[.val (.ref b), .val (.ref sa), .val (.int (0 : Int32))] [])) (fun _ kk_ => st138 _ kk_) ?_
  exact OW.retV X138 hx hlk Bd.returns (hb hby d10_14) e138 (by decide) (by decide) ⟨rfl, N138, KC138, (F137.other W138 (Or.inr (slot_ne (Or.inr (w_54 hw)) (Or.inr (w_56 hw)) (by decide) (t := (.object "java/lang/String")) (t' := .boolean) (by decide) (by decide)))), F138⟩
theorem ef_OF (m : MethodId) (x0 : Addr) : entryFrame m #[(.ref x0)] 1 = mkF m 0 #[.val (.ref x0)] [] := by first | (simp [entryFrame, mkF, argsToLocals, Value.category]; done) | rfl
def QOF (Z : State) (sa : Addr) (h0 : Heap) (n0 : Nat) (v : Option Value) (h : Heap) (L : List Loc) : Prop := ∃ b : Addr, v = some (.ref b) ∧ Fr n0 L ∧ Keep h0 h [] ∧ n0 ≤ b ∧ Exa Z h b "com/example/cartulary/cartulary/entity/AttachmentValue" ∧ Fld Z h b "com/example/cartulary/cartulary/entity/AttachmentValue" "text" "Ljava/lang/String;" (.ref sa) ∧ Fld Z h b "com/example/cartulary/cartulary/entity/AttachmentValue" "uri" "Z" (.int (0 : Int32))
set_option maxRecDepth 65536 in
set_option maxHeartbeats 40000000 in
theorem rmOF (l : Launch) (Z : State) (a0 : Array Value) (hw : ∀ d ∈ tables_1, d.before a0 Z = true) (ws : List Jvm.Cond) (sa : Addr) (h0 : Heap) (n0 : Nat) (O0 : Old Z n0 h0) (E : Exa Z h0 sa "java/lang/String") :
    MetFree l (⟨"com/example/cartulary/cartulary/entity/AttachmentValue", "ofString", "(Ljava/lang/String;)Lcom/example/cartulary/cartulary/entity/AttachmentValue;"⟩ : MethodName) (head1 (Jvm.Cond.code (⟨"com/example/cartulary/cartulary/entity/AttachmentValue", "ofString", "(Ljava/lang/String;)Lcom/example/cartulary/cartulary/entity/AttachmentValue;"⟩ : MethodName) prog_19_method_2_code 1 (some (.object "com/example/cartulary/cartulary/entity/AttachmentValue")) :: ws) ({ frames := 2, cells := 3, slots := 22, locals := 27 } : Room)) (fun aa_ UU_ => aa_ = #[(.ref sa)] ∧ Z.Warmed39 UU_.vm ∧ UU_.heap = h0 ∧ CHv Z consts_1 UU_.vm h0) (fun _ _ _ _ _ => True) (fun _ UU_ oo_ UV_ => ∃ vv_ LL_, oo_ = .returned vv_ ∧ QOF Z sa h0 n0 vv_ UV_.heap LL_ ∧ CHr Z consts_1 UU_.vm UU_.heap UV_.vm UV_.heap ∧ ReturnedEndW UU_ oo_ UV_ LL_ ({ frames := 2, cells := 3, slots := 22, locals := 27 } : Room).cells ({ frames := 2, cells := 3, slots := 22, locals := 27 } : Room).slots) := by
  refine MetFree.of_bodySF (plainFor_of_name pn_6) hisR ?_
  intro p e s m args below meth c s₁ Bd hml0 hP hK
  obtain ⟨rfl, hZ, hh, hCH⟩ := hP
  have hx := Bd.exec
  have hby := Bd.bytes
  have hlk := BodyLoose.notSynchronized Bd
  have hml : c.maxLocals = 1 := hml0
  have hown : s.vm.findClass "com/example/cartulary/cartulary/entity/AttachmentValue" = some m.cls := findClass_of_methodNamed Bd.named
  have hnm := (name_of_methodNamed Bd.named Bd.method).1
  have X0 : Stand p l e ({ frames := 2, cells := 3, slots := 22, locals := 27 } : Room) s m #[(.ref sa)] below meth c s₁ [] 0 0 := Stand.of_body Bd
  have e0 : s₁.heap = h0 := by rw [← hh, Bd.state]; rfl
  have N0 := Fr.nil n0
  have hS0 : s.Since s.vm 0 := (State.WarmedH.refl s).since 0
  have hk0 : 0 ≤ h0.size := Nat.zero_le _
  have CR0 : CHr Z consts_1 s.vm h0 s.vm h0 := CHr.refl hCH
  have KC0 : Keep h0 h0 [] := Keep.refl _ _
  suffices hOW : OWH Z consts_1 h0 p e below s (QOF Z sa h0 n0) 3 22 (s₁.setTop (mkF m 0 #[.val (.ref sa)] [])) by
    obtain ⟨oq1_, oq2_, oq3_, oq4_⟩ := hOW
    obtain ⟨oq5_, oq6_, oq7_, oq8_, oq9_, or1_, or2_, or3_⟩ := oq4_
    exact ⟨oq1_, oq2_, castTop (ef_OF m sa) oq3_, oq5_, oq6_, oq7_, oq8_, oq9_, or1_, by rw [hh]; exact or2_, or3_⟩
  obtain ⟨T139, h139, X139, e139, E139, A139, D139, -, st139⟩ := newO X0 hx hZ hown (w_39 hw) (w_40 hw) (w_37 hw) e0 (g := (mkF m 0 #[.val (.ref sa)] [])) rfl (hb hby d8_0) (by decide) (by decide)
  obtain ⟨b139, g139⟩ : ∃ z, z = h0.size := ⟨_, rfl⟩
  rw [← g139] at A139 D139 st139
  have n_b139 : n0 ≤ b139 := Nat.le_trans (own_oldle O0) (Nat.le_of_eq g139.symm)
  have O139 : Old Z n0 h139 := O0.ext E139
  have sz_b139 : h0.size ≤ b139 := Nat.le_trans KC0.1 (Nat.le_of_eq g139.symm)
  have CS139 : CHr Z consts_1 s.vm h0 s.vm h139 := CHr.ext E139 CR0.1
  have CR139 := CHr.trans CR0 CS139
  have Sf139_b139 : Safe Z consts_1 s.vm h139 b139 := Safe.ext E139 CR0.1 (Safe.new (Nat.le_of_eq g139.symm))
  have KC139 : Keep h0 h139 [] := KC0.ext E139
  have F139_54 : Fld Z h139 b139 "com/example/cartulary/cartulary/entity/AttachmentValue" "text" "Ljava/lang/String;" .null := D139 (Or.inr (w_54 hw)) (ty := (.object "java/lang/String")) (by decide)
  have F139_56 : Fld Z h139 b139 "com/example/cartulary/cartulary/entity/AttachmentValue" "uri" "Z" (.int (0 : Int32)) := D139 (Or.inr (w_56 hw)) (ty := .boolean) (by decide)
  refine OWH.st (B := T139.setTop (mkF m 5 #[.val (.ref sa)] [(.ref sa), (.ref b139), (.ref b139)])) (fun _ kk_ => st139 _ (XS.dup X139.here hx rfl (hb hby d8_3) rfl rfl (XS.aloadN X139.here hx rfl (hb hby d8_4) rfl rfl kk_))) ?_
  obtain ⟨a140, T140, h140, k140, lb140, lk140, X140, e140, E140, hS140, hk140, hZ140, hown140, Ea140, Fc140, Fv140, V140, -, -, Cs140, -, hne140, st140⟩ := ldcCH (s := s) (vm0 := s.vm) X139 hx hZ hown (w_41 hw) (own_wS hw) e139 hS0 (Nat.le_trans hk0 E139.1) (own_EW hw) (List.mem_of_getElem? (i := 0) rfl) CR139.1 (vs := [(.int (116 : Int32)), (.int (101 : Int32)), (.int (120 : Int32)), (.int (116 : Int32))]) (z := (4 : Int32)) ⟨by decide, by decide⟩ (by decide) (by decide) (g := (mkF m 5 #[.val (.ref sa)] [(.ref sa), (.ref b139), (.ref b139)])) rfl (hb hby d8_5) (n := 16) (by decide) (by decide) (by decide) (by decide)
  have O140 : Old Z n0 h140 := O139.ext E140
  have CS140 : CHr Z consts_1 s.vm h139 T140.vm h140 := Cs140
  have Sf140_b139 := CHr.safe CS140 A139.lt Sf139_b139
  have CR140 := CHr.trans CR139 CS140
  have KC140 : Keep h0 h140 [] := KC139.ext E140
  refine OWH.st (B := T140.setTop (mkF m 7 #[.val (.ref sa)] [(.ref a140), (.ref sa), (.ref b139), (.ref b139)])) (fun _ kk_ => st140 _ kk_) ?_
  obtain ⟨_, _, ⟨T141, L141, k141, n141⟩, -, X141, ⟨Lc141, hQ141, l141, y141, z141⟩, st141⟩ := Jvm.LawKit.callS X140 hx (y := (⟨"java/util/Objects", "requireNonNull", "(Ljava/lang/Object;Ljava/lang/String;)Ljava/lang/Object;"⟩ : MethodName)) hown140 (mvT hZ140 (w_44 hw)) (mvT hZ140 (w_45 hw)) (mvT hZ140 (w_46 hw)) (mvT hZ140 (w_47 hw)) (by decide) (backOf (W := 2) (rmNN l Z a0 hw [] sa a140 h140 n0 O140 ) hZ140 (w_47 hw) (w_46 hw) (by decide) (by decide)) (g := (mkF m 7 #[.val (.ref sa)] [(.ref a140), (.ref sa), (.ref b139), (.ref b139)])) rfl (by rw [hml]; rfl) (argsL := [(.ref sa), (.ref a140)]) (rest := [(.ref b139), (.ref b139)]) (lenOf pd_15 rfl) rfl (by show 2 * 0 + _ ≤ _; exact Nat.le_of_eq rfl) (hb hby d8_7) (fun _ _ => ⟨rfl, e140, (by decide : 3 + 0 ≤ _), (by decide : 22 + 0 ≤ _)⟩)
  dsimp only [Pt.U, Pt.locs, Pt.cells, Pt.slots] at X141 l141 y141 z141 st141 hQ141
  subst l141 y141 z141
  obtain ⟨rfl, Nq141, e141⟩ := hQ141
  have N141 := Fr.app N0 Nq141
  refine OWH.st (B := T141.setTop (mkF m 10 #[.val (.ref sa)] [(.ref sa), (.ref b139), (.ref b139)])) (fun _ kk_ => st141 _ kk_) ?_
  obtain ⟨T142, X142, e142, st142⟩ := castY X141 hx hZ140 hown140 (w_48 hw) e141 (Ins.self ((E.ext E139).ext E140)) (g := (mkF m 10 #[.val (.ref sa)] [(.ref sa), (.ref b139), (.ref b139)])) rfl rfl (hb hby d8_10)
  refine OWH.st (B := T142.setTop (mkF m 14 #[.val (.ref sa)] [(.int (0 : Int32)), (.ref sa), (.ref b139), (.ref b139)])) (fun _ kk_ => st142 _ (XS.iconst X142.here hx rfl (hb hby d8_13) kk_)) ?_
  obtain ⟨_, _, ⟨T143, L143, k143, n143⟩, -, X143, ⟨Lc143, hQ143, l143, y143, z143⟩, st143⟩ := X142.specialBack hx (y := (⟨"com/example/cartulary/cartulary/entity/AttachmentValue", "<init>", "(Ljava/lang/String;Z)V"⟩ : MethodName)) rfl hown140 (mvT hZ140 (w_49 hw)) (mvT hZ140 (w_50 hw)) (mvT hZ140 (w_51 hw)) (by decide) (backOf (W := 1) (rmAI l Z a0 hw [] b139 sa h140 n0 O140 (A139.ext E140) (F139_54.ext E140) (F139_56.ext E140) n_b139) hZ140 (w_51 hw) (w_37 hw) (by decide) (by decide)) (g := (mkF m 14 #[.val (.ref sa)] [(.int (0 : Int32)), (.ref sa), (.ref b139), (.ref b139)])) rfl (by rw [hml]; rfl) (Steps.refl _) (a := b139) (argsL := [(.ref sa), (.int (0 : Int32))]) (rest := [(.ref b139)]) (lenOf pd_16 rfl) rfl (by show 2 * 0 + _ ≤ _; exact Nat.le_of_eq rfl) (hb hby d8_14) (fun _ _ => ⟨rfl, e142, (by decide : 3 + 0 ≤ _), (by decide : 22 + 0 ≤ _)⟩)
  dsimp only [Pt.U, Pt.locs, Pt.cells, Pt.slots] at X143 l143 y143 z143 st143 hQ143
  subst l143 y143 z143
  obtain ⟨rfl, Nq143, K143, Ft143, Fu143⟩ := hQ143
  have N143 := Fr.app N141 Nq143
  have O143 : Old Z n0 T143.heap := O140.keep K143 (allS n_b139 all0)
  have CS143 : CHr Z consts_1 T140.vm h140 T140.vm T143.heap := CHr.keep K143 (allS (Safe.exa hZ140.alike (A139.ext E140) (by decide) (by decide)) all0) CR140.1
  have Sf143_b139 := CHr.safe CS143 (A139.ext E140).lt Sf140_b139
  have CR143 := CHr.trans CR140 CS143
  have KC143 : Keep h0 T143.heap [] := KC140.trans K143 (allS (Or.inr sz_b139) all0)
  refine OWH.tr (B := T143.setTop (mkF m 17 #[.val (.ref sa)] [(.ref b139)])) (st143) ?_
  exact OWH.ret X143 (s := s) (vm0 := T140.vm) hS140 (Nat.le_trans hk140 K143.1) hx hlk CR143 hZ140 (own_EW hw) (i := .areturn) Bd.returns rfl (Or.inr (Or.inr (Or.inr (Or.inr ⟨rfl, rfl, rfl⟩)))) (hb hby d8_17) rfl (by decide) (by decide) ⟨b139, rfl, N143, KC143, n_b139, ((A139.ext E140).keep K143), Ft143, Fu143⟩
theorem ef_GT (m : MethodId) (x0 : Addr) : entryFrame m #[(.ref x0)] 1 = mkF m 0 #[.val (.ref x0)] [] := by first | (simp [entryFrame, mkF, argsToLocals, Value.category]; done) | rfl
def QGT (Z : State) (a : Addr) (x1 : Addr) (h0 : Heap) (n0 : Nat) (v : Option Value) (h : Heap) (L : List Loc) : Prop := v = some (.ref x1) ∧ Fr n0 L ∧ h = h0
set_option maxRecDepth 65536 in
set_option maxHeartbeats 40000000 in
theorem rmGT (l : Launch) (Z : State) (a0 : Array Value) (hw : ∀ d ∈ tables_1, d.before a0 Z = true) (ws : List Jvm.Cond) (a : Addr) (x1 : Addr) (h0 : Heap) (n0 : Nat) (O0 : Old Z n0 h0) (F : Fld Z h0 a "com/example/cartulary/cartulary/entity/AttachmentValue" "text" "Ljava/lang/String;" (.ref x1)) :
    MetFree l (⟨"com/example/cartulary/cartulary/entity/AttachmentValue", "getText", "()Ljava/lang/String;"⟩ : MethodName) (head1 (Jvm.Cond.code (⟨"com/example/cartulary/cartulary/entity/AttachmentValue", "getText", "()Ljava/lang/String;"⟩ : MethodName) prog_19_method_5_code 1 (some (.object "java/lang/String")) :: ws) ({ frames := 0, cells := 0, slots := 0, locals := 0 } : Room)) (fun aa_ UU_ => aa_ = #[(.ref a)] ∧ Z.Warmed39 UU_.vm ∧ UU_.heap = h0) (fun _ _ _ _ _ => True) (fun _ UU_ oo_ UV_ => ∃ vv_ LL_, oo_ = .returned vv_ ∧ QGT Z a x1 h0 n0 vv_ UV_.heap LL_ ∧ FrameEnd UU_ oo_ UV_ LL_ ({ frames := 0, cells := 0, slots := 0, locals := 0 } : Room).cells ({ frames := 0, cells := 0, slots := 0, locals := 0 } : Room).slots) := by
  refine MetFree.of_bodySF (plainFor_of_name pn_6) hisR ?_
  intro p e s m args below meth c s₁ Bd hml0 hP hK
  obtain ⟨rfl, hZ, hh⟩ := hP
  have hx := Bd.exec
  have hby := Bd.bytes
  have hlk := BodyLoose.notSynchronized Bd
  have hml : c.maxLocals = 1 := hml0
  have hown : s.vm.findClass "com/example/cartulary/cartulary/entity/AttachmentValue" = some m.cls := findClass_of_methodNamed Bd.named
  have hnm := (name_of_methodNamed Bd.named Bd.method).1
  have X0 : Stand p l e ({ frames := 0, cells := 0, slots := 0, locals := 0 } : Room) s m #[(.ref a)] below meth c s₁ [] 0 0 := Stand.of_body Bd
  have e0 : s₁.heap = h0 := by rw [← hh, Bd.state]; rfl
  have N0 := Fr.nil n0
  suffices hOW : OW p e below s (QGT Z a x1 h0 n0) 0 0 (s₁.setTop (mkF m 0 #[.val (.ref a)] [])) by
    obtain ⟨oq1_, oq2_, oq3_, oq4_⟩ := hOW
    exact ⟨oq1_, oq2_, castTop (ef_GT m a) oq3_, oq4_⟩
  refine OW.st (B := s₁.setTop (mkF m 1 #[.val (.ref a)] [(.ref a)])) (fun _ kk_ => XS.aloadN X0.here hx rfl (hb hby d12_0) rfl rfl kk_) ?_
  obtain ⟨T144, X144, e144, st144⟩ := getF X0 hx hZ hown (host := "") (Or.inl (w_53 hw)) Via.refl e0 F (g := (mkF m 1 #[.val (.ref a)] [(.ref a)])) rfl rfl (hb hby d12_1)
  refine OW.st (B := T144.setTop (mkF m 4 #[.val (.ref a)] [(.ref x1)])) (fun _ kk_ => st144 _ kk_) ?_
  exact OW.ret X144 hx hlk (i := .areturn) Bd.returns rfl (Or.inr (Or.inr (Or.inr (Or.inr ⟨rfl, rfl, rfl⟩)))) (hb hby d12_4) e144 (by decide) (by decide) ⟨rfl, N0, rfl⟩
theorem ef_IU (m : MethodId) (x0 : Addr) : entryFrame m #[(.ref x0)] 1 = mkF m 0 #[.val (.ref x0)] [] := by first | (simp [entryFrame, mkF, argsToLocals, Value.category]; done) | rfl
def QIU (Z : State) (b : Addr) (h0 : Heap) (n0 : Nat) (v : Option Value) (h : Heap) (L : List Loc) : Prop := v = some (.int 0) ∧ Fr n0 L ∧ h = h0
set_option maxRecDepth 65536 in
set_option maxHeartbeats 40000000 in
theorem rmIU (l : Launch) (Z : State) (a0 : Array Value) (hw : ∀ d ∈ tables_1, d.before a0 Z = true) (ws : List Jvm.Cond) (b : Addr) (h0 : Heap) (n0 : Nat) (O0 : Old Z n0 h0) (F : Fld Z h0 b "com/example/cartulary/cartulary/entity/AttachmentValue" "uri" "Z" (.int (0 : Int32))) :
    MetFree l (⟨"com/example/cartulary/cartulary/entity/AttachmentValue", "isUri", "()Z"⟩ : MethodName) (head1 (Jvm.Cond.code (⟨"com/example/cartulary/cartulary/entity/AttachmentValue", "isUri", "()Z"⟩ : MethodName) prog_19_method_4_code 1 (some .boolean) :: ws) ({ frames := 0, cells := 0, slots := 0, locals := 0 } : Room)) (fun aa_ UU_ => aa_ = #[(.ref b)] ∧ Z.Warmed39 UU_.vm ∧ UU_.heap = h0) (fun _ _ _ _ _ => True) (fun _ UU_ oo_ UV_ => ∃ vv_ LL_, oo_ = .returned vv_ ∧ QIU Z b h0 n0 vv_ UV_.heap LL_ ∧ FrameEnd UU_ oo_ UV_ LL_ ({ frames := 0, cells := 0, slots := 0, locals := 0 } : Room).cells ({ frames := 0, cells := 0, slots := 0, locals := 0 } : Room).slots) := by
  refine MetFree.of_bodySF (plainFor_of_name pn_6) hisR ?_
  intro p e s m args below meth c s₁ Bd hml0 hP hK
  obtain ⟨rfl, hZ, hh⟩ := hP
  have hx := Bd.exec
  have hby := Bd.bytes
  have hlk := BodyLoose.notSynchronized Bd
  have hml : c.maxLocals = 1 := hml0
  have hown : s.vm.findClass "com/example/cartulary/cartulary/entity/AttachmentValue" = some m.cls := findClass_of_methodNamed Bd.named
  have hnm := (name_of_methodNamed Bd.named Bd.method).1
  have X0 : Stand p l e ({ frames := 0, cells := 0, slots := 0, locals := 0 } : Room) s m #[(.ref b)] below meth c s₁ [] 0 0 := Stand.of_body Bd
  have e0 : s₁.heap = h0 := by rw [← hh, Bd.state]; rfl
  have N0 := Fr.nil n0
  suffices hOW : OW p e below s (QIU Z b h0 n0) 0 0 (s₁.setTop (mkF m 0 #[.val (.ref b)] [])) by
    obtain ⟨oq1_, oq2_, oq3_, oq4_⟩ := hOW
    exact ⟨oq1_, oq2_, castTop (ef_IU m b) oq3_, oq4_⟩
  refine OW.st (B := s₁.setTop (mkF m 1 #[.val (.ref b)] [(.ref b)])) (fun _ kk_ => XS.aloadN X0.here hx rfl (hb hby d11_0) rfl rfl kk_) ?_
  obtain ⟨T145, X145, e145, st145⟩ := getF X0 hx hZ hown (host := "") (Or.inl (w_55 hw)) Via.refl e0 F (g := (mkF m 1 #[.val (.ref b)] [(.ref b)])) rfl rfl (hb hby d11_1)
  refine OW.st (B := T145.setTop (mkF m 4 #[.val (.ref b)] [(.int (0 : Int32))])) (fun _ kk_ => st145 _ kk_) ?_
  exact OW.ret X145 hx hlk (i := .ireturn) Bd.returns rfl (Or.inl ⟨rfl, Or.inr (Or.inl rfl), _, rfl⟩) (hb hby d11_4) e145 (by decide) (by decide) ⟨rfl, N0, rfl⟩
theorem ef_EQ (m : MethodId) (x0 : Addr) (x1 : Addr) : entryFrame m #[(.ref x0), (.ref x1)] 3 = mkF m 0 #[.val (.ref x0), .val (.ref x1), .unset] [] := by first | (simp [entryFrame, mkF, argsToLocals, Value.category]; done) | rfl
def QEQ (Z : State) (a : Addr) (h0 : Heap) (n0 : Nat) (v : Option Value) (h : Heap) (L : List Loc) : Prop := v = some (.int 1) ∧ Fr n0 L ∧ h = h0
set_option maxRecDepth 65536 in
set_option maxHeartbeats 40000000 in
theorem rmEQ (l : Launch) (Z : State) (a0 : Array Value) (hw : ∀ d ∈ tables_1, d.before a0 Z = true) (ws : List Jvm.Cond) (a : Addr) (h0 : Heap) (n0 : Nat) (O0 : Old Z n0 h0) :
    MetFree l (⟨"java/lang/String", "equals", "(Ljava/lang/Object;)Z"⟩ : MethodName) (head1 (Jvm.Cond.code (⟨"java/lang/String", "equals", "(Ljava/lang/Object;)Z"⟩ : MethodName) jdk_42_method_66_code 3 (some .boolean) :: ws) ({ frames := 0, cells := 0, slots := 0, locals := 0 } : Room)) (fun aa_ UU_ => aa_ = #[(.ref a), (.ref a)] ∧ Z.Warmed39 UU_.vm ∧ UU_.heap = h0) (fun _ _ _ _ _ => True) (fun _ UU_ oo_ UV_ => ∃ vv_ LL_, oo_ = .returned vv_ ∧ QEQ Z a h0 n0 vv_ UV_.heap LL_ ∧ FrameEnd UU_ oo_ UV_ LL_ ({ frames := 0, cells := 0, slots := 0, locals := 0 } : Room).cells ({ frames := 0, cells := 0, slots := 0, locals := 0 } : Room).slots) := by
  refine MetFree.of_bodySF (plainFor_of_name pn_0) hisR ?_
  intro p e s m args below meth c s₁ Bd hml0 hP hK
  obtain ⟨rfl, hZ, hh⟩ := hP
  have hx := Bd.exec
  have hby := Bd.bytes
  have hlk := BodyLoose.notSynchronized Bd
  have hml : c.maxLocals = 3 := hml0
  have hown : s.vm.findClass "java/lang/String" = some m.cls := findClass_of_methodNamed Bd.named
  have hnm := (name_of_methodNamed Bd.named Bd.method).1
  have X0 : Stand p l e ({ frames := 0, cells := 0, slots := 0, locals := 0 } : Room) s m #[(.ref a), (.ref a)] below meth c s₁ [] 0 0 := Stand.of_body Bd
  have e0 : s₁.heap = h0 := by rw [← hh, Bd.state]; rfl
  have N0 := Fr.nil n0
  suffices hOW : OW p e below s (QEQ Z a h0 n0) 0 0 (s₁.setTop (mkF m 0 #[.val (.ref a), .val (.ref a), .unset] [])) by
    obtain ⟨oq1_, oq2_, oq3_, oq4_⟩ := hOW
    exact ⟨oq1_, oq2_, castTop (ef_EQ m a a) oq3_, oq4_⟩
  refine OW.st (B := s₁.setTop (mkF m 6 #[.val (.ref a), .val (.ref a), .unset] [(.int (1 : Int32))])) (fun _ kk_ => XS.aloadN X0.here hx rfl (hb hby d20_0) rfl rfl (XS.aloadN X0.here hx rfl (hb hby d20_1) rfl rfl (Jvm.RoadKit.acmp (g := (mkF m 2 #[.val (.ref a), .val (.ref a), .unset] [(.ref a), (.ref a)])) X0 hx rfl rfl rfl (pc0 := 2) (pc' := 5) (same := true) rfl (hb hby d20_2) rfl (decide_eq_true rfl) (by decide) (by decide) (XS.iconst X0.here hx rfl (hb hby d20_5) kk_)))) ?_
  exact OW.ret X0 hx hlk (i := .ireturn) Bd.returns rfl (Or.inl ⟨rfl, Or.inr (Or.inl rfl), _, rfl⟩) (hb hby d20_6) e0 (by decide) (by decide) ⟨rfl, N0, rfl⟩
theorem ef_0 (m : MethodId) (x0 : Int32) (x1 : Int32) (x2 : Int32) (x3 : Int32) : entryFrame m #[(.int x0), (.int x1), (.int x2), (.int x3)] maxLocals = mkF m 0 #[.val (.int x0), .val (.int x1), .val (.int x2), .val (.int x3), .unset, .unset, .unset, .unset, .unset, .unset, .unset] [] := by first | (simp [entryFrame, mkF, argsToLocals, Value.category, maxLocals]; done) | rfl
def Q0 (Z : State) (n1 : Int32) (n2 : Int32) (n3 : Int32) (n4 : Int32) (i_COMPACT_STRINGS : Int32) (v_SIOOBE_FORMATTER : Value) (h0 : Heap) (n0 : Nat) (v : Option Value) (h : Heap) (L : List Loc) : Prop := v = some (.int 1) ∧ Fr n0 L
set_option maxRecDepth 65536 in
set_option maxHeartbeats 40000000 in
theorem rm0 (l : Launch) (Z : State) (a0 : Array Value) (hw : ∀ d ∈ tables_1, d.before a0 Z = true) (ws : List Jvm.Cond) (n1 : Int32) (n2 : Int32) (n3 : Int32) (n4 : Int32) (i_COMPACT_STRINGS : Int32) (v_SIOOBE_FORMATTER : Value) (h0 : Heap) (n0 : Nat) (O0 : Old Z n0 h0) (hS : OwnS Z i_COMPACT_STRINGS v_SIOOBE_FORMATTER) :
    MetFree l x (head1 (Jvm.Cond.code x code maxLocals ret :: ws) room_1) (fun aa_ UU_ => aa_ = #[(.int n1), (.int n2), (.int n3), (.int n4)] ∧ Z.Warmed39 UU_.vm ∧ UU_.heap = h0 ∧ CHv Z consts_1 UU_.vm h0) (fun _ _ _ _ _ => True) (fun _ UU_ oo_ UV_ => ∃ vv_ LL_, oo_ = .returned vv_ ∧ Q0 Z n1 n2 n3 n4 i_COMPACT_STRINGS v_SIOOBE_FORMATTER h0 n0 vv_ UV_.heap LL_ ∧ CHr Z consts_1 UU_.vm UU_.heap UV_.vm UV_.heap ∧ ReturnedEndW UU_ oo_ UV_ LL_ 9 59) := by
  refine MetFree.of_bodySF (plainFor_of_name pn_4) hisR ?_
  intro p e s m args below meth c s₁ Bd hml0 hP hK
  obtain ⟨rfl, hZ, hh, hCH⟩ := hP
  have hx := Bd.exec
  have hby := Bd.bytes
  have hlk := BodyLoose.notSynchronized Bd
  have hml : c.maxLocals = 11 := hml0
  have hown : s.vm.findClass "com/example/cartulary/cartulary/entity/AttachmentValueOfStringPinLaw" = some m.cls := findClass_of_methodNamed Bd.named
  have hnm := (name_of_methodNamed Bd.named Bd.method).1
  have X0 : Stand p l e room_1 s m #[(.int n1), (.int n2), (.int n3), (.int n4)] below meth c s₁ [] 0 0 := Stand.of_body Bd
  have e0 : s₁.heap = h0 := by rw [← hh, Bd.state]; rfl
  have N0 := Fr.nil n0
  have hS0 : s.Since s.vm 0 := (State.WarmedH.refl s).since 0
  have hk0 : 0 ≤ h0.size := Nat.zero_le _
  have CR0 : CHr Z consts_1 s.vm h0 s.vm h0 := CHr.refl hCH
  suffices hOW : OWH Z consts_1 h0 p e below s (Q0 Z n1 n2 n3 n4 i_COMPACT_STRINGS v_SIOOBE_FORMATTER h0 n0) 9 59 (s₁.setTop (mkF m 0 #[.val (.int n1), .val (.int n2), .val (.int n3), .val (.int n4), .unset, .unset, .unset, .unset, .unset, .unset, .unset] [])) by
    obtain ⟨oq1_, oq2_, oq3_, oq4_⟩ := hOW
    obtain ⟨oq5_, oq6_, oq7_, oq8_, oq9_, or1_, or2_, or3_⟩ := oq4_
    exact ⟨oq1_, oq2_, castTop (ef_0 m n1 n2 n3 n4) oq3_, oq5_, oq6_, oq7_, oq8_, oq9_, or1_, by rw [hh]; exact or2_, or3_⟩
  have hS' := hS
  obtain ⟨Si_COMPACT_STRINGS, Sv_SIOOBE_FORMATTER, Rv_SIOOBE_FORMATTER, S__assertionsDisabled, S_HI_BYTE_SHIFT, S_LO_BYTE_SHIFT, Pi_COMPACT_STRINGS⟩ := hS'
  refine OWH.st (B := s₁.setTop (mkF m 5 #[.val (.int n1), .val (.int n2), .val (.int n3), .val (.int n4), .unset, .unset, .unset, .unset, .unset, .unset, .unset] [(.int ((n1 &&& (65535 : Int32)).toUInt32.toUInt16.toUInt32.toInt32))])) (fun _ kk_ => XS.iloadN X0.here hx rfl (hb hby at_0) rfl ((X0.ldcInt hx hown (mvT hZ (w_0 hw)) (g := (mkF m 1 #[.val (.int n1), .val (.int n2), .val (.int n3), .val (.int n4), .unset, .unset, .unset, .unset, .unset, .unset, .unset] [(.int n1)])) rfl (hb hby at_1)) _ (XS.iand X0.here hx rfl (hb hby at_3) rfl (XS.i2c X0.here hx rfl (hb hby at_4) rfl kk_)))) ?_
  suffices J : ∀ u1 : Int32, (nar .char u1 = u1) → OWH Z consts_1 h0 p e below s (Q0 Z n1 n2 n3 n4 i_COMPACT_STRINGS v_SIOOBE_FORMATTER h0 n0) 9 59 (s₁.setTop (mkF m 5 #[.val (.int n1), .val (.int n2), .val (.int n3), .val (.int n4), .unset, .unset, .unset, .unset, .unset, .unset, .unset] [(.int u1)])) from J _ (own_nch _)
  intro u1 hnu1
  refine OWH.st (B := s₁.setTop (mkF m 12 #[.val (.int n1), .val (.int n2), .val (.int n3), .val (.int n4), .val (.int u1), .unset, .unset, .unset, .unset, .unset, .unset] [(.int ((n2 &&& (65535 : Int32)).toUInt32.toUInt16.toUInt32.toInt32))])) (fun _ kk_ => XS.istore X0.here hx rfl (hb hby at_5) rfl (l' := #[.val (.int n1), .val (.int n2), .val (.int n3), .val (.int n4), .val (.int u1), .unset, .unset, .unset, .unset, .unset, .unset]) rfl (XS.iloadN X0.here hx rfl (hb hby at_7) rfl ((X0.ldcInt hx hown (mvT hZ (w_0 hw)) (g := (mkF m 8 #[.val (.int n1), .val (.int n2), .val (.int n3), .val (.int n4), .val (.int u1), .unset, .unset, .unset, .unset, .unset, .unset] [(.int n2)])) rfl (hb hby at_8)) _ (XS.iand X0.here hx rfl (hb hby at_10) rfl (XS.i2c X0.here hx rfl (hb hby at_11) rfl kk_))))) ?_
  suffices J : ∀ u2 : Int32, (nar .char u2 = u2) → OWH Z consts_1 h0 p e below s (Q0 Z n1 n2 n3 n4 i_COMPACT_STRINGS v_SIOOBE_FORMATTER h0 n0) 9 59 (s₁.setTop (mkF m 12 #[.val (.int n1), .val (.int n2), .val (.int n3), .val (.int n4), .val (.int u1), .unset, .unset, .unset, .unset, .unset, .unset] [(.int u2)])) from J _ (own_nch _)
  intro u2 hnu2
  refine OWH.st (B := s₁.setTop (mkF m 19 #[.val (.int n1), .val (.int n2), .val (.int n3), .val (.int n4), .val (.int u1), .val (.int u2), .unset, .unset, .unset, .unset, .unset] [(.int ((n3 &&& (65535 : Int32)).toUInt32.toUInt16.toUInt32.toInt32))])) (fun _ kk_ => XS.istore X0.here hx rfl (hb hby at_12) rfl (l' := #[.val (.int n1), .val (.int n2), .val (.int n3), .val (.int n4), .val (.int u1), .val (.int u2), .unset, .unset, .unset, .unset, .unset]) rfl (XS.iloadN X0.here hx rfl (hb hby at_14) rfl ((X0.ldcInt hx hown (mvT hZ (w_0 hw)) (g := (mkF m 15 #[.val (.int n1), .val (.int n2), .val (.int n3), .val (.int n4), .val (.int u1), .val (.int u2), .unset, .unset, .unset, .unset, .unset] [(.int n3)])) rfl (hb hby at_15)) _ (XS.iand X0.here hx rfl (hb hby at_17) rfl (XS.i2c X0.here hx rfl (hb hby at_18) rfl kk_))))) ?_
  suffices J : ∀ u3 : Int32, (nar .char u3 = u3) → OWH Z consts_1 h0 p e below s (Q0 Z n1 n2 n3 n4 i_COMPACT_STRINGS v_SIOOBE_FORMATTER h0 n0) 9 59 (s₁.setTop (mkF m 19 #[.val (.int n1), .val (.int n2), .val (.int n3), .val (.int n4), .val (.int u1), .val (.int u2), .unset, .unset, .unset, .unset, .unset] [(.int u3)])) from J _ (own_nch _)
  intro u3 hnu3
  refine OWH.st (B := s₁.setTop (mkF m 24 #[.val (.int n1), .val (.int n2), .val (.int n3), .val (.int n4), .val (.int u1), .val (.int u2), .val (.int u3), .unset, .unset, .unset, .unset] [(.int (n4 &&& (3 : Int32)))])) (fun _ kk_ => XS.istore X0.here hx rfl (hb hby at_19) rfl (l' := #[.val (.int n1), .val (.int n2), .val (.int n3), .val (.int n4), .val (.int u1), .val (.int u2), .val (.int u3), .unset, .unset, .unset, .unset]) rfl (XS.iloadN X0.here hx rfl (hb hby at_21) rfl (XS.iconst X0.here hx rfl (hb hby at_22) (XS.iand X0.here hx rfl (hb hby at_23) rfl kk_)))) ?_
  suffices J : ∀ k : Int32, (k = 0 ∨ k = 1 ∨ k = 2 ∨ k = 3) → OWH Z consts_1 h0 p e below s (Q0 Z n1 n2 n3 n4 i_COMPACT_STRINGS v_SIOOBE_FORMATTER h0 n0) 9 59 (s₁.setTop (mkF m 24 #[.val (.int n1), .val (.int n2), .val (.int n3), .val (.int n4), .val (.int u1), .val (.int u2), .val (.int u3), .unset, .unset, .unset, .unset] [(.int k)])) from J _ (own_and3 n4)
  intro k hk
  refine OWH.st (B := s₁.setTop (mkF m 26 #[.val (.int n1), .val (.int n2), .val (.int n3), .val (.int n4), .val (.int u1), .val (.int u2), .val (.int u3), .val (.int k), .unset, .unset, .unset] [])) (fun _ kk_ => XS.istore X0.here hx rfl (hb hby at_24) rfl (l' := #[.val (.int n1), .val (.int n2), .val (.int n3), .val (.int n4), .val (.int u1), .val (.int u2), .val (.int u3), .val (.int k), .unset, .unset, .unset]) rfl kk_) ?_
  rcases hk with rfl | rfl | rfl | rfl
  · refine OWH.st (B := s₁.setTop (mkF m 34 #[.val (.int n1), .val (.int n2), .val (.int n3), .val (.int n4), .val (.int u1), .val (.int u2), .val (.int u3), .val (.int (0 : Int32)), .unset, .unset, .unset] [(.int u3), (.int u2), (.int u1), (.int (0 : Int32))])) (fun _ kk_ => XS.iload X0.here hx rfl (hb hby at_26) rfl (XS.iload X0.here hx rfl (hb hby at_28) rfl (XS.iload X0.here hx rfl (hb hby at_30) rfl (XS.iload X0.here hx rfl (hb hby at_32) rfl kk_)))) ?_
    obtain ⟨_, _, ⟨T146, L146, k146, n146⟩, -, X146, hs146, hsz146, ⟨Lc146, hQ146, l146, y146, z146, CQ146⟩, st146⟩ := callSS X0 hx (y := (⟨"com/example/cartulary/cartulary/entity/AttachmentValueOfStringPinLaw", "make", "(ICCC)Ljava/lang/String;"⟩ : MethodName)) hown (mvT hZ (w_1 hw)) (mvT hZ (w_2 hw)) (mvT hZ (w_3 hw)) (mvT hZ (w_4 hw)) (by decide) (backOfSH (W := 0) (rmMK00 l Z a0 hw [] u1 u2 u3 i_COMPACT_STRINGS v_SIOOBE_FORMATTER h0 n0 O0 hnu1 hnu2 hnu3 hS) hZ (w_4 hw) (w_3 hw) (by decide) (by decide) (own_EW hw) CR0.1) (g := (mkF m 34 #[.val (.int n1), .val (.int n2), .val (.int n3), .val (.int n4), .val (.int u1), .val (.int u2), .val (.int u3), .val (.int (0 : Int32)), .unset, .unset, .unset] [(.int u3), (.int u2), (.int u1), (.int (0 : Int32))])) rfl (by rw [hml]; rfl) (argsL := [(.int (0 : Int32)), (.int u1), (.int u2), (.int u3)]) (rest := []) (lenOf pd_17 rfl) rfl (by show 2 * 0 + _ ≤ _; exact Nat.le_of_eq rfl) (hb hby at_34) (fun _ _ => ⟨rfl, e0, (by decide : 0 + 6 ≤ _), (by decide : 0 + 12 ≤ _)⟩)
    dsimp only [Pt.U, Pt.locs, Pt.cells, Pt.slots] at hs146 hsz146
    have hS146 := foldS hS0 (show _ ≤ s₁.heap.size by rw [e0]; exact hk0) hs146 hsz146
    have hZ146 : Z.Warmed39 (s.setVm T146.vm).vm := State.Warmed39.trans (t := s) hZ hs146.1
    have hown146 : (s.setVm T146.vm).vm.findClass "com/example/cartulary/cartulary/entity/AttachmentValueOfStringPinLaw" = some m.cls := by rw [show (s.setVm T146.vm).vm = T146.vm from rfl, hs146.1.alike.findClass]; exact hown
    dsimp only [Pt.U, Pt.locs, Pt.cells, Pt.slots] at X146 l146 y146 z146 st146 hQ146 CQ146
    subst l146 y146 z146
    obtain ⟨b146, ba146, kb146, rfl, Nq146, K146, gb146, Es146, Fv146, Fc146, Vs146⟩ := hQ146
    have N146 := Fr.app N0 Nq146
    have O146 : Old Z n0 T146.heap := O0.keep K146 all0
    have CS146 : CHr Z consts_1 s.vm h0 T146.vm T146.heap := CQ146
    have CR146 := CHr.trans CR0 CS146
    have hk146 : T146.heap.size ≤ T146.heap.size := Nat.le_of_eq (by rfl)
    refine OWH.tr (B := T146.setTop (mkF m 37 #[.val (.int n1), .val (.int n2), .val (.int n3), .val (.int n4), .val (.int u1), .val (.int u2), .val (.int u3), .val (.int (0 : Int32)), .unset, .unset, .unset] [(.ref b146)])) (st146) ?_
    refine OWH.st (B := T146.setTop (mkF m 41 #[.val (.int n1), .val (.int n2), .val (.int n3), .val (.int n4), .val (.int u1), .val (.int u2), .val (.int u3), .val (.int (0 : Int32)), .val (.ref b146), .unset, .unset] [(.ref b146)])) (fun _ kk_ => XS.astore X146.here hx rfl (hb hby at_37) rfl rfl (l' := #[.val (.int n1), .val (.int n2), .val (.int n3), .val (.int n4), .val (.int u1), .val (.int u2), .val (.int u3), .val (.int (0 : Int32)), .val (.ref b146), .unset, .unset]) rfl (XS.aload X146.here hx rfl (hb hby at_39) rfl rfl kk_)) ?_
    obtain ⟨_, _, ⟨T147, L147, k147, n147⟩, -, X147, hs147, hsz147, ⟨Lc147, hQ147, l147, y147, z147, CQ147⟩, st147⟩ := callSS X146 hx (y := (⟨"com/example/cartulary/cartulary/entity/AttachmentValue", "ofString", "(Ljava/lang/String;)Lcom/example/cartulary/cartulary/entity/AttachmentValue;"⟩ : MethodName)) hown146 (mvT hZ146 (w_35 hw)) (mvT hZ146 (w_36 hw)) (mvT hZ146 (w_37 hw)) (mvT hZ146 (w_38 hw)) (by decide) (backOfSH (W := 0) (rmOF l Z a0 hw [] b146 T146.heap n0 O146 Es146) hZ146 (w_38 hw) (w_37 hw) (by decide) (by decide) (own_EW hw) CR146.1) (g := (mkF m 41 #[.val (.int n1), .val (.int n2), .val (.int n3), .val (.int n4), .val (.int u1), .val (.int u2), .val (.int u3), .val (.int (0 : Int32)), .val (.ref b146), .unset, .unset] [(.ref b146)])) rfl (by rw [hml]; rfl) (argsL := [(.ref b146)]) (rest := []) (lenOf pd_18 rfl) rfl (by show 2 * 0 + _ ≤ _; exact Nat.le_of_eq rfl) (hb hby at_41) (fun _ _ => ⟨rfl, rfl, (by decide : 6 + 3 ≤ _), (by decide : 12 + 22 ≤ _)⟩)
    dsimp only [Pt.U, Pt.locs, Pt.cells, Pt.slots] at hs147 hsz147
    have hS147 := foldS hS146 hk146 hs147 hsz147
    have hZ147 : Z.Warmed39 (s.setVm T147.vm).vm := State.Warmed39.trans (t := (s.setVm T146.vm)) hZ146 hs147.1
    have hown147 : (s.setVm T147.vm).vm.findClass "com/example/cartulary/cartulary/entity/AttachmentValueOfStringPinLaw" = some m.cls := by rw [show (s.setVm T147.vm).vm = T147.vm from rfl, hs147.1.alike.findClass]; exact hown146
    dsimp only [Pt.U, Pt.locs, Pt.cells, Pt.slots] at X147 l147 y147 z147 st147 hQ147 CQ147
    subst l147 y147 z147
    obtain ⟨b147, rfl, Nq147, K147, gb147, Eb147, Ft147, Fu147⟩ := hQ147
    have N147 := Fr.app N146 Nq147
    have O147 : Old Z n0 T147.heap := O146.keep K147 all0
    have CS147 : CHr Z consts_1 T146.vm T146.heap T147.vm T147.heap := CQ147
    have CR147 := CHr.trans CR146 CS147
    have hk147 : T147.heap.size ≤ T147.heap.size := Nat.le_of_eq (by rfl)
    refine OWH.tr (B := T147.setTop (mkF m 44 #[.val (.int n1), .val (.int n2), .val (.int n3), .val (.int n4), .val (.int u1), .val (.int u2), .val (.int u3), .val (.int (0 : Int32)), .val (.ref b146), .unset, .unset] [(.ref b147)])) (st147) ?_
    refine OWH.st (B := T147.setTop (mkF m 48 #[.val (.int n1), .val (.int n2), .val (.int n3), .val (.int n4), .val (.int u1), .val (.int u2), .val (.int u3), .val (.int (0 : Int32)), .val (.ref b146), .val (.ref b147), .unset] [(.ref b147)])) (fun _ kk_ => XS.astore X147.here hx rfl (hb hby at_44) rfl rfl (l' := #[.val (.int n1), .val (.int n2), .val (.int n3), .val (.int n4), .val (.int u1), .val (.int u2), .val (.int u3), .val (.int (0 : Int32)), .val (.ref b146), .val (.ref b147), .unset]) rfl (XS.aload X147.here hx rfl (hb hby at_46) rfl rfl kk_)) ?_
    obtain ⟨cq148, kq148, q148a, q148b, q148c⟩ := isOf hZ147 rfl Eb147
    obtain ⟨_, _, ⟨T148, L148, k148, n148⟩, -, X148, ⟨Lc148, hQ148, l148, y148, z148⟩, st148⟩ := X147.virtualBack hx (y := (⟨"com/example/cartulary/cartulary/entity/AttachmentValue", "isUri", "()Z"⟩ : MethodName)) (z := (⟨"com/example/cartulary/cartulary/entity/AttachmentValue", "isUri", "()Z"⟩ : MethodName)) hown147 (mvT hZ147 (w_57 hw)) (mvT hZ147 (w_58 hw)) (notFace_of_selects (args := #[]) (mvT hZ147 (w_60 hw))) (mvT hZ147 (w_60 hw)) (mvT hZ147 (w_59 hw)) (by decide) (backOf (W := 0) (rmIU l Z a0 hw [] b147 T147.heap n0 O147 Fu147) hZ147 (w_61 hw) (w_37 hw) (by decide) (by decide)) q148a q148c (g := (mkF m 48 #[.val (.int n1), .val (.int n2), .val (.int n3), .val (.int n4), .val (.int u1), .val (.int u2), .val (.int u3), .val (.int (0 : Int32)), .val (.ref b146), .val (.ref b147), .unset] [(.ref b147)])) rfl (by rw [hml]; rfl) (Steps.refl _) (argsL := []) (rest := []) (lenOf pd_11 rfl) rfl (by show 2 * 0 + _ ≤ _; exact Nat.le_of_eq rfl) (hb hby at_48) (fun _ _ => ⟨rfl, rfl, (by decide : 9 + 0 ≤ _), (by decide : 34 + 0 ≤ _)⟩)
    dsimp only [Pt.U, Pt.locs, Pt.cells, Pt.slots] at X148 l148 y148 z148 st148 hQ148
    subst l148 y148 z148
    obtain ⟨rfl, Nq148, e148⟩ := hQ148
    have N148 := Fr.app N147 Nq148
    refine OWH.tr (B := T148.setTop (mkF m 51 #[.val (.int n1), .val (.int n2), .val (.int n3), .val (.int n4), .val (.int u1), .val (.int u2), .val (.int u3), .val (.int (0 : Int32)), .val (.ref b146), .val (.ref b147), .unset] [(.int (0 : Int32))])) (st148) ?_
    refine OWH.st (B := T148.setTop (mkF m 58 #[.val (.int n1), .val (.int n2), .val (.int n3), .val (.int n4), .val (.int u1), .val (.int u2), .val (.int u3), .val (.int (0 : Int32)), .val (.ref b146), .val (.ref b147), .unset] [(.ref b147)])) (fun _ kk_ => XS.ifYes X148.here hx rfl (pc0 := 51) (pc' := 56) rfl (hb hby at_51) rfl ((if0 _ _).trans (teq (by decide)).1) (by decide) (by decide) (XS.aload X148.here hx rfl (hb hby at_56) rfl rfl kk_)) ?_
    obtain ⟨cq149, kq149, q149a, q149b, q149c⟩ := isOf hZ147 e148 Eb147
    obtain ⟨_, _, ⟨T149, L149, k149, n149⟩, -, X149, ⟨Lc149, hQ149, l149, y149, z149⟩, st149⟩ := X148.virtualBack hx (y := (⟨"com/example/cartulary/cartulary/entity/AttachmentValue", "getText", "()Ljava/lang/String;"⟩ : MethodName)) (z := (⟨"com/example/cartulary/cartulary/entity/AttachmentValue", "getText", "()Ljava/lang/String;"⟩ : MethodName)) hown147 (mvT hZ147 (w_62 hw)) (mvT hZ147 (w_63 hw)) (notFace_of_selects (args := #[]) (mvT hZ147 (w_65 hw))) (mvT hZ147 (w_65 hw)) (mvT hZ147 (w_64 hw)) (by decide) (backOf (W := 0) (rmGT l Z a0 hw [] b147 b146 T147.heap n0 O147 Ft147) hZ147 (w_66 hw) (w_37 hw) (by decide) (by decide)) q149a q149c (g := (mkF m 58 #[.val (.int n1), .val (.int n2), .val (.int n3), .val (.int n4), .val (.int u1), .val (.int u2), .val (.int u3), .val (.int (0 : Int32)), .val (.ref b146), .val (.ref b147), .unset] [(.ref b147)])) rfl (by rw [hml]; rfl) (Steps.refl _) (argsL := []) (rest := []) (lenOf pd_19 rfl) rfl (by show 2 * 0 + _ ≤ _; exact Nat.le_of_eq rfl) (hb hby at_58) (fun _ _ => ⟨rfl, e148, (by decide : 9 + 0 ≤ _), (by decide : 34 + 0 ≤ _)⟩)
    dsimp only [Pt.U, Pt.locs, Pt.cells, Pt.slots] at X149 l149 y149 z149 st149 hQ149
    subst l149 y149 z149
    obtain ⟨rfl, Nq149, e149⟩ := hQ149
    have N149 := Fr.app N148 Nq149
    refine OWH.tr (B := T149.setTop (mkF m 61 #[.val (.int n1), .val (.int n2), .val (.int n3), .val (.int n4), .val (.int u1), .val (.int u2), .val (.int u3), .val (.int (0 : Int32)), .val (.ref b146), .val (.ref b147), .unset] [(.ref b146)])) (st149) ?_
    refine OWH.st (B := T149.setTop (mkF m 72 #[.val (.int n1), .val (.int n2), .val (.int n3), .val (.int n4), .val (.int u1), .val (.int u2), .val (.int u3), .val (.int (0 : Int32)), .val (.ref b146), .val (.ref b147), .val (.ref b146)] [(.ref b146)])) (fun _ kk_ => XS.astore X149.here hx rfl (hb hby at_61) rfl rfl (l' := #[.val (.int n1), .val (.int n2), .val (.int n3), .val (.int n4), .val (.int u1), .val (.int u2), .val (.int u3), .val (.int (0 : Int32)), .val (.ref b146), .val (.ref b147), .val (.ref b146)]) rfl (XS.aload X149.here hx rfl (hb hby at_63) rfl rfl (XS.ifnonnullYes X149.here hx rfl (pc0 := 65) (pc' := 70) rfl (hb hby at_65) rfl (by decide) (by decide) (XS.aload X149.here hx rfl (hb hby at_70) rfl rfl kk_)))) ?_
    obtain ⟨cq150, kq150, q150a, q150b, q150c⟩ := isOf hZ147 e149 (Es146.keep K147)
    obtain ⟨_, _, ⟨T150, L150, k150, n150⟩, -, X150, ⟨Lc150, hQ150, l150, y150, z150⟩, st150⟩ := X149.virtualBack hx (y := (⟨"java/lang/String", "length", "()I"⟩ : MethodName)) (z := (⟨"java/lang/String", "length", "()I"⟩ : MethodName)) hown147 (mvT hZ147 (w_67 hw)) (mvT hZ147 (w_68 hw)) (notFace_of_selects (args := #[]) (mvT hZ147 (w_70 hw))) (mvT hZ147 (w_70 hw)) (mvT hZ147 (w_69 hw)) (by decide) (backOf (W := 0) (rmLE0 l Z a0 hw [] b146 ba146 kb146 (0 : Int32) [] (0 : Int32) i_COMPACT_STRINGS v_SIOOBE_FORMATTER T147.heap n0 O147 (Es146.keep K147) (Fv146.keep K147 nin0) (Fc146.keep K147 nin0) (Vs146.keep K147 nin0) (by decide) hS) hZ147 (w_71 hw) (w_7 hw) (by decide) (by decide)) q150a q150c (g := (mkF m 72 #[.val (.int n1), .val (.int n2), .val (.int n3), .val (.int n4), .val (.int u1), .val (.int u2), .val (.int u3), .val (.int (0 : Int32)), .val (.ref b146), .val (.ref b147), .val (.ref b146)] [(.ref b146)])) rfl (by rw [hml]; rfl) (Steps.refl _) (argsL := []) (rest := []) (lenOf pd_20 rfl) rfl (by show 2 * 0 + _ ≤ _; exact Nat.le_of_eq rfl) (hb hby at_72) (fun _ _ => ⟨rfl, e149, (by decide : 9 + 0 ≤ _), (by decide : 34 + 0 ≤ _)⟩)
    dsimp only [Pt.U, Pt.locs, Pt.cells, Pt.slots] at X150 l150 y150 z150 st150 hQ150
    subst l150 y150 z150
    obtain ⟨rfl, Nq150, e150⟩ := hQ150
    have N150 := Fr.app N149 Nq150
    refine OWH.tr (B := T150.setTop (mkF m 75 #[.val (.int n1), .val (.int n2), .val (.int n3), .val (.int n4), .val (.int u1), .val (.int u2), .val (.int u3), .val (.int (0 : Int32)), .val (.ref b146), .val (.ref b147), .val (.ref b146)] [(.int (0 : Int32))])) (st150) ?_
    refine OWH.st (B := T150.setTop (mkF m 138 #[.val (.int n1), .val (.int n2), .val (.int n3), .val (.int n4), .val (.int u1), .val (.int u2), .val (.int u3), .val (.int (0 : Int32)), .val (.ref b146), .val (.ref b147), .val (.ref b146)] [])) (fun _ kk_ => XS.iload X150.here hx rfl (hb hby at_75) rfl (XS.icmpYes X150.here hx rfl (pc0 := 77) (pc' := 82) rfl (hb hby at_77) rfl (teq (by decide)).1 (by decide) (by decide) (XS.iload X150.here hx rfl (hb hby at_82) rfl (XS.ifYes X150.here hx rfl (pc0 := 84) (pc' := 100) rfl (hb hby at_84) rfl ((if0 _ _).trans (flt (by decide)).2.2.2) (by decide) (by decide) (XS.iload X150.here hx rfl (hb hby at_100) rfl (XS.iconst X150.here hx rfl (hb hby at_102) (XS.icmpYes X150.here hx rfl (pc0 := 103) (pc' := 119) rfl (hb hby at_103) rfl (flt (by decide)).2.2.2 (by decide) (by decide) (XS.iload X150.here hx rfl (hb hby at_119) rfl (XS.iconst X150.here hx rfl (hb hby at_121) (XS.icmpYes X150.here hx rfl (pc0 := 122) (pc' := 138) rfl (hb hby at_122) rfl (flt (by decide)).2.2.2 (by decide) (by decide) kk_)))))))))) ?_
    refine OWH.st (B := T150.setTop (mkF m 142 #[.val (.int n1), .val (.int n2), .val (.int n3), .val (.int n4), .val (.int u1), .val (.int u2), .val (.int u3), .val (.int (0 : Int32)), .val (.ref b146), .val (.ref b147), .val (.ref b146)] [(.ref b146), (.ref b146)])) (fun _ kk_ => XS.aload X150.here hx rfl (hb hby at_138) rfl rfl (XS.aload X150.here hx rfl (hb hby at_140) rfl rfl kk_)) ?_
    obtain ⟨cq151, kq151, q151a, q151b, q151c⟩ := isOf hZ147 e150 (Es146.keep K147)
    obtain ⟨_, _, ⟨T151, L151, k151, n151⟩, -, X151, ⟨Lc151, hQ151, l151, y151, z151⟩, st151⟩ := X150.virtualBack hx (y := (⟨"java/lang/String", "equals", "(Ljava/lang/Object;)Z"⟩ : MethodName)) (z := (⟨"java/lang/String", "equals", "(Ljava/lang/Object;)Z"⟩ : MethodName)) hown147 (mvT hZ147 (w_99 hw)) (mvT hZ147 (w_100 hw)) (notFace_of_selects (args := #[]) (mvT hZ147 (w_102 hw))) (mvT hZ147 (w_102 hw)) (mvT hZ147 (w_101 hw)) (by decide) (backOf (W := 0) (rmEQ l Z a0 hw [] b146 T147.heap n0 O147 ) hZ147 (w_103 hw) (w_7 hw) (by decide) (by decide)) q151a q151c (g := (mkF m 142 #[.val (.int n1), .val (.int n2), .val (.int n3), .val (.int n4), .val (.int u1), .val (.int u2), .val (.int u3), .val (.int (0 : Int32)), .val (.ref b146), .val (.ref b147), .val (.ref b146)] [(.ref b146), (.ref b146)])) rfl (by rw [hml]; rfl) (Steps.refl _) (argsL := [(.ref b146)]) (rest := []) (lenOf pd_21 rfl) rfl (by show 2 * 0 + _ ≤ _; exact Nat.le_of_eq rfl) (hb hby at_142) (fun _ _ => ⟨rfl, e150, (by decide : 9 + 0 ≤ _), (by decide : 34 + 0 ≤ _)⟩)
    dsimp only [Pt.U, Pt.locs, Pt.cells, Pt.slots] at X151 l151 y151 z151 st151 hQ151
    subst l151 y151 z151
    obtain ⟨rfl, Nq151, e151⟩ := hQ151
    have N151 := Fr.app N150 Nq151
    refine OWH.tr (B := T151.setTop (mkF m 145 #[.val (.int n1), .val (.int n2), .val (.int n3), .val (.int n4), .val (.int u1), .val (.int u2), .val (.int u3), .val (.int (0 : Int32)), .val (.ref b146), .val (.ref b147), .val (.ref b146)] [(.int (1 : Int32))])) (st151) ?_
    exact OWH.ret X151 (s := s) (vm0 := T147.vm) hS147 hk147 hx hlk CR147 hZ147 (own_EW hw) (i := .ireturn) Bd.returns rfl (Or.inl ⟨rfl, Or.inr (Or.inl rfl), _, rfl⟩) (hb hby at_145) e151 (by decide) (by decide) ⟨rfl, N151⟩
  · rcases own_lu1 u1 with hu152 | hl152_0
    · refine OWH.st (B := s₁.setTop (mkF m 34 #[.val (.int n1), .val (.int n2), .val (.int n3), .val (.int n4), .val (.int u1), .val (.int u2), .val (.int u3), .val (.int (1 : Int32)), .unset, .unset, .unset] [(.int u3), (.int u2), (.int u1), (.int (1 : Int32))])) (fun _ kk_ => XS.iload X0.here hx rfl (hb hby at_26) rfl (XS.iload X0.here hx rfl (hb hby at_28) rfl (XS.iload X0.here hx rfl (hb hby at_30) rfl (XS.iload X0.here hx rfl (hb hby at_32) rfl kk_)))) ?_
      obtain ⟨_, _, ⟨T153, L153, k153, n153⟩, -, X153, ⟨Lc153, hQ153, l153, y153, z153⟩, st153⟩ := Jvm.LawKit.callS X0 hx (y := (⟨"com/example/cartulary/cartulary/entity/AttachmentValueOfStringPinLaw", "make", "(ICCC)Ljava/lang/String;"⟩ : MethodName)) hown (mvT hZ (w_1 hw)) (mvT hZ (w_2 hw)) (mvT hZ (w_3 hw)) (mvT hZ (w_4 hw)) (by decide) (backOf (W := 0) (rmMK11 l Z a0 hw [] u1 u2 u3 i_COMPACT_STRINGS v_SIOOBE_FORMATTER h0 n0 O0 hnu1 hnu2 hnu3 hu152 hS) hZ (w_4 hw) (w_3 hw) (by decide) (by decide)) (g := (mkF m 34 #[.val (.int n1), .val (.int n2), .val (.int n3), .val (.int n4), .val (.int u1), .val (.int u2), .val (.int u3), .val (.int (1 : Int32)), .unset, .unset, .unset] [(.int u3), (.int u2), (.int u1), (.int (1 : Int32))])) rfl (by rw [hml]; rfl) (argsL := [(.int (1 : Int32)), (.int u1), (.int u2), (.int u3)]) (rest := []) (lenOf pd_17 rfl) rfl (by show 2 * 0 + _ ≤ _; exact Nat.le_of_eq rfl) (hb hby at_34) (fun _ _ => ⟨rfl, e0, (by decide : 0 + 4 ≤ _), (by decide : 0 + 35 ≤ _)⟩)
      dsimp only [Pt.U, Pt.locs, Pt.cells, Pt.slots] at X153 l153 y153 z153 st153 hQ153
      subst l153 y153 z153
      obtain ⟨b153, ba153, kb153, rfl, Nq153, K153, gb153, Es153, Fv153, Fc153, Vs153⟩ := hQ153
      have N153 := Fr.app N0 Nq153
      have O153 : Old Z n0 T153.heap := O0.keep K153 all0
      have CS153 : CHr Z consts_1 s.vm h0 s.vm T153.heap := CHr.keep K153 all0 CR0.1
      have CR153 := CHr.trans CR0 CS153
      refine OWH.st (B := T153.setTop (mkF m 41 #[.val (.int n1), .val (.int n2), .val (.int n3), .val (.int n4), .val (.int u1), .val (.int u2), .val (.int u3), .val (.int (1 : Int32)), .val (.ref b153), .unset, .unset] [(.ref b153)])) (fun _ kk_ => st153 _ (XS.astore X153.here hx rfl (hb hby at_37) rfl rfl (l' := #[.val (.int n1), .val (.int n2), .val (.int n3), .val (.int n4), .val (.int u1), .val (.int u2), .val (.int u3), .val (.int (1 : Int32)), .val (.ref b153), .unset, .unset]) rfl (XS.aload X153.here hx rfl (hb hby at_39) rfl rfl kk_))) ?_
      obtain ⟨_, _, ⟨T154, L154, k154, n154⟩, -, X154, hs154, hsz154, ⟨Lc154, hQ154, l154, y154, z154, CQ154⟩, st154⟩ := callSS X153 hx (y := (⟨"com/example/cartulary/cartulary/entity/AttachmentValue", "ofString", "(Ljava/lang/String;)Lcom/example/cartulary/cartulary/entity/AttachmentValue;"⟩ : MethodName)) hown (mvT hZ (w_35 hw)) (mvT hZ (w_36 hw)) (mvT hZ (w_37 hw)) (mvT hZ (w_38 hw)) (by decide) (backOfSH (W := 0) (rmOF l Z a0 hw [] b153 T153.heap n0 O153 Es153) hZ (w_38 hw) (w_37 hw) (by decide) (by decide) (own_EW hw) CR153.1) (g := (mkF m 41 #[.val (.int n1), .val (.int n2), .val (.int n3), .val (.int n4), .val (.int u1), .val (.int u2), .val (.int u3), .val (.int (1 : Int32)), .val (.ref b153), .unset, .unset] [(.ref b153)])) rfl (by rw [hml]; rfl) (argsL := [(.ref b153)]) (rest := []) (lenOf pd_18 rfl) rfl (by show 2 * 0 + _ ≤ _; exact Nat.le_of_eq rfl) (hb hby at_41) (fun _ _ => ⟨rfl, rfl, (by decide : 4 + 3 ≤ _), (by decide : 35 + 22 ≤ _)⟩)
      dsimp only [Pt.U, Pt.locs, Pt.cells, Pt.slots] at hs154 hsz154
      have hS154 := foldS hS0 (Nat.le_trans hk0 K153.1) hs154 hsz154
      have hZ154 : Z.Warmed39 (s.setVm T154.vm).vm := State.Warmed39.trans (t := s) hZ hs154.1
      have hown154 : (s.setVm T154.vm).vm.findClass "com/example/cartulary/cartulary/entity/AttachmentValueOfStringPinLaw" = some m.cls := by rw [show (s.setVm T154.vm).vm = T154.vm from rfl, hs154.1.alike.findClass]; exact hown
      dsimp only [Pt.U, Pt.locs, Pt.cells, Pt.slots] at X154 l154 y154 z154 st154 hQ154 CQ154
      subst l154 y154 z154
      obtain ⟨b154, rfl, Nq154, K154, gb154, Eb154, Ft154, Fu154⟩ := hQ154
      have N154 := Fr.app N153 Nq154
      have O154 : Old Z n0 T154.heap := O153.keep K154 all0
      have CS154 : CHr Z consts_1 s.vm T153.heap T154.vm T154.heap := CQ154
      have CR154 := CHr.trans CR153 CS154
      have hk154 : T154.heap.size ≤ T154.heap.size := Nat.le_of_eq (by rfl)
      refine OWH.tr (B := T154.setTop (mkF m 44 #[.val (.int n1), .val (.int n2), .val (.int n3), .val (.int n4), .val (.int u1), .val (.int u2), .val (.int u3), .val (.int (1 : Int32)), .val (.ref b153), .unset, .unset] [(.ref b154)])) (st154) ?_
      refine OWH.st (B := T154.setTop (mkF m 48 #[.val (.int n1), .val (.int n2), .val (.int n3), .val (.int n4), .val (.int u1), .val (.int u2), .val (.int u3), .val (.int (1 : Int32)), .val (.ref b153), .val (.ref b154), .unset] [(.ref b154)])) (fun _ kk_ => XS.astore X154.here hx rfl (hb hby at_44) rfl rfl (l' := #[.val (.int n1), .val (.int n2), .val (.int n3), .val (.int n4), .val (.int u1), .val (.int u2), .val (.int u3), .val (.int (1 : Int32)), .val (.ref b153), .val (.ref b154), .unset]) rfl (XS.aload X154.here hx rfl (hb hby at_46) rfl rfl kk_)) ?_
      obtain ⟨cq155, kq155, q155a, q155b, q155c⟩ := isOf hZ154 rfl Eb154
      obtain ⟨_, _, ⟨T155, L155, k155, n155⟩, -, X155, ⟨Lc155, hQ155, l155, y155, z155⟩, st155⟩ := X154.virtualBack hx (y := (⟨"com/example/cartulary/cartulary/entity/AttachmentValue", "isUri", "()Z"⟩ : MethodName)) (z := (⟨"com/example/cartulary/cartulary/entity/AttachmentValue", "isUri", "()Z"⟩ : MethodName)) hown154 (mvT hZ154 (w_57 hw)) (mvT hZ154 (w_58 hw)) (notFace_of_selects (args := #[]) (mvT hZ154 (w_60 hw))) (mvT hZ154 (w_60 hw)) (mvT hZ154 (w_59 hw)) (by decide) (backOf (W := 0) (rmIU l Z a0 hw [] b154 T154.heap n0 O154 Fu154) hZ154 (w_61 hw) (w_37 hw) (by decide) (by decide)) q155a q155c (g := (mkF m 48 #[.val (.int n1), .val (.int n2), .val (.int n3), .val (.int n4), .val (.int u1), .val (.int u2), .val (.int u3), .val (.int (1 : Int32)), .val (.ref b153), .val (.ref b154), .unset] [(.ref b154)])) rfl (by rw [hml]; rfl) (Steps.refl _) (argsL := []) (rest := []) (lenOf pd_11 rfl) rfl (by show 2 * 0 + _ ≤ _; exact Nat.le_of_eq rfl) (hb hby at_48) (fun _ _ => ⟨rfl, rfl, (by decide : 7 + 0 ≤ _), (by decide : 57 + 0 ≤ _)⟩)
      dsimp only [Pt.U, Pt.locs, Pt.cells, Pt.slots] at X155 l155 y155 z155 st155 hQ155
      subst l155 y155 z155
      obtain ⟨rfl, Nq155, e155⟩ := hQ155
      have N155 := Fr.app N154 Nq155
      refine OWH.tr (B := T155.setTop (mkF m 51 #[.val (.int n1), .val (.int n2), .val (.int n3), .val (.int n4), .val (.int u1), .val (.int u2), .val (.int u3), .val (.int (1 : Int32)), .val (.ref b153), .val (.ref b154), .unset] [(.int (0 : Int32))])) (st155) ?_
      refine OWH.st (B := T155.setTop (mkF m 58 #[.val (.int n1), .val (.int n2), .val (.int n3), .val (.int n4), .val (.int u1), .val (.int u2), .val (.int u3), .val (.int (1 : Int32)), .val (.ref b153), .val (.ref b154), .unset] [(.ref b154)])) (fun _ kk_ => XS.ifYes X155.here hx rfl (pc0 := 51) (pc' := 56) rfl (hb hby at_51) rfl ((if0 _ _).trans (teq (by decide)).1) (by decide) (by decide) (XS.aload X155.here hx rfl (hb hby at_56) rfl rfl kk_)) ?_
      obtain ⟨cq156, kq156, q156a, q156b, q156c⟩ := isOf hZ154 e155 Eb154
      obtain ⟨_, _, ⟨T156, L156, k156, n156⟩, -, X156, ⟨Lc156, hQ156, l156, y156, z156⟩, st156⟩ := X155.virtualBack hx (y := (⟨"com/example/cartulary/cartulary/entity/AttachmentValue", "getText", "()Ljava/lang/String;"⟩ : MethodName)) (z := (⟨"com/example/cartulary/cartulary/entity/AttachmentValue", "getText", "()Ljava/lang/String;"⟩ : MethodName)) hown154 (mvT hZ154 (w_62 hw)) (mvT hZ154 (w_63 hw)) (notFace_of_selects (args := #[]) (mvT hZ154 (w_65 hw))) (mvT hZ154 (w_65 hw)) (mvT hZ154 (w_64 hw)) (by decide) (backOf (W := 0) (rmGT l Z a0 hw [] b154 b153 T154.heap n0 O154 Ft154) hZ154 (w_66 hw) (w_37 hw) (by decide) (by decide)) q156a q156c (g := (mkF m 58 #[.val (.int n1), .val (.int n2), .val (.int n3), .val (.int n4), .val (.int u1), .val (.int u2), .val (.int u3), .val (.int (1 : Int32)), .val (.ref b153), .val (.ref b154), .unset] [(.ref b154)])) rfl (by rw [hml]; rfl) (Steps.refl _) (argsL := []) (rest := []) (lenOf pd_19 rfl) rfl (by show 2 * 0 + _ ≤ _; exact Nat.le_of_eq rfl) (hb hby at_58) (fun _ _ => ⟨rfl, e155, (by decide : 7 + 0 ≤ _), (by decide : 57 + 0 ≤ _)⟩)
      dsimp only [Pt.U, Pt.locs, Pt.cells, Pt.slots] at X156 l156 y156 z156 st156 hQ156
      subst l156 y156 z156
      obtain ⟨rfl, Nq156, e156⟩ := hQ156
      have N156 := Fr.app N155 Nq156
      refine OWH.tr (B := T156.setTop (mkF m 61 #[.val (.int n1), .val (.int n2), .val (.int n3), .val (.int n4), .val (.int u1), .val (.int u2), .val (.int u3), .val (.int (1 : Int32)), .val (.ref b153), .val (.ref b154), .unset] [(.ref b153)])) (st156) ?_
      refine OWH.st (B := T156.setTop (mkF m 72 #[.val (.int n1), .val (.int n2), .val (.int n3), .val (.int n4), .val (.int u1), .val (.int u2), .val (.int u3), .val (.int (1 : Int32)), .val (.ref b153), .val (.ref b154), .val (.ref b153)] [(.ref b153)])) (fun _ kk_ => XS.astore X156.here hx rfl (hb hby at_61) rfl rfl (l' := #[.val (.int n1), .val (.int n2), .val (.int n3), .val (.int n4), .val (.int u1), .val (.int u2), .val (.int u3), .val (.int (1 : Int32)), .val (.ref b153), .val (.ref b154), .val (.ref b153)]) rfl (XS.aload X156.here hx rfl (hb hby at_63) rfl rfl (XS.ifnonnullYes X156.here hx rfl (pc0 := 65) (pc' := 70) rfl (hb hby at_65) rfl (by decide) (by decide) (XS.aload X156.here hx rfl (hb hby at_70) rfl rfl kk_)))) ?_
      obtain ⟨cq157, kq157, q157a, q157b, q157c⟩ := isOf hZ154 e156 (Es153.keep K154)
      obtain ⟨_, _, ⟨T157, L157, k157, n157⟩, -, X157, ⟨Lc157, hQ157, l157, y157, z157⟩, st157⟩ := X156.virtualBack hx (y := (⟨"java/lang/String", "length", "()I"⟩ : MethodName)) (z := (⟨"java/lang/String", "length", "()I"⟩ : MethodName)) hown154 (mvT hZ154 (w_67 hw)) (mvT hZ154 (w_68 hw)) (notFace_of_selects (args := #[]) (mvT hZ154 (w_70 hw))) (mvT hZ154 (w_70 hw)) (mvT hZ154 (w_69 hw)) (by decide) (backOf (W := 0) (rmLE1 l Z a0 hw [] b153 ba153 kb153 (2 : Int32) [u1] (1 : Int32) i_COMPACT_STRINGS v_SIOOBE_FORMATTER T154.heap n0 O154 (Es153.keep K154) (Fv153.keep K154 nin0) (Fc153.keep K154 nin0) (Vs153.keep K154 nin0) (by decide) hS) hZ154 (w_71 hw) (w_7 hw) (by decide) (by decide)) q157a q157c (g := (mkF m 72 #[.val (.int n1), .val (.int n2), .val (.int n3), .val (.int n4), .val (.int u1), .val (.int u2), .val (.int u3), .val (.int (1 : Int32)), .val (.ref b153), .val (.ref b154), .val (.ref b153)] [(.ref b153)])) rfl (by rw [hml]; rfl) (Steps.refl _) (argsL := []) (rest := []) (lenOf pd_20 rfl) rfl (by show 2 * 0 + _ ≤ _; exact Nat.le_of_eq rfl) (hb hby at_72) (fun _ _ => ⟨rfl, e156, (by decide : 7 + 0 ≤ _), (by decide : 57 + 0 ≤ _)⟩)
      dsimp only [Pt.U, Pt.locs, Pt.cells, Pt.slots] at X157 l157 y157 z157 st157 hQ157
      subst l157 y157 z157
      obtain ⟨rfl, Nq157, e157⟩ := hQ157
      have N157 := Fr.app N156 Nq157
      refine OWH.tr (B := T157.setTop (mkF m 75 #[.val (.int n1), .val (.int n2), .val (.int n3), .val (.int n4), .val (.int u1), .val (.int u2), .val (.int u3), .val (.int (1 : Int32)), .val (.ref b153), .val (.ref b154), .val (.ref b153)] [(.int (1 : Int32))])) (st157) ?_
      refine OWH.st (B := T157.setTop (mkF m 90 #[.val (.int n1), .val (.int n2), .val (.int n3), .val (.int n4), .val (.int u1), .val (.int u2), .val (.int u3), .val (.int (1 : Int32)), .val (.ref b153), .val (.ref b154), .val (.ref b153)] [(.int (0 : Int32)), (.ref b153)])) (fun _ kk_ => XS.iload X157.here hx rfl (hb hby at_75) rfl (XS.icmpYes X157.here hx rfl (pc0 := 77) (pc' := 82) rfl (hb hby at_77) rfl (teq (by decide)).1 (by decide) (by decide) (XS.iload X157.here hx rfl (hb hby at_82) rfl (XS.ifNo X157.here hx rfl (hb hby at_84) rfl ((if0 _ _).trans (tlt (by decide)).2.2.2) (XS.aload X157.here hx rfl (hb hby at_87) rfl rfl (XS.iconst X157.here hx rfl (hb hby at_89) kk_)))))) ?_
      obtain ⟨cq158, kq158, q158a, q158b, q158c⟩ := isOf hZ154 e157 (Es153.keep K154)
      obtain ⟨_, _, ⟨T158, L158, k158, n158⟩, -, X158, ⟨Lc158, hQ158, l158, y158, z158⟩, st158⟩ := X157.virtualBack hx (y := (⟨"java/lang/String", "charAt", "(I)C"⟩ : MethodName)) (z := (⟨"java/lang/String", "charAt", "(I)C"⟩ : MethodName)) hown154 (mvT hZ154 (w_77 hw)) (mvT hZ154 (w_78 hw)) (notFace_of_selects (args := #[]) (mvT hZ154 (w_80 hw))) (mvT hZ154 (w_80 hw)) (mvT hZ154 (w_79 hw)) (by decide) (backOf (W := 0) (rmCA1 l Z a0 hw [] b153 ba153 kb153 (2 : Int32) [u1] (0 : Int32) 0 u1 i_COMPACT_STRINGS v_SIOOBE_FORMATTER T154.heap n0 O154 (Es153.keep K154) (Fv153.keep K154 nin0) (Fc153.keep K154 nin0) (Vs153.keep K154 nin0) rfl (Nat.le_of_ble_eq_true rfl) (by decide) rfl hnu1 hS) hZ154 (w_81 hw) (w_7 hw) (by decide) (by decide)) q158a q158c (g := (mkF m 90 #[.val (.int n1), .val (.int n2), .val (.int n3), .val (.int n4), .val (.int u1), .val (.int u2), .val (.int u3), .val (.int (1 : Int32)), .val (.ref b153), .val (.ref b154), .val (.ref b153)] [(.int (0 : Int32)), (.ref b153)])) rfl (by rw [hml]; rfl) (Steps.refl _) (argsL := [(.int (0 : Int32))]) (rest := []) (lenOf pd_22 rfl) rfl (by show 2 * 0 + _ ≤ _; exact Nat.le_of_eq rfl) (hb hby at_90) (fun _ _ => ⟨rfl, e157, (by decide : 7 + 0 ≤ _), (by decide : 57 + 0 ≤ _)⟩)
      dsimp only [Pt.U, Pt.locs, Pt.cells, Pt.slots] at X158 l158 y158 z158 st158 hQ158
      subst l158 y158 z158
      obtain ⟨rfl, Nq158, e158⟩ := hQ158
      have N158 := Fr.app N157 Nq158
      refine OWH.tr (B := T158.setTop (mkF m 93 #[.val (.int n1), .val (.int n2), .val (.int n3), .val (.int n4), .val (.int u1), .val (.int u2), .val (.int u3), .val (.int (1 : Int32)), .val (.ref b153), .val (.ref b154), .val (.ref b153)] [(.int u1)])) (st158) ?_
      refine OWH.st (B := T158.setTop (mkF m 142 #[.val (.int n1), .val (.int n2), .val (.int n3), .val (.int n4), .val (.int u1), .val (.int u2), .val (.int u3), .val (.int (1 : Int32)), .val (.ref b153), .val (.ref b154), .val (.ref b153)] [(.ref b153), (.ref b153)])) (fun _ kk_ => XS.iload X158.here hx rfl (hb hby at_93) rfl (XS.icmpYes X158.here hx rfl (pc0 := 95) (pc' := 100) rfl (hb hby at_95) rfl (teq rfl).1 (by decide) (by decide) (XS.iload X158.here hx rfl (hb hby at_100) rfl (XS.iconst X158.here hx rfl (hb hby at_102) (XS.icmpYes X158.here hx rfl (pc0 := 103) (pc' := 119) rfl (hb hby at_103) rfl (flt (by decide)).2.2.2 (by decide) (by decide) (XS.iload X158.here hx rfl (hb hby at_119) rfl (XS.iconst X158.here hx rfl (hb hby at_121) (XS.icmpYes X158.here hx rfl (pc0 := 122) (pc' := 138) rfl (hb hby at_122) rfl (flt (by decide)).2.2.2 (by decide) (by decide) (XS.aload X158.here hx rfl (hb hby at_138) rfl rfl (XS.aload X158.here hx rfl (hb hby at_140) rfl rfl kk_)))))))))) ?_
      obtain ⟨cq159, kq159, q159a, q159b, q159c⟩ := isOf hZ154 e158 (Es153.keep K154)
      obtain ⟨_, _, ⟨T159, L159, k159, n159⟩, -, X159, ⟨Lc159, hQ159, l159, y159, z159⟩, st159⟩ := X158.virtualBack hx (y := (⟨"java/lang/String", "equals", "(Ljava/lang/Object;)Z"⟩ : MethodName)) (z := (⟨"java/lang/String", "equals", "(Ljava/lang/Object;)Z"⟩ : MethodName)) hown154 (mvT hZ154 (w_99 hw)) (mvT hZ154 (w_100 hw)) (notFace_of_selects (args := #[]) (mvT hZ154 (w_102 hw))) (mvT hZ154 (w_102 hw)) (mvT hZ154 (w_101 hw)) (by decide) (backOf (W := 0) (rmEQ l Z a0 hw [] b153 T154.heap n0 O154 ) hZ154 (w_103 hw) (w_7 hw) (by decide) (by decide)) q159a q159c (g := (mkF m 142 #[.val (.int n1), .val (.int n2), .val (.int n3), .val (.int n4), .val (.int u1), .val (.int u2), .val (.int u3), .val (.int (1 : Int32)), .val (.ref b153), .val (.ref b154), .val (.ref b153)] [(.ref b153), (.ref b153)])) rfl (by rw [hml]; rfl) (Steps.refl _) (argsL := [(.ref b153)]) (rest := []) (lenOf pd_21 rfl) rfl (by show 2 * 0 + _ ≤ _; exact Nat.le_of_eq rfl) (hb hby at_142) (fun _ _ => ⟨rfl, e158, (by decide : 7 + 0 ≤ _), (by decide : 57 + 0 ≤ _)⟩)
      dsimp only [Pt.U, Pt.locs, Pt.cells, Pt.slots] at X159 l159 y159 z159 st159 hQ159
      subst l159 y159 z159
      obtain ⟨rfl, Nq159, e159⟩ := hQ159
      have N159 := Fr.app N158 Nq159
      refine OWH.tr (B := T159.setTop (mkF m 145 #[.val (.int n1), .val (.int n2), .val (.int n3), .val (.int n4), .val (.int u1), .val (.int u2), .val (.int u3), .val (.int (1 : Int32)), .val (.ref b153), .val (.ref b154), .val (.ref b153)] [(.int (1 : Int32))])) (st159) ?_
      exact OWH.ret X159 (s := s) (vm0 := T154.vm) hS154 hk154 hx hlk CR154 hZ154 (own_EW hw) (i := .ireturn) Bd.returns rfl (Or.inl ⟨rfl, Or.inr (Or.inl rfl), _, rfl⟩) (hb hby at_145) e159 (by decide) (by decide) ⟨rfl, N159⟩
    · refine OWH.st (B := s₁.setTop (mkF m 34 #[.val (.int n1), .val (.int n2), .val (.int n3), .val (.int n4), .val (.int u1), .val (.int u2), .val (.int u3), .val (.int (1 : Int32)), .unset, .unset, .unset] [(.int u3), (.int u2), (.int u1), (.int (1 : Int32))])) (fun _ kk_ => XS.iload X0.here hx rfl (hb hby at_26) rfl (XS.iload X0.here hx rfl (hb hby at_28) rfl (XS.iload X0.here hx rfl (hb hby at_30) rfl (XS.iload X0.here hx rfl (hb hby at_32) rfl kk_)))) ?_
      obtain ⟨_, _, ⟨T160, L160, k160, n160⟩, -, X160, ⟨Lc160, hQ160, l160, y160, z160⟩, st160⟩ := Jvm.LawKit.callS X0 hx (y := (⟨"com/example/cartulary/cartulary/entity/AttachmentValueOfStringPinLaw", "make", "(ICCC)Ljava/lang/String;"⟩ : MethodName)) hown (mvT hZ (w_1 hw)) (mvT hZ (w_2 hw)) (mvT hZ (w_3 hw)) (mvT hZ (w_4 hw)) (by decide) (backOf (W := 0) (rmMK10 l Z a0 hw [] u1 u2 u3 i_COMPACT_STRINGS v_SIOOBE_FORMATTER h0 n0 O0 hnu1 hnu2 hnu3 hl152_0 hS) hZ (w_4 hw) (w_3 hw) (by decide) (by decide)) (g := (mkF m 34 #[.val (.int n1), .val (.int n2), .val (.int n3), .val (.int n4), .val (.int u1), .val (.int u2), .val (.int u3), .val (.int (1 : Int32)), .unset, .unset, .unset] [(.int u3), (.int u2), (.int u1), (.int (1 : Int32))])) rfl (by rw [hml]; rfl) (argsL := [(.int (1 : Int32)), (.int u1), (.int u2), (.int u3)]) (rest := []) (lenOf pd_17 rfl) rfl (by show 2 * 0 + _ ≤ _; exact Nat.le_of_eq rfl) (hb hby at_34) (fun _ _ => ⟨rfl, e0, (by decide : 0 + 3 ≤ _), (by decide : 0 + 15 ≤ _)⟩)
      dsimp only [Pt.U, Pt.locs, Pt.cells, Pt.slots] at X160 l160 y160 z160 st160 hQ160
      subst l160 y160 z160
      obtain ⟨b160, ba160, kb160, rfl, Nq160, K160, gb160, Es160, Fv160, Fc160, Vs160⟩ := hQ160
      have N160 := Fr.app N0 Nq160
      have O160 : Old Z n0 T160.heap := O0.keep K160 all0
      have CS160 : CHr Z consts_1 s.vm h0 s.vm T160.heap := CHr.keep K160 all0 CR0.1
      have CR160 := CHr.trans CR0 CS160
      refine OWH.st (B := T160.setTop (mkF m 41 #[.val (.int n1), .val (.int n2), .val (.int n3), .val (.int n4), .val (.int u1), .val (.int u2), .val (.int u3), .val (.int (1 : Int32)), .val (.ref b160), .unset, .unset] [(.ref b160)])) (fun _ kk_ => st160 _ (XS.astore X160.here hx rfl (hb hby at_37) rfl rfl (l' := #[.val (.int n1), .val (.int n2), .val (.int n3), .val (.int n4), .val (.int u1), .val (.int u2), .val (.int u3), .val (.int (1 : Int32)), .val (.ref b160), .unset, .unset]) rfl (XS.aload X160.here hx rfl (hb hby at_39) rfl rfl kk_))) ?_
      obtain ⟨_, _, ⟨T161, L161, k161, n161⟩, -, X161, hs161, hsz161, ⟨Lc161, hQ161, l161, y161, z161, CQ161⟩, st161⟩ := callSS X160 hx (y := (⟨"com/example/cartulary/cartulary/entity/AttachmentValue", "ofString", "(Ljava/lang/String;)Lcom/example/cartulary/cartulary/entity/AttachmentValue;"⟩ : MethodName)) hown (mvT hZ (w_35 hw)) (mvT hZ (w_36 hw)) (mvT hZ (w_37 hw)) (mvT hZ (w_38 hw)) (by decide) (backOfSH (W := 0) (rmOF l Z a0 hw [] b160 T160.heap n0 O160 Es160) hZ (w_38 hw) (w_37 hw) (by decide) (by decide) (own_EW hw) CR160.1) (g := (mkF m 41 #[.val (.int n1), .val (.int n2), .val (.int n3), .val (.int n4), .val (.int u1), .val (.int u2), .val (.int u3), .val (.int (1 : Int32)), .val (.ref b160), .unset, .unset] [(.ref b160)])) rfl (by rw [hml]; rfl) (argsL := [(.ref b160)]) (rest := []) (lenOf pd_18 rfl) rfl (by show 2 * 0 + _ ≤ _; exact Nat.le_of_eq rfl) (hb hby at_41) (fun _ _ => ⟨rfl, rfl, (by decide : 3 + 3 ≤ _), (by decide : 15 + 22 ≤ _)⟩)
      dsimp only [Pt.U, Pt.locs, Pt.cells, Pt.slots] at hs161 hsz161
      have hS161 := foldS hS0 (Nat.le_trans hk0 K160.1) hs161 hsz161
      have hZ161 : Z.Warmed39 (s.setVm T161.vm).vm := State.Warmed39.trans (t := s) hZ hs161.1
      have hown161 : (s.setVm T161.vm).vm.findClass "com/example/cartulary/cartulary/entity/AttachmentValueOfStringPinLaw" = some m.cls := by rw [show (s.setVm T161.vm).vm = T161.vm from rfl, hs161.1.alike.findClass]; exact hown
      dsimp only [Pt.U, Pt.locs, Pt.cells, Pt.slots] at X161 l161 y161 z161 st161 hQ161 CQ161
      subst l161 y161 z161
      obtain ⟨b161, rfl, Nq161, K161, gb161, Eb161, Ft161, Fu161⟩ := hQ161
      have N161 := Fr.app N160 Nq161
      have O161 : Old Z n0 T161.heap := O160.keep K161 all0
      have CS161 : CHr Z consts_1 s.vm T160.heap T161.vm T161.heap := CQ161
      have CR161 := CHr.trans CR160 CS161
      have hk161 : T161.heap.size ≤ T161.heap.size := Nat.le_of_eq (by rfl)
      refine OWH.tr (B := T161.setTop (mkF m 44 #[.val (.int n1), .val (.int n2), .val (.int n3), .val (.int n4), .val (.int u1), .val (.int u2), .val (.int u3), .val (.int (1 : Int32)), .val (.ref b160), .unset, .unset] [(.ref b161)])) (st161) ?_
      refine OWH.st (B := T161.setTop (mkF m 48 #[.val (.int n1), .val (.int n2), .val (.int n3), .val (.int n4), .val (.int u1), .val (.int u2), .val (.int u3), .val (.int (1 : Int32)), .val (.ref b160), .val (.ref b161), .unset] [(.ref b161)])) (fun _ kk_ => XS.astore X161.here hx rfl (hb hby at_44) rfl rfl (l' := #[.val (.int n1), .val (.int n2), .val (.int n3), .val (.int n4), .val (.int u1), .val (.int u2), .val (.int u3), .val (.int (1 : Int32)), .val (.ref b160), .val (.ref b161), .unset]) rfl (XS.aload X161.here hx rfl (hb hby at_46) rfl rfl kk_)) ?_
      obtain ⟨cq162, kq162, q162a, q162b, q162c⟩ := isOf hZ161 rfl Eb161
      obtain ⟨_, _, ⟨T162, L162, k162, n162⟩, -, X162, ⟨Lc162, hQ162, l162, y162, z162⟩, st162⟩ := X161.virtualBack hx (y := (⟨"com/example/cartulary/cartulary/entity/AttachmentValue", "isUri", "()Z"⟩ : MethodName)) (z := (⟨"com/example/cartulary/cartulary/entity/AttachmentValue", "isUri", "()Z"⟩ : MethodName)) hown161 (mvT hZ161 (w_57 hw)) (mvT hZ161 (w_58 hw)) (notFace_of_selects (args := #[]) (mvT hZ161 (w_60 hw))) (mvT hZ161 (w_60 hw)) (mvT hZ161 (w_59 hw)) (by decide) (backOf (W := 0) (rmIU l Z a0 hw [] b161 T161.heap n0 O161 Fu161) hZ161 (w_61 hw) (w_37 hw) (by decide) (by decide)) q162a q162c (g := (mkF m 48 #[.val (.int n1), .val (.int n2), .val (.int n3), .val (.int n4), .val (.int u1), .val (.int u2), .val (.int u3), .val (.int (1 : Int32)), .val (.ref b160), .val (.ref b161), .unset] [(.ref b161)])) rfl (by rw [hml]; rfl) (Steps.refl _) (argsL := []) (rest := []) (lenOf pd_11 rfl) rfl (by show 2 * 0 + _ ≤ _; exact Nat.le_of_eq rfl) (hb hby at_48) (fun _ _ => ⟨rfl, rfl, (by decide : 6 + 0 ≤ _), (by decide : 37 + 0 ≤ _)⟩)
      dsimp only [Pt.U, Pt.locs, Pt.cells, Pt.slots] at X162 l162 y162 z162 st162 hQ162
      subst l162 y162 z162
      obtain ⟨rfl, Nq162, e162⟩ := hQ162
      have N162 := Fr.app N161 Nq162
      refine OWH.tr (B := T162.setTop (mkF m 51 #[.val (.int n1), .val (.int n2), .val (.int n3), .val (.int n4), .val (.int u1), .val (.int u2), .val (.int u3), .val (.int (1 : Int32)), .val (.ref b160), .val (.ref b161), .unset] [(.int (0 : Int32))])) (st162) ?_
      refine OWH.st (B := T162.setTop (mkF m 58 #[.val (.int n1), .val (.int n2), .val (.int n3), .val (.int n4), .val (.int u1), .val (.int u2), .val (.int u3), .val (.int (1 : Int32)), .val (.ref b160), .val (.ref b161), .unset] [(.ref b161)])) (fun _ kk_ => XS.ifYes X162.here hx rfl (pc0 := 51) (pc' := 56) rfl (hb hby at_51) rfl ((if0 _ _).trans (teq (by decide)).1) (by decide) (by decide) (XS.aload X162.here hx rfl (hb hby at_56) rfl rfl kk_)) ?_
      obtain ⟨cq163, kq163, q163a, q163b, q163c⟩ := isOf hZ161 e162 Eb161
      obtain ⟨_, _, ⟨T163, L163, k163, n163⟩, -, X163, ⟨Lc163, hQ163, l163, y163, z163⟩, st163⟩ := X162.virtualBack hx (y := (⟨"com/example/cartulary/cartulary/entity/AttachmentValue", "getText", "()Ljava/lang/String;"⟩ : MethodName)) (z := (⟨"com/example/cartulary/cartulary/entity/AttachmentValue", "getText", "()Ljava/lang/String;"⟩ : MethodName)) hown161 (mvT hZ161 (w_62 hw)) (mvT hZ161 (w_63 hw)) (notFace_of_selects (args := #[]) (mvT hZ161 (w_65 hw))) (mvT hZ161 (w_65 hw)) (mvT hZ161 (w_64 hw)) (by decide) (backOf (W := 0) (rmGT l Z a0 hw [] b161 b160 T161.heap n0 O161 Ft161) hZ161 (w_66 hw) (w_37 hw) (by decide) (by decide)) q163a q163c (g := (mkF m 58 #[.val (.int n1), .val (.int n2), .val (.int n3), .val (.int n4), .val (.int u1), .val (.int u2), .val (.int u3), .val (.int (1 : Int32)), .val (.ref b160), .val (.ref b161), .unset] [(.ref b161)])) rfl (by rw [hml]; rfl) (Steps.refl _) (argsL := []) (rest := []) (lenOf pd_19 rfl) rfl (by show 2 * 0 + _ ≤ _; exact Nat.le_of_eq rfl) (hb hby at_58) (fun _ _ => ⟨rfl, e162, (by decide : 6 + 0 ≤ _), (by decide : 37 + 0 ≤ _)⟩)
      dsimp only [Pt.U, Pt.locs, Pt.cells, Pt.slots] at X163 l163 y163 z163 st163 hQ163
      subst l163 y163 z163
      obtain ⟨rfl, Nq163, e163⟩ := hQ163
      have N163 := Fr.app N162 Nq163
      refine OWH.tr (B := T163.setTop (mkF m 61 #[.val (.int n1), .val (.int n2), .val (.int n3), .val (.int n4), .val (.int u1), .val (.int u2), .val (.int u3), .val (.int (1 : Int32)), .val (.ref b160), .val (.ref b161), .unset] [(.ref b160)])) (st163) ?_
      refine OWH.st (B := T163.setTop (mkF m 72 #[.val (.int n1), .val (.int n2), .val (.int n3), .val (.int n4), .val (.int u1), .val (.int u2), .val (.int u3), .val (.int (1 : Int32)), .val (.ref b160), .val (.ref b161), .val (.ref b160)] [(.ref b160)])) (fun _ kk_ => XS.astore X163.here hx rfl (hb hby at_61) rfl rfl (l' := #[.val (.int n1), .val (.int n2), .val (.int n3), .val (.int n4), .val (.int u1), .val (.int u2), .val (.int u3), .val (.int (1 : Int32)), .val (.ref b160), .val (.ref b161), .val (.ref b160)]) rfl (XS.aload X163.here hx rfl (hb hby at_63) rfl rfl (XS.ifnonnullYes X163.here hx rfl (pc0 := 65) (pc' := 70) rfl (hb hby at_65) rfl (by decide) (by decide) (XS.aload X163.here hx rfl (hb hby at_70) rfl rfl kk_)))) ?_
      obtain ⟨cq164, kq164, q164a, q164b, q164c⟩ := isOf hZ161 e163 (Es160.keep K161)
      obtain ⟨_, _, ⟨T164, L164, k164, n164⟩, -, X164, ⟨Lc164, hQ164, l164, y164, z164⟩, st164⟩ := X163.virtualBack hx (y := (⟨"java/lang/String", "length", "()I"⟩ : MethodName)) (z := (⟨"java/lang/String", "length", "()I"⟩ : MethodName)) hown161 (mvT hZ161 (w_67 hw)) (mvT hZ161 (w_68 hw)) (notFace_of_selects (args := #[]) (mvT hZ161 (w_70 hw))) (mvT hZ161 (w_70 hw)) (mvT hZ161 (w_69 hw)) (by decide) (backOf (W := 0) (rmLE0 l Z a0 hw [] b160 ba160 kb160 (1 : Int32) [u1] (1 : Int32) i_COMPACT_STRINGS v_SIOOBE_FORMATTER T161.heap n0 O161 (Es160.keep K161) (Fv160.keep K161 nin0) (Fc160.keep K161 nin0) (Vs160.keep K161 nin0) (by decide) hS) hZ161 (w_71 hw) (w_7 hw) (by decide) (by decide)) q164a q164c (g := (mkF m 72 #[.val (.int n1), .val (.int n2), .val (.int n3), .val (.int n4), .val (.int u1), .val (.int u2), .val (.int u3), .val (.int (1 : Int32)), .val (.ref b160), .val (.ref b161), .val (.ref b160)] [(.ref b160)])) rfl (by rw [hml]; rfl) (Steps.refl _) (argsL := []) (rest := []) (lenOf pd_20 rfl) rfl (by show 2 * 0 + _ ≤ _; exact Nat.le_of_eq rfl) (hb hby at_72) (fun _ _ => ⟨rfl, e163, (by decide : 6 + 0 ≤ _), (by decide : 37 + 0 ≤ _)⟩)
      dsimp only [Pt.U, Pt.locs, Pt.cells, Pt.slots] at X164 l164 y164 z164 st164 hQ164
      subst l164 y164 z164
      obtain ⟨rfl, Nq164, e164⟩ := hQ164
      have N164 := Fr.app N163 Nq164
      refine OWH.tr (B := T164.setTop (mkF m 75 #[.val (.int n1), .val (.int n2), .val (.int n3), .val (.int n4), .val (.int u1), .val (.int u2), .val (.int u3), .val (.int (1 : Int32)), .val (.ref b160), .val (.ref b161), .val (.ref b160)] [(.int (1 : Int32))])) (st164) ?_
      refine OWH.st (B := T164.setTop (mkF m 90 #[.val (.int n1), .val (.int n2), .val (.int n3), .val (.int n4), .val (.int u1), .val (.int u2), .val (.int u3), .val (.int (1 : Int32)), .val (.ref b160), .val (.ref b161), .val (.ref b160)] [(.int (0 : Int32)), (.ref b160)])) (fun _ kk_ => XS.iload X164.here hx rfl (hb hby at_75) rfl (XS.icmpYes X164.here hx rfl (pc0 := 77) (pc' := 82) rfl (hb hby at_77) rfl (teq (by decide)).1 (by decide) (by decide) (XS.iload X164.here hx rfl (hb hby at_82) rfl (XS.ifNo X164.here hx rfl (hb hby at_84) rfl ((if0 _ _).trans (tlt (by decide)).2.2.2) (XS.aload X164.here hx rfl (hb hby at_87) rfl rfl (XS.iconst X164.here hx rfl (hb hby at_89) kk_)))))) ?_
      obtain ⟨cq165, kq165, q165a, q165b, q165c⟩ := isOf hZ161 e164 (Es160.keep K161)
      obtain ⟨_, _, ⟨T165, L165, k165, n165⟩, -, X165, ⟨Lc165, hQ165, l165, y165, z165⟩, st165⟩ := X164.virtualBack hx (y := (⟨"java/lang/String", "charAt", "(I)C"⟩ : MethodName)) (z := (⟨"java/lang/String", "charAt", "(I)C"⟩ : MethodName)) hown161 (mvT hZ161 (w_77 hw)) (mvT hZ161 (w_78 hw)) (notFace_of_selects (args := #[]) (mvT hZ161 (w_80 hw))) (mvT hZ161 (w_80 hw)) (mvT hZ161 (w_79 hw)) (by decide) (backOf (W := 0) (rmCA0 l Z a0 hw [] b160 ba160 kb160 (1 : Int32) [u1] (0 : Int32) 0 u1 i_COMPACT_STRINGS v_SIOOBE_FORMATTER T161.heap n0 O161 (Es160.keep K161) (Fv160.keep K161 nin0) (Fc160.keep K161 nin0) (Vs160.keep K161 nin0) rfl (Nat.le_of_ble_eq_true rfl) (by decide) rfl hnu1 hl152_0 hS) hZ161 (w_81 hw) (w_7 hw) (by decide) (by decide)) q165a q165c (g := (mkF m 90 #[.val (.int n1), .val (.int n2), .val (.int n3), .val (.int n4), .val (.int u1), .val (.int u2), .val (.int u3), .val (.int (1 : Int32)), .val (.ref b160), .val (.ref b161), .val (.ref b160)] [(.int (0 : Int32)), (.ref b160)])) rfl (by rw [hml]; rfl) (Steps.refl _) (argsL := [(.int (0 : Int32))]) (rest := []) (lenOf pd_22 rfl) rfl (by show 2 * 0 + _ ≤ _; exact Nat.le_of_eq rfl) (hb hby at_90) (fun _ _ => ⟨rfl, e164, (by decide : 6 + 0 ≤ _), (by decide : 37 + 0 ≤ _)⟩)
      dsimp only [Pt.U, Pt.locs, Pt.cells, Pt.slots] at X165 l165 y165 z165 st165 hQ165
      subst l165 y165 z165
      obtain ⟨rfl, Nq165, e165⟩ := hQ165
      have N165 := Fr.app N164 Nq165
      refine OWH.tr (B := T165.setTop (mkF m 93 #[.val (.int n1), .val (.int n2), .val (.int n3), .val (.int n4), .val (.int u1), .val (.int u2), .val (.int u3), .val (.int (1 : Int32)), .val (.ref b160), .val (.ref b161), .val (.ref b160)] [(.int u1)])) (st165) ?_
      refine OWH.st (B := T165.setTop (mkF m 142 #[.val (.int n1), .val (.int n2), .val (.int n3), .val (.int n4), .val (.int u1), .val (.int u2), .val (.int u3), .val (.int (1 : Int32)), .val (.ref b160), .val (.ref b161), .val (.ref b160)] [(.ref b160), (.ref b160)])) (fun _ kk_ => XS.iload X165.here hx rfl (hb hby at_93) rfl (XS.icmpYes X165.here hx rfl (pc0 := 95) (pc' := 100) rfl (hb hby at_95) rfl (teq rfl).1 (by decide) (by decide) (XS.iload X165.here hx rfl (hb hby at_100) rfl (XS.iconst X165.here hx rfl (hb hby at_102) (XS.icmpYes X165.here hx rfl (pc0 := 103) (pc' := 119) rfl (hb hby at_103) rfl (flt (by decide)).2.2.2 (by decide) (by decide) (XS.iload X165.here hx rfl (hb hby at_119) rfl (XS.iconst X165.here hx rfl (hb hby at_121) (XS.icmpYes X165.here hx rfl (pc0 := 122) (pc' := 138) rfl (hb hby at_122) rfl (flt (by decide)).2.2.2 (by decide) (by decide) (XS.aload X165.here hx rfl (hb hby at_138) rfl rfl (XS.aload X165.here hx rfl (hb hby at_140) rfl rfl kk_)))))))))) ?_
      obtain ⟨cq166, kq166, q166a, q166b, q166c⟩ := isOf hZ161 e165 (Es160.keep K161)
      obtain ⟨_, _, ⟨T166, L166, k166, n166⟩, -, X166, ⟨Lc166, hQ166, l166, y166, z166⟩, st166⟩ := X165.virtualBack hx (y := (⟨"java/lang/String", "equals", "(Ljava/lang/Object;)Z"⟩ : MethodName)) (z := (⟨"java/lang/String", "equals", "(Ljava/lang/Object;)Z"⟩ : MethodName)) hown161 (mvT hZ161 (w_99 hw)) (mvT hZ161 (w_100 hw)) (notFace_of_selects (args := #[]) (mvT hZ161 (w_102 hw))) (mvT hZ161 (w_102 hw)) (mvT hZ161 (w_101 hw)) (by decide) (backOf (W := 0) (rmEQ l Z a0 hw [] b160 T161.heap n0 O161 ) hZ161 (w_103 hw) (w_7 hw) (by decide) (by decide)) q166a q166c (g := (mkF m 142 #[.val (.int n1), .val (.int n2), .val (.int n3), .val (.int n4), .val (.int u1), .val (.int u2), .val (.int u3), .val (.int (1 : Int32)), .val (.ref b160), .val (.ref b161), .val (.ref b160)] [(.ref b160), (.ref b160)])) rfl (by rw [hml]; rfl) (Steps.refl _) (argsL := [(.ref b160)]) (rest := []) (lenOf pd_21 rfl) rfl (by show 2 * 0 + _ ≤ _; exact Nat.le_of_eq rfl) (hb hby at_142) (fun _ _ => ⟨rfl, e165, (by decide : 6 + 0 ≤ _), (by decide : 37 + 0 ≤ _)⟩)
      dsimp only [Pt.U, Pt.locs, Pt.cells, Pt.slots] at X166 l166 y166 z166 st166 hQ166
      subst l166 y166 z166
      obtain ⟨rfl, Nq166, e166⟩ := hQ166
      have N166 := Fr.app N165 Nq166
      refine OWH.tr (B := T166.setTop (mkF m 145 #[.val (.int n1), .val (.int n2), .val (.int n3), .val (.int n4), .val (.int u1), .val (.int u2), .val (.int u3), .val (.int (1 : Int32)), .val (.ref b160), .val (.ref b161), .val (.ref b160)] [(.int (1 : Int32))])) (st166) ?_
      exact OWH.ret X166 (s := s) (vm0 := T161.vm) hS161 hk161 hx hlk CR161 hZ161 (own_EW hw) (i := .ireturn) Bd.returns rfl (Or.inl ⟨rfl, Or.inr (Or.inl rfl), _, rfl⟩) (hb hby at_145) e166 (by decide) (by decide) ⟨rfl, N166⟩
  · rcases own_lu2 u1 u2 with hu167 | ⟨hl167_0, hl167_1⟩
    · refine OWH.st (B := s₁.setTop (mkF m 34 #[.val (.int n1), .val (.int n2), .val (.int n3), .val (.int n4), .val (.int u1), .val (.int u2), .val (.int u3), .val (.int (2 : Int32)), .unset, .unset, .unset] [(.int u3), (.int u2), (.int u1), (.int (2 : Int32))])) (fun _ kk_ => XS.iload X0.here hx rfl (hb hby at_26) rfl (XS.iload X0.here hx rfl (hb hby at_28) rfl (XS.iload X0.here hx rfl (hb hby at_30) rfl (XS.iload X0.here hx rfl (hb hby at_32) rfl kk_)))) ?_
      obtain ⟨_, _, ⟨T168, L168, k168, n168⟩, -, X168, ⟨Lc168, hQ168, l168, y168, z168⟩, st168⟩ := Jvm.LawKit.callS X0 hx (y := (⟨"com/example/cartulary/cartulary/entity/AttachmentValueOfStringPinLaw", "make", "(ICCC)Ljava/lang/String;"⟩ : MethodName)) hown (mvT hZ (w_1 hw)) (mvT hZ (w_2 hw)) (mvT hZ (w_3 hw)) (mvT hZ (w_4 hw)) (by decide) (backOf (W := 0) (rmMK21 l Z a0 hw [] u1 u2 u3 i_COMPACT_STRINGS v_SIOOBE_FORMATTER h0 n0 O0 hnu1 hnu2 hnu3 hu167 hS) hZ (w_4 hw) (w_3 hw) (by decide) (by decide)) (g := (mkF m 34 #[.val (.int n1), .val (.int n2), .val (.int n3), .val (.int n4), .val (.int u1), .val (.int u2), .val (.int u3), .val (.int (2 : Int32)), .unset, .unset, .unset] [(.int u3), (.int u2), (.int u1), (.int (2 : Int32))])) rfl (by rw [hml]; rfl) (argsL := [(.int (2 : Int32)), (.int u1), (.int u2), (.int u3)]) (rest := []) (lenOf pd_17 rfl) rfl (by show 2 * 0 + _ ≤ _; exact Nat.le_of_eq rfl) (hb hby at_34) (fun _ _ => ⟨rfl, e0, (by decide : 0 + 4 ≤ _), (by decide : 0 + 36 ≤ _)⟩)
      dsimp only [Pt.U, Pt.locs, Pt.cells, Pt.slots] at X168 l168 y168 z168 st168 hQ168
      subst l168 y168 z168
      obtain ⟨b168, ba168, kb168, rfl, Nq168, K168, gb168, Es168, Fv168, Fc168, Vs168⟩ := hQ168
      have N168 := Fr.app N0 Nq168
      have O168 : Old Z n0 T168.heap := O0.keep K168 all0
      have CS168 : CHr Z consts_1 s.vm h0 s.vm T168.heap := CHr.keep K168 all0 CR0.1
      have CR168 := CHr.trans CR0 CS168
      refine OWH.st (B := T168.setTop (mkF m 41 #[.val (.int n1), .val (.int n2), .val (.int n3), .val (.int n4), .val (.int u1), .val (.int u2), .val (.int u3), .val (.int (2 : Int32)), .val (.ref b168), .unset, .unset] [(.ref b168)])) (fun _ kk_ => st168 _ (XS.astore X168.here hx rfl (hb hby at_37) rfl rfl (l' := #[.val (.int n1), .val (.int n2), .val (.int n3), .val (.int n4), .val (.int u1), .val (.int u2), .val (.int u3), .val (.int (2 : Int32)), .val (.ref b168), .unset, .unset]) rfl (XS.aload X168.here hx rfl (hb hby at_39) rfl rfl kk_))) ?_
      obtain ⟨_, _, ⟨T169, L169, k169, n169⟩, -, X169, hs169, hsz169, ⟨Lc169, hQ169, l169, y169, z169, CQ169⟩, st169⟩ := callSS X168 hx (y := (⟨"com/example/cartulary/cartulary/entity/AttachmentValue", "ofString", "(Ljava/lang/String;)Lcom/example/cartulary/cartulary/entity/AttachmentValue;"⟩ : MethodName)) hown (mvT hZ (w_35 hw)) (mvT hZ (w_36 hw)) (mvT hZ (w_37 hw)) (mvT hZ (w_38 hw)) (by decide) (backOfSH (W := 0) (rmOF l Z a0 hw [] b168 T168.heap n0 O168 Es168) hZ (w_38 hw) (w_37 hw) (by decide) (by decide) (own_EW hw) CR168.1) (g := (mkF m 41 #[.val (.int n1), .val (.int n2), .val (.int n3), .val (.int n4), .val (.int u1), .val (.int u2), .val (.int u3), .val (.int (2 : Int32)), .val (.ref b168), .unset, .unset] [(.ref b168)])) rfl (by rw [hml]; rfl) (argsL := [(.ref b168)]) (rest := []) (lenOf pd_18 rfl) rfl (by show 2 * 0 + _ ≤ _; exact Nat.le_of_eq rfl) (hb hby at_41) (fun _ _ => ⟨rfl, rfl, (by decide : 4 + 3 ≤ _), (by decide : 36 + 22 ≤ _)⟩)
      dsimp only [Pt.U, Pt.locs, Pt.cells, Pt.slots] at hs169 hsz169
      have hS169 := foldS hS0 (Nat.le_trans hk0 K168.1) hs169 hsz169
      have hZ169 : Z.Warmed39 (s.setVm T169.vm).vm := State.Warmed39.trans (t := s) hZ hs169.1
      have hown169 : (s.setVm T169.vm).vm.findClass "com/example/cartulary/cartulary/entity/AttachmentValueOfStringPinLaw" = some m.cls := by rw [show (s.setVm T169.vm).vm = T169.vm from rfl, hs169.1.alike.findClass]; exact hown
      dsimp only [Pt.U, Pt.locs, Pt.cells, Pt.slots] at X169 l169 y169 z169 st169 hQ169 CQ169
      subst l169 y169 z169
      obtain ⟨b169, rfl, Nq169, K169, gb169, Eb169, Ft169, Fu169⟩ := hQ169
      have N169 := Fr.app N168 Nq169
      have O169 : Old Z n0 T169.heap := O168.keep K169 all0
      have CS169 : CHr Z consts_1 s.vm T168.heap T169.vm T169.heap := CQ169
      have CR169 := CHr.trans CR168 CS169
      have hk169 : T169.heap.size ≤ T169.heap.size := Nat.le_of_eq (by rfl)
      refine OWH.tr (B := T169.setTop (mkF m 44 #[.val (.int n1), .val (.int n2), .val (.int n3), .val (.int n4), .val (.int u1), .val (.int u2), .val (.int u3), .val (.int (2 : Int32)), .val (.ref b168), .unset, .unset] [(.ref b169)])) (st169) ?_
      refine OWH.st (B := T169.setTop (mkF m 48 #[.val (.int n1), .val (.int n2), .val (.int n3), .val (.int n4), .val (.int u1), .val (.int u2), .val (.int u3), .val (.int (2 : Int32)), .val (.ref b168), .val (.ref b169), .unset] [(.ref b169)])) (fun _ kk_ => XS.astore X169.here hx rfl (hb hby at_44) rfl rfl (l' := #[.val (.int n1), .val (.int n2), .val (.int n3), .val (.int n4), .val (.int u1), .val (.int u2), .val (.int u3), .val (.int (2 : Int32)), .val (.ref b168), .val (.ref b169), .unset]) rfl (XS.aload X169.here hx rfl (hb hby at_46) rfl rfl kk_)) ?_
      obtain ⟨cq170, kq170, q170a, q170b, q170c⟩ := isOf hZ169 rfl Eb169
      obtain ⟨_, _, ⟨T170, L170, k170, n170⟩, -, X170, ⟨Lc170, hQ170, l170, y170, z170⟩, st170⟩ := X169.virtualBack hx (y := (⟨"com/example/cartulary/cartulary/entity/AttachmentValue", "isUri", "()Z"⟩ : MethodName)) (z := (⟨"com/example/cartulary/cartulary/entity/AttachmentValue", "isUri", "()Z"⟩ : MethodName)) hown169 (mvT hZ169 (w_57 hw)) (mvT hZ169 (w_58 hw)) (notFace_of_selects (args := #[]) (mvT hZ169 (w_60 hw))) (mvT hZ169 (w_60 hw)) (mvT hZ169 (w_59 hw)) (by decide) (backOf (W := 0) (rmIU l Z a0 hw [] b169 T169.heap n0 O169 Fu169) hZ169 (w_61 hw) (w_37 hw) (by decide) (by decide)) q170a q170c (g := (mkF m 48 #[.val (.int n1), .val (.int n2), .val (.int n3), .val (.int n4), .val (.int u1), .val (.int u2), .val (.int u3), .val (.int (2 : Int32)), .val (.ref b168), .val (.ref b169), .unset] [(.ref b169)])) rfl (by rw [hml]; rfl) (Steps.refl _) (argsL := []) (rest := []) (lenOf pd_11 rfl) rfl (by show 2 * 0 + _ ≤ _; exact Nat.le_of_eq rfl) (hb hby at_48) (fun _ _ => ⟨rfl, rfl, (by decide : 7 + 0 ≤ _), (by decide : 58 + 0 ≤ _)⟩)
      dsimp only [Pt.U, Pt.locs, Pt.cells, Pt.slots] at X170 l170 y170 z170 st170 hQ170
      subst l170 y170 z170
      obtain ⟨rfl, Nq170, e170⟩ := hQ170
      have N170 := Fr.app N169 Nq170
      refine OWH.tr (B := T170.setTop (mkF m 51 #[.val (.int n1), .val (.int n2), .val (.int n3), .val (.int n4), .val (.int u1), .val (.int u2), .val (.int u3), .val (.int (2 : Int32)), .val (.ref b168), .val (.ref b169), .unset] [(.int (0 : Int32))])) (st170) ?_
      refine OWH.st (B := T170.setTop (mkF m 58 #[.val (.int n1), .val (.int n2), .val (.int n3), .val (.int n4), .val (.int u1), .val (.int u2), .val (.int u3), .val (.int (2 : Int32)), .val (.ref b168), .val (.ref b169), .unset] [(.ref b169)])) (fun _ kk_ => XS.ifYes X170.here hx rfl (pc0 := 51) (pc' := 56) rfl (hb hby at_51) rfl ((if0 _ _).trans (teq (by decide)).1) (by decide) (by decide) (XS.aload X170.here hx rfl (hb hby at_56) rfl rfl kk_)) ?_
      obtain ⟨cq171, kq171, q171a, q171b, q171c⟩ := isOf hZ169 e170 Eb169
      obtain ⟨_, _, ⟨T171, L171, k171, n171⟩, -, X171, ⟨Lc171, hQ171, l171, y171, z171⟩, st171⟩ := X170.virtualBack hx (y := (⟨"com/example/cartulary/cartulary/entity/AttachmentValue", "getText", "()Ljava/lang/String;"⟩ : MethodName)) (z := (⟨"com/example/cartulary/cartulary/entity/AttachmentValue", "getText", "()Ljava/lang/String;"⟩ : MethodName)) hown169 (mvT hZ169 (w_62 hw)) (mvT hZ169 (w_63 hw)) (notFace_of_selects (args := #[]) (mvT hZ169 (w_65 hw))) (mvT hZ169 (w_65 hw)) (mvT hZ169 (w_64 hw)) (by decide) (backOf (W := 0) (rmGT l Z a0 hw [] b169 b168 T169.heap n0 O169 Ft169) hZ169 (w_66 hw) (w_37 hw) (by decide) (by decide)) q171a q171c (g := (mkF m 58 #[.val (.int n1), .val (.int n2), .val (.int n3), .val (.int n4), .val (.int u1), .val (.int u2), .val (.int u3), .val (.int (2 : Int32)), .val (.ref b168), .val (.ref b169), .unset] [(.ref b169)])) rfl (by rw [hml]; rfl) (Steps.refl _) (argsL := []) (rest := []) (lenOf pd_19 rfl) rfl (by show 2 * 0 + _ ≤ _; exact Nat.le_of_eq rfl) (hb hby at_58) (fun _ _ => ⟨rfl, e170, (by decide : 7 + 0 ≤ _), (by decide : 58 + 0 ≤ _)⟩)
      dsimp only [Pt.U, Pt.locs, Pt.cells, Pt.slots] at X171 l171 y171 z171 st171 hQ171
      subst l171 y171 z171
      obtain ⟨rfl, Nq171, e171⟩ := hQ171
      have N171 := Fr.app N170 Nq171
      refine OWH.tr (B := T171.setTop (mkF m 61 #[.val (.int n1), .val (.int n2), .val (.int n3), .val (.int n4), .val (.int u1), .val (.int u2), .val (.int u3), .val (.int (2 : Int32)), .val (.ref b168), .val (.ref b169), .unset] [(.ref b168)])) (st171) ?_
      refine OWH.st (B := T171.setTop (mkF m 72 #[.val (.int n1), .val (.int n2), .val (.int n3), .val (.int n4), .val (.int u1), .val (.int u2), .val (.int u3), .val (.int (2 : Int32)), .val (.ref b168), .val (.ref b169), .val (.ref b168)] [(.ref b168)])) (fun _ kk_ => XS.astore X171.here hx rfl (hb hby at_61) rfl rfl (l' := #[.val (.int n1), .val (.int n2), .val (.int n3), .val (.int n4), .val (.int u1), .val (.int u2), .val (.int u3), .val (.int (2 : Int32)), .val (.ref b168), .val (.ref b169), .val (.ref b168)]) rfl (XS.aload X171.here hx rfl (hb hby at_63) rfl rfl (XS.ifnonnullYes X171.here hx rfl (pc0 := 65) (pc' := 70) rfl (hb hby at_65) rfl (by decide) (by decide) (XS.aload X171.here hx rfl (hb hby at_70) rfl rfl kk_)))) ?_
      obtain ⟨cq172, kq172, q172a, q172b, q172c⟩ := isOf hZ169 e171 (Es168.keep K169)
      obtain ⟨_, _, ⟨T172, L172, k172, n172⟩, -, X172, ⟨Lc172, hQ172, l172, y172, z172⟩, st172⟩ := X171.virtualBack hx (y := (⟨"java/lang/String", "length", "()I"⟩ : MethodName)) (z := (⟨"java/lang/String", "length", "()I"⟩ : MethodName)) hown169 (mvT hZ169 (w_67 hw)) (mvT hZ169 (w_68 hw)) (notFace_of_selects (args := #[]) (mvT hZ169 (w_70 hw))) (mvT hZ169 (w_70 hw)) (mvT hZ169 (w_69 hw)) (by decide) (backOf (W := 0) (rmLE1 l Z a0 hw [] b168 ba168 kb168 (4 : Int32) [u1, u2] (2 : Int32) i_COMPACT_STRINGS v_SIOOBE_FORMATTER T169.heap n0 O169 (Es168.keep K169) (Fv168.keep K169 nin0) (Fc168.keep K169 nin0) (Vs168.keep K169 nin0) (by decide) hS) hZ169 (w_71 hw) (w_7 hw) (by decide) (by decide)) q172a q172c (g := (mkF m 72 #[.val (.int n1), .val (.int n2), .val (.int n3), .val (.int n4), .val (.int u1), .val (.int u2), .val (.int u3), .val (.int (2 : Int32)), .val (.ref b168), .val (.ref b169), .val (.ref b168)] [(.ref b168)])) rfl (by rw [hml]; rfl) (Steps.refl _) (argsL := []) (rest := []) (lenOf pd_20 rfl) rfl (by show 2 * 0 + _ ≤ _; exact Nat.le_of_eq rfl) (hb hby at_72) (fun _ _ => ⟨rfl, e171, (by decide : 7 + 0 ≤ _), (by decide : 58 + 0 ≤ _)⟩)
      dsimp only [Pt.U, Pt.locs, Pt.cells, Pt.slots] at X172 l172 y172 z172 st172 hQ172
      subst l172 y172 z172
      obtain ⟨rfl, Nq172, e172⟩ := hQ172
      have N172 := Fr.app N171 Nq172
      refine OWH.tr (B := T172.setTop (mkF m 75 #[.val (.int n1), .val (.int n2), .val (.int n3), .val (.int n4), .val (.int u1), .val (.int u2), .val (.int u3), .val (.int (2 : Int32)), .val (.ref b168), .val (.ref b169), .val (.ref b168)] [(.int (2 : Int32))])) (st172) ?_
      refine OWH.st (B := T172.setTop (mkF m 90 #[.val (.int n1), .val (.int n2), .val (.int n3), .val (.int n4), .val (.int u1), .val (.int u2), .val (.int u3), .val (.int (2 : Int32)), .val (.ref b168), .val (.ref b169), .val (.ref b168)] [(.int (0 : Int32)), (.ref b168)])) (fun _ kk_ => XS.iload X172.here hx rfl (hb hby at_75) rfl (XS.icmpYes X172.here hx rfl (pc0 := 77) (pc' := 82) rfl (hb hby at_77) rfl (teq (by decide)).1 (by decide) (by decide) (XS.iload X172.here hx rfl (hb hby at_82) rfl (XS.ifNo X172.here hx rfl (hb hby at_84) rfl ((if0 _ _).trans (tlt (by decide)).2.2.2) (XS.aload X172.here hx rfl (hb hby at_87) rfl rfl (XS.iconst X172.here hx rfl (hb hby at_89) kk_)))))) ?_
      obtain ⟨cq173, kq173, q173a, q173b, q173c⟩ := isOf hZ169 e172 (Es168.keep K169)
      obtain ⟨_, _, ⟨T173, L173, k173, n173⟩, -, X173, ⟨Lc173, hQ173, l173, y173, z173⟩, st173⟩ := X172.virtualBack hx (y := (⟨"java/lang/String", "charAt", "(I)C"⟩ : MethodName)) (z := (⟨"java/lang/String", "charAt", "(I)C"⟩ : MethodName)) hown169 (mvT hZ169 (w_77 hw)) (mvT hZ169 (w_78 hw)) (notFace_of_selects (args := #[]) (mvT hZ169 (w_80 hw))) (mvT hZ169 (w_80 hw)) (mvT hZ169 (w_79 hw)) (by decide) (backOf (W := 0) (rmCA1 l Z a0 hw [] b168 ba168 kb168 (4 : Int32) [u1, u2] (0 : Int32) 0 u1 i_COMPACT_STRINGS v_SIOOBE_FORMATTER T169.heap n0 O169 (Es168.keep K169) (Fv168.keep K169 nin0) (Fc168.keep K169 nin0) (Vs168.keep K169 nin0) rfl (Nat.le_of_ble_eq_true rfl) (by decide) rfl hnu1 hS) hZ169 (w_81 hw) (w_7 hw) (by decide) (by decide)) q173a q173c (g := (mkF m 90 #[.val (.int n1), .val (.int n2), .val (.int n3), .val (.int n4), .val (.int u1), .val (.int u2), .val (.int u3), .val (.int (2 : Int32)), .val (.ref b168), .val (.ref b169), .val (.ref b168)] [(.int (0 : Int32)), (.ref b168)])) rfl (by rw [hml]; rfl) (Steps.refl _) (argsL := [(.int (0 : Int32))]) (rest := []) (lenOf pd_22 rfl) rfl (by show 2 * 0 + _ ≤ _; exact Nat.le_of_eq rfl) (hb hby at_90) (fun _ _ => ⟨rfl, e172, (by decide : 7 + 0 ≤ _), (by decide : 58 + 0 ≤ _)⟩)
      dsimp only [Pt.U, Pt.locs, Pt.cells, Pt.slots] at X173 l173 y173 z173 st173 hQ173
      subst l173 y173 z173
      obtain ⟨rfl, Nq173, e173⟩ := hQ173
      have N173 := Fr.app N172 Nq173
      refine OWH.tr (B := T173.setTop (mkF m 93 #[.val (.int n1), .val (.int n2), .val (.int n3), .val (.int n4), .val (.int u1), .val (.int u2), .val (.int u3), .val (.int (2 : Int32)), .val (.ref b168), .val (.ref b169), .val (.ref b168)] [(.int u1)])) (st173) ?_
      refine OWH.st (B := T173.setTop (mkF m 109 #[.val (.int n1), .val (.int n2), .val (.int n3), .val (.int n4), .val (.int u1), .val (.int u2), .val (.int u3), .val (.int (2 : Int32)), .val (.ref b168), .val (.ref b169), .val (.ref b168)] [(.int (1 : Int32)), (.ref b168)])) (fun _ kk_ => XS.iload X173.here hx rfl (hb hby at_93) rfl (XS.icmpYes X173.here hx rfl (pc0 := 95) (pc' := 100) rfl (hb hby at_95) rfl (teq rfl).1 (by decide) (by decide) (XS.iload X173.here hx rfl (hb hby at_100) rfl (XS.iconst X173.here hx rfl (hb hby at_102) (XS.icmpNo X173.here hx rfl (hb hby at_103) rfl (tlt (by decide)).2.2.2 (XS.aload X173.here hx rfl (hb hby at_106) rfl rfl (XS.iconst X173.here hx rfl (hb hby at_108) kk_))))))) ?_
      obtain ⟨cq174, kq174, q174a, q174b, q174c⟩ := isOf hZ169 e173 (Es168.keep K169)
      obtain ⟨_, _, ⟨T174, L174, k174, n174⟩, -, X174, ⟨Lc174, hQ174, l174, y174, z174⟩, st174⟩ := X173.virtualBack hx (y := (⟨"java/lang/String", "charAt", "(I)C"⟩ : MethodName)) (z := (⟨"java/lang/String", "charAt", "(I)C"⟩ : MethodName)) hown169 (mvT hZ169 (w_77 hw)) (mvT hZ169 (w_78 hw)) (notFace_of_selects (args := #[]) (mvT hZ169 (w_80 hw))) (mvT hZ169 (w_80 hw)) (mvT hZ169 (w_79 hw)) (by decide) (backOf (W := 0) (rmCA1 l Z a0 hw [] b168 ba168 kb168 (4 : Int32) [u1, u2] (1 : Int32) 1 u2 i_COMPACT_STRINGS v_SIOOBE_FORMATTER T169.heap n0 O169 (Es168.keep K169) (Fv168.keep K169 nin0) (Fc168.keep K169 nin0) (Vs168.keep K169 nin0) rfl (Nat.le_of_ble_eq_true rfl) (by decide) rfl hnu2 hS) hZ169 (w_81 hw) (w_7 hw) (by decide) (by decide)) q174a q174c (g := (mkF m 109 #[.val (.int n1), .val (.int n2), .val (.int n3), .val (.int n4), .val (.int u1), .val (.int u2), .val (.int u3), .val (.int (2 : Int32)), .val (.ref b168), .val (.ref b169), .val (.ref b168)] [(.int (1 : Int32)), (.ref b168)])) rfl (by rw [hml]; rfl) (Steps.refl _) (argsL := [(.int (1 : Int32))]) (rest := []) (lenOf pd_22 rfl) rfl (by show 2 * 0 + _ ≤ _; exact Nat.le_of_eq rfl) (hb hby at_109) (fun _ _ => ⟨rfl, e173, (by decide : 7 + 0 ≤ _), (by decide : 58 + 0 ≤ _)⟩)
      dsimp only [Pt.U, Pt.locs, Pt.cells, Pt.slots] at X174 l174 y174 z174 st174 hQ174
      subst l174 y174 z174
      obtain ⟨rfl, Nq174, e174⟩ := hQ174
      have N174 := Fr.app N173 Nq174
      refine OWH.tr (B := T174.setTop (mkF m 112 #[.val (.int n1), .val (.int n2), .val (.int n3), .val (.int n4), .val (.int u1), .val (.int u2), .val (.int u3), .val (.int (2 : Int32)), .val (.ref b168), .val (.ref b169), .val (.ref b168)] [(.int u2)])) (st174) ?_
      refine OWH.st (B := T174.setTop (mkF m 142 #[.val (.int n1), .val (.int n2), .val (.int n3), .val (.int n4), .val (.int u1), .val (.int u2), .val (.int u3), .val (.int (2 : Int32)), .val (.ref b168), .val (.ref b169), .val (.ref b168)] [(.ref b168), (.ref b168)])) (fun _ kk_ => XS.iload X174.here hx rfl (hb hby at_112) rfl (XS.icmpYes X174.here hx rfl (pc0 := 114) (pc' := 119) rfl (hb hby at_114) rfl (teq rfl).1 (by decide) (by decide) (XS.iload X174.here hx rfl (hb hby at_119) rfl (XS.iconst X174.here hx rfl (hb hby at_121) (XS.icmpYes X174.here hx rfl (pc0 := 122) (pc' := 138) rfl (hb hby at_122) rfl (flt (by decide)).2.2.2 (by decide) (by decide) (XS.aload X174.here hx rfl (hb hby at_138) rfl rfl (XS.aload X174.here hx rfl (hb hby at_140) rfl rfl kk_))))))) ?_
      obtain ⟨cq175, kq175, q175a, q175b, q175c⟩ := isOf hZ169 e174 (Es168.keep K169)
      obtain ⟨_, _, ⟨T175, L175, k175, n175⟩, -, X175, ⟨Lc175, hQ175, l175, y175, z175⟩, st175⟩ := X174.virtualBack hx (y := (⟨"java/lang/String", "equals", "(Ljava/lang/Object;)Z"⟩ : MethodName)) (z := (⟨"java/lang/String", "equals", "(Ljava/lang/Object;)Z"⟩ : MethodName)) hown169 (mvT hZ169 (w_99 hw)) (mvT hZ169 (w_100 hw)) (notFace_of_selects (args := #[]) (mvT hZ169 (w_102 hw))) (mvT hZ169 (w_102 hw)) (mvT hZ169 (w_101 hw)) (by decide) (backOf (W := 0) (rmEQ l Z a0 hw [] b168 T169.heap n0 O169 ) hZ169 (w_103 hw) (w_7 hw) (by decide) (by decide)) q175a q175c (g := (mkF m 142 #[.val (.int n1), .val (.int n2), .val (.int n3), .val (.int n4), .val (.int u1), .val (.int u2), .val (.int u3), .val (.int (2 : Int32)), .val (.ref b168), .val (.ref b169), .val (.ref b168)] [(.ref b168), (.ref b168)])) rfl (by rw [hml]; rfl) (Steps.refl _) (argsL := [(.ref b168)]) (rest := []) (lenOf pd_21 rfl) rfl (by show 2 * 0 + _ ≤ _; exact Nat.le_of_eq rfl) (hb hby at_142) (fun _ _ => ⟨rfl, e174, (by decide : 7 + 0 ≤ _), (by decide : 58 + 0 ≤ _)⟩)
      dsimp only [Pt.U, Pt.locs, Pt.cells, Pt.slots] at X175 l175 y175 z175 st175 hQ175
      subst l175 y175 z175
      obtain ⟨rfl, Nq175, e175⟩ := hQ175
      have N175 := Fr.app N174 Nq175
      refine OWH.tr (B := T175.setTop (mkF m 145 #[.val (.int n1), .val (.int n2), .val (.int n3), .val (.int n4), .val (.int u1), .val (.int u2), .val (.int u3), .val (.int (2 : Int32)), .val (.ref b168), .val (.ref b169), .val (.ref b168)] [(.int (1 : Int32))])) (st175) ?_
      exact OWH.ret X175 (s := s) (vm0 := T169.vm) hS169 hk169 hx hlk CR169 hZ169 (own_EW hw) (i := .ireturn) Bd.returns rfl (Or.inl ⟨rfl, Or.inr (Or.inl rfl), _, rfl⟩) (hb hby at_145) e175 (by decide) (by decide) ⟨rfl, N175⟩
    · refine OWH.st (B := s₁.setTop (mkF m 34 #[.val (.int n1), .val (.int n2), .val (.int n3), .val (.int n4), .val (.int u1), .val (.int u2), .val (.int u3), .val (.int (2 : Int32)), .unset, .unset, .unset] [(.int u3), (.int u2), (.int u1), (.int (2 : Int32))])) (fun _ kk_ => XS.iload X0.here hx rfl (hb hby at_26) rfl (XS.iload X0.here hx rfl (hb hby at_28) rfl (XS.iload X0.here hx rfl (hb hby at_30) rfl (XS.iload X0.here hx rfl (hb hby at_32) rfl kk_)))) ?_
      obtain ⟨_, _, ⟨T176, L176, k176, n176⟩, -, X176, ⟨Lc176, hQ176, l176, y176, z176⟩, st176⟩ := Jvm.LawKit.callS X0 hx (y := (⟨"com/example/cartulary/cartulary/entity/AttachmentValueOfStringPinLaw", "make", "(ICCC)Ljava/lang/String;"⟩ : MethodName)) hown (mvT hZ (w_1 hw)) (mvT hZ (w_2 hw)) (mvT hZ (w_3 hw)) (mvT hZ (w_4 hw)) (by decide) (backOf (W := 0) (rmMK20 l Z a0 hw [] u1 u2 u3 i_COMPACT_STRINGS v_SIOOBE_FORMATTER h0 n0 O0 hnu1 hnu2 hnu3 hl167_0 hl167_1 hS) hZ (w_4 hw) (w_3 hw) (by decide) (by decide)) (g := (mkF m 34 #[.val (.int n1), .val (.int n2), .val (.int n3), .val (.int n4), .val (.int u1), .val (.int u2), .val (.int u3), .val (.int (2 : Int32)), .unset, .unset, .unset] [(.int u3), (.int u2), (.int u1), (.int (2 : Int32))])) rfl (by rw [hml]; rfl) (argsL := [(.int (2 : Int32)), (.int u1), (.int u2), (.int u3)]) (rest := []) (lenOf pd_17 rfl) rfl (by show 2 * 0 + _ ≤ _; exact Nat.le_of_eq rfl) (hb hby at_34) (fun _ _ => ⟨rfl, e0, (by decide : 0 + 3 ≤ _), (by decide : 0 + 16 ≤ _)⟩)
      dsimp only [Pt.U, Pt.locs, Pt.cells, Pt.slots] at X176 l176 y176 z176 st176 hQ176
      subst l176 y176 z176
      obtain ⟨b176, ba176, kb176, rfl, Nq176, K176, gb176, Es176, Fv176, Fc176, Vs176⟩ := hQ176
      have N176 := Fr.app N0 Nq176
      have O176 : Old Z n0 T176.heap := O0.keep K176 all0
      have CS176 : CHr Z consts_1 s.vm h0 s.vm T176.heap := CHr.keep K176 all0 CR0.1
      have CR176 := CHr.trans CR0 CS176
      refine OWH.st (B := T176.setTop (mkF m 41 #[.val (.int n1), .val (.int n2), .val (.int n3), .val (.int n4), .val (.int u1), .val (.int u2), .val (.int u3), .val (.int (2 : Int32)), .val (.ref b176), .unset, .unset] [(.ref b176)])) (fun _ kk_ => st176 _ (XS.astore X176.here hx rfl (hb hby at_37) rfl rfl (l' := #[.val (.int n1), .val (.int n2), .val (.int n3), .val (.int n4), .val (.int u1), .val (.int u2), .val (.int u3), .val (.int (2 : Int32)), .val (.ref b176), .unset, .unset]) rfl (XS.aload X176.here hx rfl (hb hby at_39) rfl rfl kk_))) ?_
      obtain ⟨_, _, ⟨T177, L177, k177, n177⟩, -, X177, hs177, hsz177, ⟨Lc177, hQ177, l177, y177, z177, CQ177⟩, st177⟩ := callSS X176 hx (y := (⟨"com/example/cartulary/cartulary/entity/AttachmentValue", "ofString", "(Ljava/lang/String;)Lcom/example/cartulary/cartulary/entity/AttachmentValue;"⟩ : MethodName)) hown (mvT hZ (w_35 hw)) (mvT hZ (w_36 hw)) (mvT hZ (w_37 hw)) (mvT hZ (w_38 hw)) (by decide) (backOfSH (W := 0) (rmOF l Z a0 hw [] b176 T176.heap n0 O176 Es176) hZ (w_38 hw) (w_37 hw) (by decide) (by decide) (own_EW hw) CR176.1) (g := (mkF m 41 #[.val (.int n1), .val (.int n2), .val (.int n3), .val (.int n4), .val (.int u1), .val (.int u2), .val (.int u3), .val (.int (2 : Int32)), .val (.ref b176), .unset, .unset] [(.ref b176)])) rfl (by rw [hml]; rfl) (argsL := [(.ref b176)]) (rest := []) (lenOf pd_18 rfl) rfl (by show 2 * 0 + _ ≤ _; exact Nat.le_of_eq rfl) (hb hby at_41) (fun _ _ => ⟨rfl, rfl, (by decide : 3 + 3 ≤ _), (by decide : 16 + 22 ≤ _)⟩)
      dsimp only [Pt.U, Pt.locs, Pt.cells, Pt.slots] at hs177 hsz177
      have hS177 := foldS hS0 (Nat.le_trans hk0 K176.1) hs177 hsz177
      have hZ177 : Z.Warmed39 (s.setVm T177.vm).vm := State.Warmed39.trans (t := s) hZ hs177.1
      have hown177 : (s.setVm T177.vm).vm.findClass "com/example/cartulary/cartulary/entity/AttachmentValueOfStringPinLaw" = some m.cls := by rw [show (s.setVm T177.vm).vm = T177.vm from rfl, hs177.1.alike.findClass]; exact hown
      dsimp only [Pt.U, Pt.locs, Pt.cells, Pt.slots] at X177 l177 y177 z177 st177 hQ177 CQ177
      subst l177 y177 z177
      obtain ⟨b177, rfl, Nq177, K177, gb177, Eb177, Ft177, Fu177⟩ := hQ177
      have N177 := Fr.app N176 Nq177
      have O177 : Old Z n0 T177.heap := O176.keep K177 all0
      have CS177 : CHr Z consts_1 s.vm T176.heap T177.vm T177.heap := CQ177
      have CR177 := CHr.trans CR176 CS177
      have hk177 : T177.heap.size ≤ T177.heap.size := Nat.le_of_eq (by rfl)
      refine OWH.tr (B := T177.setTop (mkF m 44 #[.val (.int n1), .val (.int n2), .val (.int n3), .val (.int n4), .val (.int u1), .val (.int u2), .val (.int u3), .val (.int (2 : Int32)), .val (.ref b176), .unset, .unset] [(.ref b177)])) (st177) ?_
      refine OWH.st (B := T177.setTop (mkF m 48 #[.val (.int n1), .val (.int n2), .val (.int n3), .val (.int n4), .val (.int u1), .val (.int u2), .val (.int u3), .val (.int (2 : Int32)), .val (.ref b176), .val (.ref b177), .unset] [(.ref b177)])) (fun _ kk_ => XS.astore X177.here hx rfl (hb hby at_44) rfl rfl (l' := #[.val (.int n1), .val (.int n2), .val (.int n3), .val (.int n4), .val (.int u1), .val (.int u2), .val (.int u3), .val (.int (2 : Int32)), .val (.ref b176), .val (.ref b177), .unset]) rfl (XS.aload X177.here hx rfl (hb hby at_46) rfl rfl kk_)) ?_
      obtain ⟨cq178, kq178, q178a, q178b, q178c⟩ := isOf hZ177 rfl Eb177
      obtain ⟨_, _, ⟨T178, L178, k178, n178⟩, -, X178, ⟨Lc178, hQ178, l178, y178, z178⟩, st178⟩ := X177.virtualBack hx (y := (⟨"com/example/cartulary/cartulary/entity/AttachmentValue", "isUri", "()Z"⟩ : MethodName)) (z := (⟨"com/example/cartulary/cartulary/entity/AttachmentValue", "isUri", "()Z"⟩ : MethodName)) hown177 (mvT hZ177 (w_57 hw)) (mvT hZ177 (w_58 hw)) (notFace_of_selects (args := #[]) (mvT hZ177 (w_60 hw))) (mvT hZ177 (w_60 hw)) (mvT hZ177 (w_59 hw)) (by decide) (backOf (W := 0) (rmIU l Z a0 hw [] b177 T177.heap n0 O177 Fu177) hZ177 (w_61 hw) (w_37 hw) (by decide) (by decide)) q178a q178c (g := (mkF m 48 #[.val (.int n1), .val (.int n2), .val (.int n3), .val (.int n4), .val (.int u1), .val (.int u2), .val (.int u3), .val (.int (2 : Int32)), .val (.ref b176), .val (.ref b177), .unset] [(.ref b177)])) rfl (by rw [hml]; rfl) (Steps.refl _) (argsL := []) (rest := []) (lenOf pd_11 rfl) rfl (by show 2 * 0 + _ ≤ _; exact Nat.le_of_eq rfl) (hb hby at_48) (fun _ _ => ⟨rfl, rfl, (by decide : 6 + 0 ≤ _), (by decide : 38 + 0 ≤ _)⟩)
      dsimp only [Pt.U, Pt.locs, Pt.cells, Pt.slots] at X178 l178 y178 z178 st178 hQ178
      subst l178 y178 z178
      obtain ⟨rfl, Nq178, e178⟩ := hQ178
      have N178 := Fr.app N177 Nq178
      refine OWH.tr (B := T178.setTop (mkF m 51 #[.val (.int n1), .val (.int n2), .val (.int n3), .val (.int n4), .val (.int u1), .val (.int u2), .val (.int u3), .val (.int (2 : Int32)), .val (.ref b176), .val (.ref b177), .unset] [(.int (0 : Int32))])) (st178) ?_
      refine OWH.st (B := T178.setTop (mkF m 58 #[.val (.int n1), .val (.int n2), .val (.int n3), .val (.int n4), .val (.int u1), .val (.int u2), .val (.int u3), .val (.int (2 : Int32)), .val (.ref b176), .val (.ref b177), .unset] [(.ref b177)])) (fun _ kk_ => XS.ifYes X178.here hx rfl (pc0 := 51) (pc' := 56) rfl (hb hby at_51) rfl ((if0 _ _).trans (teq (by decide)).1) (by decide) (by decide) (XS.aload X178.here hx rfl (hb hby at_56) rfl rfl kk_)) ?_
      obtain ⟨cq179, kq179, q179a, q179b, q179c⟩ := isOf hZ177 e178 Eb177
      obtain ⟨_, _, ⟨T179, L179, k179, n179⟩, -, X179, ⟨Lc179, hQ179, l179, y179, z179⟩, st179⟩ := X178.virtualBack hx (y := (⟨"com/example/cartulary/cartulary/entity/AttachmentValue", "getText", "()Ljava/lang/String;"⟩ : MethodName)) (z := (⟨"com/example/cartulary/cartulary/entity/AttachmentValue", "getText", "()Ljava/lang/String;"⟩ : MethodName)) hown177 (mvT hZ177 (w_62 hw)) (mvT hZ177 (w_63 hw)) (notFace_of_selects (args := #[]) (mvT hZ177 (w_65 hw))) (mvT hZ177 (w_65 hw)) (mvT hZ177 (w_64 hw)) (by decide) (backOf (W := 0) (rmGT l Z a0 hw [] b177 b176 T177.heap n0 O177 Ft177) hZ177 (w_66 hw) (w_37 hw) (by decide) (by decide)) q179a q179c (g := (mkF m 58 #[.val (.int n1), .val (.int n2), .val (.int n3), .val (.int n4), .val (.int u1), .val (.int u2), .val (.int u3), .val (.int (2 : Int32)), .val (.ref b176), .val (.ref b177), .unset] [(.ref b177)])) rfl (by rw [hml]; rfl) (Steps.refl _) (argsL := []) (rest := []) (lenOf pd_19 rfl) rfl (by show 2 * 0 + _ ≤ _; exact Nat.le_of_eq rfl) (hb hby at_58) (fun _ _ => ⟨rfl, e178, (by decide : 6 + 0 ≤ _), (by decide : 38 + 0 ≤ _)⟩)
      dsimp only [Pt.U, Pt.locs, Pt.cells, Pt.slots] at X179 l179 y179 z179 st179 hQ179
      subst l179 y179 z179
      obtain ⟨rfl, Nq179, e179⟩ := hQ179
      have N179 := Fr.app N178 Nq179
      refine OWH.tr (B := T179.setTop (mkF m 61 #[.val (.int n1), .val (.int n2), .val (.int n3), .val (.int n4), .val (.int u1), .val (.int u2), .val (.int u3), .val (.int (2 : Int32)), .val (.ref b176), .val (.ref b177), .unset] [(.ref b176)])) (st179) ?_
      refine OWH.st (B := T179.setTop (mkF m 72 #[.val (.int n1), .val (.int n2), .val (.int n3), .val (.int n4), .val (.int u1), .val (.int u2), .val (.int u3), .val (.int (2 : Int32)), .val (.ref b176), .val (.ref b177), .val (.ref b176)] [(.ref b176)])) (fun _ kk_ => XS.astore X179.here hx rfl (hb hby at_61) rfl rfl (l' := #[.val (.int n1), .val (.int n2), .val (.int n3), .val (.int n4), .val (.int u1), .val (.int u2), .val (.int u3), .val (.int (2 : Int32)), .val (.ref b176), .val (.ref b177), .val (.ref b176)]) rfl (XS.aload X179.here hx rfl (hb hby at_63) rfl rfl (XS.ifnonnullYes X179.here hx rfl (pc0 := 65) (pc' := 70) rfl (hb hby at_65) rfl (by decide) (by decide) (XS.aload X179.here hx rfl (hb hby at_70) rfl rfl kk_)))) ?_
      obtain ⟨cq180, kq180, q180a, q180b, q180c⟩ := isOf hZ177 e179 (Es176.keep K177)
      obtain ⟨_, _, ⟨T180, L180, k180, n180⟩, -, X180, ⟨Lc180, hQ180, l180, y180, z180⟩, st180⟩ := X179.virtualBack hx (y := (⟨"java/lang/String", "length", "()I"⟩ : MethodName)) (z := (⟨"java/lang/String", "length", "()I"⟩ : MethodName)) hown177 (mvT hZ177 (w_67 hw)) (mvT hZ177 (w_68 hw)) (notFace_of_selects (args := #[]) (mvT hZ177 (w_70 hw))) (mvT hZ177 (w_70 hw)) (mvT hZ177 (w_69 hw)) (by decide) (backOf (W := 0) (rmLE0 l Z a0 hw [] b176 ba176 kb176 (2 : Int32) [u1, u2] (2 : Int32) i_COMPACT_STRINGS v_SIOOBE_FORMATTER T177.heap n0 O177 (Es176.keep K177) (Fv176.keep K177 nin0) (Fc176.keep K177 nin0) (Vs176.keep K177 nin0) (by decide) hS) hZ177 (w_71 hw) (w_7 hw) (by decide) (by decide)) q180a q180c (g := (mkF m 72 #[.val (.int n1), .val (.int n2), .val (.int n3), .val (.int n4), .val (.int u1), .val (.int u2), .val (.int u3), .val (.int (2 : Int32)), .val (.ref b176), .val (.ref b177), .val (.ref b176)] [(.ref b176)])) rfl (by rw [hml]; rfl) (Steps.refl _) (argsL := []) (rest := []) (lenOf pd_20 rfl) rfl (by show 2 * 0 + _ ≤ _; exact Nat.le_of_eq rfl) (hb hby at_72) (fun _ _ => ⟨rfl, e179, (by decide : 6 + 0 ≤ _), (by decide : 38 + 0 ≤ _)⟩)
      dsimp only [Pt.U, Pt.locs, Pt.cells, Pt.slots] at X180 l180 y180 z180 st180 hQ180
      subst l180 y180 z180
      obtain ⟨rfl, Nq180, e180⟩ := hQ180
      have N180 := Fr.app N179 Nq180
      refine OWH.tr (B := T180.setTop (mkF m 75 #[.val (.int n1), .val (.int n2), .val (.int n3), .val (.int n4), .val (.int u1), .val (.int u2), .val (.int u3), .val (.int (2 : Int32)), .val (.ref b176), .val (.ref b177), .val (.ref b176)] [(.int (2 : Int32))])) (st180) ?_
      refine OWH.st (B := T180.setTop (mkF m 90 #[.val (.int n1), .val (.int n2), .val (.int n3), .val (.int n4), .val (.int u1), .val (.int u2), .val (.int u3), .val (.int (2 : Int32)), .val (.ref b176), .val (.ref b177), .val (.ref b176)] [(.int (0 : Int32)), (.ref b176)])) (fun _ kk_ => XS.iload X180.here hx rfl (hb hby at_75) rfl (XS.icmpYes X180.here hx rfl (pc0 := 77) (pc' := 82) rfl (hb hby at_77) rfl (teq (by decide)).1 (by decide) (by decide) (XS.iload X180.here hx rfl (hb hby at_82) rfl (XS.ifNo X180.here hx rfl (hb hby at_84) rfl ((if0 _ _).trans (tlt (by decide)).2.2.2) (XS.aload X180.here hx rfl (hb hby at_87) rfl rfl (XS.iconst X180.here hx rfl (hb hby at_89) kk_)))))) ?_
      obtain ⟨cq181, kq181, q181a, q181b, q181c⟩ := isOf hZ177 e180 (Es176.keep K177)
      obtain ⟨_, _, ⟨T181, L181, k181, n181⟩, -, X181, ⟨Lc181, hQ181, l181, y181, z181⟩, st181⟩ := X180.virtualBack hx (y := (⟨"java/lang/String", "charAt", "(I)C"⟩ : MethodName)) (z := (⟨"java/lang/String", "charAt", "(I)C"⟩ : MethodName)) hown177 (mvT hZ177 (w_77 hw)) (mvT hZ177 (w_78 hw)) (notFace_of_selects (args := #[]) (mvT hZ177 (w_80 hw))) (mvT hZ177 (w_80 hw)) (mvT hZ177 (w_79 hw)) (by decide) (backOf (W := 0) (rmCA0 l Z a0 hw [] b176 ba176 kb176 (2 : Int32) [u1, u2] (0 : Int32) 0 u1 i_COMPACT_STRINGS v_SIOOBE_FORMATTER T177.heap n0 O177 (Es176.keep K177) (Fv176.keep K177 nin0) (Fc176.keep K177 nin0) (Vs176.keep K177 nin0) rfl (Nat.le_of_ble_eq_true rfl) (by decide) rfl hnu1 hl167_0 hS) hZ177 (w_81 hw) (w_7 hw) (by decide) (by decide)) q181a q181c (g := (mkF m 90 #[.val (.int n1), .val (.int n2), .val (.int n3), .val (.int n4), .val (.int u1), .val (.int u2), .val (.int u3), .val (.int (2 : Int32)), .val (.ref b176), .val (.ref b177), .val (.ref b176)] [(.int (0 : Int32)), (.ref b176)])) rfl (by rw [hml]; rfl) (Steps.refl _) (argsL := [(.int (0 : Int32))]) (rest := []) (lenOf pd_22 rfl) rfl (by show 2 * 0 + _ ≤ _; exact Nat.le_of_eq rfl) (hb hby at_90) (fun _ _ => ⟨rfl, e180, (by decide : 6 + 0 ≤ _), (by decide : 38 + 0 ≤ _)⟩)
      dsimp only [Pt.U, Pt.locs, Pt.cells, Pt.slots] at X181 l181 y181 z181 st181 hQ181
      subst l181 y181 z181
      obtain ⟨rfl, Nq181, e181⟩ := hQ181
      have N181 := Fr.app N180 Nq181
      refine OWH.tr (B := T181.setTop (mkF m 93 #[.val (.int n1), .val (.int n2), .val (.int n3), .val (.int n4), .val (.int u1), .val (.int u2), .val (.int u3), .val (.int (2 : Int32)), .val (.ref b176), .val (.ref b177), .val (.ref b176)] [(.int u1)])) (st181) ?_
      refine OWH.st (B := T181.setTop (mkF m 109 #[.val (.int n1), .val (.int n2), .val (.int n3), .val (.int n4), .val (.int u1), .val (.int u2), .val (.int u3), .val (.int (2 : Int32)), .val (.ref b176), .val (.ref b177), .val (.ref b176)] [(.int (1 : Int32)), (.ref b176)])) (fun _ kk_ => XS.iload X181.here hx rfl (hb hby at_93) rfl (XS.icmpYes X181.here hx rfl (pc0 := 95) (pc' := 100) rfl (hb hby at_95) rfl (teq rfl).1 (by decide) (by decide) (XS.iload X181.here hx rfl (hb hby at_100) rfl (XS.iconst X181.here hx rfl (hb hby at_102) (XS.icmpNo X181.here hx rfl (hb hby at_103) rfl (tlt (by decide)).2.2.2 (XS.aload X181.here hx rfl (hb hby at_106) rfl rfl (XS.iconst X181.here hx rfl (hb hby at_108) kk_))))))) ?_
      obtain ⟨cq182, kq182, q182a, q182b, q182c⟩ := isOf hZ177 e181 (Es176.keep K177)
      obtain ⟨_, _, ⟨T182, L182, k182, n182⟩, -, X182, ⟨Lc182, hQ182, l182, y182, z182⟩, st182⟩ := X181.virtualBack hx (y := (⟨"java/lang/String", "charAt", "(I)C"⟩ : MethodName)) (z := (⟨"java/lang/String", "charAt", "(I)C"⟩ : MethodName)) hown177 (mvT hZ177 (w_77 hw)) (mvT hZ177 (w_78 hw)) (notFace_of_selects (args := #[]) (mvT hZ177 (w_80 hw))) (mvT hZ177 (w_80 hw)) (mvT hZ177 (w_79 hw)) (by decide) (backOf (W := 0) (rmCA0 l Z a0 hw [] b176 ba176 kb176 (2 : Int32) [u1, u2] (1 : Int32) 1 u2 i_COMPACT_STRINGS v_SIOOBE_FORMATTER T177.heap n0 O177 (Es176.keep K177) (Fv176.keep K177 nin0) (Fc176.keep K177 nin0) (Vs176.keep K177 nin0) rfl (Nat.le_of_ble_eq_true rfl) (by decide) rfl hnu2 hl167_1 hS) hZ177 (w_81 hw) (w_7 hw) (by decide) (by decide)) q182a q182c (g := (mkF m 109 #[.val (.int n1), .val (.int n2), .val (.int n3), .val (.int n4), .val (.int u1), .val (.int u2), .val (.int u3), .val (.int (2 : Int32)), .val (.ref b176), .val (.ref b177), .val (.ref b176)] [(.int (1 : Int32)), (.ref b176)])) rfl (by rw [hml]; rfl) (Steps.refl _) (argsL := [(.int (1 : Int32))]) (rest := []) (lenOf pd_22 rfl) rfl (by show 2 * 0 + _ ≤ _; exact Nat.le_of_eq rfl) (hb hby at_109) (fun _ _ => ⟨rfl, e181, (by decide : 6 + 0 ≤ _), (by decide : 38 + 0 ≤ _)⟩)
      dsimp only [Pt.U, Pt.locs, Pt.cells, Pt.slots] at X182 l182 y182 z182 st182 hQ182
      subst l182 y182 z182
      obtain ⟨rfl, Nq182, e182⟩ := hQ182
      have N182 := Fr.app N181 Nq182
      refine OWH.tr (B := T182.setTop (mkF m 112 #[.val (.int n1), .val (.int n2), .val (.int n3), .val (.int n4), .val (.int u1), .val (.int u2), .val (.int u3), .val (.int (2 : Int32)), .val (.ref b176), .val (.ref b177), .val (.ref b176)] [(.int u2)])) (st182) ?_
      refine OWH.st (B := T182.setTop (mkF m 142 #[.val (.int n1), .val (.int n2), .val (.int n3), .val (.int n4), .val (.int u1), .val (.int u2), .val (.int u3), .val (.int (2 : Int32)), .val (.ref b176), .val (.ref b177), .val (.ref b176)] [(.ref b176), (.ref b176)])) (fun _ kk_ => XS.iload X182.here hx rfl (hb hby at_112) rfl (XS.icmpYes X182.here hx rfl (pc0 := 114) (pc' := 119) rfl (hb hby at_114) rfl (teq rfl).1 (by decide) (by decide) (XS.iload X182.here hx rfl (hb hby at_119) rfl (XS.iconst X182.here hx rfl (hb hby at_121) (XS.icmpYes X182.here hx rfl (pc0 := 122) (pc' := 138) rfl (hb hby at_122) rfl (flt (by decide)).2.2.2 (by decide) (by decide) (XS.aload X182.here hx rfl (hb hby at_138) rfl rfl (XS.aload X182.here hx rfl (hb hby at_140) rfl rfl kk_))))))) ?_
      obtain ⟨cq183, kq183, q183a, q183b, q183c⟩ := isOf hZ177 e182 (Es176.keep K177)
      obtain ⟨_, _, ⟨T183, L183, k183, n183⟩, -, X183, ⟨Lc183, hQ183, l183, y183, z183⟩, st183⟩ := X182.virtualBack hx (y := (⟨"java/lang/String", "equals", "(Ljava/lang/Object;)Z"⟩ : MethodName)) (z := (⟨"java/lang/String", "equals", "(Ljava/lang/Object;)Z"⟩ : MethodName)) hown177 (mvT hZ177 (w_99 hw)) (mvT hZ177 (w_100 hw)) (notFace_of_selects (args := #[]) (mvT hZ177 (w_102 hw))) (mvT hZ177 (w_102 hw)) (mvT hZ177 (w_101 hw)) (by decide) (backOf (W := 0) (rmEQ l Z a0 hw [] b176 T177.heap n0 O177 ) hZ177 (w_103 hw) (w_7 hw) (by decide) (by decide)) q183a q183c (g := (mkF m 142 #[.val (.int n1), .val (.int n2), .val (.int n3), .val (.int n4), .val (.int u1), .val (.int u2), .val (.int u3), .val (.int (2 : Int32)), .val (.ref b176), .val (.ref b177), .val (.ref b176)] [(.ref b176), (.ref b176)])) rfl (by rw [hml]; rfl) (Steps.refl _) (argsL := [(.ref b176)]) (rest := []) (lenOf pd_21 rfl) rfl (by show 2 * 0 + _ ≤ _; exact Nat.le_of_eq rfl) (hb hby at_142) (fun _ _ => ⟨rfl, e182, (by decide : 6 + 0 ≤ _), (by decide : 38 + 0 ≤ _)⟩)
      dsimp only [Pt.U, Pt.locs, Pt.cells, Pt.slots] at X183 l183 y183 z183 st183 hQ183
      subst l183 y183 z183
      obtain ⟨rfl, Nq183, e183⟩ := hQ183
      have N183 := Fr.app N182 Nq183
      refine OWH.tr (B := T183.setTop (mkF m 145 #[.val (.int n1), .val (.int n2), .val (.int n3), .val (.int n4), .val (.int u1), .val (.int u2), .val (.int u3), .val (.int (2 : Int32)), .val (.ref b176), .val (.ref b177), .val (.ref b176)] [(.int (1 : Int32))])) (st183) ?_
      exact OWH.ret X183 (s := s) (vm0 := T177.vm) hS177 hk177 hx hlk CR177 hZ177 (own_EW hw) (i := .ireturn) Bd.returns rfl (Or.inl ⟨rfl, Or.inr (Or.inl rfl), _, rfl⟩) (hb hby at_145) e183 (by decide) (by decide) ⟨rfl, N183⟩
  · rcases own_lu3 u1 u2 u3 with hu184 | ⟨hl184_0, hl184_1, hl184_2⟩
    · refine OWH.st (B := s₁.setTop (mkF m 34 #[.val (.int n1), .val (.int n2), .val (.int n3), .val (.int n4), .val (.int u1), .val (.int u2), .val (.int u3), .val (.int (3 : Int32)), .unset, .unset, .unset] [(.int u3), (.int u2), (.int u1), (.int (3 : Int32))])) (fun _ kk_ => XS.iload X0.here hx rfl (hb hby at_26) rfl (XS.iload X0.here hx rfl (hb hby at_28) rfl (XS.iload X0.here hx rfl (hb hby at_30) rfl (XS.iload X0.here hx rfl (hb hby at_32) rfl kk_)))) ?_
      obtain ⟨_, _, ⟨T185, L185, k185, n185⟩, -, X185, ⟨Lc185, hQ185, l185, y185, z185⟩, st185⟩ := Jvm.LawKit.callS X0 hx (y := (⟨"com/example/cartulary/cartulary/entity/AttachmentValueOfStringPinLaw", "make", "(ICCC)Ljava/lang/String;"⟩ : MethodName)) hown (mvT hZ (w_1 hw)) (mvT hZ (w_2 hw)) (mvT hZ (w_3 hw)) (mvT hZ (w_4 hw)) (by decide) (backOf (W := 0) (rmMK31 l Z a0 hw [] u1 u2 u3 i_COMPACT_STRINGS v_SIOOBE_FORMATTER h0 n0 O0 hnu1 hnu2 hnu3 hu184 hS) hZ (w_4 hw) (w_3 hw) (by decide) (by decide)) (g := (mkF m 34 #[.val (.int n1), .val (.int n2), .val (.int n3), .val (.int n4), .val (.int u1), .val (.int u2), .val (.int u3), .val (.int (3 : Int32)), .unset, .unset, .unset] [(.int u3), (.int u2), (.int u1), (.int (3 : Int32))])) rfl (by rw [hml]; rfl) (argsL := [(.int (3 : Int32)), (.int u1), (.int u2), (.int u3)]) (rest := []) (lenOf pd_17 rfl) rfl (by show 2 * 0 + _ ≤ _; exact Nat.le_of_eq rfl) (hb hby at_34) (fun _ _ => ⟨rfl, e0, (by decide : 0 + 4 ≤ _), (by decide : 0 + 37 ≤ _)⟩)
      dsimp only [Pt.U, Pt.locs, Pt.cells, Pt.slots] at X185 l185 y185 z185 st185 hQ185
      subst l185 y185 z185
      obtain ⟨b185, ba185, kb185, rfl, Nq185, K185, gb185, Es185, Fv185, Fc185, Vs185⟩ := hQ185
      have N185 := Fr.app N0 Nq185
      have O185 : Old Z n0 T185.heap := O0.keep K185 all0
      have CS185 : CHr Z consts_1 s.vm h0 s.vm T185.heap := CHr.keep K185 all0 CR0.1
      have CR185 := CHr.trans CR0 CS185
      refine OWH.st (B := T185.setTop (mkF m 41 #[.val (.int n1), .val (.int n2), .val (.int n3), .val (.int n4), .val (.int u1), .val (.int u2), .val (.int u3), .val (.int (3 : Int32)), .val (.ref b185), .unset, .unset] [(.ref b185)])) (fun _ kk_ => st185 _ (XS.astore X185.here hx rfl (hb hby at_37) rfl rfl (l' := #[.val (.int n1), .val (.int n2), .val (.int n3), .val (.int n4), .val (.int u1), .val (.int u2), .val (.int u3), .val (.int (3 : Int32)), .val (.ref b185), .unset, .unset]) rfl (XS.aload X185.here hx rfl (hb hby at_39) rfl rfl kk_))) ?_
      obtain ⟨_, _, ⟨T186, L186, k186, n186⟩, -, X186, hs186, hsz186, ⟨Lc186, hQ186, l186, y186, z186, CQ186⟩, st186⟩ := callSS X185 hx (y := (⟨"com/example/cartulary/cartulary/entity/AttachmentValue", "ofString", "(Ljava/lang/String;)Lcom/example/cartulary/cartulary/entity/AttachmentValue;"⟩ : MethodName)) hown (mvT hZ (w_35 hw)) (mvT hZ (w_36 hw)) (mvT hZ (w_37 hw)) (mvT hZ (w_38 hw)) (by decide) (backOfSH (W := 0) (rmOF l Z a0 hw [] b185 T185.heap n0 O185 Es185) hZ (w_38 hw) (w_37 hw) (by decide) (by decide) (own_EW hw) CR185.1) (g := (mkF m 41 #[.val (.int n1), .val (.int n2), .val (.int n3), .val (.int n4), .val (.int u1), .val (.int u2), .val (.int u3), .val (.int (3 : Int32)), .val (.ref b185), .unset, .unset] [(.ref b185)])) rfl (by rw [hml]; rfl) (argsL := [(.ref b185)]) (rest := []) (lenOf pd_18 rfl) rfl (by show 2 * 0 + _ ≤ _; exact Nat.le_of_eq rfl) (hb hby at_41) (fun _ _ => ⟨rfl, rfl, (by decide : 4 + 3 ≤ _), (by decide : 37 + 22 ≤ _)⟩)
      dsimp only [Pt.U, Pt.locs, Pt.cells, Pt.slots] at hs186 hsz186
      have hS186 := foldS hS0 (Nat.le_trans hk0 K185.1) hs186 hsz186
      have hZ186 : Z.Warmed39 (s.setVm T186.vm).vm := State.Warmed39.trans (t := s) hZ hs186.1
      have hown186 : (s.setVm T186.vm).vm.findClass "com/example/cartulary/cartulary/entity/AttachmentValueOfStringPinLaw" = some m.cls := by rw [show (s.setVm T186.vm).vm = T186.vm from rfl, hs186.1.alike.findClass]; exact hown
      dsimp only [Pt.U, Pt.locs, Pt.cells, Pt.slots] at X186 l186 y186 z186 st186 hQ186 CQ186
      subst l186 y186 z186
      obtain ⟨b186, rfl, Nq186, K186, gb186, Eb186, Ft186, Fu186⟩ := hQ186
      have N186 := Fr.app N185 Nq186
      have O186 : Old Z n0 T186.heap := O185.keep K186 all0
      have CS186 : CHr Z consts_1 s.vm T185.heap T186.vm T186.heap := CQ186
      have CR186 := CHr.trans CR185 CS186
      have hk186 : T186.heap.size ≤ T186.heap.size := Nat.le_of_eq (by rfl)
      refine OWH.tr (B := T186.setTop (mkF m 44 #[.val (.int n1), .val (.int n2), .val (.int n3), .val (.int n4), .val (.int u1), .val (.int u2), .val (.int u3), .val (.int (3 : Int32)), .val (.ref b185), .unset, .unset] [(.ref b186)])) (st186) ?_
      refine OWH.st (B := T186.setTop (mkF m 48 #[.val (.int n1), .val (.int n2), .val (.int n3), .val (.int n4), .val (.int u1), .val (.int u2), .val (.int u3), .val (.int (3 : Int32)), .val (.ref b185), .val (.ref b186), .unset] [(.ref b186)])) (fun _ kk_ => XS.astore X186.here hx rfl (hb hby at_44) rfl rfl (l' := #[.val (.int n1), .val (.int n2), .val (.int n3), .val (.int n4), .val (.int u1), .val (.int u2), .val (.int u3), .val (.int (3 : Int32)), .val (.ref b185), .val (.ref b186), .unset]) rfl (XS.aload X186.here hx rfl (hb hby at_46) rfl rfl kk_)) ?_
      obtain ⟨cq187, kq187, q187a, q187b, q187c⟩ := isOf hZ186 rfl Eb186
      obtain ⟨_, _, ⟨T187, L187, k187, n187⟩, -, X187, ⟨Lc187, hQ187, l187, y187, z187⟩, st187⟩ := X186.virtualBack hx (y := (⟨"com/example/cartulary/cartulary/entity/AttachmentValue", "isUri", "()Z"⟩ : MethodName)) (z := (⟨"com/example/cartulary/cartulary/entity/AttachmentValue", "isUri", "()Z"⟩ : MethodName)) hown186 (mvT hZ186 (w_57 hw)) (mvT hZ186 (w_58 hw)) (notFace_of_selects (args := #[]) (mvT hZ186 (w_60 hw))) (mvT hZ186 (w_60 hw)) (mvT hZ186 (w_59 hw)) (by decide) (backOf (W := 0) (rmIU l Z a0 hw [] b186 T186.heap n0 O186 Fu186) hZ186 (w_61 hw) (w_37 hw) (by decide) (by decide)) q187a q187c (g := (mkF m 48 #[.val (.int n1), .val (.int n2), .val (.int n3), .val (.int n4), .val (.int u1), .val (.int u2), .val (.int u3), .val (.int (3 : Int32)), .val (.ref b185), .val (.ref b186), .unset] [(.ref b186)])) rfl (by rw [hml]; rfl) (Steps.refl _) (argsL := []) (rest := []) (lenOf pd_11 rfl) rfl (by show 2 * 0 + _ ≤ _; exact Nat.le_of_eq rfl) (hb hby at_48) (fun _ _ => ⟨rfl, rfl, (by decide : 7 + 0 ≤ _), (by decide : 59 + 0 ≤ _)⟩)
      dsimp only [Pt.U, Pt.locs, Pt.cells, Pt.slots] at X187 l187 y187 z187 st187 hQ187
      subst l187 y187 z187
      obtain ⟨rfl, Nq187, e187⟩ := hQ187
      have N187 := Fr.app N186 Nq187
      refine OWH.tr (B := T187.setTop (mkF m 51 #[.val (.int n1), .val (.int n2), .val (.int n3), .val (.int n4), .val (.int u1), .val (.int u2), .val (.int u3), .val (.int (3 : Int32)), .val (.ref b185), .val (.ref b186), .unset] [(.int (0 : Int32))])) (st187) ?_
      refine OWH.st (B := T187.setTop (mkF m 58 #[.val (.int n1), .val (.int n2), .val (.int n3), .val (.int n4), .val (.int u1), .val (.int u2), .val (.int u3), .val (.int (3 : Int32)), .val (.ref b185), .val (.ref b186), .unset] [(.ref b186)])) (fun _ kk_ => XS.ifYes X187.here hx rfl (pc0 := 51) (pc' := 56) rfl (hb hby at_51) rfl ((if0 _ _).trans (teq (by decide)).1) (by decide) (by decide) (XS.aload X187.here hx rfl (hb hby at_56) rfl rfl kk_)) ?_
      obtain ⟨cq188, kq188, q188a, q188b, q188c⟩ := isOf hZ186 e187 Eb186
      obtain ⟨_, _, ⟨T188, L188, k188, n188⟩, -, X188, ⟨Lc188, hQ188, l188, y188, z188⟩, st188⟩ := X187.virtualBack hx (y := (⟨"com/example/cartulary/cartulary/entity/AttachmentValue", "getText", "()Ljava/lang/String;"⟩ : MethodName)) (z := (⟨"com/example/cartulary/cartulary/entity/AttachmentValue", "getText", "()Ljava/lang/String;"⟩ : MethodName)) hown186 (mvT hZ186 (w_62 hw)) (mvT hZ186 (w_63 hw)) (notFace_of_selects (args := #[]) (mvT hZ186 (w_65 hw))) (mvT hZ186 (w_65 hw)) (mvT hZ186 (w_64 hw)) (by decide) (backOf (W := 0) (rmGT l Z a0 hw [] b186 b185 T186.heap n0 O186 Ft186) hZ186 (w_66 hw) (w_37 hw) (by decide) (by decide)) q188a q188c (g := (mkF m 58 #[.val (.int n1), .val (.int n2), .val (.int n3), .val (.int n4), .val (.int u1), .val (.int u2), .val (.int u3), .val (.int (3 : Int32)), .val (.ref b185), .val (.ref b186), .unset] [(.ref b186)])) rfl (by rw [hml]; rfl) (Steps.refl _) (argsL := []) (rest := []) (lenOf pd_19 rfl) rfl (by show 2 * 0 + _ ≤ _; exact Nat.le_of_eq rfl) (hb hby at_58) (fun _ _ => ⟨rfl, e187, (by decide : 7 + 0 ≤ _), (by decide : 59 + 0 ≤ _)⟩)
      dsimp only [Pt.U, Pt.locs, Pt.cells, Pt.slots] at X188 l188 y188 z188 st188 hQ188
      subst l188 y188 z188
      obtain ⟨rfl, Nq188, e188⟩ := hQ188
      have N188 := Fr.app N187 Nq188
      refine OWH.tr (B := T188.setTop (mkF m 61 #[.val (.int n1), .val (.int n2), .val (.int n3), .val (.int n4), .val (.int u1), .val (.int u2), .val (.int u3), .val (.int (3 : Int32)), .val (.ref b185), .val (.ref b186), .unset] [(.ref b185)])) (st188) ?_
      refine OWH.st (B := T188.setTop (mkF m 72 #[.val (.int n1), .val (.int n2), .val (.int n3), .val (.int n4), .val (.int u1), .val (.int u2), .val (.int u3), .val (.int (3 : Int32)), .val (.ref b185), .val (.ref b186), .val (.ref b185)] [(.ref b185)])) (fun _ kk_ => XS.astore X188.here hx rfl (hb hby at_61) rfl rfl (l' := #[.val (.int n1), .val (.int n2), .val (.int n3), .val (.int n4), .val (.int u1), .val (.int u2), .val (.int u3), .val (.int (3 : Int32)), .val (.ref b185), .val (.ref b186), .val (.ref b185)]) rfl (XS.aload X188.here hx rfl (hb hby at_63) rfl rfl (XS.ifnonnullYes X188.here hx rfl (pc0 := 65) (pc' := 70) rfl (hb hby at_65) rfl (by decide) (by decide) (XS.aload X188.here hx rfl (hb hby at_70) rfl rfl kk_)))) ?_
      obtain ⟨cq189, kq189, q189a, q189b, q189c⟩ := isOf hZ186 e188 (Es185.keep K186)
      obtain ⟨_, _, ⟨T189, L189, k189, n189⟩, -, X189, ⟨Lc189, hQ189, l189, y189, z189⟩, st189⟩ := X188.virtualBack hx (y := (⟨"java/lang/String", "length", "()I"⟩ : MethodName)) (z := (⟨"java/lang/String", "length", "()I"⟩ : MethodName)) hown186 (mvT hZ186 (w_67 hw)) (mvT hZ186 (w_68 hw)) (notFace_of_selects (args := #[]) (mvT hZ186 (w_70 hw))) (mvT hZ186 (w_70 hw)) (mvT hZ186 (w_69 hw)) (by decide) (backOf (W := 0) (rmLE1 l Z a0 hw [] b185 ba185 kb185 (6 : Int32) [u1, u2, u3] (3 : Int32) i_COMPACT_STRINGS v_SIOOBE_FORMATTER T186.heap n0 O186 (Es185.keep K186) (Fv185.keep K186 nin0) (Fc185.keep K186 nin0) (Vs185.keep K186 nin0) (by decide) hS) hZ186 (w_71 hw) (w_7 hw) (by decide) (by decide)) q189a q189c (g := (mkF m 72 #[.val (.int n1), .val (.int n2), .val (.int n3), .val (.int n4), .val (.int u1), .val (.int u2), .val (.int u3), .val (.int (3 : Int32)), .val (.ref b185), .val (.ref b186), .val (.ref b185)] [(.ref b185)])) rfl (by rw [hml]; rfl) (Steps.refl _) (argsL := []) (rest := []) (lenOf pd_20 rfl) rfl (by show 2 * 0 + _ ≤ _; exact Nat.le_of_eq rfl) (hb hby at_72) (fun _ _ => ⟨rfl, e188, (by decide : 7 + 0 ≤ _), (by decide : 59 + 0 ≤ _)⟩)
      dsimp only [Pt.U, Pt.locs, Pt.cells, Pt.slots] at X189 l189 y189 z189 st189 hQ189
      subst l189 y189 z189
      obtain ⟨rfl, Nq189, e189⟩ := hQ189
      have N189 := Fr.app N188 Nq189
      refine OWH.tr (B := T189.setTop (mkF m 75 #[.val (.int n1), .val (.int n2), .val (.int n3), .val (.int n4), .val (.int u1), .val (.int u2), .val (.int u3), .val (.int (3 : Int32)), .val (.ref b185), .val (.ref b186), .val (.ref b185)] [(.int (3 : Int32))])) (st189) ?_
      refine OWH.st (B := T189.setTop (mkF m 90 #[.val (.int n1), .val (.int n2), .val (.int n3), .val (.int n4), .val (.int u1), .val (.int u2), .val (.int u3), .val (.int (3 : Int32)), .val (.ref b185), .val (.ref b186), .val (.ref b185)] [(.int (0 : Int32)), (.ref b185)])) (fun _ kk_ => XS.iload X189.here hx rfl (hb hby at_75) rfl (XS.icmpYes X189.here hx rfl (pc0 := 77) (pc' := 82) rfl (hb hby at_77) rfl (teq (by decide)).1 (by decide) (by decide) (XS.iload X189.here hx rfl (hb hby at_82) rfl (XS.ifNo X189.here hx rfl (hb hby at_84) rfl ((if0 _ _).trans (tlt (by decide)).2.2.2) (XS.aload X189.here hx rfl (hb hby at_87) rfl rfl (XS.iconst X189.here hx rfl (hb hby at_89) kk_)))))) ?_
      obtain ⟨cq190, kq190, q190a, q190b, q190c⟩ := isOf hZ186 e189 (Es185.keep K186)
      obtain ⟨_, _, ⟨T190, L190, k190, n190⟩, -, X190, ⟨Lc190, hQ190, l190, y190, z190⟩, st190⟩ := X189.virtualBack hx (y := (⟨"java/lang/String", "charAt", "(I)C"⟩ : MethodName)) (z := (⟨"java/lang/String", "charAt", "(I)C"⟩ : MethodName)) hown186 (mvT hZ186 (w_77 hw)) (mvT hZ186 (w_78 hw)) (notFace_of_selects (args := #[]) (mvT hZ186 (w_80 hw))) (mvT hZ186 (w_80 hw)) (mvT hZ186 (w_79 hw)) (by decide) (backOf (W := 0) (rmCA1 l Z a0 hw [] b185 ba185 kb185 (6 : Int32) [u1, u2, u3] (0 : Int32) 0 u1 i_COMPACT_STRINGS v_SIOOBE_FORMATTER T186.heap n0 O186 (Es185.keep K186) (Fv185.keep K186 nin0) (Fc185.keep K186 nin0) (Vs185.keep K186 nin0) rfl (Nat.le_of_ble_eq_true rfl) (by decide) rfl hnu1 hS) hZ186 (w_81 hw) (w_7 hw) (by decide) (by decide)) q190a q190c (g := (mkF m 90 #[.val (.int n1), .val (.int n2), .val (.int n3), .val (.int n4), .val (.int u1), .val (.int u2), .val (.int u3), .val (.int (3 : Int32)), .val (.ref b185), .val (.ref b186), .val (.ref b185)] [(.int (0 : Int32)), (.ref b185)])) rfl (by rw [hml]; rfl) (Steps.refl _) (argsL := [(.int (0 : Int32))]) (rest := []) (lenOf pd_22 rfl) rfl (by show 2 * 0 + _ ≤ _; exact Nat.le_of_eq rfl) (hb hby at_90) (fun _ _ => ⟨rfl, e189, (by decide : 7 + 0 ≤ _), (by decide : 59 + 0 ≤ _)⟩)
      dsimp only [Pt.U, Pt.locs, Pt.cells, Pt.slots] at X190 l190 y190 z190 st190 hQ190
      subst l190 y190 z190
      obtain ⟨rfl, Nq190, e190⟩ := hQ190
      have N190 := Fr.app N189 Nq190
      refine OWH.tr (B := T190.setTop (mkF m 93 #[.val (.int n1), .val (.int n2), .val (.int n3), .val (.int n4), .val (.int u1), .val (.int u2), .val (.int u3), .val (.int (3 : Int32)), .val (.ref b185), .val (.ref b186), .val (.ref b185)] [(.int u1)])) (st190) ?_
      refine OWH.st (B := T190.setTop (mkF m 109 #[.val (.int n1), .val (.int n2), .val (.int n3), .val (.int n4), .val (.int u1), .val (.int u2), .val (.int u3), .val (.int (3 : Int32)), .val (.ref b185), .val (.ref b186), .val (.ref b185)] [(.int (1 : Int32)), (.ref b185)])) (fun _ kk_ => XS.iload X190.here hx rfl (hb hby at_93) rfl (XS.icmpYes X190.here hx rfl (pc0 := 95) (pc' := 100) rfl (hb hby at_95) rfl (teq rfl).1 (by decide) (by decide) (XS.iload X190.here hx rfl (hb hby at_100) rfl (XS.iconst X190.here hx rfl (hb hby at_102) (XS.icmpNo X190.here hx rfl (hb hby at_103) rfl (tlt (by decide)).2.2.2 (XS.aload X190.here hx rfl (hb hby at_106) rfl rfl (XS.iconst X190.here hx rfl (hb hby at_108) kk_))))))) ?_
      obtain ⟨cq191, kq191, q191a, q191b, q191c⟩ := isOf hZ186 e190 (Es185.keep K186)
      obtain ⟨_, _, ⟨T191, L191, k191, n191⟩, -, X191, ⟨Lc191, hQ191, l191, y191, z191⟩, st191⟩ := X190.virtualBack hx (y := (⟨"java/lang/String", "charAt", "(I)C"⟩ : MethodName)) (z := (⟨"java/lang/String", "charAt", "(I)C"⟩ : MethodName)) hown186 (mvT hZ186 (w_77 hw)) (mvT hZ186 (w_78 hw)) (notFace_of_selects (args := #[]) (mvT hZ186 (w_80 hw))) (mvT hZ186 (w_80 hw)) (mvT hZ186 (w_79 hw)) (by decide) (backOf (W := 0) (rmCA1 l Z a0 hw [] b185 ba185 kb185 (6 : Int32) [u1, u2, u3] (1 : Int32) 1 u2 i_COMPACT_STRINGS v_SIOOBE_FORMATTER T186.heap n0 O186 (Es185.keep K186) (Fv185.keep K186 nin0) (Fc185.keep K186 nin0) (Vs185.keep K186 nin0) rfl (Nat.le_of_ble_eq_true rfl) (by decide) rfl hnu2 hS) hZ186 (w_81 hw) (w_7 hw) (by decide) (by decide)) q191a q191c (g := (mkF m 109 #[.val (.int n1), .val (.int n2), .val (.int n3), .val (.int n4), .val (.int u1), .val (.int u2), .val (.int u3), .val (.int (3 : Int32)), .val (.ref b185), .val (.ref b186), .val (.ref b185)] [(.int (1 : Int32)), (.ref b185)])) rfl (by rw [hml]; rfl) (Steps.refl _) (argsL := [(.int (1 : Int32))]) (rest := []) (lenOf pd_22 rfl) rfl (by show 2 * 0 + _ ≤ _; exact Nat.le_of_eq rfl) (hb hby at_109) (fun _ _ => ⟨rfl, e190, (by decide : 7 + 0 ≤ _), (by decide : 59 + 0 ≤ _)⟩)
      dsimp only [Pt.U, Pt.locs, Pt.cells, Pt.slots] at X191 l191 y191 z191 st191 hQ191
      subst l191 y191 z191
      obtain ⟨rfl, Nq191, e191⟩ := hQ191
      have N191 := Fr.app N190 Nq191
      refine OWH.tr (B := T191.setTop (mkF m 112 #[.val (.int n1), .val (.int n2), .val (.int n3), .val (.int n4), .val (.int u1), .val (.int u2), .val (.int u3), .val (.int (3 : Int32)), .val (.ref b185), .val (.ref b186), .val (.ref b185)] [(.int u2)])) (st191) ?_
      refine OWH.st (B := T191.setTop (mkF m 128 #[.val (.int n1), .val (.int n2), .val (.int n3), .val (.int n4), .val (.int u1), .val (.int u2), .val (.int u3), .val (.int (3 : Int32)), .val (.ref b185), .val (.ref b186), .val (.ref b185)] [(.int (2 : Int32)), (.ref b185)])) (fun _ kk_ => XS.iload X191.here hx rfl (hb hby at_112) rfl (XS.icmpYes X191.here hx rfl (pc0 := 114) (pc' := 119) rfl (hb hby at_114) rfl (teq rfl).1 (by decide) (by decide) (XS.iload X191.here hx rfl (hb hby at_119) rfl (XS.iconst X191.here hx rfl (hb hby at_121) (XS.icmpNo X191.here hx rfl (hb hby at_122) rfl (tlt (by decide)).2.2.2 (XS.aload X191.here hx rfl (hb hby at_125) rfl rfl (XS.iconst X191.here hx rfl (hb hby at_127) kk_))))))) ?_
      obtain ⟨cq192, kq192, q192a, q192b, q192c⟩ := isOf hZ186 e191 (Es185.keep K186)
      obtain ⟨_, _, ⟨T192, L192, k192, n192⟩, -, X192, ⟨Lc192, hQ192, l192, y192, z192⟩, st192⟩ := X191.virtualBack hx (y := (⟨"java/lang/String", "charAt", "(I)C"⟩ : MethodName)) (z := (⟨"java/lang/String", "charAt", "(I)C"⟩ : MethodName)) hown186 (mvT hZ186 (w_77 hw)) (mvT hZ186 (w_78 hw)) (notFace_of_selects (args := #[]) (mvT hZ186 (w_80 hw))) (mvT hZ186 (w_80 hw)) (mvT hZ186 (w_79 hw)) (by decide) (backOf (W := 0) (rmCA1 l Z a0 hw [] b185 ba185 kb185 (6 : Int32) [u1, u2, u3] (2 : Int32) 2 u3 i_COMPACT_STRINGS v_SIOOBE_FORMATTER T186.heap n0 O186 (Es185.keep K186) (Fv185.keep K186 nin0) (Fc185.keep K186 nin0) (Vs185.keep K186 nin0) rfl (Nat.le_of_ble_eq_true rfl) (by decide) rfl hnu3 hS) hZ186 (w_81 hw) (w_7 hw) (by decide) (by decide)) q192a q192c (g := (mkF m 128 #[.val (.int n1), .val (.int n2), .val (.int n3), .val (.int n4), .val (.int u1), .val (.int u2), .val (.int u3), .val (.int (3 : Int32)), .val (.ref b185), .val (.ref b186), .val (.ref b185)] [(.int (2 : Int32)), (.ref b185)])) rfl (by rw [hml]; rfl) (Steps.refl _) (argsL := [(.int (2 : Int32))]) (rest := []) (lenOf pd_22 rfl) rfl (by show 2 * 0 + _ ≤ _; exact Nat.le_of_eq rfl) (hb hby at_128) (fun _ _ => ⟨rfl, e191, (by decide : 7 + 0 ≤ _), (by decide : 59 + 0 ≤ _)⟩)
      dsimp only [Pt.U, Pt.locs, Pt.cells, Pt.slots] at X192 l192 y192 z192 st192 hQ192
      subst l192 y192 z192
      obtain ⟨rfl, Nq192, e192⟩ := hQ192
      have N192 := Fr.app N191 Nq192
      refine OWH.tr (B := T192.setTop (mkF m 131 #[.val (.int n1), .val (.int n2), .val (.int n3), .val (.int n4), .val (.int u1), .val (.int u2), .val (.int u3), .val (.int (3 : Int32)), .val (.ref b185), .val (.ref b186), .val (.ref b185)] [(.int u3)])) (st192) ?_
      refine OWH.st (B := T192.setTop (mkF m 142 #[.val (.int n1), .val (.int n2), .val (.int n3), .val (.int n4), .val (.int u1), .val (.int u2), .val (.int u3), .val (.int (3 : Int32)), .val (.ref b185), .val (.ref b186), .val (.ref b185)] [(.ref b185), (.ref b185)])) (fun _ kk_ => XS.iload X192.here hx rfl (hb hby at_131) rfl (XS.icmpYes X192.here hx rfl (pc0 := 133) (pc' := 138) rfl (hb hby at_133) rfl (teq rfl).1 (by decide) (by decide) (XS.aload X192.here hx rfl (hb hby at_138) rfl rfl (XS.aload X192.here hx rfl (hb hby at_140) rfl rfl kk_)))) ?_
      obtain ⟨cq193, kq193, q193a, q193b, q193c⟩ := isOf hZ186 e192 (Es185.keep K186)
      obtain ⟨_, _, ⟨T193, L193, k193, n193⟩, -, X193, ⟨Lc193, hQ193, l193, y193, z193⟩, st193⟩ := X192.virtualBack hx (y := (⟨"java/lang/String", "equals", "(Ljava/lang/Object;)Z"⟩ : MethodName)) (z := (⟨"java/lang/String", "equals", "(Ljava/lang/Object;)Z"⟩ : MethodName)) hown186 (mvT hZ186 (w_99 hw)) (mvT hZ186 (w_100 hw)) (notFace_of_selects (args := #[]) (mvT hZ186 (w_102 hw))) (mvT hZ186 (w_102 hw)) (mvT hZ186 (w_101 hw)) (by decide) (backOf (W := 0) (rmEQ l Z a0 hw [] b185 T186.heap n0 O186 ) hZ186 (w_103 hw) (w_7 hw) (by decide) (by decide)) q193a q193c (g := (mkF m 142 #[.val (.int n1), .val (.int n2), .val (.int n3), .val (.int n4), .val (.int u1), .val (.int u2), .val (.int u3), .val (.int (3 : Int32)), .val (.ref b185), .val (.ref b186), .val (.ref b185)] [(.ref b185), (.ref b185)])) rfl (by rw [hml]; rfl) (Steps.refl _) (argsL := [(.ref b185)]) (rest := []) (lenOf pd_21 rfl) rfl (by show 2 * 0 + _ ≤ _; exact Nat.le_of_eq rfl) (hb hby at_142) (fun _ _ => ⟨rfl, e192, (by decide : 7 + 0 ≤ _), (by decide : 59 + 0 ≤ _)⟩)
      dsimp only [Pt.U, Pt.locs, Pt.cells, Pt.slots] at X193 l193 y193 z193 st193 hQ193
      subst l193 y193 z193
      obtain ⟨rfl, Nq193, e193⟩ := hQ193
      have N193 := Fr.app N192 Nq193
      refine OWH.tr (B := T193.setTop (mkF m 145 #[.val (.int n1), .val (.int n2), .val (.int n3), .val (.int n4), .val (.int u1), .val (.int u2), .val (.int u3), .val (.int (3 : Int32)), .val (.ref b185), .val (.ref b186), .val (.ref b185)] [(.int (1 : Int32))])) (st193) ?_
      exact OWH.ret X193 (s := s) (vm0 := T186.vm) hS186 hk186 hx hlk CR186 hZ186 (own_EW hw) (i := .ireturn) Bd.returns rfl (Or.inl ⟨rfl, Or.inr (Or.inl rfl), _, rfl⟩) (hb hby at_145) e193 (by decide) (by decide) ⟨rfl, N193⟩
    · refine OWH.st (B := s₁.setTop (mkF m 34 #[.val (.int n1), .val (.int n2), .val (.int n3), .val (.int n4), .val (.int u1), .val (.int u2), .val (.int u3), .val (.int (3 : Int32)), .unset, .unset, .unset] [(.int u3), (.int u2), (.int u1), (.int (3 : Int32))])) (fun _ kk_ => XS.iload X0.here hx rfl (hb hby at_26) rfl (XS.iload X0.here hx rfl (hb hby at_28) rfl (XS.iload X0.here hx rfl (hb hby at_30) rfl (XS.iload X0.here hx rfl (hb hby at_32) rfl kk_)))) ?_
      obtain ⟨_, _, ⟨T194, L194, k194, n194⟩, -, X194, ⟨Lc194, hQ194, l194, y194, z194⟩, st194⟩ := Jvm.LawKit.callS X0 hx (y := (⟨"com/example/cartulary/cartulary/entity/AttachmentValueOfStringPinLaw", "make", "(ICCC)Ljava/lang/String;"⟩ : MethodName)) hown (mvT hZ (w_1 hw)) (mvT hZ (w_2 hw)) (mvT hZ (w_3 hw)) (mvT hZ (w_4 hw)) (by decide) (backOf (W := 0) (rmMK30 l Z a0 hw [] u1 u2 u3 i_COMPACT_STRINGS v_SIOOBE_FORMATTER h0 n0 O0 hnu1 hnu2 hnu3 hl184_0 hl184_1 hl184_2 hS) hZ (w_4 hw) (w_3 hw) (by decide) (by decide)) (g := (mkF m 34 #[.val (.int n1), .val (.int n2), .val (.int n3), .val (.int n4), .val (.int u1), .val (.int u2), .val (.int u3), .val (.int (3 : Int32)), .unset, .unset, .unset] [(.int u3), (.int u2), (.int u1), (.int (3 : Int32))])) rfl (by rw [hml]; rfl) (argsL := [(.int (3 : Int32)), (.int u1), (.int u2), (.int u3)]) (rest := []) (lenOf pd_17 rfl) rfl (by show 2 * 0 + _ ≤ _; exact Nat.le_of_eq rfl) (hb hby at_34) (fun _ _ => ⟨rfl, e0, (by decide : 0 + 3 ≤ _), (by decide : 0 + 17 ≤ _)⟩)
      dsimp only [Pt.U, Pt.locs, Pt.cells, Pt.slots] at X194 l194 y194 z194 st194 hQ194
      subst l194 y194 z194
      obtain ⟨b194, ba194, kb194, rfl, Nq194, K194, gb194, Es194, Fv194, Fc194, Vs194⟩ := hQ194
      have N194 := Fr.app N0 Nq194
      have O194 : Old Z n0 T194.heap := O0.keep K194 all0
      have CS194 : CHr Z consts_1 s.vm h0 s.vm T194.heap := CHr.keep K194 all0 CR0.1
      have CR194 := CHr.trans CR0 CS194
      refine OWH.st (B := T194.setTop (mkF m 41 #[.val (.int n1), .val (.int n2), .val (.int n3), .val (.int n4), .val (.int u1), .val (.int u2), .val (.int u3), .val (.int (3 : Int32)), .val (.ref b194), .unset, .unset] [(.ref b194)])) (fun _ kk_ => st194 _ (XS.astore X194.here hx rfl (hb hby at_37) rfl rfl (l' := #[.val (.int n1), .val (.int n2), .val (.int n3), .val (.int n4), .val (.int u1), .val (.int u2), .val (.int u3), .val (.int (3 : Int32)), .val (.ref b194), .unset, .unset]) rfl (XS.aload X194.here hx rfl (hb hby at_39) rfl rfl kk_))) ?_
      obtain ⟨_, _, ⟨T195, L195, k195, n195⟩, -, X195, hs195, hsz195, ⟨Lc195, hQ195, l195, y195, z195, CQ195⟩, st195⟩ := callSS X194 hx (y := (⟨"com/example/cartulary/cartulary/entity/AttachmentValue", "ofString", "(Ljava/lang/String;)Lcom/example/cartulary/cartulary/entity/AttachmentValue;"⟩ : MethodName)) hown (mvT hZ (w_35 hw)) (mvT hZ (w_36 hw)) (mvT hZ (w_37 hw)) (mvT hZ (w_38 hw)) (by decide) (backOfSH (W := 0) (rmOF l Z a0 hw [] b194 T194.heap n0 O194 Es194) hZ (w_38 hw) (w_37 hw) (by decide) (by decide) (own_EW hw) CR194.1) (g := (mkF m 41 #[.val (.int n1), .val (.int n2), .val (.int n3), .val (.int n4), .val (.int u1), .val (.int u2), .val (.int u3), .val (.int (3 : Int32)), .val (.ref b194), .unset, .unset] [(.ref b194)])) rfl (by rw [hml]; rfl) (argsL := [(.ref b194)]) (rest := []) (lenOf pd_18 rfl) rfl (by show 2 * 0 + _ ≤ _; exact Nat.le_of_eq rfl) (hb hby at_41) (fun _ _ => ⟨rfl, rfl, (by decide : 3 + 3 ≤ _), (by decide : 17 + 22 ≤ _)⟩)
      dsimp only [Pt.U, Pt.locs, Pt.cells, Pt.slots] at hs195 hsz195
      have hS195 := foldS hS0 (Nat.le_trans hk0 K194.1) hs195 hsz195
      have hZ195 : Z.Warmed39 (s.setVm T195.vm).vm := State.Warmed39.trans (t := s) hZ hs195.1
      have hown195 : (s.setVm T195.vm).vm.findClass "com/example/cartulary/cartulary/entity/AttachmentValueOfStringPinLaw" = some m.cls := by rw [show (s.setVm T195.vm).vm = T195.vm from rfl, hs195.1.alike.findClass]; exact hown
      dsimp only [Pt.U, Pt.locs, Pt.cells, Pt.slots] at X195 l195 y195 z195 st195 hQ195 CQ195
      subst l195 y195 z195
      obtain ⟨b195, rfl, Nq195, K195, gb195, Eb195, Ft195, Fu195⟩ := hQ195
      have N195 := Fr.app N194 Nq195
      have O195 : Old Z n0 T195.heap := O194.keep K195 all0
      have CS195 : CHr Z consts_1 s.vm T194.heap T195.vm T195.heap := CQ195
      have CR195 := CHr.trans CR194 CS195
      have hk195 : T195.heap.size ≤ T195.heap.size := Nat.le_of_eq (by rfl)
      refine OWH.tr (B := T195.setTop (mkF m 44 #[.val (.int n1), .val (.int n2), .val (.int n3), .val (.int n4), .val (.int u1), .val (.int u2), .val (.int u3), .val (.int (3 : Int32)), .val (.ref b194), .unset, .unset] [(.ref b195)])) (st195) ?_
      refine OWH.st (B := T195.setTop (mkF m 48 #[.val (.int n1), .val (.int n2), .val (.int n3), .val (.int n4), .val (.int u1), .val (.int u2), .val (.int u3), .val (.int (3 : Int32)), .val (.ref b194), .val (.ref b195), .unset] [(.ref b195)])) (fun _ kk_ => XS.astore X195.here hx rfl (hb hby at_44) rfl rfl (l' := #[.val (.int n1), .val (.int n2), .val (.int n3), .val (.int n4), .val (.int u1), .val (.int u2), .val (.int u3), .val (.int (3 : Int32)), .val (.ref b194), .val (.ref b195), .unset]) rfl (XS.aload X195.here hx rfl (hb hby at_46) rfl rfl kk_)) ?_
      obtain ⟨cq196, kq196, q196a, q196b, q196c⟩ := isOf hZ195 rfl Eb195
      obtain ⟨_, _, ⟨T196, L196, k196, n196⟩, -, X196, ⟨Lc196, hQ196, l196, y196, z196⟩, st196⟩ := X195.virtualBack hx (y := (⟨"com/example/cartulary/cartulary/entity/AttachmentValue", "isUri", "()Z"⟩ : MethodName)) (z := (⟨"com/example/cartulary/cartulary/entity/AttachmentValue", "isUri", "()Z"⟩ : MethodName)) hown195 (mvT hZ195 (w_57 hw)) (mvT hZ195 (w_58 hw)) (notFace_of_selects (args := #[]) (mvT hZ195 (w_60 hw))) (mvT hZ195 (w_60 hw)) (mvT hZ195 (w_59 hw)) (by decide) (backOf (W := 0) (rmIU l Z a0 hw [] b195 T195.heap n0 O195 Fu195) hZ195 (w_61 hw) (w_37 hw) (by decide) (by decide)) q196a q196c (g := (mkF m 48 #[.val (.int n1), .val (.int n2), .val (.int n3), .val (.int n4), .val (.int u1), .val (.int u2), .val (.int u3), .val (.int (3 : Int32)), .val (.ref b194), .val (.ref b195), .unset] [(.ref b195)])) rfl (by rw [hml]; rfl) (Steps.refl _) (argsL := []) (rest := []) (lenOf pd_11 rfl) rfl (by show 2 * 0 + _ ≤ _; exact Nat.le_of_eq rfl) (hb hby at_48) (fun _ _ => ⟨rfl, rfl, (by decide : 6 + 0 ≤ _), (by decide : 39 + 0 ≤ _)⟩)
      dsimp only [Pt.U, Pt.locs, Pt.cells, Pt.slots] at X196 l196 y196 z196 st196 hQ196
      subst l196 y196 z196
      obtain ⟨rfl, Nq196, e196⟩ := hQ196
      have N196 := Fr.app N195 Nq196
      refine OWH.tr (B := T196.setTop (mkF m 51 #[.val (.int n1), .val (.int n2), .val (.int n3), .val (.int n4), .val (.int u1), .val (.int u2), .val (.int u3), .val (.int (3 : Int32)), .val (.ref b194), .val (.ref b195), .unset] [(.int (0 : Int32))])) (st196) ?_
      refine OWH.st (B := T196.setTop (mkF m 58 #[.val (.int n1), .val (.int n2), .val (.int n3), .val (.int n4), .val (.int u1), .val (.int u2), .val (.int u3), .val (.int (3 : Int32)), .val (.ref b194), .val (.ref b195), .unset] [(.ref b195)])) (fun _ kk_ => XS.ifYes X196.here hx rfl (pc0 := 51) (pc' := 56) rfl (hb hby at_51) rfl ((if0 _ _).trans (teq (by decide)).1) (by decide) (by decide) (XS.aload X196.here hx rfl (hb hby at_56) rfl rfl kk_)) ?_
      obtain ⟨cq197, kq197, q197a, q197b, q197c⟩ := isOf hZ195 e196 Eb195
      obtain ⟨_, _, ⟨T197, L197, k197, n197⟩, -, X197, ⟨Lc197, hQ197, l197, y197, z197⟩, st197⟩ := X196.virtualBack hx (y := (⟨"com/example/cartulary/cartulary/entity/AttachmentValue", "getText", "()Ljava/lang/String;"⟩ : MethodName)) (z := (⟨"com/example/cartulary/cartulary/entity/AttachmentValue", "getText", "()Ljava/lang/String;"⟩ : MethodName)) hown195 (mvT hZ195 (w_62 hw)) (mvT hZ195 (w_63 hw)) (notFace_of_selects (args := #[]) (mvT hZ195 (w_65 hw))) (mvT hZ195 (w_65 hw)) (mvT hZ195 (w_64 hw)) (by decide) (backOf (W := 0) (rmGT l Z a0 hw [] b195 b194 T195.heap n0 O195 Ft195) hZ195 (w_66 hw) (w_37 hw) (by decide) (by decide)) q197a q197c (g := (mkF m 58 #[.val (.int n1), .val (.int n2), .val (.int n3), .val (.int n4), .val (.int u1), .val (.int u2), .val (.int u3), .val (.int (3 : Int32)), .val (.ref b194), .val (.ref b195), .unset] [(.ref b195)])) rfl (by rw [hml]; rfl) (Steps.refl _) (argsL := []) (rest := []) (lenOf pd_19 rfl) rfl (by show 2 * 0 + _ ≤ _; exact Nat.le_of_eq rfl) (hb hby at_58) (fun _ _ => ⟨rfl, e196, (by decide : 6 + 0 ≤ _), (by decide : 39 + 0 ≤ _)⟩)
      dsimp only [Pt.U, Pt.locs, Pt.cells, Pt.slots] at X197 l197 y197 z197 st197 hQ197
      subst l197 y197 z197
      obtain ⟨rfl, Nq197, e197⟩ := hQ197
      have N197 := Fr.app N196 Nq197
      refine OWH.tr (B := T197.setTop (mkF m 61 #[.val (.int n1), .val (.int n2), .val (.int n3), .val (.int n4), .val (.int u1), .val (.int u2), .val (.int u3), .val (.int (3 : Int32)), .val (.ref b194), .val (.ref b195), .unset] [(.ref b194)])) (st197) ?_
      refine OWH.st (B := T197.setTop (mkF m 72 #[.val (.int n1), .val (.int n2), .val (.int n3), .val (.int n4), .val (.int u1), .val (.int u2), .val (.int u3), .val (.int (3 : Int32)), .val (.ref b194), .val (.ref b195), .val (.ref b194)] [(.ref b194)])) (fun _ kk_ => XS.astore X197.here hx rfl (hb hby at_61) rfl rfl (l' := #[.val (.int n1), .val (.int n2), .val (.int n3), .val (.int n4), .val (.int u1), .val (.int u2), .val (.int u3), .val (.int (3 : Int32)), .val (.ref b194), .val (.ref b195), .val (.ref b194)]) rfl (XS.aload X197.here hx rfl (hb hby at_63) rfl rfl (XS.ifnonnullYes X197.here hx rfl (pc0 := 65) (pc' := 70) rfl (hb hby at_65) rfl (by decide) (by decide) (XS.aload X197.here hx rfl (hb hby at_70) rfl rfl kk_)))) ?_
      obtain ⟨cq198, kq198, q198a, q198b, q198c⟩ := isOf hZ195 e197 (Es194.keep K195)
      obtain ⟨_, _, ⟨T198, L198, k198, n198⟩, -, X198, ⟨Lc198, hQ198, l198, y198, z198⟩, st198⟩ := X197.virtualBack hx (y := (⟨"java/lang/String", "length", "()I"⟩ : MethodName)) (z := (⟨"java/lang/String", "length", "()I"⟩ : MethodName)) hown195 (mvT hZ195 (w_67 hw)) (mvT hZ195 (w_68 hw)) (notFace_of_selects (args := #[]) (mvT hZ195 (w_70 hw))) (mvT hZ195 (w_70 hw)) (mvT hZ195 (w_69 hw)) (by decide) (backOf (W := 0) (rmLE0 l Z a0 hw [] b194 ba194 kb194 (3 : Int32) [u1, u2, u3] (3 : Int32) i_COMPACT_STRINGS v_SIOOBE_FORMATTER T195.heap n0 O195 (Es194.keep K195) (Fv194.keep K195 nin0) (Fc194.keep K195 nin0) (Vs194.keep K195 nin0) (by decide) hS) hZ195 (w_71 hw) (w_7 hw) (by decide) (by decide)) q198a q198c (g := (mkF m 72 #[.val (.int n1), .val (.int n2), .val (.int n3), .val (.int n4), .val (.int u1), .val (.int u2), .val (.int u3), .val (.int (3 : Int32)), .val (.ref b194), .val (.ref b195), .val (.ref b194)] [(.ref b194)])) rfl (by rw [hml]; rfl) (Steps.refl _) (argsL := []) (rest := []) (lenOf pd_20 rfl) rfl (by show 2 * 0 + _ ≤ _; exact Nat.le_of_eq rfl) (hb hby at_72) (fun _ _ => ⟨rfl, e197, (by decide : 6 + 0 ≤ _), (by decide : 39 + 0 ≤ _)⟩)
      dsimp only [Pt.U, Pt.locs, Pt.cells, Pt.slots] at X198 l198 y198 z198 st198 hQ198
      subst l198 y198 z198
      obtain ⟨rfl, Nq198, e198⟩ := hQ198
      have N198 := Fr.app N197 Nq198
      refine OWH.tr (B := T198.setTop (mkF m 75 #[.val (.int n1), .val (.int n2), .val (.int n3), .val (.int n4), .val (.int u1), .val (.int u2), .val (.int u3), .val (.int (3 : Int32)), .val (.ref b194), .val (.ref b195), .val (.ref b194)] [(.int (3 : Int32))])) (st198) ?_
      refine OWH.st (B := T198.setTop (mkF m 90 #[.val (.int n1), .val (.int n2), .val (.int n3), .val (.int n4), .val (.int u1), .val (.int u2), .val (.int u3), .val (.int (3 : Int32)), .val (.ref b194), .val (.ref b195), .val (.ref b194)] [(.int (0 : Int32)), (.ref b194)])) (fun _ kk_ => XS.iload X198.here hx rfl (hb hby at_75) rfl (XS.icmpYes X198.here hx rfl (pc0 := 77) (pc' := 82) rfl (hb hby at_77) rfl (teq (by decide)).1 (by decide) (by decide) (XS.iload X198.here hx rfl (hb hby at_82) rfl (XS.ifNo X198.here hx rfl (hb hby at_84) rfl ((if0 _ _).trans (tlt (by decide)).2.2.2) (XS.aload X198.here hx rfl (hb hby at_87) rfl rfl (XS.iconst X198.here hx rfl (hb hby at_89) kk_)))))) ?_
      obtain ⟨cq199, kq199, q199a, q199b, q199c⟩ := isOf hZ195 e198 (Es194.keep K195)
      obtain ⟨_, _, ⟨T199, L199, k199, n199⟩, -, X199, ⟨Lc199, hQ199, l199, y199, z199⟩, st199⟩ := X198.virtualBack hx (y := (⟨"java/lang/String", "charAt", "(I)C"⟩ : MethodName)) (z := (⟨"java/lang/String", "charAt", "(I)C"⟩ : MethodName)) hown195 (mvT hZ195 (w_77 hw)) (mvT hZ195 (w_78 hw)) (notFace_of_selects (args := #[]) (mvT hZ195 (w_80 hw))) (mvT hZ195 (w_80 hw)) (mvT hZ195 (w_79 hw)) (by decide) (backOf (W := 0) (rmCA0 l Z a0 hw [] b194 ba194 kb194 (3 : Int32) [u1, u2, u3] (0 : Int32) 0 u1 i_COMPACT_STRINGS v_SIOOBE_FORMATTER T195.heap n0 O195 (Es194.keep K195) (Fv194.keep K195 nin0) (Fc194.keep K195 nin0) (Vs194.keep K195 nin0) rfl (Nat.le_of_ble_eq_true rfl) (by decide) rfl hnu1 hl184_0 hS) hZ195 (w_81 hw) (w_7 hw) (by decide) (by decide)) q199a q199c (g := (mkF m 90 #[.val (.int n1), .val (.int n2), .val (.int n3), .val (.int n4), .val (.int u1), .val (.int u2), .val (.int u3), .val (.int (3 : Int32)), .val (.ref b194), .val (.ref b195), .val (.ref b194)] [(.int (0 : Int32)), (.ref b194)])) rfl (by rw [hml]; rfl) (Steps.refl _) (argsL := [(.int (0 : Int32))]) (rest := []) (lenOf pd_22 rfl) rfl (by show 2 * 0 + _ ≤ _; exact Nat.le_of_eq rfl) (hb hby at_90) (fun _ _ => ⟨rfl, e198, (by decide : 6 + 0 ≤ _), (by decide : 39 + 0 ≤ _)⟩)
      dsimp only [Pt.U, Pt.locs, Pt.cells, Pt.slots] at X199 l199 y199 z199 st199 hQ199
      subst l199 y199 z199
      obtain ⟨rfl, Nq199, e199⟩ := hQ199
      have N199 := Fr.app N198 Nq199
      refine OWH.tr (B := T199.setTop (mkF m 93 #[.val (.int n1), .val (.int n2), .val (.int n3), .val (.int n4), .val (.int u1), .val (.int u2), .val (.int u3), .val (.int (3 : Int32)), .val (.ref b194), .val (.ref b195), .val (.ref b194)] [(.int u1)])) (st199) ?_
      refine OWH.st (B := T199.setTop (mkF m 109 #[.val (.int n1), .val (.int n2), .val (.int n3), .val (.int n4), .val (.int u1), .val (.int u2), .val (.int u3), .val (.int (3 : Int32)), .val (.ref b194), .val (.ref b195), .val (.ref b194)] [(.int (1 : Int32)), (.ref b194)])) (fun _ kk_ => XS.iload X199.here hx rfl (hb hby at_93) rfl (XS.icmpYes X199.here hx rfl (pc0 := 95) (pc' := 100) rfl (hb hby at_95) rfl (teq rfl).1 (by decide) (by decide) (XS.iload X199.here hx rfl (hb hby at_100) rfl (XS.iconst X199.here hx rfl (hb hby at_102) (XS.icmpNo X199.here hx rfl (hb hby at_103) rfl (tlt (by decide)).2.2.2 (XS.aload X199.here hx rfl (hb hby at_106) rfl rfl (XS.iconst X199.here hx rfl (hb hby at_108) kk_))))))) ?_
      obtain ⟨cq200, kq200, q200a, q200b, q200c⟩ := isOf hZ195 e199 (Es194.keep K195)
      obtain ⟨_, _, ⟨T200, L200, k200, n200⟩, -, X200, ⟨Lc200, hQ200, l200, y200, z200⟩, st200⟩ := X199.virtualBack hx (y := (⟨"java/lang/String", "charAt", "(I)C"⟩ : MethodName)) (z := (⟨"java/lang/String", "charAt", "(I)C"⟩ : MethodName)) hown195 (mvT hZ195 (w_77 hw)) (mvT hZ195 (w_78 hw)) (notFace_of_selects (args := #[]) (mvT hZ195 (w_80 hw))) (mvT hZ195 (w_80 hw)) (mvT hZ195 (w_79 hw)) (by decide) (backOf (W := 0) (rmCA0 l Z a0 hw [] b194 ba194 kb194 (3 : Int32) [u1, u2, u3] (1 : Int32) 1 u2 i_COMPACT_STRINGS v_SIOOBE_FORMATTER T195.heap n0 O195 (Es194.keep K195) (Fv194.keep K195 nin0) (Fc194.keep K195 nin0) (Vs194.keep K195 nin0) rfl (Nat.le_of_ble_eq_true rfl) (by decide) rfl hnu2 hl184_1 hS) hZ195 (w_81 hw) (w_7 hw) (by decide) (by decide)) q200a q200c (g := (mkF m 109 #[.val (.int n1), .val (.int n2), .val (.int n3), .val (.int n4), .val (.int u1), .val (.int u2), .val (.int u3), .val (.int (3 : Int32)), .val (.ref b194), .val (.ref b195), .val (.ref b194)] [(.int (1 : Int32)), (.ref b194)])) rfl (by rw [hml]; rfl) (Steps.refl _) (argsL := [(.int (1 : Int32))]) (rest := []) (lenOf pd_22 rfl) rfl (by show 2 * 0 + _ ≤ _; exact Nat.le_of_eq rfl) (hb hby at_109) (fun _ _ => ⟨rfl, e199, (by decide : 6 + 0 ≤ _), (by decide : 39 + 0 ≤ _)⟩)
      dsimp only [Pt.U, Pt.locs, Pt.cells, Pt.slots] at X200 l200 y200 z200 st200 hQ200
      subst l200 y200 z200
      obtain ⟨rfl, Nq200, e200⟩ := hQ200
      have N200 := Fr.app N199 Nq200
      refine OWH.tr (B := T200.setTop (mkF m 112 #[.val (.int n1), .val (.int n2), .val (.int n3), .val (.int n4), .val (.int u1), .val (.int u2), .val (.int u3), .val (.int (3 : Int32)), .val (.ref b194), .val (.ref b195), .val (.ref b194)] [(.int u2)])) (st200) ?_
      refine OWH.st (B := T200.setTop (mkF m 128 #[.val (.int n1), .val (.int n2), .val (.int n3), .val (.int n4), .val (.int u1), .val (.int u2), .val (.int u3), .val (.int (3 : Int32)), .val (.ref b194), .val (.ref b195), .val (.ref b194)] [(.int (2 : Int32)), (.ref b194)])) (fun _ kk_ => XS.iload X200.here hx rfl (hb hby at_112) rfl (XS.icmpYes X200.here hx rfl (pc0 := 114) (pc' := 119) rfl (hb hby at_114) rfl (teq rfl).1 (by decide) (by decide) (XS.iload X200.here hx rfl (hb hby at_119) rfl (XS.iconst X200.here hx rfl (hb hby at_121) (XS.icmpNo X200.here hx rfl (hb hby at_122) rfl (tlt (by decide)).2.2.2 (XS.aload X200.here hx rfl (hb hby at_125) rfl rfl (XS.iconst X200.here hx rfl (hb hby at_127) kk_))))))) ?_
      obtain ⟨cq201, kq201, q201a, q201b, q201c⟩ := isOf hZ195 e200 (Es194.keep K195)
      obtain ⟨_, _, ⟨T201, L201, k201, n201⟩, -, X201, ⟨Lc201, hQ201, l201, y201, z201⟩, st201⟩ := X200.virtualBack hx (y := (⟨"java/lang/String", "charAt", "(I)C"⟩ : MethodName)) (z := (⟨"java/lang/String", "charAt", "(I)C"⟩ : MethodName)) hown195 (mvT hZ195 (w_77 hw)) (mvT hZ195 (w_78 hw)) (notFace_of_selects (args := #[]) (mvT hZ195 (w_80 hw))) (mvT hZ195 (w_80 hw)) (mvT hZ195 (w_79 hw)) (by decide) (backOf (W := 0) (rmCA0 l Z a0 hw [] b194 ba194 kb194 (3 : Int32) [u1, u2, u3] (2 : Int32) 2 u3 i_COMPACT_STRINGS v_SIOOBE_FORMATTER T195.heap n0 O195 (Es194.keep K195) (Fv194.keep K195 nin0) (Fc194.keep K195 nin0) (Vs194.keep K195 nin0) rfl (Nat.le_of_ble_eq_true rfl) (by decide) rfl hnu3 hl184_2 hS) hZ195 (w_81 hw) (w_7 hw) (by decide) (by decide)) q201a q201c (g := (mkF m 128 #[.val (.int n1), .val (.int n2), .val (.int n3), .val (.int n4), .val (.int u1), .val (.int u2), .val (.int u3), .val (.int (3 : Int32)), .val (.ref b194), .val (.ref b195), .val (.ref b194)] [(.int (2 : Int32)), (.ref b194)])) rfl (by rw [hml]; rfl) (Steps.refl _) (argsL := [(.int (2 : Int32))]) (rest := []) (lenOf pd_22 rfl) rfl (by show 2 * 0 + _ ≤ _; exact Nat.le_of_eq rfl) (hb hby at_128) (fun _ _ => ⟨rfl, e200, (by decide : 6 + 0 ≤ _), (by decide : 39 + 0 ≤ _)⟩)
      dsimp only [Pt.U, Pt.locs, Pt.cells, Pt.slots] at X201 l201 y201 z201 st201 hQ201
      subst l201 y201 z201
      obtain ⟨rfl, Nq201, e201⟩ := hQ201
      have N201 := Fr.app N200 Nq201
      refine OWH.tr (B := T201.setTop (mkF m 131 #[.val (.int n1), .val (.int n2), .val (.int n3), .val (.int n4), .val (.int u1), .val (.int u2), .val (.int u3), .val (.int (3 : Int32)), .val (.ref b194), .val (.ref b195), .val (.ref b194)] [(.int u3)])) (st201) ?_
      refine OWH.st (B := T201.setTop (mkF m 142 #[.val (.int n1), .val (.int n2), .val (.int n3), .val (.int n4), .val (.int u1), .val (.int u2), .val (.int u3), .val (.int (3 : Int32)), .val (.ref b194), .val (.ref b195), .val (.ref b194)] [(.ref b194), (.ref b194)])) (fun _ kk_ => XS.iload X201.here hx rfl (hb hby at_131) rfl (XS.icmpYes X201.here hx rfl (pc0 := 133) (pc' := 138) rfl (hb hby at_133) rfl (teq rfl).1 (by decide) (by decide) (XS.aload X201.here hx rfl (hb hby at_138) rfl rfl (XS.aload X201.here hx rfl (hb hby at_140) rfl rfl kk_)))) ?_
      obtain ⟨cq202, kq202, q202a, q202b, q202c⟩ := isOf hZ195 e201 (Es194.keep K195)
      obtain ⟨_, _, ⟨T202, L202, k202, n202⟩, -, X202, ⟨Lc202, hQ202, l202, y202, z202⟩, st202⟩ := X201.virtualBack hx (y := (⟨"java/lang/String", "equals", "(Ljava/lang/Object;)Z"⟩ : MethodName)) (z := (⟨"java/lang/String", "equals", "(Ljava/lang/Object;)Z"⟩ : MethodName)) hown195 (mvT hZ195 (w_99 hw)) (mvT hZ195 (w_100 hw)) (notFace_of_selects (args := #[]) (mvT hZ195 (w_102 hw))) (mvT hZ195 (w_102 hw)) (mvT hZ195 (w_101 hw)) (by decide) (backOf (W := 0) (rmEQ l Z a0 hw [] b194 T195.heap n0 O195 ) hZ195 (w_103 hw) (w_7 hw) (by decide) (by decide)) q202a q202c (g := (mkF m 142 #[.val (.int n1), .val (.int n2), .val (.int n3), .val (.int n4), .val (.int u1), .val (.int u2), .val (.int u3), .val (.int (3 : Int32)), .val (.ref b194), .val (.ref b195), .val (.ref b194)] [(.ref b194), (.ref b194)])) rfl (by rw [hml]; rfl) (Steps.refl _) (argsL := [(.ref b194)]) (rest := []) (lenOf pd_21 rfl) rfl (by show 2 * 0 + _ ≤ _; exact Nat.le_of_eq rfl) (hb hby at_142) (fun _ _ => ⟨rfl, e201, (by decide : 6 + 0 ≤ _), (by decide : 39 + 0 ≤ _)⟩)
      dsimp only [Pt.U, Pt.locs, Pt.cells, Pt.slots] at X202 l202 y202 z202 st202 hQ202
      subst l202 y202 z202
      obtain ⟨rfl, Nq202, e202⟩ := hQ202
      have N202 := Fr.app N201 Nq202
      refine OWH.tr (B := T202.setTop (mkF m 145 #[.val (.int n1), .val (.int n2), .val (.int n3), .val (.int n4), .val (.int u1), .val (.int u2), .val (.int u3), .val (.int (3 : Int32)), .val (.ref b194), .val (.ref b195), .val (.ref b194)] [(.int (1 : Int32))])) (st202) ?_
      exact OWH.ret X202 (s := s) (vm0 := T195.vm) hS195 hk195 hx hlk CR195 hZ195 (own_EW hw) (i := .ireturn) Bd.returns rfl (Or.inl ⟨rfl, Or.inr (Or.inl rfl), _, rfl⟩) (hb hby at_145) e202 (by decide) (by decide) ⟨rfl, N202⟩
set_option maxRecDepth 65536 in
set_option maxHeartbeats 40000000 in
theorem comes_1 {Post : Tables → Env → Array Value → State → Outcome → State → Prop} (hpost : ∀ tb e args s v u, (limb_1_1.after args s (.returned v) u = true ∧ limb_1_2.after args s (.returned v) u = true ∧ True) → ReturnedEndW s (.returned v) u (Jvm.fieldLocs frame_1_writes args s ++ Jvm.arrayLocs frame_1_arrays args s ++ Jvm.staticLocs frame_1_statics s) 24 2176 → Post tb e args s (.returned v) u) :
    ArmFor flags0 classFile x code maxLocals ret World_1 tables_1 room_1 Calls_1 rest_1 Pre_1 Post := by
  intro l hfl _ _ p e ha hc hk s m args below hf hA hF happ hP
  obtain ⟨hcalls, hrest, hpre⟩ := hP
  obtain ⟨-, -, -, hnamed, -, -, -, hat⟩ := (Spec.applies_iff hf).mp happ
  obtain ⟨hg, hn⟩ := and_e (Cond.before_iff.mp (show (Jvm.Cond.and given_1 narrow_1).before args s = true from hpre))
  obtain ⟨k203, k204⟩ := and_e hg
  obtain ⟨k205, k206⟩ := and_e k204
  obtain ⟨k207, k208⟩ := and_e k206
  obtain ⟨k209, k210⟩ := and_e k208
  obtain ⟨w0, w1, w2, w3, rfl⟩ : ∃ w0 w1 w2 w3 : Value, args = #[w0, w1, w2, w3] := by
    have hs : args.size = 4 := by simpa [Cond.value, given_1] using k203
    obtain ⟨L⟩ := args
    match L, hs with
    | [w0, w1, w2, w3], _ => exact ⟨w0, w1, w2, w3, rfl⟩
  have hw := fun d (hd : d ∈ tables_1) => atoms_spec (ws := Jvm.Cond.code x code maxLocals ret :: tables_1) hat d (List.mem_cons_of_mem _ hd)
  have hfit : Fit s := fun {y c} hc i hi => by
    obtain ⟨ha, rfl⟩ := Array.getElem?_eq_some_iff.mp hc
    have q := List.all_eq_true.mp ((Array.all_eq_true_iff_forall_mem.mp hF) _ (Array.getElem_mem ha)) i (List.mem_range.mpr hi)
    simpa [Array.getElem?_eq_getElem hi] using q
  obtain ⟨i0, ei0⟩ := is_v k205
  obtain rfl : w0 = (.int i0) := Option.some.inj ei0
  obtain ⟨i1, ei1⟩ := is_v k207
  obtain rfl : w1 = (.int i1) := Option.some.inj ei1
  obtain ⟨i2, ei2⟩ := is_v k209
  obtain rfl : w2 = (.int i2) := Option.some.inj ei2
  obtain ⟨i3, ei3⟩ := is_v k210
  obtain rfl : w3 = (.int i3) := Option.some.inj ei3
  obtain ⟨hsets, hown0⟩ := atoms_of _ (rest_1_c_eq ▸ (show rest_1_c.before _ s = true from hrest))
  have hr0 := Cond.before_iff.mp hown0
  obtain ⟨i_COMPACT_STRINGS, evi_COMPACT_STRINGS⟩ := is_v (Cond.before_iff.mp (hsets _ (List.mem_of_getElem? (i := 1) rfl)))
  obtain ⟨v_SIOOBE_FORMATTER, evv_SIOOBE_FORMATTER, rvv_SIOOBE_FORMATTER⟩ := isR_v (Cond.before_iff.mp (hsets _ (List.mem_of_getElem? (i := 8) rfl)))
  have hS : OwnS s i_COMPACT_STRINGS v_SIOOBE_FORMATTER := ⟨Sta.start evi_COMPACT_STRINGS (Or.inl (hsets _ (List.mem_of_getElem? (i := 0) rfl))), Sta.start evv_SIOOBE_FORMATTER (Or.inl (hsets _ (List.mem_of_getElem? (i := 7) rfl))), rvv_SIOOBE_FORMATTER, Sta.start (own_eq_int (Cond.before_iff.mp (hsets _ (List.mem_of_getElem? (i := 12) rfl)))) (Or.inl (hsets _ (List.mem_of_getElem? (i := 11) rfl))), Sta.start (own_eq_int (Cond.before_iff.mp (hsets _ (List.mem_of_getElem? (i := 15) rfl)))) (Or.inl (hsets _ (List.mem_of_getElem? (i := 14) rfl))), Sta.start (own_eq_int (Cond.before_iff.mp (hsets _ (List.mem_of_getElem? (i := 18) rfl)))) (Or.inl (hsets _ (List.mem_of_getElem? (i := 17) rfl))), gotF (Cond.eq_ints evi_COMPACT_STRINGS (Term.int_eval (0 : Int32))) (not_v (Cond.before_iff.mp (hsets _ (List.mem_of_getElem? (i := 2) rfl))))⟩
  have hCH : CHv s consts_1 s.vm s.heap := CHv.start (own_EW hw) (fun q hq => hcalls.1 q hq) (show Jvm.Lit.compactW.before _ s = true from (hsets _ (List.mem_of_getElem? (i := 2) rfl))) (w_24 hw) (w_6 hw)
  obtain ⟨n, o, h1, h2, h3, _, L, rfl, ⟨rfl, N⟩, -, hq⟩ := rm0 l s _ hw tables_1 i0 i1 i2 i3 i_COMPACT_STRINGS v_SIOOBE_FORMATTER s.heap s.heap.size (Old.start s) hS p e ha hc hk s m _ below hf ((Spec.applies_iff_loose hf).mp happ).1 ⟨rfl, State.Warmed39.refl s, rfl, hCH⟩ trivial
  refine ⟨n, _, h1, h2, h3, hpost _ _ _ _ _ _ ⟨Cond.after_iff.mpr rfl, Cond.after_iff.mpr (eq_i res_at (Term.int_eval (1)) rfl), trivial⟩ ⟨hq.1, hq.2.1, hq.2.2.1, (hq.2.2.2.sift fun y hy => Or.inr (N y hy)).mono (by decide) (by decide)⟩⟩
theorem main_1_1 : Claimed_1_1 := comes_1 fun _ _ _ _ _ _ h hF => ⟨h.1, hF⟩
theorem main_1_2 : Claimed_1_2 := comes_1 fun _ _ _ _ _ _ h hF => ⟨h.2.1, hF⟩
end Jvm.Pilot.@@N@@
namespace Jvm.Pilot.@@N@@
open Jvm Jvm.ClassFile Sem Op Lib Jvm.Free Jvm.Stand Jvm.Pilot.@@N@@.Jvm.D
/-! MADE BY PROGRAM (witnessworld.py) out of the Statement's table words and the real class files: 19 classes; the members and pool entries that the words name. The judged class is class 1, her method 1. -/
namespace start1
open Jvm.ClassFile
def u (s : String) : CpInfo := .utf8 (stringToUtf16 s)
/-- a pool by its gaps: so many unusable entries, then the entry; so many at the end -/
def gap : Nat → List CpInfo → List CpInfo
  | 0, r => r
  | n + 1, r => .unusable :: gap n r
def poolList (es : List (Nat × CpInfo)) (last : Nat) : List CpInfo := es.foldr (fun e r => gap e.1 (e.2 :: r)) (gap last [])
def pool (es : List (Nat × CpInfo)) (last : Nat) : Array CpInfo := ⟨poolList es last⟩
def fileOf (pool : Array CpInfo) (this : Nat) (attrs : Array Attribute := #[]) (ms : Array MethodInfo := #[]) (fl : Nat := 33) (sup : Nat := 0) (ifs : Array Nat := #[]) (fds : Array FieldInfo := #[]) : ClassFile where
  minorVersion := 0
  majorVersion := 65
  constantPool := pool
  accessFlags := fl
  thisClass := this
  superClass := sup
  interfaces := ifs
  fields := fds
  methods := ms
  attributes := attrs
def plain (name : String) (sup : Option ClassId) : Class where
  name := name
  kind := .ordinary
  loader := none
  accessFlags := 33
  super := sup
  interfaces := #[]
  cf := none
  fields := #[]
  methods := #[]
  instanceTypes := #[]
  staticTypes := #[]
  resolved := #[]
  callSites := []
  init := .initialized
  statics := none
  mirror := none

def pool0 : Array CpInfo := pool [(5, u "<init>"), (0, u "()V"), (1, .class_ 10), (1, u "java/lang/Object")] 113

def k0c0 : Code := { maxStack := 0, maxLocals := 1, code := object_method_1_code, exceptionTable := #[], attributes := #[] }
def k0m0 : Method := { name := "<init>", desc := "()V", sig := { parameters := [], returnType := none }, accessFlags := 1, code := some k0c0 }
/-- java/lang/Object -/
def k0 : Class := { plain "java/lang/Object" none with
  accessFlags := 33
  interfaces := #[]
  cf := some (fileOf pool0 8 #[] #[{ accessFlags := 1, nameIndex := 5, descriptorIndex := 6, attributes := #[] }] 33 0 #[] #[])
  fields := #[]
  methods := #[k0m0]
  instanceTypes := #[]
  staticTypes := #[]
  resolved := Array.replicate 124 none
  statics := none }

def pool1 : Array CpInfo := pool [(2, .class_ 4), (1, u "java/lang/Object"), (0, u "<init>"), (0, u "()V"), (0, .integer 65535), (0, .methodref 9 10), (0, .class_ 11), (0, .nameAndType 12 13), (0, u "com/example/cartulary/cartulary/entity/AttachmentValueOfStringPinLaw"), (0, u "make"), (0, u "(ICCC)Ljava/lang/String;"), (0, .methodref 15 16), (0, .class_ 17), (0, .nameAndType 18 19), (0, u "com/example/cartulary/cartulary/entity/AttachmentValue"), (0, u "ofString"), (0, u "(Ljava/lang/String;)Lcom/example/cartulary/cartulary/entity/AttachmentValue;"), (0, .methodref 15 21), (0, .nameAndType 22 23), (0, u "isUri"), (0, u "()Z"), (0, .methodref 15 25), (0, .nameAndType 26 27), (0, u "getText"), (0, u "()Ljava/lang/String;"), (0, .methodref 29 30), (0, .class_ 31), (0, .nameAndType 32 33), (0, u "java/lang/String"), (0, u "length"), (0, u "()I"), (0, .methodref 29 35), (0, .nameAndType 36 37), (0, u "charAt"), (0, u "(I)C"), (0, .methodref 29 39), (0, .nameAndType 40 41), (0, u "equals"), (0, u "(Ljava/lang/Object;)Z"), (0, .methodref 29 43), (0, .nameAndType 5 44), (0, u "([C)V"), (2, u "law"), (0, u "(IIII)Z")] 3

def k1m0 : Method := { name := "<init>", desc := "()V", sig := { parameters := [], returnType := none }, accessFlags := 1, code := none }
def k1c1 : Code := { maxStack := 4, maxLocals := 11, code := code, exceptionTable := #[], attributes := #[] }
def k1m1 : Method := { name := "law", desc := "(IIII)Z", sig := { parameters := [.int, .int, .int, .int], returnType := some .boolean }, accessFlags := 9, code := some k1c1 }
def k1c2 : Code := { maxStack := 6, maxLocals := 4, code := method_3_code, exceptionTable := #[], attributes := #[] }
def k1m2 : Method := { name := "make", desc := "(ICCC)Ljava/lang/String;", sig := { parameters := [.int, .char, .char, .char], returnType := some (.object "java/lang/String") }, accessFlags := 10, code := some k1c2 }
/-- com/example/cartulary/cartulary/entity/AttachmentValueOfStringPinLaw -/
def k1 : Class := { plain "com/example/cartulary/cartulary/entity/AttachmentValueOfStringPinLaw" (some 0) with
  accessFlags := 49
  interfaces := #[]
  cf := some (fileOf pool1 9 #[] #[{ accessFlags := 1, nameIndex := 5, descriptorIndex := 6, attributes := #[] }, { accessFlags := 9, nameIndex := 47, descriptorIndex := 48, attributes := #[] }, { accessFlags := 10, nameIndex := 12, descriptorIndex := 13, attributes := #[] }] 49 2 #[] #[])
  fields := #[]
  methods := #[k1m0, k1m1, k1m2]
  instanceTypes := #[]
  staticTypes := #[]
  resolved := Array.replicate 52 none
  statics := none }

def pool2 : Array CpInfo := pool [(1, .class_ 2), (0, u "java/io/Serializable"), (0, .class_ 4), (0, u "java/lang/Object")] 2

/-- java/io/Serializable -/
def k2 : Class := { plain "java/io/Serializable" (some 0) with
  accessFlags := 1537
  interfaces := #[]
  cf := some (fileOf pool2 1 #[] #[] 1537 3 #[] #[])
  fields := #[]
  methods := #[]
  instanceTypes := #[]
  staticTypes := #[]
  resolved := Array.replicate 7 none
  statics := none }

def pool3 : Array CpInfo := pool [(1, .class_ 2), (0, u "java/lang/Comparable"), (0, .class_ 4), (0, u "java/lang/Object")] 7

/-- java/lang/Comparable -/
def k3 : Class := { plain "java/lang/Comparable" (some 0) with
  accessFlags := 1537
  interfaces := #[]
  cf := some (fileOf pool3 1 #[] #[] 1537 3 #[] #[])
  fields := #[]
  methods := #[]
  instanceTypes := #[]
  staticTypes := #[]
  resolved := Array.replicate 12 none
  statics := none }

def pool4 : Array CpInfo := pool [(2, .class_ 4), (1, u "java/lang/CharSequence"), (42, .class_ 48), (0, u "java/lang/CharSequence$1CodePointIterator"), (10, .class_ 60), (0, u "java/lang/CharSequence$1CharIterator"), (5, .class_ 67), (0, u "java/lang/Object")] 63

/-- java/lang/CharSequence -/
def k4 : Class := { plain "java/lang/CharSequence" (some 0) with
  accessFlags := 1537
  interfaces := #[]
  cf := some (fileOf pool4 2 #[.nestMembers #[47, 59]] #[] 1537 66 #[] #[])
  fields := #[]
  methods := #[]
  instanceTypes := #[]
  staticTypes := #[]
  resolved := Array.replicate 131 none
  statics := none }

def pool5 : Array CpInfo := pool [(1, .class_ 2), (0, u "java/lang/constant/Constable"), (0, .class_ 4), (0, u "java/lang/Object")] 6

/-- java/lang/constant/Constable -/
def k5 : Class := { plain "java/lang/constant/Constable" (some 0) with
  accessFlags := 1537
  interfaces := #[]
  cf := some (fileOf pool5 1 #[] #[] 1537 3 #[] #[])
  fields := #[]
  methods := #[]
  instanceTypes := #[]
  staticTypes := #[]
  resolved := Array.replicate 11 none
  statics := none }

def pool6 : Array CpInfo := pool [(1, .class_ 2), (0, u "java/lang/constant/ConstantDesc"), (0, .class_ 4), (0, u "java/lang/Object")] 32

/-- java/lang/constant/ConstantDesc -/
def k6 : Class := { plain "java/lang/constant/ConstantDesc" (some 0) with
  accessFlags := 1537
  interfaces := #[]
  cf := some (fileOf pool6 1 #[] #[] 1537 3 #[] #[])
  fields := #[]
  methods := #[]
  instanceTypes := #[]
  staticTypes := #[]
  resolved := Array.replicate 37 none
  statics := none }

def pool7 : Array CpInfo := pool [(1, .methodref 2 3), (0, .class_ 4), (0, .nameAndType 5 6), (0, u "java/lang/Object"), (0, u "<init>"), (0, u "()V"), (0, .string 8), (0, u ""), (0, .fieldref 10 11), (0, .class_ 12), (0, .nameAndType 13 14), (0, u "java/lang/String"), (0, u "value"), (0, u "[B"), (0, .fieldref 10 16), (0, .nameAndType 17 18), (0, u "coder"), (0, u "B"), (2, u "hash"), (0, u "I"), (2, u "hashIsZero"), (0, u "Z"), (0, .methodref 10 28), (0, .nameAndType 5 29), (0, u "([CIILjava/lang/Void;)V"), (8, .fieldref 10 39), (0, .nameAndType 40 26), (0, u "COMPACT_STRINGS"), (1, .class_ 44), (1, u "java/lang/StringUTF16"), (0, u "compress"), (1, .methodref 42 48), (0, .nameAndType 49 50), (0, u "coderFromArrayLen"), (0, u "([BI)B"), (56, .class_ 109), (1, u "java/lang/StringLatin1"), (32, u "()Z"), (34, .methodref 42 178), (0, .nameAndType 45 179), (0, u "([CII)[B"), (154, u "()I"), (0, .methodref 10 336), (0, .nameAndType 17 337), (0, u "()B"), (25, u "([BI)C"), (27, u "(II)V"), (35, u "(I)C"), (64, .methodref 10 493), (0, .nameAndType 494 142), (0, u "isLatin1"), (0, .methodref 107 496), (0, .nameAndType 497 363), (0, u "charAt"), (0, .methodref 42 496), (2, u "checkIndex"), (5, u "length"), (35, u "equals"), (29, u "(Ljava/lang/Object;)Z"), (1, .class_ 576), (0, u "java/lang/CharSequence"), (22, u "CASE_INSENSITIVE_ORDER"), (0, u "Ljava/util/Comparator;"), (409, u "([C)V"), (42, .fieldref 1054 1055), (0, .class_ 1056), (0, .nameAndType 1057 1058), (0, u "jdk/internal/util/Preconditions"), (0, u "SIOOBE_FORMATTER"), (0, u "Ljava/util/function/BiFunction;"), (0, .methodref 1054 1060), (0, .nameAndType 501 1061), (0, u "(IILjava/util/function/BiFunction;)I"), (39, u "serialPersistentFields"), (0, u "[Ljava/io/ObjectStreamField;"), (0, .class_ 1104), (0, u "java/lang/String$CaseInsensitiveComparator"), (1, .class_ 1107), (0, u "java/io/Serializable"), (0, .class_ 1109), (0, u "java/lang/Comparable"), (0, .class_ 1111), (0, u "java/lang/constant/Constable"), (0, .class_ 1113), (0, u "java/lang/constant/ConstantDesc"), (2, u "serialVersionUID"), (0, u "J"), (3, u "REPL"), (0, u "C"), (2, u "LATIN1"), (1, u "UTF16")] 323

def k7m0 : Method := { name := "<init>", desc := "()V", sig := { parameters := [], returnType := none }, accessFlags := 1, code := none }
def k7c1 : Code := { maxStack := 5, maxLocals := 2, code := jdk_42_method_3_code, exceptionTable := #[], attributes := #[] }
def k7m1 : Method := { name := "<init>", desc := "([C)V", sig := { parameters := [(.array .char)], returnType := none }, accessFlags := 1, code := some k7c1 }
def k7c2 : Code := { maxStack := 2, maxLocals := 1, code := jdk_42_method_54_code, exceptionTable := #[], attributes := #[] }
def k7m2 : Method := { name := "length", desc := "()I", sig := { parameters := [], returnType := some .int }, accessFlags := 1, code := some k7c2 }
def k7c3 : Code := { maxStack := 2, maxLocals := 2, code := jdk_42_method_56_code, exceptionTable := #[], attributes := #[] }
def k7m3 : Method := { name := "charAt", desc := "(I)C", sig := { parameters := [.int], returnType := some .char }, accessFlags := 1, code := some k7c3 }
def k7c4 : Code := { maxStack := 2, maxLocals := 3, code := jdk_42_method_66_code, exceptionTable := #[], attributes := #[] }
def k7m4 : Method := { name := "equals", desc := "(Ljava/lang/Object;)Z", sig := { parameters := [(.object "java/lang/Object")], returnType := some .boolean }, accessFlags := 1, code := some k7c4 }
def k7c5 : Code := { maxStack := 4, maxLocals := 6, code := jdk_42_method_149_code, exceptionTable := #[], attributes := #[] }
def k7m5 : Method := { name := "<init>", desc := "([CIILjava/lang/Void;)V", sig := { parameters := [(.array .char), .int, .int, (.object "java/lang/Void")], returnType := none }, accessFlags := 2, code := some k7c5 }
def k7c6 : Code := { maxStack := 1, maxLocals := 1, code := jdk_42_method_152_code, exceptionTable := #[], attributes := #[] }
def k7m6 : Method := { name := "coder", desc := "()B", sig := { parameters := [], returnType := some .byte }, accessFlags := 0, code := some k7c6 }
def k7c7 : Code := { maxStack := 1, maxLocals := 1, code := jdk_42_method_154_code, exceptionTable := #[], attributes := #[] }
def k7m7 : Method := { name := "isLatin1", desc := "()Z", sig := { parameters := [], returnType := some .boolean }, accessFlags := 0, code := some k7c7 }
def k7c8 : Code := { maxStack := 3, maxLocals := 2, code := jdk_42_method_155_code, exceptionTable := #[], attributes := #[] }
def k7m8 : Method := { name := "checkIndex", desc := "(II)V", sig := { parameters := [.int, .int], returnType := none }, accessFlags := 8, code := some k7c8 }
/-- java/lang/String -/
def k7 : Class := { plain "java/lang/String" (some 0) with
  accessFlags := 49
  interfaces := #[2, 3, 4, 5, 6]
  cf := some (fileOf pool7 10 #[.nestMembers #[1103]] #[{ accessFlags := 1, nameIndex := 5, descriptorIndex := 6, attributes := #[] }, { accessFlags := 1, nameIndex := 5, descriptorIndex := 1010, attributes := #[] }, { accessFlags := 1, nameIndex := 507, descriptorIndex := 334, attributes := #[] }, { accessFlags := 1, nameIndex := 497, descriptorIndex := 427, attributes := #[] }, { accessFlags := 1, nameIndex := 543, descriptorIndex := 573, attributes := #[] }, { accessFlags := 2, nameIndex := 5, descriptorIndex := 29, attributes := #[] }, { accessFlags := 0, nameIndex := 17, descriptorIndex := 337, attributes := #[] }, { accessFlags := 0, nameIndex := 494, descriptorIndex := 142, attributes := #[] }, { accessFlags := 8, nameIndex := 501, descriptorIndex := 391, attributes := #[] }] 49 2 #[1106, 1108, 575, 1110, 1112] #[{ accessFlags := 18, nameIndex := 13, descriptorIndex := 14, attributes := #[] }, { accessFlags := 18, nameIndex := 17, descriptorIndex := 18, attributes := #[] }, { accessFlags := 2, nameIndex := 21, descriptorIndex := 22, attributes := #[] }, { accessFlags := 2, nameIndex := 25, descriptorIndex := 26, attributes := #[] }, { accessFlags := 26, nameIndex := 1116, descriptorIndex := 1117, attributes := #[] }, { accessFlags := 24, nameIndex := 40, descriptorIndex := 26, attributes := #[] }, { accessFlags := 26, nameIndex := 1101, descriptorIndex := 1102, attributes := #[] }, { accessFlags := 26, nameIndex := 1121, descriptorIndex := 1122, attributes := #[] }, { accessFlags := 25, nameIndex := 599, descriptorIndex := 600, attributes := #[] }, { accessFlags := 24, nameIndex := 1125, descriptorIndex := 18, attributes := #[] }, { accessFlags := 24, nameIndex := 1127, descriptorIndex := 18, attributes := #[] }])
  fields := #[{ name := "value", type := (.array .byte), accessFlags := 18, slot := 0, constantValue := 0 }, { name := "coder", type := .byte, accessFlags := 18, slot := 1, constantValue := 0 }, { name := "hash", type := .int, accessFlags := 2, slot := 2, constantValue := 0 }, { name := "hashIsZero", type := .boolean, accessFlags := 2, slot := 3, constantValue := 0 }, { name := "serialVersionUID", type := .long, accessFlags := 26, slot := 0, constantValue := 0 }, { name := "COMPACT_STRINGS", type := .boolean, accessFlags := 24, slot := 1, constantValue := 0 }, { name := "serialPersistentFields", type := (.array (.object "java/io/ObjectStreamField")), accessFlags := 26, slot := 2, constantValue := 0 }, { name := "REPL", type := .char, accessFlags := 26, slot := 3, constantValue := 0 }, { name := "CASE_INSENSITIVE_ORDER", type := (.object "java/util/Comparator"), accessFlags := 25, slot := 4, constantValue := 0 }, { name := "LATIN1", type := .byte, accessFlags := 24, slot := 5, constantValue := 0 }, { name := "UTF16", type := .byte, accessFlags := 24, slot := 6, constantValue := 0 }]
  methods := #[k7m0, k7m1, k7m2, k7m3, k7m4, k7m5, k7m6, k7m7, k7m8]
  instanceTypes := #[(.array .byte), .byte, .int, .boolean]
  staticTypes := #[.long, .boolean, (.array (.object "java/io/ObjectStreamField")), .char, (.object "java/util/Comparator"), .byte, .byte]
  resolved := Array.replicate 1451 none
  statics := some 0 }

def pool8 : Array CpInfo := pool [(3, .class_ 4), (0, u "java/lang/String"), (1, .class_ 8), (1, u "java/lang/Object"), (0, u "<init>"), (0, u "()V"), (0, .methodref 12 13), (0, .class_ 14), (0, .nameAndType 15 16), (0, u "java/lang/StringUTF16"), (0, u "newBytesLength"), (0, u "(I)I"), (3, .integer 1073741823), (23, .fieldref 12 45), (0, .nameAndType 46 47), (0, u "$assertionsDisabled"), (0, u "Z"), (0, .methodref 12 49), (0, .nameAndType 50 51), (0, u "length"), (0, u "([B)I"), (7, .fieldref 12 60), (0, .nameAndType 61 62), (0, u "HI_BYTE_SHIFT"), (0, u "I"), (0, .fieldref 12 64), (0, .nameAndType 65 62), (0, u "LO_BYTE_SHIFT"), (1, .methodref 12 68), (0, .nameAndType 69 70), (0, u "checkIndex"), (0, u "(I[B)V"), (0, .methodref 12 72), (0, .nameAndType 73 74), (0, u "getChar"), (0, u "([BI)C"), (32, .methodref 12 108), (0, .nameAndType 109 110), (0, u "newBytesFor"), (0, u "(I)[B"), (0, .methodref 12 112), (0, .nameAndType 113 114), (0, u "putChar"), (0, u "([BII)V"), (0, .methodref 12 116), (0, .nameAndType 117 118), (0, u "compress"), (0, u "([CI[BII)I"), (0, .methodref 12 120), (0, .nameAndType 121 122), (0, u "toBytes"), (0, u "([CII)[B"), (138, u "coderFromArrayLen"), (0, u "([BI)B"), (106, .class_ 371), (1, u "java/lang/StringUTF16$LinesSpliterator"), (20, u "charAt"), (21, .methodref 3 415), (0, .nameAndType 69 416), (0, u "(II)V"), (13, u "MAX_LENGTH"), (196, .class_ 628), (0, u "java/lang/StringUTF16$CodePointsSpliterator"), (0, .class_ 630), (0, u "java/lang/StringUTF16$CharsSpliterator")] 4

def k8m0 : Method := { name := "<init>", desc := "()V", sig := { parameters := [], returnType := none }, accessFlags := 0, code := none }
def k8c1 : Code := { maxStack := 1, maxLocals := 1, code := jdk_52_method_2_code, exceptionTable := #[], attributes := #[] }
def k8m1 : Method := { name := "newBytesFor", desc := "(I)[B", sig := { parameters := [.int], returnType := some (.array .byte) }, accessFlags := 9, code := some k8c1 }
def k8c2 : Code := { maxStack := 4, maxLocals := 1, code := jdk_52_method_3_code, exceptionTable := #[], attributes := #[] }
def k8m2 : Method := { name := "newBytesLength", desc := "(I)I", sig := { parameters := [.int], returnType := some .int }, accessFlags := 9, code := some k8c2 }
def k8c3 : Code := { maxStack := 4, maxLocals := 3, code := jdk_52_method_4_code, exceptionTable := #[], attributes := #[] }
def k8m3 : Method := { name := "putChar", desc := "([BII)V", sig := { parameters := [(.array .byte), .int, .int], returnType := none }, accessFlags := 8, code := some k8c3 }
def k8c4 : Code := { maxStack := 3, maxLocals := 2, code := jdk_52_method_5_code, exceptionTable := #[], attributes := #[] }
def k8m4 : Method := { name := "getChar", desc := "([BI)C", sig := { parameters := [(.array .byte), .int], returnType := some .char }, accessFlags := 8, code := some k8c4 }
def k8c5 : Code := { maxStack := 2, maxLocals := 1, code := jdk_52_method_6_code, exceptionTable := #[], attributes := #[] }
def k8m5 : Method := { name := "length", desc := "([B)I", sig := { parameters := [(.array .byte)], returnType := some .int }, accessFlags := 9, code := some k8c5 }
def k8c6 : Code := { maxStack := 4, maxLocals := 5, code := jdk_52_method_14_code, exceptionTable := #[], attributes := #[] }
def k8m6 : Method := { name := "toBytes", desc := "([CII)[B", sig := { parameters := [(.array .char), .int, .int], returnType := some (.array .byte) }, accessFlags := 9, code := some k8c6 }
def k8c7 : Code := { maxStack := 2, maxLocals := 2, code := jdk_52_method_15_code, exceptionTable := #[], attributes := #[] }
def k8m7 : Method := { name := "coderFromArrayLen", desc := "([BI)B", sig := { parameters := [(.array .byte), .int], returnType := some .byte }, accessFlags := 8, code := some k8c7 }
def k8c8 : Code := { maxStack := 5, maxLocals := 6, code := jdk_52_method_16_code, exceptionTable := #[], attributes := #[] }
def k8m8 : Method := { name := "compress", desc := "([CII)[B", sig := { parameters := [(.array .char), .int, .int], returnType := some (.array .byte) }, accessFlags := 9, code := some k8c8 }
def k8c9 : Code := { maxStack := 3, maxLocals := 7, code := jdk_52_method_21_code, exceptionTable := #[], attributes := #[] }
def k8m9 : Method := { name := "compress", desc := "([CI[BII)I", sig := { parameters := [(.array .char), .int, (.array .byte), .int, .int], returnType := some .int }, accessFlags := 9, code := some k8c9 }
def k8c10 : Code := { maxStack := 2, maxLocals := 2, code := jdk_52_method_83_code, exceptionTable := #[], attributes := #[] }
def k8m10 : Method := { name := "charAt", desc := "([BI)C", sig := { parameters := [(.array .byte), .int], returnType := some .char }, accessFlags := 9, code := some k8c10 }
def k8c11 : Code := { maxStack := 2, maxLocals := 2, code := jdk_52_method_91_code, exceptionTable := #[], attributes := #[] }
def k8m11 : Method := { name := "checkIndex", desc := "(I[B)V", sig := { parameters := [.int, (.array .byte)], returnType := none }, accessFlags := 9, code := some k8c11 }
/-- java/lang/StringUTF16 -/
def k8 : Class := { plain "java/lang/StringUTF16" (some 0) with
  accessFlags := 48
  interfaces := #[]
  cf := some (fileOf pool8 12 #[.nestMembers #[627, 629, 369]] #[{ accessFlags := 0, nameIndex := 9, descriptorIndex := 10, attributes := #[] }, { accessFlags := 9, nameIndex := 109, descriptorIndex := 110, attributes := #[] }, { accessFlags := 9, nameIndex := 15, descriptorIndex := 16, attributes := #[] }, { accessFlags := 8, nameIndex := 113, descriptorIndex := 114, attributes := #[] }, { accessFlags := 8, nameIndex := 73, descriptorIndex := 74, attributes := #[] }, { accessFlags := 9, nameIndex := 50, descriptorIndex := 51, attributes := #[] }, { accessFlags := 9, nameIndex := 121, descriptorIndex := 122, attributes := #[] }, { accessFlags := 8, nameIndex := 261, descriptorIndex := 262, attributes := #[] }, { accessFlags := 9, nameIndex := 117, descriptorIndex := 122, attributes := #[] }, { accessFlags := 9, nameIndex := 117, descriptorIndex := 118, attributes := #[] }, { accessFlags := 9, nameIndex := 392, descriptorIndex := 74, attributes := #[] }, { accessFlags := 9, nameIndex := 69, descriptorIndex := 70, attributes := #[] }] 48 6 #[] #[{ accessFlags := 26, nameIndex := 61, descriptorIndex := 62, attributes := #[] }, { accessFlags := 26, nameIndex := 65, descriptorIndex := 62, attributes := #[] }, { accessFlags := 24, nameIndex := 430, descriptorIndex := 62, attributes := #[] }, { accessFlags := 4120, nameIndex := 46, descriptorIndex := 47, attributes := #[] }])
  fields := #[{ name := "HI_BYTE_SHIFT", type := .int, accessFlags := 26, slot := 0, constantValue := 0 }, { name := "LO_BYTE_SHIFT", type := .int, accessFlags := 26, slot := 1, constantValue := 0 }, { name := "MAX_LENGTH", type := .int, accessFlags := 24, slot := 2, constantValue := 0 }, { name := "$assertionsDisabled", type := .boolean, accessFlags := 4120, slot := 3, constantValue := 0 }]
  methods := #[k8m0, k8m1, k8m2, k8m3, k8m4, k8m5, k8m6, k8m7, k8m8, k8m9, k8m10, k8m11]
  instanceTypes := #[]
  staticTypes := #[.int, .int, .int, .boolean]
  resolved := Array.replicate 635 none
  statics := some 1 }

def pool9 : Array CpInfo := pool [(1, .methodref 2 3), (0, .class_ 4), (0, .nameAndType 5 6), (0, u "java/lang/Object"), (0, u "<init>"), (0, u "()V"), (0, .fieldref 8 9), (0, .class_ 10), (0, .nameAndType 11 12), (0, u "com/example/cartulary/cartulary/entity/AttachmentValue"), (0, u "text"), (0, u "Ljava/lang/String;"), (0, .fieldref 8 14), (0, .nameAndType 15 16), (0, u "uri"), (0, u "Z"), (0, .string 11), (0, .methodref 19 20), (0, .class_ 21), (0, .nameAndType 22 23), (0, u "java/util/Objects"), (0, u "requireNonNull"), (0, u "(Ljava/lang/Object;Ljava/lang/String;)Ljava/lang/Object;"), (0, .class_ 25), (0, u "java/lang/String"), (0, .methodref 8 27), (0, .nameAndType 5 28), (0, u "(Ljava/lang/String;Z)V"), (5, u "()Z"), (16, u "()Ljava/lang/String;"), (2, u "ofString"), (0, u "(Ljava/lang/String;)Lcom/example/cartulary/cartulary/entity/AttachmentValue;"), (3, u "isUri"), (0, u "getText")] 17

def k9c0 : Code := { maxStack := 2, maxLocals := 3, code := prog_19_method_1_code, exceptionTable := #[], attributes := #[] }
def k9m0 : Method := { name := "<init>", desc := "(Ljava/lang/String;Z)V", sig := { parameters := [(.object "java/lang/String"), .boolean], returnType := none }, accessFlags := 2, code := some k9c0 }
def k9c1 : Code := { maxStack := 4, maxLocals := 1, code := prog_19_method_2_code, exceptionTable := #[], attributes := #[] }
def k9m1 : Method := { name := "ofString", desc := "(Ljava/lang/String;)Lcom/example/cartulary/cartulary/entity/AttachmentValue;", sig := { parameters := [(.object "java/lang/String")], returnType := some (.object "com/example/cartulary/cartulary/entity/AttachmentValue") }, accessFlags := 9, code := some k9c1 }
def k9c2 : Code := { maxStack := 1, maxLocals := 1, code := prog_19_method_4_code, exceptionTable := #[], attributes := #[] }
def k9m2 : Method := { name := "isUri", desc := "()Z", sig := { parameters := [], returnType := some .boolean }, accessFlags := 1, code := some k9c2 }
def k9c3 : Code := { maxStack := 1, maxLocals := 1, code := prog_19_method_5_code, exceptionTable := #[], attributes := #[] }
def k9m3 : Method := { name := "getText", desc := "()Ljava/lang/String;", sig := { parameters := [], returnType := some (.object "java/lang/String") }, accessFlags := 1, code := some k9c3 }
/-- com/example/cartulary/cartulary/entity/AttachmentValue -/
def k9 : Class := { plain "com/example/cartulary/cartulary/entity/AttachmentValue" (some 0) with
  accessFlags := 33
  interfaces := #[]
  cf := some (fileOf pool9 8 #[] #[{ accessFlags := 2, nameIndex := 5, descriptorIndex := 28, attributes := #[] }, { accessFlags := 9, nameIndex := 54, descriptorIndex := 55, attributes := #[] }, { accessFlags := 1, nameIndex := 59, descriptorIndex := 34, attributes := #[] }, { accessFlags := 1, nameIndex := 60, descriptorIndex := 51, attributes := #[] }] 33 2 #[] #[{ accessFlags := 18, nameIndex := 11, descriptorIndex := 12, attributes := #[] }, { accessFlags := 18, nameIndex := 15, descriptorIndex := 16, attributes := #[] }])
  fields := #[{ name := "text", type := (.object "java/lang/String"), accessFlags := 18, slot := 0, constantValue := 0 }, { name := "uri", type := .boolean, accessFlags := 18, slot := 1, constantValue := 0 }]
  methods := #[k9m0, k9m1, k9m2, k9m3]
  instanceTypes := #[(.object "java/lang/String"), .boolean]
  staticTypes := #[]
  resolved := Array.replicate 78 none
  statics := none }

def pool10 : Array CpInfo := pool [(2, .class_ 4), (1, u "java/lang/Object"), (0, u "<init>"), (0, u "()V"), (35, .class_ 44), (1, u "java/util/Objects"), (0, u "requireNonNull"), (48, u "(Ljava/lang/Object;Ljava/lang/String;)Ljava/lang/Object;")] 89

def k10m0 : Method := { name := "<init>", desc := "()V", sig := { parameters := [], returnType := none }, accessFlags := 2, code := none }
def k10c1 : Code := { maxStack := 3, maxLocals := 2, code := jdk_31_method_11_code, exceptionTable := #[], attributes := #[] }
def k10m1 : Method := { name := "requireNonNull", desc := "(Ljava/lang/Object;Ljava/lang/String;)Ljava/lang/Object;", sig := { parameters := [(.object "java/lang/Object"), (.object "java/lang/String")], returnType := some (.object "java/lang/Object") }, accessFlags := 9, code := some k10c1 }
/-- java/util/Objects -/
def k10 : Class := { plain "java/util/Objects" (some 0) with
  accessFlags := 49
  interfaces := #[]
  cf := some (fileOf pool10 42 #[] #[{ accessFlags := 2, nameIndex := 5, descriptorIndex := 6, attributes := #[] }, { accessFlags := 9, nameIndex := 45, descriptorIndex := 94, attributes := #[] }] 49 2 #[] #[])
  fields := #[]
  methods := #[k10m0, k10m1]
  instanceTypes := #[]
  staticTypes := #[]
  resolved := Array.replicate 184 none
  statics := none }

def pool11 : Array CpInfo := pool [(1, .class_ 2), (0, u "java/lang/String"), (1, .class_ 6), (1, u "java/lang/Object"), (0, u "<init>"), (0, u "()V"), (0, .methodref 1 10), (0, .nameAndType 11 12), (0, u "checkIndex"), (0, u "(II)V"), (1, .class_ 16), (1, u "java/lang/StringLatin1"), (36, u "([BI)C"), (67, u "$assertionsDisabled"), (0, u "Z"), (98, .class_ 223), (1, u "java/lang/StringLatin1$LinesSpliterator"), (28, u "charAt"), (137, .class_ 391), (0, u "java/lang/StringLatin1$CharsSpliterator")] 3

def k11m0 : Method := { name := "<init>", desc := "()V", sig := { parameters := [], returnType := none }, accessFlags := 0, code := none }
def k11c1 : Code := { maxStack := 2, maxLocals := 2, code := jdk_43_method_2_code, exceptionTable := #[], attributes := #[] }
def k11m1 : Method := { name := "charAt", desc := "([BI)C", sig := { parameters := [(.array .byte), .int], returnType := some .char }, accessFlags := 9, code := some k11c1 }
/-- java/lang/StringLatin1 -/
def k11 : Class := { plain "java/lang/StringLatin1" (some 0) with
  accessFlags := 48
  interfaces := #[]
  cf := some (fileOf pool11 14 #[.nestMembers #[390, 221]] #[{ accessFlags := 0, nameIndex := 7, descriptorIndex := 8, attributes := #[] }, { accessFlags := 9, nameIndex := 252, descriptorIndex := 53, attributes := #[] }] 48 4 #[] #[{ accessFlags := 4120, nameIndex := 121, descriptorIndex := 122, attributes := #[] }])
  fields := #[{ name := "$assertionsDisabled", type := .boolean, accessFlags := 4120, slot := 0, constantValue := 0 }]
  methods := #[k11m0, k11m1]
  instanceTypes := #[]
  staticTypes := #[.boolean]
  resolved := Array.replicate 395 none
  statics := none }

def pool12 : Array CpInfo := pool [(2, .class_ 4), (1, u "java/lang/Object"), (0, u "<init>"), (0, u "()V"), (17, .class_ 26), (1, u "jdk/internal/util/Preconditions"), (6, u "checkIndex"), (21, .class_ 56), (0, u "jdk/internal/util/Preconditions$4"), (57, .class_ 115), (0, u "jdk/internal/util/Preconditions$1"), (7, u "SIOOBE_FORMATTER"), (0, u "Ljava/util/function/BiFunction;"), (0, .class_ 126), (0, u "jdk/internal/util/Preconditions$2"), (3, u "AIOOBE_FORMATTER"), (0, .class_ 132), (0, u "jdk/internal/util/Preconditions$3"), (3, u "IOOBE_FORMATTER"), (41, u "(IILjava/util/function/BiFunction;)I")] 15

def k12m0 : Method := { name := "<init>", desc := "()V", sig := { parameters := [], returnType := none }, accessFlags := 1, code := none }
def k12c1 : Code := { maxStack := 3, maxLocals := 3, code := jdk_41_method_11_code, exceptionTable := #[], attributes := #[] }
def k12m1 : Method := { name := "checkIndex", desc := "(IILjava/util/function/BiFunction;)I", sig := { parameters := [.int, .int, (.object "java/util/function/BiFunction")], returnType := some .int }, accessFlags := 9, code := some k12c1 }
/-- jdk/internal/util/Preconditions -/
def k12 : Class := { plain "jdk/internal/util/Preconditions" (some 0) with
  accessFlags := 33
  interfaces := #[]
  cf := some (fileOf pool12 24 #[.nestMembers #[55, 131, 125, 114]] #[{ accessFlags := 1, nameIndex := 5, descriptorIndex := 6, attributes := #[] }, { accessFlags := 9, nameIndex := 33, descriptorIndex := 178, attributes := #[] }] 33 2 #[] #[{ accessFlags := 25, nameIndex := 123, descriptorIndex := 124, attributes := #[] }, { accessFlags := 25, nameIndex := 130, descriptorIndex := 124, attributes := #[] }, { accessFlags := 25, nameIndex := 136, descriptorIndex := 124, attributes := #[] }])
  fields := #[{ name := "SIOOBE_FORMATTER", type := (.object "java/util/function/BiFunction"), accessFlags := 25, slot := 0, constantValue := 0 }, { name := "AIOOBE_FORMATTER", type := (.object "java/util/function/BiFunction"), accessFlags := 25, slot := 1, constantValue := 0 }, { name := "IOOBE_FORMATTER", type := (.object "java/util/function/BiFunction"), accessFlags := 25, slot := 2, constantValue := 0 }]
  methods := #[k12m0, k12m1]
  instanceTypes := #[]
  staticTypes := #[(.object "java/util/function/BiFunction"), (.object "java/util/function/BiFunction"), (.object "java/util/function/BiFunction")]
  resolved := Array.replicate 194 none
  statics := some 2 }

def pool13 : Array CpInfo := pool [(9, u "<init>"), (6, .class_ 18), (1, u "java/lang/Object"), (0, u "()V"), (1, .class_ 23), (1, u "jdk/internal/util/ArraysSupport"), (0, u "LOG2_ARRAY_LONG_INDEX_SCALE"), (0, u "I"), (2, u "U"), (0, u "Ljdk/internal/misc/Unsafe;"), (8, u "BIG_ENDIAN"), (0, u "Z"), (8, u "LOG2_BYTE_BIT_SIZE"), (4, u "LOG2_ARRAY_INT_INDEX_SCALE"), (54, u "JLA"), (0, u "Ljdk/internal/access/JavaLangAccess;"), (11, u "LOG2_ARRAY_BOOLEAN_INDEX_SCALE"), (9, u "LOG2_ARRAY_BYTE_INDEX_SCALE"), (5, u "LOG2_ARRAY_CHAR_INDEX_SCALE"), (5, u "LOG2_ARRAY_SHORT_INDEX_SCALE"), (18, u "LOG2_ARRAY_FLOAT_INDEX_SCALE"), (24, u "LOG2_ARRAY_DOUBLE_INDEX_SCALE"), (89, u "T_BOOLEAN"), (2, u "T_CHAR"), (1, u "T_FLOAT"), (1, u "T_DOUBLE"), (1, u "T_BYTE"), (1, u "T_SHORT"), (1, u "T_INT"), (1, u "T_LONG"), (1, u "SOFT_MAX_ARRAY_LENGTH")] 83

def k13m0 : Method := { name := "<init>", desc := "()V", sig := { parameters := [], returnType := none }, accessFlags := 2, code := none }
/-- jdk/internal/util/ArraysSupport -/
def k13 : Class := { plain "jdk/internal/util/ArraysSupport" (some 0) with
  accessFlags := 33
  interfaces := #[]
  cf := some (fileOf pool13 21 #[] #[{ accessFlags := 2, nameIndex := 9, descriptorIndex := 19, attributes := #[] }] 33 16 #[] #[{ accessFlags := 24, nameIndex := 28, descriptorIndex := 29, attributes := #[] }, { accessFlags := 26, nameIndex := 38, descriptorIndex := 39, attributes := #[] }, { accessFlags := 25, nameIndex := 121, descriptorIndex := 25, attributes := #[] }, { accessFlags := 25, nameIndex := 131, descriptorIndex := 25, attributes := #[] }, { accessFlags := 25, nameIndex := 137, descriptorIndex := 25, attributes := #[] }, { accessFlags := 25, nameIndex := 143, descriptorIndex := 25, attributes := #[] }, { accessFlags := 25, nameIndex := 53, descriptorIndex := 25, attributes := #[] }, { accessFlags := 25, nameIndex := 24, descriptorIndex := 25, attributes := #[] }, { accessFlags := 25, nameIndex := 162, descriptorIndex := 25, attributes := #[] }, { accessFlags := 25, nameIndex := 187, descriptorIndex := 25, attributes := #[] }, { accessFlags := 26, nameIndex := 48, descriptorIndex := 25, attributes := #[] }, { accessFlags := 25, nameIndex := 277, descriptorIndex := 25, attributes := #[] }, { accessFlags := 25, nameIndex := 280, descriptorIndex := 25, attributes := #[] }, { accessFlags := 25, nameIndex := 282, descriptorIndex := 25, attributes := #[] }, { accessFlags := 25, nameIndex := 284, descriptorIndex := 25, attributes := #[] }, { accessFlags := 25, nameIndex := 286, descriptorIndex := 25, attributes := #[] }, { accessFlags := 25, nameIndex := 288, descriptorIndex := 25, attributes := #[] }, { accessFlags := 25, nameIndex := 290, descriptorIndex := 25, attributes := #[] }, { accessFlags := 25, nameIndex := 292, descriptorIndex := 25, attributes := #[] }, { accessFlags := 26, nameIndex := 108, descriptorIndex := 109, attributes := #[] }, { accessFlags := 25, nameIndex := 294, descriptorIndex := 25, attributes := #[] }])
  fields := #[{ name := "U", type := (.object "jdk/internal/misc/Unsafe"), accessFlags := 24, slot := 0, constantValue := 0 }, { name := "BIG_ENDIAN", type := .boolean, accessFlags := 26, slot := 1, constantValue := 0 }, { name := "LOG2_ARRAY_BOOLEAN_INDEX_SCALE", type := .int, accessFlags := 25, slot := 2, constantValue := 0 }, { name := "LOG2_ARRAY_BYTE_INDEX_SCALE", type := .int, accessFlags := 25, slot := 3, constantValue := 0 }, { name := "LOG2_ARRAY_CHAR_INDEX_SCALE", type := .int, accessFlags := 25, slot := 4, constantValue := 0 }, { name := "LOG2_ARRAY_SHORT_INDEX_SCALE", type := .int, accessFlags := 25, slot := 5, constantValue := 0 }, { name := "LOG2_ARRAY_INT_INDEX_SCALE", type := .int, accessFlags := 25, slot := 6, constantValue := 0 }, { name := "LOG2_ARRAY_LONG_INDEX_SCALE", type := .int, accessFlags := 25, slot := 7, constantValue := 0 }, { name := "LOG2_ARRAY_FLOAT_INDEX_SCALE", type := .int, accessFlags := 25, slot := 8, constantValue := 0 }, { name := "LOG2_ARRAY_DOUBLE_INDEX_SCALE", type := .int, accessFlags := 25, slot := 9, constantValue := 0 }, { name := "LOG2_BYTE_BIT_SIZE", type := .int, accessFlags := 26, slot := 10, constantValue := 0 }, { name := "T_BOOLEAN", type := .int, accessFlags := 25, slot := 11, constantValue := 0 }, { name := "T_CHAR", type := .int, accessFlags := 25, slot := 12, constantValue := 0 }, { name := "T_FLOAT", type := .int, accessFlags := 25, slot := 13, constantValue := 0 }, { name := "T_DOUBLE", type := .int, accessFlags := 25, slot := 14, constantValue := 0 }, { name := "T_BYTE", type := .int, accessFlags := 25, slot := 15, constantValue := 0 }, { name := "T_SHORT", type := .int, accessFlags := 25, slot := 16, constantValue := 0 }, { name := "T_INT", type := .int, accessFlags := 25, slot := 17, constantValue := 0 }, { name := "T_LONG", type := .int, accessFlags := 25, slot := 18, constantValue := 0 }, { name := "JLA", type := (.object "jdk/internal/access/JavaLangAccess"), accessFlags := 26, slot := 19, constantValue := 0 }, { name := "SOFT_MAX_ARRAY_LENGTH", type := .int, accessFlags := 25, slot := 20, constantValue := 0 }]
  methods := #[k13m0]
  instanceTypes := #[]
  staticTypes := #[(.object "jdk/internal/misc/Unsafe"), .boolean, .int, .int, .int, .int, .int, .int, .int, .int, .int, .int, .int, .int, .int, .int, .int, .int, .int, (.object "jdk/internal/access/JavaLangAccess"), .int]
  resolved := Array.replicate 378 none
  statics := none }

def pool14 : Array CpInfo := pool [(1, u "java/lang/Cloneable"), (0, .class_ 1), (0, u "java/lang/Object"), (0, .class_ 3)] 3

/-- java/lang/Cloneable -/
def k14 : Class := { plain "java/lang/Cloneable" (some 0) with
  accessFlags := 1537
  interfaces := #[]
  cf := some (fileOf pool14 2 #[] #[] 1537 4 #[] #[])
  fields := #[]
  methods := #[]
  instanceTypes := #[]
  staticTypes := #[]
  resolved := Array.replicate 8 none
  statics := none }

/-- the primitive byte -/
def k15 : Class := { plain "byte" none with kind := .primitive 'B', accessFlags := 0x411 }
/-- [B -/
def k16 : Class := { plain "[B" (some 0) with kind := .array 15 .byte, interfaces := #[14, 2], accessFlags := 1041 }

/-- the primitive char -/
def k17 : Class := { plain "char" none with kind := .primitive 'C', accessFlags := 0x411 }
/-- [C -/
def k18 : Class := { plain "[C" (some 0) with kind := .array 17 .char, interfaces := #[14, 2], accessFlags := 1041 }

def heap : Heap := #[{ cls := 7, slots := #[.long 0, .int 1, .null, .int 0, .null, .int 0, .int 0], vm := .statics 7 },
  { cls := 8, slots := #[.int 0, .int 8, .int 0, .int 1], vm := .statics 8 },
  { cls := 12, slots := #[.null, .null, .null], vm := .statics 12 }]
def classes : Array Class := #[k0, k1, k2, k3, k4, k5, k6, k7, k8, k9, k10, k11, k12, k13, k14, k15, k16, k17, k18]
def interned : List (Array UInt16 × Addr) := []
def slotsUsed : Nat := 14
def theMethod : MethodId := ⟨1, 1⟩
def args0 : Array Value := #[.int 5, .int 7, .int 1, .int 2]
def aboutOver (below : List Frame) : State where
  vm := { classes := classes, interned := interned.toArray }
  heap := heap
  slotsUsed := slotsUsed
  threads := #[{ frames := .invoking theMethod args0 :: below }]
def below0 : List Frame := [.native { method := ⟨0, 0⟩, args := #[] }]
def about1 : State := aboutOver below0
def p0 : Program := .bare "" "" ""
def e0 : Env := launch0.env 0 0 0
theorem w_frames : about1.frames = Frame.invoking theMethod args0 :: below0 := rfl
set_option maxRecDepth 65536 in
theorem w_args : argsFit about1.vm theMethod args0 = true := by decide +kernel
set_option maxRecDepth 65536 in
theorem w_heap : heapFits about1 = true := by decide +kernel
set_option maxRecDepth 65536 in
theorem w_runnable : about1.curStatus? = some .runnable := by decide +kernel
set_option maxRecDepth 65536 in
theorem w_alone : about1.alone = true := by decide +kernel
set_option maxRecDepth 65536 in
theorem w_named : about1.methodNamed? x = some theMethod := by decide +kernel
set_option maxRecDepth 65536 in
theorem w_hears : about1.hears theMethod below0 = true := by decide +kernel
set_option maxRecDepth 65536 in
theorem w_ripe : about1.ripe theMethod args0 below0 = true := by decide +kernel
theorem w_running : about1.status = .running := rfl
set_option maxRecDepth 65536 in
theorem w_room : about1.hasRoom e0.platform room_1 = true :=
  launch0.hasRoom_least _ room_1 (by decide +kernel) (by decide +kernel) (by decide +kernel) (by decide +kernel) (by decide +kernel) (by decide +kernel)
theorem allAtoms_all (ts : List Jvm.Cond) (a : Array Jvm.Value) (st : Jvm.State) : (allAtoms ts).before a st = ts.all (fun c => c.before a st) := by
  induction ts with
  | nil => rfl
  | cons c t ih =>
    show (Jvm.Cond.and c (allAtoms t)).before a st = _
    rw [Jvm.Cond.before_and, ih, List.all_cons]
def words1 : List Jvm.Cond := Jvm.Cond.code x code maxLocals ret :: tables_1
/-- a 'code' word, met by the world's own term for the bytes: nothing is compared byte by byte -/
theorem code_word {y : MethodName} {bytes : ByteArray} {mx : Nat} {rt : Option FieldType} {a : Array Value} {s : State} {m : MethodId} {meth : Method} {c : Code} (h1 : s.methodNamed? y = some m) (h2 : s.vm.method? m = some meth) (h3 : meth.code = some c) (h4 : c.code = bytes)
    (h5 : (c.maxLocals == mx && c.exceptionTable.isEmpty && decide (c.maxStack ≤ mostOperands) && decide (meth.sig.returnType = rt) && !meth.locks && decide (parseMethodDescriptor y.desc = some meth.sig)) = true) : (Jvm.Cond.code y bytes mx rt).before a s = true := by
  simp only [Bool.and_eq_true, beq_iff_eq, Bool.not_eq_true', decide_eq_true_eq] at h5
  obtain ⟨⟨⟨⟨⟨g1, g2⟩, g3⟩, g4⟩, g5⟩, g6⟩ := h5
  simp [Cond.before, Cond.holds, Cond.value, h1, h2, h3, h4, g1, g2, g3, g4, g5, g6]
def isCode : Jvm.Cond → Bool
  | .code _ _ _ _ => true
  | _ => false
theorem all_split {L : List Jvm.Cond} {P : Jvm.Cond → Bool} (h1 : L.all (fun c => isCode c || P c) = true) (h2 : ∀ c ∈ L.filter isCode, P c = true) : L.all P = true := by
  refine List.all_eq_true.mpr fun c hc => ?_
  have h := List.all_eq_true.mp h1 c hc
  rcases Bool.eq_false_or_eq_true (isCode c) with hi | hi
  · exact h2 c (List.mem_filter.mpr ⟨hc, hi⟩)
  · simpa [hi] using h
set_option maxRecDepth 65536 in
theorem w_c0 : (Jvm.Cond.code x code maxLocals ret).before args0 about1 = true := code_word (m := ⟨1, 1⟩) (meth := k1m1) (c := k1c1) (by decide +kernel) rfl rfl rfl (by decide +kernel)
set_option maxRecDepth 65536 in
theorem w_c1 : (Jvm.Cond.code ({ cls := "com/example/cartulary/cartulary/entity/AttachmentValueOfStringPinLaw", name := "make", desc := "(ICCC)Ljava/lang/String;" } : Jvm.MethodName) method_3_code (4 : Nat) (Option.some (Jvm.ClassFile.FieldType.object "java/lang/String"))).before args0 about1 = true := code_word (m := ⟨1, 2⟩) (meth := k1m2) (c := k1c2) (by decide +kernel) rfl rfl rfl (by decide +kernel)
set_option maxRecDepth 65536 in
theorem w_c2 : (Jvm.Cond.code ({ cls := "java/lang/String", name := "<init>", desc := "([C)V" } : Jvm.MethodName) jdk_42_method_3_code (2 : Nat) (Option.none : Option Jvm.ClassFile.FieldType)).before args0 about1 = true := code_word (m := ⟨7, 1⟩) (meth := k7m1) (c := k7c1) (by decide +kernel) rfl rfl rfl (by decide +kernel)
set_option maxRecDepth 65536 in
theorem w_c3 : (Jvm.Cond.code ({ cls := "java/lang/String", name := "<init>", desc := "([CIILjava/lang/Void;)V" } : Jvm.MethodName) jdk_42_method_149_code (6 : Nat) (Option.none : Option Jvm.ClassFile.FieldType)).before args0 about1 = true := code_word (m := ⟨7, 5⟩) (meth := k7m5) (c := k7c5) (by decide +kernel) rfl rfl rfl (by decide +kernel)
set_option maxRecDepth 65536 in
theorem w_c4 : (Jvm.Cond.code ({ cls := "java/lang/Object", name := "<init>", desc := "()V" } : Jvm.MethodName) object_method_1_code (1 : Nat) (Option.none : Option Jvm.ClassFile.FieldType)).before args0 about1 = true := code_word (m := ⟨0, 0⟩) (meth := k0m0) (c := k0c0) (by decide +kernel) rfl rfl rfl (by decide +kernel)
set_option maxRecDepth 65536 in
theorem w_c5 : (Jvm.Cond.code ({ cls := "java/lang/StringUTF16", name := "compress", desc := "([CII)[B" } : Jvm.MethodName) jdk_52_method_16_code (6 : Nat) (Option.some (Jvm.ClassFile.FieldType.array Jvm.ClassFile.FieldType.byte))).before args0 about1 = true := code_word (m := ⟨8, 8⟩) (meth := k8m8) (c := k8c8) (by decide +kernel) rfl rfl rfl (by decide +kernel)
set_option maxRecDepth 65536 in
theorem w_c6 : (Jvm.Cond.code ({ cls := "java/lang/StringUTF16", name := "compress", desc := "([CI[BII)I" } : Jvm.MethodName) jdk_52_method_21_code (7 : Nat) (Option.some Jvm.ClassFile.FieldType.int)).before args0 about1 = true := code_word (m := ⟨8, 9⟩) (meth := k8m9) (c := k8c9) (by decide +kernel) rfl rfl rfl (by decide +kernel)
set_option maxRecDepth 65536 in
theorem w_c7 : (Jvm.Cond.code ({ cls := "java/lang/StringUTF16", name := "coderFromArrayLen", desc := "([BI)B" } : Jvm.MethodName) jdk_52_method_15_code (2 : Nat) (Option.some Jvm.ClassFile.FieldType.byte)).before args0 about1 = true := code_word (m := ⟨8, 7⟩) (meth := k8m7) (c := k8c7) (by decide +kernel) rfl rfl rfl (by decide +kernel)
set_option maxRecDepth 65536 in
theorem w_c8 : (Jvm.Cond.code ({ cls := "com/example/cartulary/cartulary/entity/AttachmentValue", name := "ofString", desc := "(Ljava/lang/String;)Lcom/example/cartulary/cartulary/entity/AttachmentValue;" } : Jvm.MethodName) prog_19_method_2_code (1 : Nat) (Option.some (Jvm.ClassFile.FieldType.object "com/example/cartulary/cartulary/entity/AttachmentValue"))).before args0 about1 = true := code_word (m := ⟨9, 1⟩) (meth := k9m1) (c := k9c1) (by decide +kernel) rfl rfl rfl (by decide +kernel)
set_option maxRecDepth 65536 in
theorem w_c9 : (Jvm.Cond.code ({ cls := "java/util/Objects", name := "requireNonNull", desc := "(Ljava/lang/Object;Ljava/lang/String;)Ljava/lang/Object;" } : Jvm.MethodName) jdk_31_method_11_code (2 : Nat) (Option.some (Jvm.ClassFile.FieldType.object "java/lang/Object"))).before args0 about1 = true := code_word (m := ⟨10, 1⟩) (meth := k10m1) (c := k10c1) (by decide +kernel) rfl rfl rfl (by decide +kernel)
set_option maxRecDepth 65536 in
theorem w_c10 : (Jvm.Cond.code ({ cls := "com/example/cartulary/cartulary/entity/AttachmentValue", name := "<init>", desc := "(Ljava/lang/String;Z)V" } : Jvm.MethodName) prog_19_method_1_code (3 : Nat) (Option.none : Option Jvm.ClassFile.FieldType)).before args0 about1 = true := code_word (m := ⟨9, 0⟩) (meth := k9m0) (c := k9c0) (by decide +kernel) rfl rfl rfl (by decide +kernel)
set_option maxRecDepth 65536 in
theorem w_c11 : (Jvm.Cond.code ({ cls := "com/example/cartulary/cartulary/entity/AttachmentValue", name := "isUri", desc := "()Z" } : Jvm.MethodName) prog_19_method_4_code (1 : Nat) (Option.some Jvm.ClassFile.FieldType.boolean)).before args0 about1 = true := code_word (m := ⟨9, 2⟩) (meth := k9m2) (c := k9c2) (by decide +kernel) rfl rfl rfl (by decide +kernel)
set_option maxRecDepth 65536 in
theorem w_c12 : (Jvm.Cond.code ({ cls := "com/example/cartulary/cartulary/entity/AttachmentValue", name := "getText", desc := "()Ljava/lang/String;" } : Jvm.MethodName) prog_19_method_5_code (1 : Nat) (Option.some (Jvm.ClassFile.FieldType.object "java/lang/String"))).before args0 about1 = true := code_word (m := ⟨9, 3⟩) (meth := k9m3) (c := k9c3) (by decide +kernel) rfl rfl rfl (by decide +kernel)
set_option maxRecDepth 65536 in
theorem w_c13 : (Jvm.Cond.code ({ cls := "java/lang/String", name := "length", desc := "()I" } : Jvm.MethodName) jdk_42_method_54_code (1 : Nat) (Option.some Jvm.ClassFile.FieldType.int)).before args0 about1 = true := code_word (m := ⟨7, 2⟩) (meth := k7m2) (c := k7c2) (by decide +kernel) rfl rfl rfl (by decide +kernel)
set_option maxRecDepth 65536 in
theorem w_c14 : (Jvm.Cond.code ({ cls := "java/lang/String", name := "coder", desc := "()B" } : Jvm.MethodName) jdk_42_method_152_code (1 : Nat) (Option.some Jvm.ClassFile.FieldType.byte)).before args0 about1 = true := code_word (m := ⟨7, 6⟩) (meth := k7m6) (c := k7c6) (by decide +kernel) rfl rfl rfl (by decide +kernel)
set_option maxRecDepth 65536 in
theorem w_c15 : (Jvm.Cond.code ({ cls := "java/lang/String", name := "charAt", desc := "(I)C" } : Jvm.MethodName) jdk_42_method_56_code (2 : Nat) (Option.some Jvm.ClassFile.FieldType.char)).before args0 about1 = true := code_word (m := ⟨7, 3⟩) (meth := k7m3) (c := k7c3) (by decide +kernel) rfl rfl rfl (by decide +kernel)
set_option maxRecDepth 65536 in
theorem w_c16 : (Jvm.Cond.code ({ cls := "java/lang/String", name := "isLatin1", desc := "()Z" } : Jvm.MethodName) jdk_42_method_154_code (1 : Nat) (Option.some Jvm.ClassFile.FieldType.boolean)).before args0 about1 = true := code_word (m := ⟨7, 7⟩) (meth := k7m7) (c := k7c7) (by decide +kernel) rfl rfl rfl (by decide +kernel)
set_option maxRecDepth 65536 in
theorem w_c17 : (Jvm.Cond.code ({ cls := "java/lang/StringLatin1", name := "charAt", desc := "([BI)C" } : Jvm.MethodName) jdk_43_method_2_code (2 : Nat) (Option.some Jvm.ClassFile.FieldType.char)).before args0 about1 = true := code_word (m := ⟨11, 1⟩) (meth := k11m1) (c := k11c1) (by decide +kernel) rfl rfl rfl (by decide +kernel)
set_option maxRecDepth 65536 in
theorem w_c18 : (Jvm.Cond.code ({ cls := "java/lang/String", name := "checkIndex", desc := "(II)V" } : Jvm.MethodName) jdk_42_method_155_code (2 : Nat) (Option.none : Option Jvm.ClassFile.FieldType)).before args0 about1 = true := code_word (m := ⟨7, 8⟩) (meth := k7m8) (c := k7c8) (by decide +kernel) rfl rfl rfl (by decide +kernel)
set_option maxRecDepth 65536 in
theorem w_c19 : (Jvm.Cond.code ({ cls := "jdk/internal/util/Preconditions", name := "checkIndex", desc := "(IILjava/util/function/BiFunction;)I" } : Jvm.MethodName) jdk_41_method_11_code (3 : Nat) (Option.some Jvm.ClassFile.FieldType.int)).before args0 about1 = true := code_word (m := ⟨12, 1⟩) (meth := k12m1) (c := k12c1) (by decide +kernel) rfl rfl rfl (by decide +kernel)
set_option maxRecDepth 65536 in
theorem w_c20 : (Jvm.Cond.code ({ cls := "java/lang/String", name := "equals", desc := "(Ljava/lang/Object;)Z" } : Jvm.MethodName) jdk_42_method_66_code (3 : Nat) (Option.some Jvm.ClassFile.FieldType.boolean)).before args0 about1 = true := code_word (m := ⟨7, 4⟩) (meth := k7m4) (c := k7c4) (by decide +kernel) rfl rfl rfl (by decide +kernel)
set_option maxRecDepth 65536 in
theorem w_c21 : (Jvm.Cond.code ({ cls := "java/lang/StringUTF16", name := "toBytes", desc := "([CII)[B" } : Jvm.MethodName) jdk_52_method_14_code (5 : Nat) (Option.some (Jvm.ClassFile.FieldType.array Jvm.ClassFile.FieldType.byte))).before args0 about1 = true := code_word (m := ⟨8, 6⟩) (meth := k8m6) (c := k8c6) (by decide +kernel) rfl rfl rfl (by decide +kernel)
set_option maxRecDepth 65536 in
theorem w_c22 : (Jvm.Cond.code ({ cls := "java/lang/StringUTF16", name := "newBytesFor", desc := "(I)[B" } : Jvm.MethodName) jdk_52_method_2_code (1 : Nat) (Option.some (Jvm.ClassFile.FieldType.array Jvm.ClassFile.FieldType.byte))).before args0 about1 = true := code_word (m := ⟨8, 1⟩) (meth := k8m1) (c := k8c1) (by decide +kernel) rfl rfl rfl (by decide +kernel)
set_option maxRecDepth 65536 in
theorem w_c23 : (Jvm.Cond.code ({ cls := "java/lang/StringUTF16", name := "newBytesLength", desc := "(I)I" } : Jvm.MethodName) jdk_52_method_3_code (1 : Nat) (Option.some Jvm.ClassFile.FieldType.int)).before args0 about1 = true := code_word (m := ⟨8, 2⟩) (meth := k8m2) (c := k8c2) (by decide +kernel) rfl rfl rfl (by decide +kernel)
set_option maxRecDepth 65536 in
theorem w_c24 : (Jvm.Cond.code ({ cls := "java/lang/StringUTF16", name := "putChar", desc := "([BII)V" } : Jvm.MethodName) jdk_52_method_4_code (3 : Nat) (Option.none : Option Jvm.ClassFile.FieldType)).before args0 about1 = true := code_word (m := ⟨8, 3⟩) (meth := k8m3) (c := k8c3) (by decide +kernel) rfl rfl rfl (by decide +kernel)
set_option maxRecDepth 65536 in
theorem w_c25 : (Jvm.Cond.code ({ cls := "java/lang/StringUTF16", name := "getChar", desc := "([BI)C" } : Jvm.MethodName) jdk_52_method_5_code (2 : Nat) (Option.some Jvm.ClassFile.FieldType.char)).before args0 about1 = true := code_word (m := ⟨8, 4⟩) (meth := k8m4) (c := k8c4) (by decide +kernel) rfl rfl rfl (by decide +kernel)
set_option maxRecDepth 65536 in
theorem w_c26 : (Jvm.Cond.code ({ cls := "java/lang/StringUTF16", name := "charAt", desc := "([BI)C" } : Jvm.MethodName) jdk_52_method_83_code (2 : Nat) (Option.some Jvm.ClassFile.FieldType.char)).before args0 about1 = true := code_word (m := ⟨8, 10⟩) (meth := k8m10) (c := k8c10) (by decide +kernel) rfl rfl rfl (by decide +kernel)
set_option maxRecDepth 65536 in
theorem w_c27 : (Jvm.Cond.code ({ cls := "java/lang/StringUTF16", name := "checkIndex", desc := "(I[B)V" } : Jvm.MethodName) jdk_52_method_91_code (2 : Nat) (Option.none : Option Jvm.ClassFile.FieldType)).before args0 about1 = true := code_word (m := ⟨8, 11⟩) (meth := k8m11) (c := k8c11) (by decide +kernel) rfl rfl rfl (by decide +kernel)
set_option maxRecDepth 65536 in
theorem w_c28 : (Jvm.Cond.code ({ cls := "java/lang/StringUTF16", name := "length", desc := "([B)I" } : Jvm.MethodName) jdk_52_method_6_code (1 : Nat) (Option.some Jvm.ClassFile.FieldType.int)).before args0 about1 = true := code_word (m := ⟨8, 5⟩) (meth := k8m5) (c := k8c5) (by decide +kernel) rfl rfl rfl (by decide +kernel)
def codes1 : List Jvm.Cond := [Jvm.Cond.code x code maxLocals ret, Jvm.Cond.code ({ cls := "com/example/cartulary/cartulary/entity/AttachmentValueOfStringPinLaw", name := "make", desc := "(ICCC)Ljava/lang/String;" } : Jvm.MethodName) method_3_code (4 : Nat) (Option.some (Jvm.ClassFile.FieldType.object "java/lang/String")), Jvm.Cond.code ({ cls := "java/lang/String", name := "<init>", desc := "([C)V" } : Jvm.MethodName) jdk_42_method_3_code (2 : Nat) (Option.none : Option Jvm.ClassFile.FieldType), Jvm.Cond.code ({ cls := "java/lang/String", name := "<init>", desc := "([CIILjava/lang/Void;)V" } : Jvm.MethodName) jdk_42_method_149_code (6 : Nat) (Option.none : Option Jvm.ClassFile.FieldType), Jvm.Cond.code ({ cls := "java/lang/Object", name := "<init>", desc := "()V" } : Jvm.MethodName) object_method_1_code (1 : Nat) (Option.none : Option Jvm.ClassFile.FieldType), Jvm.Cond.code ({ cls := "java/lang/StringUTF16", name := "compress", desc := "([CII)[B" } : Jvm.MethodName) jdk_52_method_16_code (6 : Nat) (Option.some (Jvm.ClassFile.FieldType.array Jvm.ClassFile.FieldType.byte)), Jvm.Cond.code ({ cls := "java/lang/StringUTF16", name := "compress", desc := "([CI[BII)I" } : Jvm.MethodName) jdk_52_method_21_code (7 : Nat) (Option.some Jvm.ClassFile.FieldType.int), Jvm.Cond.code ({ cls := "java/lang/StringUTF16", name := "coderFromArrayLen", desc := "([BI)B" } : Jvm.MethodName) jdk_52_method_15_code (2 : Nat) (Option.some Jvm.ClassFile.FieldType.byte), Jvm.Cond.code ({ cls := "com/example/cartulary/cartulary/entity/AttachmentValue", name := "ofString", desc := "(Ljava/lang/String;)Lcom/example/cartulary/cartulary/entity/AttachmentValue;" } : Jvm.MethodName) prog_19_method_2_code (1 : Nat) (Option.some (Jvm.ClassFile.FieldType.object "com/example/cartulary/cartulary/entity/AttachmentValue")), Jvm.Cond.code ({ cls := "java/util/Objects", name := "requireNonNull", desc := "(Ljava/lang/Object;Ljava/lang/String;)Ljava/lang/Object;" } : Jvm.MethodName) jdk_31_method_11_code (2 : Nat) (Option.some (Jvm.ClassFile.FieldType.object "java/lang/Object")), Jvm.Cond.code ({ cls := "com/example/cartulary/cartulary/entity/AttachmentValue", name := "<init>", desc := "(Ljava/lang/String;Z)V" } : Jvm.MethodName) prog_19_method_1_code (3 : Nat) (Option.none : Option Jvm.ClassFile.FieldType), Jvm.Cond.code ({ cls := "com/example/cartulary/cartulary/entity/AttachmentValue", name := "isUri", desc := "()Z" } : Jvm.MethodName) prog_19_method_4_code (1 : Nat) (Option.some Jvm.ClassFile.FieldType.boolean), Jvm.Cond.code ({ cls := "com/example/cartulary/cartulary/entity/AttachmentValue", name := "getText", desc := "()Ljava/lang/String;" } : Jvm.MethodName) prog_19_method_5_code (1 : Nat) (Option.some (Jvm.ClassFile.FieldType.object "java/lang/String")), Jvm.Cond.code ({ cls := "java/lang/String", name := "length", desc := "()I" } : Jvm.MethodName) jdk_42_method_54_code (1 : Nat) (Option.some Jvm.ClassFile.FieldType.int), Jvm.Cond.code ({ cls := "java/lang/String", name := "coder", desc := "()B" } : Jvm.MethodName) jdk_42_method_152_code (1 : Nat) (Option.some Jvm.ClassFile.FieldType.byte), Jvm.Cond.code ({ cls := "java/lang/String", name := "charAt", desc := "(I)C" } : Jvm.MethodName) jdk_42_method_56_code (2 : Nat) (Option.some Jvm.ClassFile.FieldType.char), Jvm.Cond.code ({ cls := "java/lang/String", name := "isLatin1", desc := "()Z" } : Jvm.MethodName) jdk_42_method_154_code (1 : Nat) (Option.some Jvm.ClassFile.FieldType.boolean), Jvm.Cond.code ({ cls := "java/lang/StringLatin1", name := "charAt", desc := "([BI)C" } : Jvm.MethodName) jdk_43_method_2_code (2 : Nat) (Option.some Jvm.ClassFile.FieldType.char), Jvm.Cond.code ({ cls := "java/lang/String", name := "checkIndex", desc := "(II)V" } : Jvm.MethodName) jdk_42_method_155_code (2 : Nat) (Option.none : Option Jvm.ClassFile.FieldType), Jvm.Cond.code ({ cls := "jdk/internal/util/Preconditions", name := "checkIndex", desc := "(IILjava/util/function/BiFunction;)I" } : Jvm.MethodName) jdk_41_method_11_code (3 : Nat) (Option.some Jvm.ClassFile.FieldType.int), Jvm.Cond.code ({ cls := "java/lang/String", name := "equals", desc := "(Ljava/lang/Object;)Z" } : Jvm.MethodName) jdk_42_method_66_code (3 : Nat) (Option.some Jvm.ClassFile.FieldType.boolean), Jvm.Cond.code ({ cls := "java/lang/StringUTF16", name := "toBytes", desc := "([CII)[B" } : Jvm.MethodName) jdk_52_method_14_code (5 : Nat) (Option.some (Jvm.ClassFile.FieldType.array Jvm.ClassFile.FieldType.byte)), Jvm.Cond.code ({ cls := "java/lang/StringUTF16", name := "newBytesFor", desc := "(I)[B" } : Jvm.MethodName) jdk_52_method_2_code (1 : Nat) (Option.some (Jvm.ClassFile.FieldType.array Jvm.ClassFile.FieldType.byte)), Jvm.Cond.code ({ cls := "java/lang/StringUTF16", name := "newBytesLength", desc := "(I)I" } : Jvm.MethodName) jdk_52_method_3_code (1 : Nat) (Option.some Jvm.ClassFile.FieldType.int), Jvm.Cond.code ({ cls := "java/lang/StringUTF16", name := "putChar", desc := "([BII)V" } : Jvm.MethodName) jdk_52_method_4_code (3 : Nat) (Option.none : Option Jvm.ClassFile.FieldType), Jvm.Cond.code ({ cls := "java/lang/StringUTF16", name := "getChar", desc := "([BI)C" } : Jvm.MethodName) jdk_52_method_5_code (2 : Nat) (Option.some Jvm.ClassFile.FieldType.char), Jvm.Cond.code ({ cls := "java/lang/StringUTF16", name := "charAt", desc := "([BI)C" } : Jvm.MethodName) jdk_52_method_83_code (2 : Nat) (Option.some Jvm.ClassFile.FieldType.char), Jvm.Cond.code ({ cls := "java/lang/StringUTF16", name := "checkIndex", desc := "(I[B)V" } : Jvm.MethodName) jdk_52_method_91_code (2 : Nat) (Option.none : Option Jvm.ClassFile.FieldType), Jvm.Cond.code ({ cls := "java/lang/StringUTF16", name := "length", desc := "([B)I" } : Jvm.MethodName) jdk_52_method_6_code (1 : Nat) (Option.some Jvm.ClassFile.FieldType.int)]
set_option maxRecDepth 65536 in
theorem codes_eq : words1.filter isCode = codes1 := rfl
theorem w_codes : ∀ c ∈ words1.filter isCode, c.before args0 about1 = true := by
  rw [codes_eq]
  intro c hc
  simp only [codes1, List.mem_cons, List.not_mem_nil, or_false] at hc
  rcases hc with rfl | rfl | rfl | rfl | rfl | rfl | rfl | rfl | rfl | rfl | rfl | rfl | rfl | rfl | rfl | rfl | rfl | rfl | rfl | rfl | rfl | rfl | rfl | rfl | rfl | rfl | rfl | rfl | rfl
  · exact w_c0
  · exact w_c1
  · exact w_c2
  · exact w_c3
  · exact w_c4
  · exact w_c5
  · exact w_c6
  · exact w_c7
  · exact w_c8
  · exact w_c9
  · exact w_c10
  · exact w_c11
  · exact w_c12
  · exact w_c13
  · exact w_c14
  · exact w_c15
  · exact w_c16
  · exact w_c17
  · exact w_c18
  · exact w_c19
  · exact w_c20
  · exact w_c21
  · exact w_c22
  · exact w_c23
  · exact w_c24
  · exact w_c25
  · exact w_c26
  · exact w_c27
  · exact w_c28
set_option maxRecDepth 65536 in
theorem w_t1 : (words1.take 24).all (fun c => isCode c || c.before args0 about1) = true := by decide +kernel
set_option maxRecDepth 65536 in
theorem w_t2 : ((words1.drop 24).take 24).all (fun c => isCode c || c.before args0 about1) = true := by decide +kernel
set_option maxRecDepth 65536 in
theorem w_t3 : (((words1.drop 24).drop 24).take 24).all (fun c => isCode c || c.before args0 about1) = true := by decide +kernel
set_option maxRecDepth 65536 in
theorem w_t4 : ((((words1.drop 24).drop 24).drop 24).take 24).all (fun c => isCode c || c.before args0 about1) = true := by decide +kernel
set_option maxRecDepth 65536 in
theorem w_t5 : (((((words1.drop 24).drop 24).drop 24).drop 24).take 24).all (fun c => isCode c || c.before args0 about1) = true := by decide +kernel
set_option maxRecDepth 65536 in
theorem w_t6 : (((((words1.drop 24).drop 24).drop 24).drop 24).drop 24).all (fun c => isCode c || c.before args0 about1) = true := by decide +kernel
theorem w_tables : (allAtoms (Jvm.Cond.code x code maxLocals ret :: tables_1)).before args0 about1 = true := by
  rw [allAtoms_all]
  show words1.all (fun c => c.before args0 about1) = true
  refine all_split ?_ w_codes
  rw [← List.take_append_drop 24 words1, List.all_append, w_t1, ← List.take_append_drop 24 (words1.drop 24), List.all_append, w_t2, ← List.take_append_drop 24 ((words1.drop 24).drop 24), List.all_append, w_t3, ← List.take_append_drop 24 (((words1.drop 24).drop 24).drop 24), List.all_append, w_t4, ← List.take_append_drop 24 ((((words1.drop 24).drop 24).drop 24).drop 24), List.all_append, w_t5, w_t6]
  rfl
set_option maxRecDepth 65536 in
theorem w_rest : rest_1_c.before args0 about1 = true := by decide +kernel
set_option maxRecDepth 65536 in
theorem w_case : (Jvm.Cond.and given_1 narrow_1).before args0 about1 = true := by decide +kernel
set_option maxRecDepth 65536 in
theorem w_consts : constsHeld consts_1 about1 := Jvm.Lit.constsHeldB_iff.mp (by decide +kernel)
theorem w_applies : (headSpec (Jvm.Cond.code x code maxLocals ret :: tables_1) room_1).applies x e0.platform about1 = true :=
  (Spec.applies_iff w_frames).mpr ⟨w_running, w_runnable, w_alone, w_named, w_hears, w_ripe, w_room, w_tables⟩
theorem atStart : AtStart classFile x code maxLocals ret World_1 tables_1 room_1 Calls_1 rest_1 Pre_1 launch0 p0 e0 about1 theMethod args0 below0 :=
  ⟨lists_1, trivial, launch0.admits_env _ _ _, launch0.least_env, fairChoices_fair.cas, fairChoices_fair.clock, w_frames, w_args, w_heap, w_applies, ⟨w_consts, trivial⟩, w_rest, w_case⟩
end start1
theorem witness_1 : WitnessClaimed_1 := ⟨start1.p0, start1.e0, start1.about1, start1.theMethod, start1.args0, start1.below0, start1.atStart⟩
end Jvm.Pilot.@@N@@
