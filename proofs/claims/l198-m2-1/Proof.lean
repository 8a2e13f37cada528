import JvmDerived
import JvmDerived.Pilot.@@N@@Statement
import JvmDerived.Pilot.@@N@@Code
set_option linter.unusedVariables false
set_option linter.unusedSimpArgs false
namespace Jvm.Pilot.@@N@@
open Jvm Jvm.ClassFile Sem Op Lib Jvm.Free Jvm.Stand Jvm.LawKit Jvm.RoadKit Bundle Jvm.Pilot.@@N@@.Jvm.D
section OwnKit
variable {p : Program} {l : Launch} {e : Env} {R : Room} {s : State} {m : MethodId} {args : Array Value} {below : List Frame} {meth : Method} {c : Code} {T : State} {locs : List Loc} {cells slots : Nat}
/-- from T with the frame F on top the body ends, and its end is as P says -/
def Rch (p : Program) (e : Env) (below : List Frame) (T : State) (F : JFrame) (P : Outcome → State → Prop) : Prop := ∃ s₂ o, Steps p.tables e below (T.setTop F) s₂ ∧ s₂.status = .running ∧ Ended s₂ below o ∧ P o s₂
theorem Rch.st {P : Outcome → State → Prop} {T T' : State} {F F' : JFrame} (k : ∀ t, Steps p.tables e below (T'.setTop F') t → Steps p.tables e below (T.setTop F) t) (h : Rch p e below T' F' P) : Rch p e below T F P :=
  let ⟨a, o, h1, h2⟩ := h
  ⟨a, o, k _ h1, h2⟩
theorem Rch.sq {P : Outcome → State → Prop} {T T' : State} {F F' : JFrame} (k : Steps p.tables e below (T.setTop F) (T'.setTop F')) (h : Rch p e below T' F' P) : Rch p e below T F P := Rch.st (fun _ q => k.trans q) h
theorem Rch.cast {P : Outcome → State → Prop} {T : State} {F F' : JFrame} (q : F = F') (h : Rch p e below T F' P) : Rch p e below T F P := q ▸ h
/-- a return, as a contract says it -/
def Fin (s : State) (Q : Option Value → Heap → List Loc → Prop) (K N : Nat) (o : Outcome) (U : State) : Prop := ∃ v L, o = .returned v ∧ Q v U.heap L ∧ FrameEnd s o U L K N
theorem Rch.retV (X : Stand p l e R s m args below meth c T locs cells slots) (hx : p.tables.exec = Jvm.exec) {pc : Nat} {Ls : Array Slot} {w : Value} {t : FieldType} {i : Instr} {rest : List Value} {Q : Option Value → Heap → List Loc → Prop} {K N : Nat} (hret : meth.sig.returnType = some t) (hn : narrow t w = w)
    (hi : (i = .ireturn ∧ (t = .int ∨ t = .boolean ∨ t = .byte ∨ t = .char ∨ t = .short) ∧ ∃ z, w = .int z) ∨ (i = .lreturn ∧ t = .long ∧ ∃ z, w = .long z) ∨ (i = .dreturn ∧ t = .double ∧ ∃ z, w = .double z) ∨ (i = .freturn ∧ t = .float ∧ ∃ z, w = .float z) ∨ (i = .areturn ∧ t.isReference = true ∧ w.isRef = true))
    (hd : decode c.code pc = .ok (i, 1)) (hq : Q (some w) T.heap locs) (hk : cells ≤ K) (hs : slots ≤ N) (hlocks : meth.locks = false := by first | assumption | exact BodyLoose.notSynchronized (by assumption) | exact Body.notSynchronized (by assumption)) : Rch p e below T (mkF m pc Ls (w :: rest)) (Fin s Q K N) := by
  obtain ⟨fs, hr, hrun, hended, hW, hsame⟩ := X.leave (v := some w) (fun h => by rw [hret] at h; cases h) hlocks
  exact ⟨_, _, retOut X hx hret hn hi hd hr, hrun, hended, _, _, rfl, hq, ⟨_, rfl⟩, hW, hsame.mono hk hs⟩
theorem Rch.ret0 (X : Stand p l e R s m args below meth c T locs cells slots) (hx : p.tables.exec = Jvm.exec) {pc : Nat} {Ls : Array Slot} {Q : Option Value → Heap → List Loc → Prop} {K N : Nat} (hret : meth.sig.returnType = none)
    (hd : decode c.code pc = .ok (.return_, 1)) (hq : Q none T.heap locs) (hk : cells ≤ K) (hs : slots ≤ N) (hlocks : meth.locks = false := by first | assumption | exact BodyLoose.notSynchronized (by assumption) | exact Body.notSynchronized (by assumption)) : Rch p e below T (mkF m pc Ls []) (Fin s Q K N) := by
  obtain ⟨fs, hr, hrun, hended, hW, hsame⟩ := X.leave (v := none) (fun _ => rfl) hlocks
  exact ⟨_, _, X.returnOut hx hret hd hr, hrun, hended, _, _, rfl, hq, ⟨_, rfl⟩, hW, hsame.mono hk hs⟩
theorem Rnar {t : FieldType} {w : Value} (h : w.isRef = true) : narrow t w = w := by cases w <;> first | (cases t <;> rfl) | (simp [Value.isRef] at h)
theorem Rfit {t : FieldType} {w : Value} (ht : t.isReference = true) (h : w.isRef = true) : fits t w = true := by cases t <;> first | (cases ht; done) | (cases w <;> simp [Value.isRef, fits] at h ⊢)
theorem own_selP {args : Array Value} {y : MethodName} {n : Nat} (wi : (Cond.instantiable y.cls n).before args s = true) (hpriv : s.PrivateAt y) (hinst : (Cond.instanceMethod y).before args s = true) (hy : y.cls ≠ "java/lang/invoke/MethodHandle" ∧ y.cls ≠ "java/lang/invoke/VarHandle") : (Cond.selects y.cls y y).before args s = true := by
  obtain ⟨c2, k2, i1, i2, i3, i4⟩ := Cond.instantiable_spec wi
  exact selects_self_of_private i1 i2 (by simp_all) hpriv hinst hy
theorem lremM {g : JFrame} {target : State} (X : Stand p l e R s m args below meth c T locs cells slots) (hx : p.tables.exec = Jvm.exec) (hg : g.method = m) {x y : Int64} {rest : List Value} (hd : decode c.code g.pc = .ok (.lrem, 1)) (hs : g.stack = .long y :: .long x :: rest) (hy : y ≠ 0)
    (hr : Steps p.tables e below (T.setTop { g with pc := g.pc + 1, stack := .long (x % y) :: rest }) target) : Steps p.tables e below (T.setTop g) target := XT.lrem X.here hx hg hd hs hy (by rw [lrem_mod]; exact hr)
theorem ldc2D {g : JFrame} {target : State} (X : Stand p l e R s m args below meth c T locs cells slots) (hx : p.tables.exec = Jvm.exec) {own : String} {index : Nat} {b : UInt64} (hown : s.vm.findClass own = some m.cls) (hconst : (Cond.constantDouble own index b).before args s = true) (hg : g.method = m) (hd : decode c.code g.pc = .ok (.ldc2_w index, 3))
    (hr : Steps p.tables e below (T.setTop { g with pc := g.pc + 3, stack := .double b :: g.stack }) target) : Steps p.tables e below (T.setTop g) target := X.ldc2DoubleC hx hown hconst hg hd target hr
end OwnKit
section OwnArr
variable {p : Program} {l : Launch} {e : Env} {R : Room} {s : State} {m : MethodId} {args : Array Value} {below : List Frame} {meth : Method} {c : Code} {T Z : State} {locs : List Loc} {cells slots : Nat} {h : Heap} {a : Addr} {k : ClassId} {n j x : Int32} {vs : List Value} {d v : Value} {g : JFrame} {rest : List Value} {target : State}
theorem own_alen {ty : FieldType} (X : Stand p l e R s m args below meth c T locs cells slots) (hx : p.tables.exec = Jvm.exec) (hZ : Z.Warmed39 s.vm) (eT : T.heap = h) (V : Arv Z h a k ty n vs d) (hg : g.method = m) (hs : g.stack = .ref a :: rest) (hd : decode c.code g.pc = .ok (.arraylength, 1))
    (hr : Steps p.tables e below (T.setTop { g with pc := g.pc + 1, stack := .int n :: rest }) target) : Steps p.tables e below (T.setTop g) target := by
  obtain ⟨cl, Ar, q, S, M, H, G⟩ := V
  refine X.arraylength hx (by rw [eT]; exact Ar.1) (State.isArrayOf_alike hZ.alike Ar.2.1) hg hs hd _ ?_
  rw [len_of S M]; exact hr
theorem own_ldB (X : Stand p l e R s m args below meth c T locs cells slots) (hx : p.tables.exec = Jvm.exec) (hZ : Z.Warmed39 s.vm) (eT : T.heap = h) (V : Arv Z h a k .byte n vs d) (hj : ¬ j < 0 ∧ j < n) (hv : vs.getD j.toNatClampNeg d = v) (hg : g.method = m) (hs : g.stack = .int j :: .ref a :: rest) (hd : decode c.code g.pc = .ok (.baload, 1))
    (hr : Steps p.tables e below (T.setTop { g with pc := g.pc + 1, stack := v :: rest }) target) : Steps p.tables e below (T.setTop g) target := by
  obtain ⟨cl, Ar, q, S, M, H, G⟩ := V
  exact X.baloadBytes hx (by rw [eT]; exact Ar.1) (State.isArrayOf_alike hZ.alike Ar.2.1) Ar.2.2 (inb_of S hj) (H.at (inb_of S hj) hv) hg hs hd _ hr
theorem own_ldC (X : Stand p l e R s m args below meth c T locs cells slots) (hx : p.tables.exec = Jvm.exec) (hZ : Z.Warmed39 s.vm) (eT : T.heap = h) (V : Arv Z h a k .char n vs d) (hj : ¬ j < 0 ∧ j < n) (hv : vs.getD j.toNatClampNeg d = v) (hg : g.method = m) (hs : g.stack = .int j :: .ref a :: rest) (hd : decode c.code g.pc = .ok (.caload, 1))
    (hr : Steps p.tables e below (T.setTop { g with pc := g.pc + 1, stack := v :: rest }) target) : Steps p.tables e below (T.setTop g) target := by
  obtain ⟨cl, Ar, q, S, M, H, G⟩ := V
  exact X.caload hx (by rw [eT]; exact Ar.1) (State.isArrayOf_alike hZ.alike Ar.2.1) Ar.2.2 (inb_of S hj) (H.at (inb_of S hj) hv) hg hs hd _ hr
theorem own_stC (X : Stand p l e R s m args below meth c T locs cells slots) (hx : p.tables.exec = Jvm.exec) (hZ : Z.Warmed39 s.vm) (eT : T.heap = h) (V : Arv Z h a k .char n vs d) (hj : ¬ j < 0 ∧ j < n) (i : Nat) (hi : j.toNatClampNeg = i) (hl : i < vs.length) (hg : g.method = m) (hs : g.stack = .int x :: .int j :: .ref a :: rest) (hd : decode c.code g.pc = .ok (.castore, 1)) :
    ∃ T' h', Stand p l e R s m args below meth c T' (locs ++ [⟨a, j.toNatClampNeg⟩]) cells slots ∧ T'.heap = h' ∧ Wr h h' a j.toNatClampNeg (.int (nar .char x)) ∧ Arv Z h' a k .char n (vs.set i (.int (nar .char x))) d ∧ ∀ target, Steps p.tables e below (T'.setTop { g with pc := g.pc + 1, stack := rest }) target → Steps p.tables e below (T.setTop g) target := by
  obtain ⟨cl, Ar, q, S, M, H, G⟩ := V
  obtain ⟨T', h', X', e', W, st⟩ := stC X hx hZ eT Ar (inb_of S hj) hg hs hd
  exact ⟨T', h', X', e', W, Arv.set Ar q S M H G (fits_nar_char _) W i hi hl, st⟩
theorem own_stB (X : Stand p l e R s m args below meth c T locs cells slots) (hx : p.tables.exec = Jvm.exec) (hZ : Z.Warmed39 s.vm) (eT : T.heap = h) (V : Arv Z h a k .byte n vs d) (hj : ¬ j < 0 ∧ j < n) (i : Nat) (hi : j.toNatClampNeg = i) (hl : i < vs.length) (hg : g.method = m) (hs : g.stack = .int x :: .int j :: .ref a :: rest) (hd : decode c.code g.pc = .ok (.bastore, 1)) :
    ∃ T' h', Stand p l e R s m args below meth c T' (locs ++ [⟨a, j.toNatClampNeg⟩]) cells slots ∧ T'.heap = h' ∧ Wr h h' a j.toNatClampNeg (.int x.toInt8.toInt32) ∧ Arv Z h' a k .byte n (vs.set i (.int x.toInt8.toInt32)) d ∧ ∀ target, Steps p.tables e below (T'.setTop { g with pc := g.pc + 1, stack := rest }) target → Steps p.tables e below (T.setTop g) target := by
  obtain ⟨cl, Ar, q, S, M, H, G⟩ := V
  obtain ⟨T', h', X', e', W, st⟩ := stB X hx hZ eT Ar (inb_of S hj) hg hs hd
  exact ⟨T', h', X', e', W, Arv.set Ar q S M H G (fits_nar_byte _) W i hi hl, st⟩
end OwnArr
theorem own_ushrL11 (x : Int64) : (XT.ushrL x 11).toInt = ((x.toBitVec.toNat / 2048 : Nat) : Int) := by
  have h : (XT.ushrL x 11).toBitVec = x.toBitVec >>> 11 := by
    simp only [XT.ushrL]; rfl
  have h2 : (XT.ushrL x 11).toInt = (x.toBitVec >>> 11).toInt := congrArg BitVec.toInt h
  rw [h2, BitVec.toInt_eq_toNat_of_lt (by rw [BitVec.toNat_ushiftRight, Nat.shiftRight_eq_div_pow]; have := x.toBitVec.isLt; omega), BitVec.toNat_ushiftRight, Nat.shiftRight_eq_div_pow]
theorem own_top (x : Int64) : 0 ≤ (XT.ushrL x 11).toInt ∧ (XT.ushrL x 11).toInt < 9007199254740992 := by
  rw [own_ushrL11]; have := x.toBitVec.isLt; omega
/-- a whole number from 0 up to 2^53: its datum -/
theorem own_l2d {t : Int64} (h0 : 0 ≤ t.toInt) (h1 : t.toInt < 9007199254740992) : ∃ (c : Nat) (j : Nat), FP.Core.val64 (FP.l2d t) = .fin false c (if c = 0 then -1074 else -(j : Int)) ∧ j ≤ 52 ∧ c = t.toInt.toNat * 2 ^ j ∧ c < 2 ^ 53 ∧ (c = 0 ∨ 2 ^ 52 ≤ c) := by
  obtain ⟨n, hn⟩ : ∃ n : Nat, t.toInt = n := ⟨t.toInt.toNat, by omega⟩
  have hv : FP.Core.val64 (FP.l2d t) = FP.Core.roundRatio FP.Core.b64 false n 1 0 := by
    have := FP.Core.val64_l2d t
    rw [show FP.l2d t = FP.Core.l2d t from rfl, this]
    simp only [FP.Core.ofInt, FP.Core.round, hn]
    rw [show decide ((n : Int) < 0) = false from decide_eq_false (by omega)]
    rfl
  rw [hn] at h1 ⊢
  by_cases hz : n = 0
  · subst hz
    refine ⟨0, 0, ?_, by omega, by simp, by decide, Or.inl rfl⟩
    rw [hv]; decide
  · have hl := Nat.log2_lt hz |>.mp (Nat.lt_succ_self n.log2)
    have hk : 2 ^ n.log2 ≤ n := Nat.log2_self_le hz
    have hl52 : n.log2 ≤ 52 := by
      by_cases q : n.log2 ≤ 52
      · exact q
      · have : 2 ^ 53 ≤ 2 ^ n.log2 := Nat.pow_le_pow_right (by decide) (by omega)
        omega
    have e1 : 2 ^ n.log2 * 2 ^ (52 - n.log2) = 2 ^ 52 := by rw [← Nat.pow_add]; congr 1; omega
    have e2 : 2 ^ (n.log2 + 1) * 2 ^ (52 - n.log2) = 2 ^ 53 := by rw [← Nat.pow_add]; congr 1; omega
    have b1 : 2 ^ 52 ≤ n * 2 ^ (52 - n.log2) := by rw [← e1]; exact Nat.mul_le_mul_right _ hk
    have b2 : n * 2 ^ (52 - n.log2) < 2 ^ 53 := by rw [← e2]; exact Nat.mul_lt_mul_of_pos_right hl (Nat.two_pow_pos _)
    have hp : n * 2 ^ (52 - n.log2) ≠ 0 := by omega
    refine ⟨n * 2 ^ (52 - n.log2), 52 - n.log2, ?_, by omega, by simp, b2, Or.inr b1⟩
    rw [hv, if_neg hp]
    refine FP.Core.roundRatio_exact FP.Core.good_b64 (by decide) ⟨b2, ?_, ?_, Or.inr b1⟩ ?_
    · show (-1074 : Int) ≤ _; omega
    · show _ ≤ (971 : Int); omega
    · have a1 : ((0 : Int) - -((52 - n.log2 : Nat) : Int)).toNat = 52 - n.log2 := by omega
      have a2 : (-((52 - n.log2 : Nat) : Int) - 0).toNat = 0 := by omega
      rw [a1, a2]; simp
/-- times 2^-53 -/
theorem own_unit {t : Int64} (h0 : 0 ≤ t.toInt) (h1 : t.toInt < 9007199254740992) : ∃ (c : Nat) (j : Nat), FP.Core.val64 (FP.l2d t) = .fin false c (if c = 0 then -1074 else -(j : Int)) ∧ FP.Core.val64 (FP.dmul (FP.l2d t) 4368491638549381120) = .fin false c (if c = 0 then -1074 else -(j : Int) - 53) ∧ j ≤ 52 ∧ c < 2 ^ 53 ∧ (c = 0 ∨ 2 ^ 52 ≤ c) := by
  obtain ⟨c, j, hv, hj, -, hc, hc'⟩ := own_l2d h0 h1
  refine ⟨c, j, hv, ?_, hj, hc, hc'⟩
  rw [show FP.dmul (FP.l2d t) 4368491638549381120 = FP.Core.dmul (FP.l2d t) 4368491638549381120 from rfl, FP.Core.val64_dmul, hv, show FP.Core.val64 4368491638549381120 = .fin false (2 ^ 52) (-105) by decide]
  by_cases hz : c = 0
  · subst hz; rw [if_pos rfl, if_pos rfl]; decide
  · rw [if_neg hz, if_neg hz]
    show FP.Core.roundRatio FP.Core.b64 false (c * 2 ^ 52) 1 (-(j : Int) + -105) = _
    refine FP.Core.roundRatio_exact FP.Core.good_b64 (by decide) ⟨hc, ?_, ?_, Or.inr (by have : 2 ^ 52 ≤ c := by omega
                                                                                         exact this)⟩ ?_
    · show (-1074 : Int) ≤ _; omega
    · show _ ≤ (971 : Int); omega
    · have a1 : (-(j : Int) + -105 - (-(j : Int) - 53)).toNat = 0 := by omega
      have a2 : (-(j : Int) - 53 - (-(j : Int) + -105)).toNat = 52 := by omega
      rw [a1, a2]; simp
theorem own_back {t : Int64} (h0 : 0 ≤ t.toInt) (h1 : t.toInt < 9007199254740992) : FP.dmul (FP.dmul (FP.l2d t) 4368491638549381120) 4845873199050653696 = FP.l2d t := by
  obtain ⟨c, j, hv, hd, hj, hc, hc'⟩ := own_unit h0 h1
  have e : FP.Core.val64 (FP.dmul (FP.dmul (FP.l2d t) 4368491638549381120) 4845873199050653696) = FP.Core.val64 (FP.l2d t) := by
    rw [show FP.dmul (FP.dmul (FP.l2d t) 4368491638549381120) 4845873199050653696 = FP.Core.dmul (FP.dmul (FP.l2d t) 4368491638549381120) 4845873199050653696 from rfl, FP.Core.val64_dmul, hd, hv, show FP.Core.val64 4845873199050653696 = .fin false (2 ^ 52) 1 by decide]
    by_cases hz : c = 0
    · subst hz; rw [if_pos rfl, if_pos rfl]; decide
    · rw [if_neg hz, if_neg hz]
      show FP.Core.roundRatio FP.Core.b64 false (c * 2 ^ 52) 1 (-(j : Int) - 53 + 1) = _
      refine FP.Core.roundRatio_exact FP.Core.good_b64 (by decide) ⟨hc, ?_, ?_, Or.inr (by have : 2 ^ 52 ≤ c := by omega
                                                                                           exact this)⟩ ?_
      · show (-1074 : Int) ≤ _; omega
      · show _ ≤ (971 : Int); omega
      · have a1 : (-(j : Int) - 53 + 1 - -(j : Int)).toNat = 0 := by omega
        have a2 : (-(j : Int) - (-(j : Int) - 53 + 1)).toNat = 52 := by omega
        rw [a1, a2]; simp
  exact FP.Core.val64_inj (by rw [e, hv]; intro q; cases q) e
theorem own_d2l {t : Int64} (h0 : 0 ≤ t.toInt) (h1 : t.toInt < 9007199254740992) : FP.d2l (FP.dmul (FP.dmul (FP.l2d t) 4368491638549381120) 4845873199050653696) = t := by
  rw [own_back h0 h1]
  exact FP.Core.d2l_l2d (by omega)
theorem own_ge0 {t : Int64} (h0 : 0 ≤ t.toInt) (h1 : t.toInt < 9007199254740992) : ¬ cmpValue (FP.dcmp (FP.dmul (FP.l2d t) 4368491638549381120) 0) .l < 0 := by
  obtain ⟨c, j, hv, hd, hj, hc, hc'⟩ := own_unit h0 h1
  have e : FP.dcmp (FP.dmul (FP.l2d t) 4368491638549381120) 0 = FP.Core.order (.fin false c (if c = 0 then -1074 else -(j : Int) - 53)) (.fin false 0 (-1074)) := by
    rw [← hd]; rfl
  rw [e]
  simp only [FP.Core.order, FP.Core.signed, FP.Core.inUnits]
  simp only [Bool.false_eq_true, if_false, Nat.zero_mul, Int.ofNat_zero]
  have : compare ((c * 2 ^ ((if c = 0 then (-1074 : Int) else -(j : Int) - 53) - min (if c = 0 then (-1074 : Int) else -(j : Int) - 53) (-1074)).toNat : Nat) : Int) 0 ≠ .lt := by
    rw [Ne, Int.compare_eq_lt]; omega
  revert this
  generalize compare ((c * 2 ^ ((if c = 0 then (-1074 : Int) else -(j : Int) - 53) - min (if c = 0 then (-1074 : Int) else -(j : Int) - 53) (-1074)).toNat : Nat) : Int) 0 = o
  intro this
  cases o <;> first | (exact absurd rfl this) | decide
theorem own_lt1 {t : Int64} (h0 : 0 ≤ t.toInt) (h1 : t.toInt < 9007199254740992) : cmpValue (FP.dcmp (FP.dmul (FP.l2d t) 4368491638549381120) 4607182418800017408) .g < 0 := by
  obtain ⟨c, j, hv, hd, hj, hc, hc'⟩ := own_unit h0 h1
  have e : FP.dcmp (FP.dmul (FP.l2d t) 4368491638549381120) 4607182418800017408 = FP.Core.order (.fin false c (if c = 0 then -1074 else -(j : Int) - 53)) (.fin false (2 ^ 52) (-52)) := by
    rw [← hd, ← show FP.Core.val64 4607182418800017408 = .fin false (2 ^ 52) (-52) by decide]; rfl
  rw [e]
  by_cases hz : c = 0
  · subst hz; rw [if_pos rfl]; decide +kernel
  · rw [if_neg hz]
    have hm : min (-(j : Int) - 53) (-52) = -(j : Int) - 53 := by omega
    simp only [FP.Core.order, FP.Core.signed, FP.Core.inUnits, hm, Bool.false_eq_true, if_false]
    have a1 : (-(j : Int) - 53 - (-(j : Int) - 53)).toNat = 0 := by omega
    have a2 : (-52 - (-(j : Int) - 53)).toNat = j + 1 := by omega
    rw [a1, a2]
    have hlt : (((c * 2 ^ 0 : Nat)) : Int) < ((2 ^ 52 * 2 ^ (j + 1) : Nat) : Int) := by
      have : 2 ^ 1 ≤ 2 ^ (j + 1) := Nat.pow_le_pow_right (by decide) (by omega)
      have h3 : 2 ^ 52 * 2 ^ 1 ≤ 2 ^ 52 * 2 ^ (j + 1) := Nat.mul_le_mul_left _ this
      have h4 : c * 2 ^ 0 = c := by simp
      rw [h4]
      exact_mod_cast Nat.lt_of_lt_of_le hc (by simpa using h3)
    rw [Int.compare_eq_lt.mpr hlt]
    decide
theorem own_noNaN {t : Int64} (h0 : 0 ≤ t.toInt) (h1 : t.toInt < 9007199254740992) : Jvm.Free.Fl.NoNaN64 (FP.dmul (FP.l2d t) 4368491638549381120) := by
  obtain ⟨c, j, hv, hd, -⟩ := own_unit h0 h1
  exact Jvm.Free.Fl.dmul_out (Jvm.Free.Fl.l2d_fin t) (by unfold Jvm.Free.Fl.Fin64; decide)
theorem own_noNaN2 {t : Int64} (h0 : 0 ≤ t.toInt) (h1 : t.toInt < 9007199254740992) : Jvm.Free.Fl.NoNaN64 (FP.dmul (FP.dmul (FP.l2d t) 4368491638549381120) 4845873199050653696) := by
  rw [own_back h0 h1]
  exact (Jvm.Free.Fl.l2d_fin t).noNaN
/-- SplitMix64's mixing function -/
def own_mix (z : Int64) : Int64 := (((z ^^^ XT.ushrL z 30) * -4658895280553007687 ^^^ XT.ushrL ((z ^^^ XT.ushrL z 30) * -4658895280553007687) 27) * -7723592293110705685) ^^^ XT.ushrL (((z ^^^ XT.ushrL z 30) * -4658895280553007687 ^^^ XT.ushrL ((z ^^^ XT.ushrL z 30) * -4658895280553007687) 27) * -7723592293110705685) 31
def own_dbl (z : Int64) : UInt64 := FP.dmul (FP.l2d (XT.ushrL (own_mix z) 11)) 4368491638549381120
theorem own_dbl_eq (z : Int64) : FP.dmul (FP.l2d (XT.ushrL (own_mix z) 11)) 4368491638549381120 = own_dbl z := rfl
theorem own_dbl_nn (z : Int64) : Jvm.Free.Fl.NoNaN64 (own_dbl z) := by unfold own_dbl; exact own_noNaN (own_top _).1 (own_top _).2
theorem own_dbl_nn2 (z : Int64) : Jvm.Free.Fl.NoNaN64 (FP.dmul (own_dbl z) 4845873199050653696) := by unfold own_dbl; exact own_noNaN2 (own_top _).1 (own_top _).2
theorem own_dbl_ge0 (z : Int64) : ¬ cmpValue (FP.dcmp (own_dbl z) 0) .l < 0 := by unfold own_dbl; exact own_ge0 (own_top _).1 (own_top _).2
theorem own_dbl_lt1 (z : Int64) : cmpValue (FP.dcmp (own_dbl z) 4607182418800017408) .g < 0 := by unfold own_dbl; exact own_lt1 (own_top _).1 (own_top _).2
theorem own_dbl_l (z : Int64) : FP.d2l (FP.dmul (own_dbl z) 4845873199050653696) = XT.ushrL (own_mix z) 11 := by unfold own_dbl; exact own_d2l (own_top _).1 (own_top _).2
theorem d_prog_18_method_1_code_0 : decode prog_18_method_1_code 0 = .ok (.aload_n 0, 1) := by decide +kernel
theorem d_prog_18_method_1_code_1 : decode prog_18_method_1_code 1 = .ok (.invokespecial 1, 3) := by decide +kernel
theorem d_prog_18_method_1_code_4 : decode prog_18_method_1_code 4 = .ok (.aload_n 0, 1) := by decide +kernel
theorem d_prog_18_method_1_code_5 : decode prog_18_method_1_code 5 = .ok (.lload_n 1, 1) := by decide +kernel
theorem d_prog_18_method_1_code_6 : decode prog_18_method_1_code 6 = .ok (.putfield 7, 3) := by decide +kernel
theorem d_prog_18_method_1_code_9 : decode prog_18_method_1_code 9 = .ok (.return_, 1) := by decide +kernel
theorem pn_com_example_dualfit_dualfit_allocation_SeededRandom : plainName "com/example/dualfit/dualfit/allocation/SeededRandom" = true := by first | (simp [plainName, overriddenIn]; done) | decide +kernel
theorem ef_rm_init (m : MethodId) (aa : Addr) (sd : Int64)  : entryFrame m #[(.ref aa), (.long sd)] 3 = mkF m 0 #[.val (.ref aa), .val (.long sd), .second] [] := by  first | (simp [entryFrame, mkF, argsToLocals, Value.category, maxLocals]; done) | rfl
def Q_rm_init (Z : State) (aa : Addr) (sd : Int64) (h0 : Heap) (n0 : Nat) (v : Option Value) (h : Heap) (L : List Loc) : Prop := (v = none) ∧ (Fr n0 L) ∧ (Keep h0 h [aa]) ∧ (Fld Z h aa "com/example/dualfit/dualfit/allocation/SeededRandom" "state" "J" (.long sd))
set_option maxRecDepth 65536 in
set_option maxHeartbeats 40000000 in
theorem rm_init (l : Launch) (Z : State) (a0 : Array Value) (hw : ∀ d ∈ tables_1, d.before a0 Z = true) (ws : List Jvm.Cond) (aa : Addr) (sd : Int64) (h0 : Heap) (n0 : Nat) (Z0 : n0 ≤ h0.size) (f0 : Fld Z h0 aa "com/example/dualfit/dualfit/allocation/SeededRandom" "state" "J" (.long (0 : Int64))) (f1 : Exa Z h0 aa "com/example/dualfit/dualfit/allocation/SeededRandom") (ga : n0 ≤ aa) :
    MetFree l (⟨"com/example/dualfit/dualfit/allocation/SeededRandom", "<init>", "(J)V"⟩ : MethodName) (head1 (Jvm.Cond.code (⟨"com/example/dualfit/dualfit/allocation/SeededRandom", "<init>", "(J)V"⟩ : MethodName) prog_18_method_1_code 3 none :: ws) ({ frames := 1, cells := 0, slots := 0, locals := 12 } : Room)) (fun a U => a = #[(.ref aa), (.long sd)] ∧ Z.Warmed39 U.vm ∧ U.heap = h0) (fun _ _ _ _ _ => True) (fun _ U o U' => ∃ v L, o = .returned v ∧ Q_rm_init Z aa sd h0 n0 v U'.heap L ∧ FrameEnd U o U' L ({ frames := 1, cells := 0, slots := 0, locals := 12 } : Room).cells ({ frames := 1, cells := 0, slots := 0, locals := 12 } : Room).slots) := by
  refine MetFree.of_bodySF (plainFor_of_name pn_com_example_dualfit_dualfit_allocation_SeededRandom) hisR ?_
  intro p e s m args below meth c s₁ Bd hml0 hP hK
  obtain ⟨rfl, hZ, hh⟩ := hP
  have hx := Bd.exec
  have hby := Bd.bytes
  have hml : c.maxLocals = 3 := hml0
  have hown : s.vm.findClass "com/example/dualfit/dualfit/allocation/SeededRandom" = some m.cls := findClass_of_methodNamed Bd.named
  have hnm := (name_of_methodNamed Bd.named Bd.method).1
  have X0 : Stand p l e ({ frames := 1, cells := 0, slots := 0, locals := 12 } : Room) s m #[(.ref aa), (.long sd)] below meth c s₁ [] 0 0 := Stand.of_body Bd
  have e0 : s₁.heap = h0 := by rw [← hh, Bd.state]; rfl
  have N0 := Fr.nil n0
  have K00 : Keep h0 h0 [aa] := Keep.refl _ _
  have hlk0 : meth.locks = false := by first | assumption | exact BodyLoose.notSynchronized (by assumption) | exact Body.notSynchronized (by assumption)
  show Rch p e below s₁ (entryFrame m #[(.ref aa), (.long sd)] 3) (Fin s (Q_rm_init Z aa sd h0 n0) 0 0)
  refine Rch.cast (ef_rm_init m aa sd) ?_
  show Rch p e below s₁ (mkF m 0 #[.val (.ref aa), .val (.long sd), .second] []) _
  refine Rch.st (fun _ k => XS.aloadN X0.here hx rfl (hb hby d_prog_18_method_1_code_0) rfl rfl k) ?_
  show Rch p e below s₁ (mkF m 1 #[.val (.ref aa), .val (.long sd), .second] [(.ref aa)]) _
  obtain ⟨T1, X1, e1, st1⟩ := initO X0 hx hZ hown (hw _ (List.mem_of_getElem? (i := 6) rfl)) (hw _ (List.mem_of_getElem? (i := 7) rfl)) (hw _ (List.mem_of_getElem? (i := 8) rfl)) e0 (g := (mkF m 1 #[.val (.ref aa), .val (.long sd), .second] [(.ref aa)])) rfl (by rw [hml]; rfl) rfl (hb hby d_prog_18_method_1_code_1) (by decide) (W := 0) (by show 2 * 0 + _ ≤ _; exact Nat.le_of_eq rfl) (by decide)
  refine Rch.st (fun _ k => st1 _ k) ?_
  show Rch p e below T1 (mkF m 4 #[.val (.ref aa), .val (.long sd), .second] []) _
  refine Rch.st (fun _ k => XS.aloadN X1.here hx rfl (hb hby d_prog_18_method_1_code_4) rfl rfl k) ?_
  show Rch p e below T1 (mkF m 5 #[.val (.ref aa), .val (.long sd), .second] [(.ref aa)]) _
  refine Rch.st (fun _ k => XT.lloadN X1.here hx rfl (hb hby d_prog_18_method_1_code_5) rfl k) ?_
  show Rch p e below T1 (mkF m 6 #[.val (.ref aa), .val (.long sd), .second] [(.long sd), (.ref aa)]) _
  obtain ⟨T2, h2, X2, e2, W2, st2⟩ := putF X1 hx hZ hown (host := "") (Or.inl (hw _ (List.mem_of_getElem? (i := 9) rfl))) Via.refl e1 f0 f1 (Or.inl (hw _ (List.mem_of_getElem? (i := 10) rfl))) (hw _ (List.mem_of_getElem? (i := 1) rfl)) (ty := .long) (by decide) rfl rfl (g := (mkF m 6 #[.val (.ref aa), .val (.long sd), .second] [(.long sd), (.ref aa)])) rfl rfl (hb hby d_prog_18_method_1_code_6)
  have N3 := Fr.snoc X2 N0 ga
  have f4 : Fld Z h2 aa "com/example/dualfit/dualfit/allocation/SeededRandom" "state" "J" (.long sd) := f0.same W2
  have f5 : Exa Z h2 aa "com/example/dualfit/dualfit/allocation/SeededRandom" := f1.wr W2
  have Z6 := Nat.le_trans Z0 (Keep.of_wr W2).1
  have Kp7 : Keep h0 h2 [aa] := K00.wr W2 (Or.inl (List.mem_of_getElem? (i := 0) rfl))
  refine Rch.st (fun _ k => st2 _ k) ?_
  show Rch p e below T2 (mkF m 9 #[.val (.ref aa), .val (.long sd), .second] []) _
  exact Rch.ret0 X2 hx Bd.returns (hb hby d_prog_18_method_1_code_9) (by rw [e2]; exact ⟨rfl, N3, Kp7, f4⟩) (by decide) (by decide)

theorem d_prog_18_method_5_code_0 : decode prog_18_method_5_code 0 = .ok (.aload_n 0, 1) := by decide +kernel
theorem d_prog_18_method_5_code_1 : decode prog_18_method_5_code 1 = .ok (.dup, 1) := by decide +kernel
theorem d_prog_18_method_5_code_2 : decode prog_18_method_5_code 2 = .ok (.getfield 7, 3) := by decide +kernel
theorem d_prog_18_method_5_code_5 : decode prog_18_method_5_code 5 = .ok (.ldc2_w 27, 3) := by decide +kernel
theorem d_prog_18_method_5_code_8 : decode prog_18_method_5_code 8 = .ok (.ladd, 1) := by decide +kernel
theorem d_prog_18_method_5_code_9 : decode prog_18_method_5_code 9 = .ok (.putfield 7, 3) := by decide +kernel
theorem d_prog_18_method_5_code_12 : decode prog_18_method_5_code 12 = .ok (.aload_n 0, 1) := by decide +kernel
theorem d_prog_18_method_5_code_13 : decode prog_18_method_5_code 13 = .ok (.getfield 7, 3) := by decide +kernel
theorem d_prog_18_method_5_code_16 : decode prog_18_method_5_code 16 = .ok (.lstore_n 1, 1) := by decide +kernel
theorem d_prog_18_method_5_code_17 : decode prog_18_method_5_code 17 = .ok (.lload_n 1, 1) := by decide +kernel
theorem d_prog_18_method_5_code_18 : decode prog_18_method_5_code 18 = .ok (.lload_n 1, 1) := by decide +kernel
theorem d_prog_18_method_5_code_19 : decode prog_18_method_5_code 19 = .ok (.bipush 30, 2) := by decide +kernel
theorem d_prog_18_method_5_code_21 : decode prog_18_method_5_code 21 = .ok (.lushr, 1) := by decide +kernel
theorem d_prog_18_method_5_code_22 : decode prog_18_method_5_code 22 = .ok (.lxor, 1) := by decide +kernel
theorem d_prog_18_method_5_code_23 : decode prog_18_method_5_code 23 = .ok (.ldc2_w 29, 3) := by decide +kernel
theorem d_prog_18_method_5_code_26 : decode prog_18_method_5_code 26 = .ok (.lmul, 1) := by decide +kernel
theorem d_prog_18_method_5_code_27 : decode prog_18_method_5_code 27 = .ok (.lstore_n 1, 1) := by decide +kernel
theorem d_prog_18_method_5_code_28 : decode prog_18_method_5_code 28 = .ok (.lload_n 1, 1) := by decide +kernel
theorem d_prog_18_method_5_code_29 : decode prog_18_method_5_code 29 = .ok (.lload_n 1, 1) := by decide +kernel
theorem d_prog_18_method_5_code_30 : decode prog_18_method_5_code 30 = .ok (.bipush 27, 2) := by decide +kernel
theorem d_prog_18_method_5_code_32 : decode prog_18_method_5_code 32 = .ok (.lushr, 1) := by decide +kernel
theorem d_prog_18_method_5_code_33 : decode prog_18_method_5_code 33 = .ok (.lxor, 1) := by decide +kernel
theorem d_prog_18_method_5_code_34 : decode prog_18_method_5_code 34 = .ok (.ldc2_w 31, 3) := by decide +kernel
theorem d_prog_18_method_5_code_37 : decode prog_18_method_5_code 37 = .ok (.lmul, 1) := by decide +kernel
theorem d_prog_18_method_5_code_38 : decode prog_18_method_5_code 38 = .ok (.lstore_n 1, 1) := by decide +kernel
theorem d_prog_18_method_5_code_39 : decode prog_18_method_5_code 39 = .ok (.lload_n 1, 1) := by decide +kernel
theorem d_prog_18_method_5_code_40 : decode prog_18_method_5_code 40 = .ok (.lload_n 1, 1) := by decide +kernel
theorem d_prog_18_method_5_code_41 : decode prog_18_method_5_code 41 = .ok (.bipush 31, 2) := by decide +kernel
theorem d_prog_18_method_5_code_43 : decode prog_18_method_5_code 43 = .ok (.lushr, 1) := by decide +kernel
theorem d_prog_18_method_5_code_44 : decode prog_18_method_5_code 44 = .ok (.lxor, 1) := by decide +kernel
theorem d_prog_18_method_5_code_45 : decode prog_18_method_5_code 45 = .ok (.lreturn, 1) := by decide +kernel
theorem ef_rm_nextLong (m : MethodId) (aa : Addr) (sd : Int64)  : entryFrame m #[(.ref aa)] 3 = mkF m 0 #[.val (.ref aa), .unset, .unset] [] := by  first | (simp [entryFrame, mkF, argsToLocals, Value.category, maxLocals]; done) | rfl
def Q_rm_nextLong (Z : State) (aa : Addr) (sd : Int64) (h0 : Heap) (n0 : Nat) (v : Option Value) (h : Heap) (L : List Loc) : Prop := (v = some (.long (own_mix (sd + (-7046029254386353131 : Int64))))) ∧ (Fr n0 L) ∧ (Keep h0 h [aa]) ∧ (Fld Z h aa "com/example/dualfit/dualfit/allocation/SeededRandom" "state" "J" (.long (sd + (-7046029254386353131 : Int64))))
set_option maxRecDepth 65536 in
set_option maxHeartbeats 40000000 in
theorem rm_nextLong (l : Launch) (Z : State) (a0 : Array Value) (hw : ∀ d ∈ tables_1, d.before a0 Z = true) (ws : List Jvm.Cond) (aa : Addr) (sd : Int64) (h0 : Heap) (n0 : Nat) (Z0 : n0 ≤ h0.size) (f0 : Fld Z h0 aa "com/example/dualfit/dualfit/allocation/SeededRandom" "state" "J" (.long sd)) (f1 : Exa Z h0 aa "com/example/dualfit/dualfit/allocation/SeededRandom") (ga : n0 ≤ aa) :
    MetFree l (⟨"com/example/dualfit/dualfit/allocation/SeededRandom", "nextLong", "()J"⟩ : MethodName) (head1 (Jvm.Cond.code (⟨"com/example/dualfit/dualfit/allocation/SeededRandom", "nextLong", "()J"⟩ : MethodName) prog_18_method_5_code 3 (some .long) :: ws) ({ frames := 0, cells := 0, slots := 0, locals := 0 } : Room)) (fun a U => a = #[(.ref aa)] ∧ Z.Warmed39 U.vm ∧ U.heap = h0) (fun _ _ _ _ _ => True) (fun _ U o U' => ∃ v L, o = .returned v ∧ Q_rm_nextLong Z aa sd h0 n0 v U'.heap L ∧ FrameEnd U o U' L ({ frames := 0, cells := 0, slots := 0, locals := 0 } : Room).cells ({ frames := 0, cells := 0, slots := 0, locals := 0 } : Room).slots) := by
  refine MetFree.of_bodySF (plainFor_of_name pn_com_example_dualfit_dualfit_allocation_SeededRandom) hisR ?_
  intro p e s m args below meth c s₁ Bd hml0 hP hK
  obtain ⟨rfl, hZ, hh⟩ := hP
  have hx := Bd.exec
  have hby := Bd.bytes
  have hml : c.maxLocals = 3 := hml0
  have hown : s.vm.findClass "com/example/dualfit/dualfit/allocation/SeededRandom" = some m.cls := findClass_of_methodNamed Bd.named
  have hnm := (name_of_methodNamed Bd.named Bd.method).1
  have X0 : Stand p l e ({ frames := 0, cells := 0, slots := 0, locals := 0 } : Room) s m #[(.ref aa)] below meth c s₁ [] 0 0 := Stand.of_body Bd
  have e0 : s₁.heap = h0 := by rw [← hh, Bd.state]; rfl
  have N0 := Fr.nil n0
  have K00 : Keep h0 h0 [aa] := Keep.refl _ _
  have hlk0 : meth.locks = false := by first | assumption | exact BodyLoose.notSynchronized (by assumption) | exact Body.notSynchronized (by assumption)
  show Rch p e below s₁ (entryFrame m #[(.ref aa)] 3) (Fin s (Q_rm_nextLong Z aa sd h0 n0) 0 0)
  refine Rch.cast (ef_rm_nextLong m aa sd) ?_
  show Rch p e below s₁ (mkF m 0 #[.val (.ref aa), .unset, .unset] []) _
  refine Rch.st (fun _ k => XS.aloadN X0.here hx rfl (hb hby d_prog_18_method_5_code_0) rfl rfl k) ?_
  show Rch p e below s₁ (mkF m 1 #[.val (.ref aa), .unset, .unset] [(.ref aa)]) _
  refine Rch.st (fun _ k => XS.dup X0.here hx rfl (hb hby d_prog_18_method_5_code_1) rfl rfl k) ?_
  show Rch p e below s₁ (mkF m 2 #[.val (.ref aa), .unset, .unset] [(.ref aa), (.ref aa)]) _
  obtain ⟨T8, X8, e8, st8⟩ := getF X0 hx hZ hown (host := "") (Or.inl (hw _ (List.mem_of_getElem? (i := 9) rfl))) Via.refl e0 f0 (g := (mkF m 2 #[.val (.ref aa), .unset, .unset] [(.ref aa), (.ref aa)])) rfl rfl (hb hby d_prog_18_method_5_code_2)
  refine Rch.st (fun _ k => st8 _ k) ?_
  show Rch p e below T8 (mkF m 5 #[.val (.ref aa), .unset, .unset] [(.long sd), (.ref aa)]) _
  refine Rch.st (fun _ k => Stand.ldc2J X8 hx hown (mv hZ (hw _ (List.mem_of_getElem? (i := 20) rfl))) rfl (hb hby d_prog_18_method_5_code_5) k) ?_
  show Rch p e below T8 (mkF m 8 #[.val (.ref aa), .unset, .unset] [(.long (-7046029254386353131 : Int64)), (.long sd), (.ref aa)]) _
  refine Rch.st (fun _ k => XT.ladd X8.here hx rfl (hb hby d_prog_18_method_5_code_8) rfl k) ?_
  show Rch p e below T8 (mkF m 9 #[.val (.ref aa), .unset, .unset] [(.long (sd + (-7046029254386353131 : Int64))), (.ref aa)]) _
  obtain ⟨T9, h9, X9, e9, W9, st9⟩ := putF X8 hx hZ hown (host := "") (Or.inl (hw _ (List.mem_of_getElem? (i := 9) rfl))) Via.refl e8 f0 f1 (Or.inl (hw _ (List.mem_of_getElem? (i := 10) rfl))) (hw _ (List.mem_of_getElem? (i := 1) rfl)) (ty := .long) (by decide) rfl rfl (g := (mkF m 9 #[.val (.ref aa), .unset, .unset] [(.long (sd + (-7046029254386353131 : Int64))), (.ref aa)])) rfl rfl (hb hby d_prog_18_method_5_code_9)
  have N10 := Fr.snoc X9 N0 ga
  have f11 : Fld Z h9 aa "com/example/dualfit/dualfit/allocation/SeededRandom" "state" "J" (.long (sd + (-7046029254386353131 : Int64))) := f0.same W9
  have f12 : Exa Z h9 aa "com/example/dualfit/dualfit/allocation/SeededRandom" := f1.wr W9
  have Z13 := Nat.le_trans Z0 (Keep.of_wr W9).1
  have Kp14 : Keep h0 h9 [aa] := K00.wr W9 (Or.inl (List.mem_of_getElem? (i := 0) rfl))
  refine Rch.st (fun _ k => st9 _ k) ?_
  show Rch p e below T9 (mkF m 12 #[.val (.ref aa), .unset, .unset] []) _
  refine Rch.st (fun _ k => XS.aloadN X9.here hx rfl (hb hby d_prog_18_method_5_code_12) rfl rfl k) ?_
  show Rch p e below T9 (mkF m 13 #[.val (.ref aa), .unset, .unset] [(.ref aa)]) _
  obtain ⟨T15, X15, e15, st15⟩ := getF X9 hx hZ hown (host := "") (Or.inl (hw _ (List.mem_of_getElem? (i := 9) rfl))) Via.refl e9 f11 (g := (mkF m 13 #[.val (.ref aa), .unset, .unset] [(.ref aa)])) rfl rfl (hb hby d_prog_18_method_5_code_13)
  refine Rch.st (fun _ k => st15 _ k) ?_
  show Rch p e below T15 (mkF m 16 #[.val (.ref aa), .unset, .unset] [(.long (sd + (-7046029254386353131 : Int64)))]) _
  refine Rch.st (fun _ k => XT.lstoreN X15.here hx rfl (hb hby d_prog_18_method_5_code_16) rfl (l' := #[.val (.ref aa), .val (.long (sd + (-7046029254386353131 : Int64))), .second]) rfl k) ?_
  show Rch p e below T15 (mkF m 17 #[.val (.ref aa), .val (.long (sd + (-7046029254386353131 : Int64))), .second] []) _
  refine Rch.st (fun _ k => XT.lloadN X15.here hx rfl (hb hby d_prog_18_method_5_code_17) rfl k) ?_
  show Rch p e below T15 (mkF m 18 #[.val (.ref aa), .val (.long (sd + (-7046029254386353131 : Int64))), .second] [(.long (sd + (-7046029254386353131 : Int64)))]) _
  refine Rch.st (fun _ k => XT.lloadN X15.here hx rfl (hb hby d_prog_18_method_5_code_18) rfl k) ?_
  show Rch p e below T15 (mkF m 19 #[.val (.ref aa), .val (.long (sd + (-7046029254386353131 : Int64))), .second] [(.long (sd + (-7046029254386353131 : Int64))), (.long (sd + (-7046029254386353131 : Int64)))]) _
  refine Rch.st (fun _ k => XS.bipush X15.here hx rfl (hb hby d_prog_18_method_5_code_19) k) ?_
  show Rch p e below T15 (mkF m 21 #[.val (.ref aa), .val (.long (sd + (-7046029254386353131 : Int64))), .second] [(.int (30 : Int32)), (.long (sd + (-7046029254386353131 : Int64))), (.long (sd + (-7046029254386353131 : Int64)))]) _
  refine Rch.st (fun _ k => XT.lushr X15.here hx rfl (hb hby d_prog_18_method_5_code_21) rfl k) ?_
  show Rch p e below T15 (mkF m 22 #[.val (.ref aa), .val (.long (sd + (-7046029254386353131 : Int64))), .second] [(.long (XT.ushrL (sd + (-7046029254386353131 : Int64)) (30 : Int32))), (.long (sd + (-7046029254386353131 : Int64)))]) _
  refine Rch.st (fun _ k => XT.lxor X15.here hx rfl (hb hby d_prog_18_method_5_code_22) rfl k) ?_
  show Rch p e below T15 (mkF m 23 #[.val (.ref aa), .val (.long (sd + (-7046029254386353131 : Int64))), .second] [(.long ((sd + (-7046029254386353131 : Int64)) ^^^ (XT.ushrL (sd + (-7046029254386353131 : Int64)) (30 : Int32))))]) _
  refine Rch.st (fun _ k => Stand.ldc2J X15 hx hown (mv hZ (hw _ (List.mem_of_getElem? (i := 21) rfl))) rfl (hb hby d_prog_18_method_5_code_23) k) ?_
  show Rch p e below T15 (mkF m 26 #[.val (.ref aa), .val (.long (sd + (-7046029254386353131 : Int64))), .second] [(.long (-4658895280553007687 : Int64)), (.long ((sd + (-7046029254386353131 : Int64)) ^^^ (XT.ushrL (sd + (-7046029254386353131 : Int64)) (30 : Int32))))]) _
  refine Rch.st (fun _ k => XT.lmul X15.here hx rfl (hb hby d_prog_18_method_5_code_26) rfl k) ?_
  show Rch p e below T15 (mkF m 27 #[.val (.ref aa), .val (.long (sd + (-7046029254386353131 : Int64))), .second] [(.long (((sd + (-7046029254386353131 : Int64)) ^^^ (XT.ushrL (sd + (-7046029254386353131 : Int64)) (30 : Int32))) * (-4658895280553007687 : Int64)))]) _
  refine Rch.st (fun _ k => XT.lstoreN X15.here hx rfl (hb hby d_prog_18_method_5_code_27) rfl (l' := #[.val (.ref aa), .val (.long (((sd + (-7046029254386353131 : Int64)) ^^^ (XT.ushrL (sd + (-7046029254386353131 : Int64)) (30 : Int32))) * (-4658895280553007687 : Int64))), .second]) rfl k) ?_
  show Rch p e below T15 (mkF m 28 #[.val (.ref aa), .val (.long (((sd + (-7046029254386353131 : Int64)) ^^^ (XT.ushrL (sd + (-7046029254386353131 : Int64)) (30 : Int32))) * (-4658895280553007687 : Int64))), .second] []) _
  refine Rch.st (fun _ k => XT.lloadN X15.here hx rfl (hb hby d_prog_18_method_5_code_28) rfl k) ?_
  show Rch p e below T15 (mkF m 29 #[.val (.ref aa), .val (.long (((sd + (-7046029254386353131 : Int64)) ^^^ (XT.ushrL (sd + (-7046029254386353131 : Int64)) (30 : Int32))) * (-4658895280553007687 : Int64))), .second] [(.long (((sd + (-7046029254386353131 : Int64)) ^^^ (XT.ushrL (sd + (-7046029254386353131 : Int64)) (30 : Int32))) * (-4658895280553007687 : Int64)))]) _
  refine Rch.st (fun _ k => XT.lloadN X15.here hx rfl (hb hby d_prog_18_method_5_code_29) rfl k) ?_
  show Rch p e below T15 (mkF m 30 #[.val (.ref aa), .val (.long (((sd + (-7046029254386353131 : Int64)) ^^^ (XT.ushrL (sd + (-7046029254386353131 : Int64)) (30 : Int32))) * (-4658895280553007687 : Int64))), .second] [(.long (((sd + (-7046029254386353131 : Int64)) ^^^ (XT.ushrL (sd + (-7046029254386353131 : Int64)) (30 : Int32))) * (-4658895280553007687 : Int64))), (.long (((sd + (-7046029254386353131 : Int64)) ^^^ (XT.ushrL (sd + (-7046029254386353131 : Int64)) (30 : Int32))) * (-4658895280553007687 : Int64)))]) _
  refine Rch.st (fun _ k => XS.bipush X15.here hx rfl (hb hby d_prog_18_method_5_code_30) k) ?_
  show Rch p e below T15 (mkF m 32 #[.val (.ref aa), .val (.long (((sd + (-7046029254386353131 : Int64)) ^^^ (XT.ushrL (sd + (-7046029254386353131 : Int64)) (30 : Int32))) * (-4658895280553007687 : Int64))), .second] [(.int (27 : Int32)), (.long (((sd + (-7046029254386353131 : Int64)) ^^^ (XT.ushrL (sd + (-7046029254386353131 : Int64)) (30 : Int32))) * (-4658895280553007687 : Int64))), (.long (((sd + (-7046029254386353131 : Int64)) ^^^ (XT.ushrL (sd + (-7046029254386353131 : Int64)) (30 : Int32))) * (-4658895280553007687 : Int64)))]) _
  refine Rch.st (fun _ k => XT.lushr X15.here hx rfl (hb hby d_prog_18_method_5_code_32) rfl k) ?_
  show Rch p e below T15 (mkF m 33 #[.val (.ref aa), .val (.long (((sd + (-7046029254386353131 : Int64)) ^^^ (XT.ushrL (sd + (-7046029254386353131 : Int64)) (30 : Int32))) * (-4658895280553007687 : Int64))), .second] [(.long (XT.ushrL (((sd + (-7046029254386353131 : Int64)) ^^^ (XT.ushrL (sd + (-7046029254386353131 : Int64)) (30 : Int32))) * (-4658895280553007687 : Int64)) (27 : Int32))), (.long (((sd + (-7046029254386353131 : Int64)) ^^^ (XT.ushrL (sd + (-7046029254386353131 : Int64)) (30 : Int32))) * (-4658895280553007687 : Int64)))]) _
  refine Rch.st (fun _ k => XT.lxor X15.here hx rfl (hb hby d_prog_18_method_5_code_33) rfl k) ?_
  show Rch p e below T15 (mkF m 34 #[.val (.ref aa), .val (.long (((sd + (-7046029254386353131 : Int64)) ^^^ (XT.ushrL (sd + (-7046029254386353131 : Int64)) (30 : Int32))) * (-4658895280553007687 : Int64))), .second] [(.long ((((sd + (-7046029254386353131 : Int64)) ^^^ (XT.ushrL (sd + (-7046029254386353131 : Int64)) (30 : Int32))) * (-4658895280553007687 : Int64)) ^^^ (XT.ushrL (((sd + (-7046029254386353131 : Int64)) ^^^ (XT.ushrL (sd + (-7046029254386353131 : Int64)) (30 : Int32))) * (-4658895280553007687 : Int64)) (27 : Int32))))]) _
  refine Rch.st (fun _ k => Stand.ldc2J X15 hx hown (mv hZ (hw _ (List.mem_of_getElem? (i := 22) rfl))) rfl (hb hby d_prog_18_method_5_code_34) k) ?_
  show Rch p e below T15 (mkF m 37 #[.val (.ref aa), .val (.long (((sd + (-7046029254386353131 : Int64)) ^^^ (XT.ushrL (sd + (-7046029254386353131 : Int64)) (30 : Int32))) * (-4658895280553007687 : Int64))), .second] [(.long (-7723592293110705685 : Int64)), (.long ((((sd + (-7046029254386353131 : Int64)) ^^^ (XT.ushrL (sd + (-7046029254386353131 : Int64)) (30 : Int32))) * (-4658895280553007687 : Int64)) ^^^ (XT.ushrL (((sd + (-7046029254386353131 : Int64)) ^^^ (XT.ushrL (sd + (-7046029254386353131 : Int64)) (30 : Int32))) * (-4658895280553007687 : Int64)) (27 : Int32))))]) _
  refine Rch.st (fun _ k => XT.lmul X15.here hx rfl (hb hby d_prog_18_method_5_code_37) rfl k) ?_
  show Rch p e below T15 (mkF m 38 #[.val (.ref aa), .val (.long (((sd + (-7046029254386353131 : Int64)) ^^^ (XT.ushrL (sd + (-7046029254386353131 : Int64)) (30 : Int32))) * (-4658895280553007687 : Int64))), .second] [(.long (((((sd + (-7046029254386353131 : Int64)) ^^^ (XT.ushrL (sd + (-7046029254386353131 : Int64)) (30 : Int32))) * (-4658895280553007687 : Int64)) ^^^ (XT.ushrL (((sd + (-7046029254386353131 : Int64)) ^^^ (XT.ushrL (sd + (-7046029254386353131 : Int64)) (30 : Int32))) * (-4658895280553007687 : Int64)) (27 : Int32))) * (-7723592293110705685 : Int64)))]) _
  refine Rch.st (fun _ k => XT.lstoreN X15.here hx rfl (hb hby d_prog_18_method_5_code_38) rfl (l' := #[.val (.ref aa), .val (.long (((((sd + (-7046029254386353131 : Int64)) ^^^ (XT.ushrL (sd + (-7046029254386353131 : Int64)) (30 : Int32))) * (-4658895280553007687 : Int64)) ^^^ (XT.ushrL (((sd + (-7046029254386353131 : Int64)) ^^^ (XT.ushrL (sd + (-7046029254386353131 : Int64)) (30 : Int32))) * (-4658895280553007687 : Int64)) (27 : Int32))) * (-7723592293110705685 : Int64))), .second]) rfl k) ?_
  show Rch p e below T15 (mkF m 39 #[.val (.ref aa), .val (.long (((((sd + (-7046029254386353131 : Int64)) ^^^ (XT.ushrL (sd + (-7046029254386353131 : Int64)) (30 : Int32))) * (-4658895280553007687 : Int64)) ^^^ (XT.ushrL (((sd + (-7046029254386353131 : Int64)) ^^^ (XT.ushrL (sd + (-7046029254386353131 : Int64)) (30 : Int32))) * (-4658895280553007687 : Int64)) (27 : Int32))) * (-7723592293110705685 : Int64))), .second] []) _
  refine Rch.st (fun _ k => XT.lloadN X15.here hx rfl (hb hby d_prog_18_method_5_code_39) rfl k) ?_
  show Rch p e below T15 (mkF m 40 #[.val (.ref aa), .val (.long (((((sd + (-7046029254386353131 : Int64)) ^^^ (XT.ushrL (sd + (-7046029254386353131 : Int64)) (30 : Int32))) * (-4658895280553007687 : Int64)) ^^^ (XT.ushrL (((sd + (-7046029254386353131 : Int64)) ^^^ (XT.ushrL (sd + (-7046029254386353131 : Int64)) (30 : Int32))) * (-4658895280553007687 : Int64)) (27 : Int32))) * (-7723592293110705685 : Int64))), .second] [(.long (((((sd + (-7046029254386353131 : Int64)) ^^^ (XT.ushrL (sd + (-7046029254386353131 : Int64)) (30 : Int32))) * (-4658895280553007687 : Int64)) ^^^ (XT.ushrL (((sd + (-7046029254386353131 : Int64)) ^^^ (XT.ushrL (sd + (-7046029254386353131 : Int64)) (30 : Int32))) * (-4658895280553007687 : Int64)) (27 : Int32))) * (-7723592293110705685 : Int64)))]) _
  refine Rch.st (fun _ k => XT.lloadN X15.here hx rfl (hb hby d_prog_18_method_5_code_40) rfl k) ?_
  show Rch p e below T15 (mkF m 41 #[.val (.ref aa), .val (.long (((((sd + (-7046029254386353131 : Int64)) ^^^ (XT.ushrL (sd + (-7046029254386353131 : Int64)) (30 : Int32))) * (-4658895280553007687 : Int64)) ^^^ (XT.ushrL (((sd + (-7046029254386353131 : Int64)) ^^^ (XT.ushrL (sd + (-7046029254386353131 : Int64)) (30 : Int32))) * (-4658895280553007687 : Int64)) (27 : Int32))) * (-7723592293110705685 : Int64))), .second] [(.long (((((sd + (-7046029254386353131 : Int64)) ^^^ (XT.ushrL (sd + (-7046029254386353131 : Int64)) (30 : Int32))) * (-4658895280553007687 : Int64)) ^^^ (XT.ushrL (((sd + (-7046029254386353131 : Int64)) ^^^ (XT.ushrL (sd + (-7046029254386353131 : Int64)) (30 : Int32))) * (-4658895280553007687 : Int64)) (27 : Int32))) * (-7723592293110705685 : Int64))), (.long (((((sd + (-7046029254386353131 : Int64)) ^^^ (XT.ushrL (sd + (-7046029254386353131 : Int64)) (30 : Int32))) * (-4658895280553007687 : Int64)) ^^^ (XT.ushrL (((sd + (-7046029254386353131 : Int64)) ^^^ (XT.ushrL (sd + (-7046029254386353131 : Int64)) (30 : Int32))) * (-4658895280553007687 : Int64)) (27 : Int32))) * (-7723592293110705685 : Int64)))]) _
  refine Rch.st (fun _ k => XS.bipush X15.here hx rfl (hb hby d_prog_18_method_5_code_41) k) ?_
  show Rch p e below T15 (mkF m 43 #[.val (.ref aa), .val (.long (((((sd + (-7046029254386353131 : Int64)) ^^^ (XT.ushrL (sd + (-7046029254386353131 : Int64)) (30 : Int32))) * (-4658895280553007687 : Int64)) ^^^ (XT.ushrL (((sd + (-7046029254386353131 : Int64)) ^^^ (XT.ushrL (sd + (-7046029254386353131 : Int64)) (30 : Int32))) * (-4658895280553007687 : Int64)) (27 : Int32))) * (-7723592293110705685 : Int64))), .second] [(.int (31 : Int32)), (.long (((((sd + (-7046029254386353131 : Int64)) ^^^ (XT.ushrL (sd + (-7046029254386353131 : Int64)) (30 : Int32))) * (-4658895280553007687 : Int64)) ^^^ (XT.ushrL (((sd + (-7046029254386353131 : Int64)) ^^^ (XT.ushrL (sd + (-7046029254386353131 : Int64)) (30 : Int32))) * (-4658895280553007687 : Int64)) (27 : Int32))) * (-7723592293110705685 : Int64))), (.long (((((sd + (-7046029254386353131 : Int64)) ^^^ (XT.ushrL (sd + (-7046029254386353131 : Int64)) (30 : Int32))) * (-4658895280553007687 : Int64)) ^^^ (XT.ushrL (((sd + (-7046029254386353131 : Int64)) ^^^ (XT.ushrL (sd + (-7046029254386353131 : Int64)) (30 : Int32))) * (-4658895280553007687 : Int64)) (27 : Int32))) * (-7723592293110705685 : Int64)))]) _
  refine Rch.st (fun _ k => XT.lushr X15.here hx rfl (hb hby d_prog_18_method_5_code_43) rfl k) ?_
  show Rch p e below T15 (mkF m 44 #[.val (.ref aa), .val (.long (((((sd + (-7046029254386353131 : Int64)) ^^^ (XT.ushrL (sd + (-7046029254386353131 : Int64)) (30 : Int32))) * (-4658895280553007687 : Int64)) ^^^ (XT.ushrL (((sd + (-7046029254386353131 : Int64)) ^^^ (XT.ushrL (sd + (-7046029254386353131 : Int64)) (30 : Int32))) * (-4658895280553007687 : Int64)) (27 : Int32))) * (-7723592293110705685 : Int64))), .second] [(.long (XT.ushrL (((((sd + (-7046029254386353131 : Int64)) ^^^ (XT.ushrL (sd + (-7046029254386353131 : Int64)) (30 : Int32))) * (-4658895280553007687 : Int64)) ^^^ (XT.ushrL (((sd + (-7046029254386353131 : Int64)) ^^^ (XT.ushrL (sd + (-7046029254386353131 : Int64)) (30 : Int32))) * (-4658895280553007687 : Int64)) (27 : Int32))) * (-7723592293110705685 : Int64)) (31 : Int32))), (.long (((((sd + (-7046029254386353131 : Int64)) ^^^ (XT.ushrL (sd + (-7046029254386353131 : Int64)) (30 : Int32))) * (-4658895280553007687 : Int64)) ^^^ (XT.ushrL (((sd + (-7046029254386353131 : Int64)) ^^^ (XT.ushrL (sd + (-7046029254386353131 : Int64)) (30 : Int32))) * (-4658895280553007687 : Int64)) (27 : Int32))) * (-7723592293110705685 : Int64)))]) _
  refine Rch.st (fun _ k => XT.lxor X15.here hx rfl (hb hby d_prog_18_method_5_code_44) rfl k) ?_
  show Rch p e below T15 (mkF m 45 #[.val (.ref aa), .val (.long (((((sd + (-7046029254386353131 : Int64)) ^^^ (XT.ushrL (sd + (-7046029254386353131 : Int64)) (30 : Int32))) * (-4658895280553007687 : Int64)) ^^^ (XT.ushrL (((sd + (-7046029254386353131 : Int64)) ^^^ (XT.ushrL (sd + (-7046029254386353131 : Int64)) (30 : Int32))) * (-4658895280553007687 : Int64)) (27 : Int32))) * (-7723592293110705685 : Int64))), .second] [(.long ((((((sd + (-7046029254386353131 : Int64)) ^^^ (XT.ushrL (sd + (-7046029254386353131 : Int64)) (30 : Int32))) * (-4658895280553007687 : Int64)) ^^^ (XT.ushrL (((sd + (-7046029254386353131 : Int64)) ^^^ (XT.ushrL (sd + (-7046029254386353131 : Int64)) (30 : Int32))) * (-4658895280553007687 : Int64)) (27 : Int32))) * (-7723592293110705685 : Int64)) ^^^ (XT.ushrL (((((sd + (-7046029254386353131 : Int64)) ^^^ (XT.ushrL (sd + (-7046029254386353131 : Int64)) (30 : Int32))) * (-4658895280553007687 : Int64)) ^^^ (XT.ushrL (((sd + (-7046029254386353131 : Int64)) ^^^ (XT.ushrL (sd + (-7046029254386353131 : Int64)) (30 : Int32))) * (-4658895280553007687 : Int64)) (27 : Int32))) * (-7723592293110705685 : Int64)) (31 : Int32))))]) _
  exact Rch.retV X15 hx Bd.returns rfl (Or.inr (Or.inl ⟨rfl, rfl, _, rfl⟩)) (hb hby d_prog_18_method_5_code_45) (by rw [e15]; exact ⟨rfl, N10, Kp14, f11⟩) (by decide) (by decide)

theorem d_prog_18_method_4_code_0 : decode prog_18_method_4_code 0 = .ok (.aload_n 0, 1) := by decide +kernel
theorem d_prog_18_method_4_code_1 : decode prog_18_method_4_code 1 = .ok (.invokevirtual 21, 3) := by decide +kernel
theorem d_prog_18_method_4_code_4 : decode prog_18_method_4_code 4 = .ok (.bipush 11, 2) := by decide +kernel
theorem d_prog_18_method_4_code_6 : decode prog_18_method_4_code 6 = .ok (.lushr, 1) := by decide +kernel
theorem d_prog_18_method_4_code_7 : decode prog_18_method_4_code 7 = .ok (.l2d, 1) := by decide +kernel
theorem d_prog_18_method_4_code_8 : decode prog_18_method_4_code 8 = .ok (.ldc2_w 25, 3) := by decide +kernel
theorem d_prog_18_method_4_code_11 : decode prog_18_method_4_code 11 = .ok (.dmul, 1) := by decide +kernel
theorem d_prog_18_method_4_code_12 : decode prog_18_method_4_code 12 = .ok (.dreturn, 1) := by decide +kernel
theorem ef_rm_nextDouble (m : MethodId) (aa : Addr) (sd : Int64)  : entryFrame m #[(.ref aa)] 1 = mkF m 0 #[.val (.ref aa)] [] := by  first | (simp [entryFrame, mkF, argsToLocals, Value.category, maxLocals]; done) | rfl
def Q_rm_nextDouble (Z : State) (aa : Addr) (sd : Int64) (h0 : Heap) (n0 : Nat) (v : Option Value) (h : Heap) (L : List Loc) : Prop := (v = some (.double (own_dbl (sd + (-7046029254386353131 : Int64))))) ∧ (Fr n0 L) ∧ (Keep h0 h [aa]) ∧ (Fld Z h aa "com/example/dualfit/dualfit/allocation/SeededRandom" "state" "J" (.long (sd + (-7046029254386353131 : Int64))))
theorem pd___J : parseMethodDescriptor "()J" = some ⟨[], (some .long)⟩ := by decide +kernel
set_option maxRecDepth 65536 in
set_option maxHeartbeats 40000000 in
theorem rm_nextDouble (l : Launch) (Z : State) (a0 : Array Value) (hw : ∀ d ∈ tables_1, d.before a0 Z = true) (ws : List Jvm.Cond) (aa : Addr) (sd : Int64) (h0 : Heap) (n0 : Nat) (Z0 : n0 ≤ h0.size) (f0 : Fld Z h0 aa "com/example/dualfit/dualfit/allocation/SeededRandom" "state" "J" (.long sd)) (f1 : Exa Z h0 aa "com/example/dualfit/dualfit/allocation/SeededRandom") (ga : n0 ≤ aa) :
    MetFree l (⟨"com/example/dualfit/dualfit/allocation/SeededRandom", "nextDouble", "()D"⟩ : MethodName) (head1 (Jvm.Cond.code (⟨"com/example/dualfit/dualfit/allocation/SeededRandom", "nextDouble", "()D"⟩ : MethodName) prog_18_method_4_code 1 (some .double) :: ws) ({ frames := 1, cells := 0, slots := 0, locals := 14 } : Room)) (fun a U => a = #[(.ref aa)] ∧ Z.Warmed39 U.vm ∧ U.heap = h0) (fun _ _ _ _ _ => True) (fun _ U o U' => ∃ v L, o = .returned v ∧ Q_rm_nextDouble Z aa sd h0 n0 v U'.heap L ∧ FrameEnd U o U' L ({ frames := 1, cells := 0, slots := 0, locals := 14 } : Room).cells ({ frames := 1, cells := 0, slots := 0, locals := 14 } : Room).slots) := by
  refine MetFree.of_bodySF (plainFor_of_name pn_com_example_dualfit_dualfit_allocation_SeededRandom) hisR ?_
  intro p e s m args below meth c s₁ Bd hml0 hP hK
  obtain ⟨rfl, hZ, hh⟩ := hP
  have hx := Bd.exec
  have hby := Bd.bytes
  have hml : c.maxLocals = 1 := hml0
  have hown : s.vm.findClass "com/example/dualfit/dualfit/allocation/SeededRandom" = some m.cls := findClass_of_methodNamed Bd.named
  have hnm := (name_of_methodNamed Bd.named Bd.method).1
  have X0 : Stand p l e ({ frames := 1, cells := 0, slots := 0, locals := 14 } : Room) s m #[(.ref aa)] below meth c s₁ [] 0 0 := Stand.of_body Bd
  have e0 : s₁.heap = h0 := by rw [← hh, Bd.state]; rfl
  have N0 := Fr.nil n0
  have K00 : Keep h0 h0 [aa] := Keep.refl _ _
  have hlk0 : meth.locks = false := by first | assumption | exact BodyLoose.notSynchronized (by assumption) | exact Body.notSynchronized (by assumption)
  show Rch p e below s₁ (entryFrame m #[(.ref aa)] 1) (Fin s (Q_rm_nextDouble Z aa sd h0 n0) 0 0)
  refine Rch.cast (ef_rm_nextDouble m aa sd) ?_
  show Rch p e below s₁ (mkF m 0 #[.val (.ref aa)] []) _
  refine Rch.st (fun _ k => XS.aloadN X0.here hx rfl (hb hby d_prog_18_method_4_code_0) rfl rfl k) ?_
  show Rch p e below s₁ (mkF m 1 #[.val (.ref aa)] [(.ref aa)]) _
  obtain ⟨cq16, q16a, q16b⟩ := f1.cell
  obtain ⟨_, _, ⟨T16, L16, k16, n16⟩, -, X16, ⟨Lc16, hQ16, l16, y16, z16⟩, st16⟩ := X0.privateBack hx (y := (⟨"com/example/dualfit/dualfit/allocation/SeededRandom", "nextLong", "()J"⟩ : MethodName)) hown (mvT hZ (hw _ (List.mem_of_getElem? (i := 16) rfl))) (mvT hZ (hw _ (List.mem_of_getElem? (i := 17) rfl))) (own_selP (mvT hZ (hw _ (List.mem_of_getElem? (i := 1) rfl))) (Cond.privateMethod_at (mvP hZ (hw _ (List.mem_of_getElem? (i := 18) rfl)) (args := #[]))) (mvT hZ (hw _ (List.mem_of_getElem? (i := 17) rfl))) (by decide)) (Cond.privateMethod_at (mvP hZ (hw _ (List.mem_of_getElem? (i := 18) rfl)) (args := #[]))) (mvT hZ (hw _ (List.mem_of_getElem? (i := 19) rfl))) (by decide) (backOf (W := 0) (rm_nextLong l Z a0 hw [] aa sd h0 n0 Z0 f0 f1 (ga)) hZ (hw _ (List.mem_of_getElem? (i := 19) rfl)) (hw _ (List.mem_of_getElem? (i := 2) rfl)) (by decide) (by decide)) (g := (mkF m 1 #[.val (.ref aa)] [(.ref aa)])) rfl (by rw [hml]; rfl) (Steps.refl _) (a := aa) (by rw [e0]; exact q16a) q16b (argsL := []) (rest := []) (lenOf pd___J rfl) rfl (by show 2 * 0 + _ ≤ _; exact Nat.le_of_eq rfl) (hb hby d_prog_18_method_4_code_1) (fun _ _ => ⟨rfl, e0, (by decide : 0 + 0 ≤ _), (by decide : 0 + 0 ≤ _)⟩)
  dsimp only [Pt.U, Pt.locs, Pt.cells, Pt.slots] at X16 l16 y16 z16 st16 hQ16
  subst l16 y16 z16
  obtain ⟨rfl, NQ16, K16, fq16_0⟩ := hQ16
  have N17 := Fr.app N0 NQ16
  have f18 : Exa Z T16.heap aa "com/example/dualfit/dualfit/allocation/SeededRandom" := f1.keep K16
  have Kp19 : Keep h0 T16.heap [aa] := K00.trans K16 (allS (Or.inl (List.mem_of_getElem? (i := 0) rfl)) all0)
  have Z20 := Nat.le_trans Z0 K16.1
  refine Rch.st (fun _ k => st16.trans k) ?_
  show Rch p e below T16 (mkF m 4 #[.val (.ref aa)] [(.long (own_mix (sd + (-7046029254386353131 : Int64))))]) _
  refine Rch.st (fun _ k => XS.bipush X16.here hx rfl (hb hby d_prog_18_method_4_code_4) k) ?_
  show Rch p e below T16 (mkF m 6 #[.val (.ref aa)] [(.int (11 : Int32)), (.long (own_mix (sd + (-7046029254386353131 : Int64))))]) _
  refine Rch.st (fun _ k => XT.lushr X16.here hx rfl (hb hby d_prog_18_method_4_code_6) rfl k) ?_
  show Rch p e below T16 (mkF m 7 #[.val (.ref aa)] [(.long (XT.ushrL (own_mix (sd + (-7046029254386353131 : Int64))) (11 : Int32)))]) _
  refine Rch.st (fun _ k => XS.l2dS X16.here hx rfl (hb hby d_prog_18_method_4_code_7) rfl rfl k) ?_
  show Rch p e below T16 (mkF m 8 #[.val (.ref aa)] [(.double (FP.l2d (XT.ushrL (own_mix (sd + (-7046029254386353131 : Int64))) (11 : Int32))))]) _
  refine Rch.st (fun _ k => ldc2D X16 hx hown (mv hZ (hw _ (List.mem_of_getElem? (i := 23) rfl))) rfl (hb hby d_prog_18_method_4_code_8) k) ?_
  show Rch p e below T16 (mkF m 11 #[.val (.ref aa)] [(.double (4368491638549381120 : UInt64)), (.double (FP.l2d (XT.ushrL (own_mix (sd + (-7046029254386353131 : Int64))) (11 : Int32))))]) _
  refine Rch.st (fun _ k => XS.dmulS X16.here hx rfl (hb hby d_prog_18_method_4_code_11) rfl (own_dbl_nn (sd + (-7046029254386353131 : Int64))) rfl k) ?_
  show Rch p e below T16 (mkF m 12 #[.val (.ref aa)] [(.double (FP.dmul (FP.l2d (XT.ushrL (own_mix (sd + (-7046029254386353131 : Int64))) (11 : Int32))) (4368491638549381120 : UInt64)))]) _
  have r21 : (FP.dmul (FP.l2d (XT.ushrL (own_mix (sd + (-7046029254386353131 : Int64))) (11 : Int32))) (4368491638549381120 : UInt64)) = (own_dbl (sd + (-7046029254386353131 : Int64))) := own_dbl_eq _
  rw [r21]
  show Rch p e below T16 (mkF m 12 #[.val (.ref aa)] [(.double (own_dbl (sd + (-7046029254386353131 : Int64))))]) _
  exact Rch.retV X16 hx Bd.returns rfl (Or.inr (Or.inr (Or.inl ⟨rfl, rfl, _, rfl⟩))) (hb hby d_prog_18_method_4_code_12) (by rw [(rfl : T16.heap = T16.heap)]; exact ⟨rfl, N17, Kp19, fq16_0⟩) (by decide) (by decide)

theorem own_ushrL1 (x : Int64) : (XT.ushrL x 1).toInt = ((x.toBitVec.toNat / 2 : Nat) : Int) := by
  have h : (XT.ushrL x 1).toBitVec = x.toBitVec >>> 1 := by
    simp only [XT.ushrL]; rfl
  have h2 : (XT.ushrL x 1).toInt = (x.toBitVec >>> 1).toInt := congrArg BitVec.toInt h
  rw [h2, BitVec.toInt_eq_toNat_of_lt (by rw [BitVec.toNat_ushiftRight, Nat.shiftRight_eq_div_pow]; have := x.toBitVec.isLt; omega), BitVec.toNat_ushiftRight, Nat.shiftRight_eq_div_pow]
theorem own_mod64 (x y : Int64) (hx : 0 ≤ x.toInt) : (x % y).toInt = x.toInt % y.toInt := by rw [Int64.toInt_mod]; exact Int.tmod_eq_emod_of_nonneg hx
theorem own_add64 {x y : Int64} (h1 : -9223372036854775808 ≤ x.toInt + y.toInt) (h2 : x.toInt + y.toInt < 9223372036854775808) : (x + y).toInt = x.toInt + y.toInt := by have := c_ladd x y; have := rng64 (x + y); omega
theorem own_sub64 {x y : Int64} (h1 : -9223372036854775808 ≤ x.toInt - y.toInt) (h2 : x.toInt - y.toInt < 9223372036854775808) : (x - y).toInt = x.toInt - y.toInt := by have := c_lsub x y; have := rng64 (x - y); omega
theorem own_mul64 {x y : Int64} (h1 : -9223372036854775808 ≤ x.toInt * y.toInt) (h2 : x.toInt * y.toInt < 9223372036854775808) : (x * y).toInt = x.toInt * y.toInt := by have := c_lmul x y; have := rng64 (x * y); omega
theorem own_bd {bd : Int32} (hb : 1 ≤ bd.toInt) : bd.toInt64 ≠ 0 := fun h => by
  have := congrArg Int64.toInt h
  rw [Int32.toInt_toInt64] at this
  have h0 : (0 : Int64).toInt = 0 := by decide
  omega
theorem own_ex {bd : Int32} {N : Int64} (hb : 1 ≤ bd.toInt) (ht : XT.ushrL N 11 < 9007199252643840) : ¬ ((9223372036854775807 : Int64) - (((9223372036854775807 : Int64) % bd.toInt64 + 1) % bd.toInt64)) < XT.ushrL N 1 := by
  have h1 := rng32 bd
  have hM : (9223372036854775807 : Int64).toInt = 9223372036854775807 := by decide
  have h1' : (1 : Int64).toInt = 1 := by decide
  have e64 : bd.toInt64.toInt = bd.toInt := Int32.toInt_toInt64 bd
  have a1 : ((9223372036854775807 : Int64) % bd.toInt64).toInt = 9223372036854775807 % bd.toInt := by rw [own_mod64 _ _ (by rw [hM]; decide), hM, e64]
  have b1 := Int.emod_nonneg 9223372036854775807 (show bd.toInt ≠ 0 by omega)
  have b2 := Int.emod_lt_of_pos 9223372036854775807 (show 0 < bd.toInt by omega)
  generalize (9223372036854775807 : Int) % bd.toInt = r1 at a1 b1 b2
  have a2 : ((9223372036854775807 : Int64) % bd.toInt64 + 1).toInt = r1 + 1 := by rw [own_add64 (by rw [a1, h1']; omega) (by rw [a1, h1']; omega), a1, h1']
  have a3 : (((9223372036854775807 : Int64) % bd.toInt64 + 1) % bd.toInt64).toInt = (r1 + 1) % bd.toInt := by rw [own_mod64 _ _ (by rw [a2]; omega), a2, e64]
  have b3 := Int.emod_nonneg (r1 + 1) (show bd.toInt ≠ 0 by omega)
  have b4 := Int.emod_lt_of_pos (r1 + 1) (show 0 < bd.toInt by omega)
  generalize (r1 + 1) % bd.toInt = r2 at a3 b3 b4
  have a4 : ((9223372036854775807 : Int64) - (((9223372036854775807 : Int64) % bd.toInt64 + 1) % bd.toInt64)).toInt = 9223372036854775807 - r2 := by rw [own_sub64 (by rw [hM, a3]; omega) (by rw [hM, a3]; omega), hM, a3]
  rw [Int64.lt_iff_toInt_lt, own_ushrL11, show (9007199252643840 : Int64).toInt = 9007199252643840 by decide] at ht
  rw [Int64.lt_iff_toInt_lt, a4, own_ushrL1]
  generalize N.toBitVec.toNat = u at ht ⊢
  clear a1 a2 a3 a4 e64 hM
  omega
/-- what nextInt returns -/
def own_ni (z : Int64) (bd : Int32) : Int32 := (XT.ushrL (own_mix z) 1 % bd.toInt64).toInt32
theorem own_ni_int (z : Int64) {bd : Int32} (hb : 1 ≤ bd.toInt) : (own_ni z bd).toInt = (((own_mix z).toBitVec.toNat / 2 : Nat) : Int) % bd.toInt := by
  have h1 := rng32 bd
  have e64 : bd.toInt64.toInt = bd.toInt := Int32.toInt_toInt64 bd
  have a1 : (XT.ushrL (own_mix z) 1 % bd.toInt64).toInt = (((own_mix z).toBitVec.toNat / 2 : Nat) : Int) % bd.toInt := by rw [own_mod64 _ _ (by rw [own_ushrL1]; omega), own_ushrL1, e64]
  have b1 := Int.emod_nonneg (((own_mix z).toBitVec.toNat / 2 : Nat) : Int) (show bd.toInt ≠ 0 by omega)
  have b2 := Int.emod_lt_of_pos (((own_mix z).toBitVec.toNat / 2 : Nat) : Int) (show 0 < bd.toInt by omega)
  have := c_l2i (XT.ushrL (own_mix z) 1 % bd.toInt64)
  have h3 := rng32 (own_ni z bd)
  unfold own_ni at h3 ⊢
  omega
theorem own_ni_rng (z : Int64) {bd : Int32} (hb : 1 ≤ bd.toInt) : ¬ own_ni z bd < 0 ∧ own_ni z bd < bd := by
  have b1 := Int.emod_nonneg (((own_mix z).toBitVec.toNat / 2 : Nat) : Int) (show bd.toInt ≠ 0 by omega)
  have b2 := Int.emod_lt_of_pos (((own_mix z).toBitVec.toNat / 2 : Nat) : Int) (show 0 < bd.toInt by omega)
  rw [Int32.lt_iff_toInt_lt, Int32.lt_iff_toInt_lt, own_ni_int z hb, show (0 : Int32).toInt = 0 by decide]
  omega
/-- the law's last figure -/
def own_diff (z : Int64) (bd : Int32) : Int64 := ((own_ni z bd).toInt64 - (XT.ushrL (own_mix z) 11 * 1024) % bd.toInt64) % bd.toInt64
theorem own_pure {A B low b : Int} (hb : 0 < b) (h : B = A + low) (h0 : 0 ≤ low) (h1 : low ≤ 1023) : (0 ≤ B % b - A % b → B % b - A % b ≤ 1023) ∧ (B % b - A % b < 0 → B % b - A % b + b ≤ 1023) := by
  have c1 := Int.emod_nonneg B (show b ≠ 0 by omega)
  have c2 := Int.emod_lt_of_pos B hb
  have c3 := Int.emod_nonneg A (show b ≠ 0 by omega)
  have c4 := Int.emod_lt_of_pos A hb
  have d1 := Int.mul_ediv_add_emod B b
  have d2 := Int.mul_ediv_add_emod A b
  have hmono : A / b ≤ B / b := Int.ediv_le_ediv hb (by omega)
  obtain ⟨k, hk⟩ : ∃ k : Int, B / b = A / b + k := ⟨B / b - A / b, by omega⟩
  have hk0 : 0 ≤ k := by omega
  rw [hk, Int.mul_add] at d1
  generalize b * (A / b) = P at d1 d2
  generalize B % b = rB at *
  generalize A % b = rA at *
  constructor
  · intro hn
    have hbk : 0 ≤ b * k := Int.mul_nonneg (by omega) hk0
    generalize b * k = bk at *
    omega
  · intro hn
    have hk1 : 1 ≤ k := by
      rcases Int.lt_or_le 0 k with q | q
      · omega
      · have : k = 0 := by omega
        subst this
        rw [Int.mul_zero] at d1
        omega
    have : b * 1 ≤ b * k := Int.mul_le_mul_of_nonneg_left hk1 (by omega)
    rw [Int.mul_one] at this
    generalize b * k = bk at *
    omega
theorem own_diff_ok (z : Int64) {bd : Int32} (hb : 1 ≤ bd.toInt) : (¬ own_diff z bd < 0 → ¬ 1023 < own_diff z bd) ∧ (own_diff z bd < 0 → ¬ 1023 < own_diff z bd + bd.toInt64) := by
  have h1 := rng32 bd
  have e64 : bd.toInt64.toInt = bd.toInt := Int32.toInt_toInt64 bd
  have hr := own_ni_int z hb
  have hlt := (own_mix z).toBitVec.isLt
  have h1024 : (1024 : Int64).toInt = 1024 := by decide
  have z0 : (0 : Int64).toInt = 0 := by decide
  have z1 : (1023 : Int64).toInt = 1023 := by decide
  generalize hN : own_mix z = N at hr hlt
  generalize hu : N.toBitVec.toNat = u at hr hlt
  have et : (XT.ushrL N 11).toInt = ((u / 2048 : Nat) : Int) := by rw [own_ushrL11, hu]
  generalize hr' : own_ni z bd = r at hr
  generalize hd' : own_diff z bd = D
  have hD : D = (r.toInt64 - (XT.ushrL N 11 * 1024) % bd.toInt64) % bd.toInt64 := by rw [← hd', ← hr', ← hN]; rfl
  have r64 : r.toInt64.toInt = ((u / 2 : Nat) : Int) % bd.toInt := by rw [Int32.toInt_toInt64, hr]
  clear hd' hr' hr hu hN
  generalize XT.ushrL N 11 = tt at et hD
  generalize r.toInt64 = rl at r64 hD
  generalize bd.toInt64 = bl at e64 hD ⊢
  generalize bd.toInt = b at *
  have em : (tt * 1024).toInt = ((u / 2048 : Nat) : Int) * 1024 := by rw [own_mul64 (by rw [et, h1024]; clear hD r64 e64; omega) (by rw [et, h1024]; clear hD r64 e64; omega), et, h1024]
  generalize tt * 1024 = tm at em hD
  have eb : (tm % bl).toInt = (((u / 2048 : Nat) : Int) * 1024) % b := by rw [own_mod64 _ _ (by rw [em]; clear hD r64 e64 em et; omega), em, e64]
  generalize tm % bl = tb at eb hD
  clear em et
  obtain ⟨low, hlow, hlow2, hlow3⟩ : ∃ low : Int, ((u / 2 : Nat) : Int) = ((u / 2048 : Nat) : Int) * 1024 + low ∧ 0 ≤ low ∧ low ≤ 1023 := ⟨((u / 2 : Nat) : Int) - ((u / 2048 : Nat) : Int) * 1024, by clear hD r64 e64 eb; omega, by clear hD r64 e64 eb; omega, by clear hD r64 e64 eb; omega⟩
  have bpos : 0 < b := by clear hD r64 e64 eb; omega
  generalize ((u / 2 : Nat) : Int) = B at r64 hlow
  generalize ((u / 2048 : Nat) : Int) * 1024 = A at eb hlow
  have hP := own_pure bpos hlow hlow2 hlow3
  have c1 := Int.emod_nonneg B (show b ≠ 0 by clear hD r64 e64 eb hP; omega)
  have c2 := Int.emod_lt_of_pos B bpos
  have c3 := Int.emod_nonneg A (show b ≠ 0 by clear hD r64 e64 eb hP; omega)
  have c4 := Int.emod_lt_of_pos A bpos
  generalize B % b = rB at *
  generalize A % b = rA at *
  have es : (rl - tb).toInt = rB - rA := by rw [own_sub64 (by rw [r64, eb]; clear hD r64 e64 eb hP; omega) (by rw [r64, eb]; clear hD r64 e64 eb hP; omega), r64, eb]
  have ed : D.toInt = rB - rA := by
    rw [hD, Int64.toInt_mod, es, e64]
    clear hD r64 e64 eb hP es
    by_cases hs : 0 ≤ rB - rA
    · rw [Int.tmod_eq_emod_of_nonneg hs, Int.emod_eq_of_lt hs (by omega)]
    · rw [← Int.neg_neg (rB - rA), Int.neg_tmod, Int.tmod_eq_emod_of_nonneg (by omega), Int.emod_eq_of_lt (by omega) (by omega)]
  clear hD r64 eb es
  constructor
  · intro hn
    rw [Int64.lt_iff_toInt_lt, ed, z0] at hn
    rw [Int64.lt_iff_toInt_lt, ed, z1]
    have := hP.1
    clear hP ed e64 z0 z1 h1024
    omega
  · intro hn
    rw [Int64.lt_iff_toInt_lt, ed, z0] at hn
    rw [Int64.lt_iff_toInt_lt, own_add64 (by rw [ed, e64]; clear hP ed e64 z0 z1 h1024; omega) (by rw [ed, e64]; clear hP ed e64 z0 z1 h1024; omega), ed, e64, z1]
    have := hP.2
    clear hP ed e64 z0 z1 h1024
    omega
theorem own_b1 (b : Int32) : 1 ≤ ((b &&& 1023) + 1).toInt := by
  have h := c_and b 1023 (by decide)
  have h3 : (1023 : Int32).toInt = 1023 := by decide
  have h1 : (1 : Int32).toInt = 1 := by decide
  have := c_iadd (b &&& 1023) 1
  have := rng32 ((b &&& 1023) + 1)
  omega
theorem own_b2 {b : Int32} (hn : ¬ (b &&& 2147483647) = 0) : 1 ≤ (b &&& 2147483647).toInt := by
  have h := (c_and b 2147483647 (by decide)).1
  have : (b &&& 2147483647).toInt ≠ 0 := fun q => hn (Int32.toInt_inj.mp (by rw [q]; rfl))
  omega
theorem d_prog_18_method_3_code_0 : decode prog_18_method_3_code 0 = .ok (.ldc2_w 19, 3) := by decide +kernel
theorem d_prog_18_method_3_code_3 : decode prog_18_method_3_code 3 = .ok (.iload_n 1, 1) := by decide +kernel
theorem d_prog_18_method_3_code_4 : decode prog_18_method_3_code 4 = .ok (.i2l, 1) := by decide +kernel
theorem d_prog_18_method_3_code_5 : decode prog_18_method_3_code 5 = .ok (.lrem, 1) := by decide +kernel
theorem d_prog_18_method_3_code_6 : decode prog_18_method_3_code 6 = .ok (.lconst 1, 1) := by decide +kernel
theorem d_prog_18_method_3_code_7 : decode prog_18_method_3_code 7 = .ok (.ladd, 1) := by decide +kernel
theorem d_prog_18_method_3_code_8 : decode prog_18_method_3_code 8 = .ok (.iload_n 1, 1) := by decide +kernel
theorem d_prog_18_method_3_code_9 : decode prog_18_method_3_code 9 = .ok (.i2l, 1) := by decide +kernel
theorem d_prog_18_method_3_code_10 : decode prog_18_method_3_code 10 = .ok (.lrem, 1) := by decide +kernel
theorem d_prog_18_method_3_code_11 : decode prog_18_method_3_code 11 = .ok (.lstore_n 2, 1) := by decide +kernel
theorem d_prog_18_method_3_code_12 : decode prog_18_method_3_code 12 = .ok (.aload_n 0, 1) := by decide +kernel
theorem d_prog_18_method_3_code_13 : decode prog_18_method_3_code 13 = .ok (.invokevirtual 21, 3) := by decide +kernel
theorem d_prog_18_method_3_code_16 : decode prog_18_method_3_code 16 = .ok (.iconst 1, 1) := by decide +kernel
theorem d_prog_18_method_3_code_17 : decode prog_18_method_3_code 17 = .ok (.lushr, 1) := by decide +kernel
theorem d_prog_18_method_3_code_18 : decode prog_18_method_3_code 18 = .ok (.lstore 4, 2) := by decide +kernel
theorem d_prog_18_method_3_code_20 : decode prog_18_method_3_code 20 = .ok (.lload 4, 2) := by decide +kernel
theorem d_prog_18_method_3_code_22 : decode prog_18_method_3_code 22 = .ok (.ldc2_w 19, 3) := by decide +kernel
theorem d_prog_18_method_3_code_25 : decode prog_18_method_3_code 25 = .ok (.lload_n 2, 1) := by decide +kernel
theorem d_prog_18_method_3_code_26 : decode prog_18_method_3_code 26 = .ok (.lsub, 1) := by decide +kernel
theorem d_prog_18_method_3_code_27 : decode prog_18_method_3_code 27 = .ok (.lcmp, 1) := by decide +kernel
theorem d_prog_18_method_3_code_28 : decode prog_18_method_3_code 28 = .ok (.ifCond .le 14, 3) := by decide +kernel
theorem d_prog_18_method_3_code_31 : decode prog_18_method_3_code 31 = .ok (.aload_n 0, 1) := by decide +kernel
theorem d_prog_18_method_3_code_32 : decode prog_18_method_3_code 32 = .ok (.invokevirtual 21, 3) := by decide +kernel
theorem d_prog_18_method_3_code_35 : decode prog_18_method_3_code 35 = .ok (.iconst 1, 1) := by decide +kernel
theorem d_prog_18_method_3_code_36 : decode prog_18_method_3_code 36 = .ok (.lushr, 1) := by decide +kernel
theorem d_prog_18_method_3_code_37 : decode prog_18_method_3_code 37 = .ok (.lstore 4, 2) := by decide +kernel
theorem d_prog_18_method_3_code_39 : decode prog_18_method_3_code 39 = .ok (.goto (-19), 3) := by decide +kernel
theorem d_prog_18_method_3_code_42 : decode prog_18_method_3_code 42 = .ok (.lload 4, 2) := by decide +kernel
theorem d_prog_18_method_3_code_44 : decode prog_18_method_3_code 44 = .ok (.iload_n 1, 1) := by decide +kernel
theorem d_prog_18_method_3_code_45 : decode prog_18_method_3_code 45 = .ok (.i2l, 1) := by decide +kernel
theorem d_prog_18_method_3_code_46 : decode prog_18_method_3_code 46 = .ok (.lrem, 1) := by decide +kernel
theorem d_prog_18_method_3_code_47 : decode prog_18_method_3_code 47 = .ok (.l2i, 1) := by decide +kernel
theorem d_prog_18_method_3_code_48 : decode prog_18_method_3_code 48 = .ok (.ireturn, 1) := by decide +kernel
theorem ef_rm_nextInt (m : MethodId) (aa : Addr) (sd : Int64) (bd : Int32)  : entryFrame m #[(.ref aa), (.int bd)] 6 = mkF m 0 #[.val (.ref aa), .val (.int bd), .unset, .unset, .unset, .unset] [] := by  first | (simp [entryFrame, mkF, argsToLocals, Value.category, maxLocals]; done) | rfl
def Q_rm_nextInt (Z : State) (aa : Addr) (sd : Int64) (bd : Int32) (h0 : Heap) (n0 : Nat) (v : Option Value) (h : Heap) (L : List Loc) : Prop := (v = some (.int (own_ni (sd + (-7046029254386353131 : Int64)) bd))) ∧ (Fr n0 L) ∧ (Keep h0 h [aa]) ∧ (Fld Z h aa "com/example/dualfit/dualfit/allocation/SeededRandom" "state" "J" (.long (sd + (-7046029254386353131 : Int64))))
set_option maxRecDepth 65536 in
set_option maxHeartbeats 40000000 in
theorem rm_nextInt (l : Launch) (Z : State) (a0 : Array Value) (hw : ∀ d ∈ tables_1, d.before a0 Z = true) (ws : List Jvm.Cond) (aa : Addr) (sd : Int64) (bd : Int32) (h0 : Heap) (n0 : Nat) (Z0 : n0 ≤ h0.size) (f0 : Fld Z h0 aa "com/example/dualfit/dualfit/allocation/SeededRandom" "state" "J" (.long sd)) (f1 : Exa Z h0 aa "com/example/dualfit/dualfit/allocation/SeededRandom") (ga : n0 ≤ aa) (hbd : 1 ≤ bd.toInt) (ht : XT.ushrL (own_mix (sd + (-7046029254386353131 : Int64))) 11 < 9007199252643840) :
    MetFree l (⟨"com/example/dualfit/dualfit/allocation/SeededRandom", "nextInt", "(I)I"⟩ : MethodName) (head1 (Jvm.Cond.code (⟨"com/example/dualfit/dualfit/allocation/SeededRandom", "nextInt", "(I)I"⟩ : MethodName) prog_18_method_3_code 6 (some .int) :: ws) ({ frames := 1, cells := 0, slots := 0, locals := 14 } : Room)) (fun a U => a = #[(.ref aa), (.int bd)] ∧ Z.Warmed39 U.vm ∧ U.heap = h0) (fun _ _ _ _ _ => True) (fun _ U o U' => ∃ v L, o = .returned v ∧ Q_rm_nextInt Z aa sd bd h0 n0 v U'.heap L ∧ FrameEnd U o U' L ({ frames := 1, cells := 0, slots := 0, locals := 14 } : Room).cells ({ frames := 1, cells := 0, slots := 0, locals := 14 } : Room).slots) := by
  refine MetFree.of_bodySF (plainFor_of_name pn_com_example_dualfit_dualfit_allocation_SeededRandom) hisR ?_
  intro p e s m args below meth c s₁ Bd hml0 hP hK
  obtain ⟨rfl, hZ, hh⟩ := hP
  have hx := Bd.exec
  have hby := Bd.bytes
  have hml : c.maxLocals = 6 := hml0
  have hown : s.vm.findClass "com/example/dualfit/dualfit/allocation/SeededRandom" = some m.cls := findClass_of_methodNamed Bd.named
  have hnm := (name_of_methodNamed Bd.named Bd.method).1
  have X0 : Stand p l e ({ frames := 1, cells := 0, slots := 0, locals := 14 } : Room) s m #[(.ref aa), (.int bd)] below meth c s₁ [] 0 0 := Stand.of_body Bd
  have e0 : s₁.heap = h0 := by rw [← hh, Bd.state]; rfl
  have N0 := Fr.nil n0
  have K00 : Keep h0 h0 [aa] := Keep.refl _ _
  have hlk0 : meth.locks = false := by first | assumption | exact BodyLoose.notSynchronized (by assumption) | exact Body.notSynchronized (by assumption)
  show Rch p e below s₁ (entryFrame m #[(.ref aa), (.int bd)] 6) (Fin s (Q_rm_nextInt Z aa sd bd h0 n0) 0 0)
  refine Rch.cast (ef_rm_nextInt m aa sd bd) ?_
  show Rch p e below s₁ (mkF m 0 #[.val (.ref aa), .val (.int bd), .unset, .unset, .unset, .unset] []) _
  refine Rch.st (fun _ k => Stand.ldc2J X0 hx hown (mv hZ (hw _ (List.mem_of_getElem? (i := 31) rfl))) rfl (hb hby d_prog_18_method_3_code_0) k) ?_
  show Rch p e below s₁ (mkF m 3 #[.val (.ref aa), .val (.int bd), .unset, .unset, .unset, .unset] [(.long (9223372036854775807 : Int64))]) _
  refine Rch.st (fun _ k => XS.iloadN X0.here hx rfl (hb hby d_prog_18_method_3_code_3) rfl k) ?_
  show Rch p e below s₁ (mkF m 4 #[.val (.ref aa), .val (.int bd), .unset, .unset, .unset, .unset] [(.int bd), (.long (9223372036854775807 : Int64))]) _
  refine Rch.st (fun _ k => XT.i2l X0.here hx rfl (hb hby d_prog_18_method_3_code_4) rfl k) ?_
  show Rch p e below s₁ (mkF m 5 #[.val (.ref aa), .val (.int bd), .unset, .unset, .unset, .unset] [(.long (bd).toInt64), (.long (9223372036854775807 : Int64))]) _
  refine Rch.st (fun _ k => lremM X0 hx rfl (hb hby d_prog_18_method_3_code_5) rfl (own_bd hbd) k) ?_
  show Rch p e below s₁ (mkF m 6 #[.val (.ref aa), .val (.int bd), .unset, .unset, .unset, .unset] [(.long ((9223372036854775807 : Int64) % (bd).toInt64))]) _
  refine Rch.st (fun _ k => XT.lconst X0.here hx rfl (hb hby d_prog_18_method_3_code_6) k) ?_
  show Rch p e below s₁ (mkF m 7 #[.val (.ref aa), .val (.int bd), .unset, .unset, .unset, .unset] [(.long (1 : Int64)), (.long ((9223372036854775807 : Int64) % (bd).toInt64))]) _
  refine Rch.st (fun _ k => XT.ladd X0.here hx rfl (hb hby d_prog_18_method_3_code_7) rfl k) ?_
  show Rch p e below s₁ (mkF m 8 #[.val (.ref aa), .val (.int bd), .unset, .unset, .unset, .unset] [(.long (((9223372036854775807 : Int64) % (bd).toInt64) + (1 : Int64)))]) _
  refine Rch.st (fun _ k => XS.iloadN X0.here hx rfl (hb hby d_prog_18_method_3_code_8) rfl k) ?_
  show Rch p e below s₁ (mkF m 9 #[.val (.ref aa), .val (.int bd), .unset, .unset, .unset, .unset] [(.int bd), (.long (((9223372036854775807 : Int64) % (bd).toInt64) + (1 : Int64)))]) _
  refine Rch.st (fun _ k => XT.i2l X0.here hx rfl (hb hby d_prog_18_method_3_code_9) rfl k) ?_
  show Rch p e below s₁ (mkF m 10 #[.val (.ref aa), .val (.int bd), .unset, .unset, .unset, .unset] [(.long (bd).toInt64), (.long (((9223372036854775807 : Int64) % (bd).toInt64) + (1 : Int64)))]) _
  refine Rch.st (fun _ k => lremM X0 hx rfl (hb hby d_prog_18_method_3_code_10) rfl (own_bd hbd) k) ?_
  show Rch p e below s₁ (mkF m 11 #[.val (.ref aa), .val (.int bd), .unset, .unset, .unset, .unset] [(.long ((((9223372036854775807 : Int64) % (bd).toInt64) + (1 : Int64)) % (bd).toInt64))]) _
  refine Rch.st (fun _ k => XT.lstoreN X0.here hx rfl (hb hby d_prog_18_method_3_code_11) rfl (l' := #[.val (.ref aa), .val (.int bd), .val (.long ((((9223372036854775807 : Int64) % (bd).toInt64) + (1 : Int64)) % (bd).toInt64)), .second, .unset, .unset]) rfl k) ?_
  show Rch p e below s₁ (mkF m 12 #[.val (.ref aa), .val (.int bd), .val (.long ((((9223372036854775807 : Int64) % (bd).toInt64) + (1 : Int64)) % (bd).toInt64)), .second, .unset, .unset] []) _
  refine Rch.st (fun _ k => XS.aloadN X0.here hx rfl (hb hby d_prog_18_method_3_code_12) rfl rfl k) ?_
  show Rch p e below s₁ (mkF m 13 #[.val (.ref aa), .val (.int bd), .val (.long ((((9223372036854775807 : Int64) % (bd).toInt64) + (1 : Int64)) % (bd).toInt64)), .second, .unset, .unset] [(.ref aa)]) _
  obtain ⟨cq22, q22a, q22b⟩ := f1.cell
  obtain ⟨_, _, ⟨T22, L22, k22, n22⟩, -, X22, ⟨Lc22, hQ22, l22, y22, z22⟩, st22⟩ := X0.privateBack hx (y := (⟨"com/example/dualfit/dualfit/allocation/SeededRandom", "nextLong", "()J"⟩ : MethodName)) hown (mvT hZ (hw _ (List.mem_of_getElem? (i := 16) rfl))) (mvT hZ (hw _ (List.mem_of_getElem? (i := 17) rfl))) (own_selP (mvT hZ (hw _ (List.mem_of_getElem? (i := 1) rfl))) (Cond.privateMethod_at (mvP hZ (hw _ (List.mem_of_getElem? (i := 18) rfl)) (args := #[]))) (mvT hZ (hw _ (List.mem_of_getElem? (i := 17) rfl))) (by decide)) (Cond.privateMethod_at (mvP hZ (hw _ (List.mem_of_getElem? (i := 18) rfl)) (args := #[]))) (mvT hZ (hw _ (List.mem_of_getElem? (i := 19) rfl))) (by decide) (backOf (W := 0) (rm_nextLong l Z a0 hw [] aa sd h0 n0 Z0 f0 f1 (ga)) hZ (hw _ (List.mem_of_getElem? (i := 19) rfl)) (hw _ (List.mem_of_getElem? (i := 2) rfl)) (by decide) (by decide)) (g := (mkF m 13 #[.val (.ref aa), .val (.int bd), .val (.long ((((9223372036854775807 : Int64) % (bd).toInt64) + (1 : Int64)) % (bd).toInt64)), .second, .unset, .unset] [(.ref aa)])) rfl (by rw [hml]; rfl) (Steps.refl _) (a := aa) (by rw [e0]; exact q22a) q22b (argsL := []) (rest := []) (lenOf pd___J rfl) rfl (by show 2 * 0 + _ ≤ _; exact Nat.le_of_eq rfl) (hb hby d_prog_18_method_3_code_13) (fun _ _ => ⟨rfl, e0, (by decide : 0 + 0 ≤ _), (by decide : 0 + 0 ≤ _)⟩)
  dsimp only [Pt.U, Pt.locs, Pt.cells, Pt.slots] at X22 l22 y22 z22 st22 hQ22
  subst l22 y22 z22
  obtain ⟨rfl, NQ22, K22, fq22_0⟩ := hQ22
  have N23 := Fr.app N0 NQ22
  have f24 : Exa Z T22.heap aa "com/example/dualfit/dualfit/allocation/SeededRandom" := f1.keep K22
  have Kp25 : Keep h0 T22.heap [aa] := K00.trans K22 (allS (Or.inl (List.mem_of_getElem? (i := 0) rfl)) all0)
  have Z26 := Nat.le_trans Z0 K22.1
  refine Rch.st (fun _ k => st22.trans k) ?_
  show Rch p e below T22 (mkF m 16 #[.val (.ref aa), .val (.int bd), .val (.long ((((9223372036854775807 : Int64) % (bd).toInt64) + (1 : Int64)) % (bd).toInt64)), .second, .unset, .unset] [(.long (own_mix (sd + (-7046029254386353131 : Int64))))]) _
  refine Rch.st (fun _ k => XS.iconst X22.here hx rfl (hb hby d_prog_18_method_3_code_16) k) ?_
  show Rch p e below T22 (mkF m 17 #[.val (.ref aa), .val (.int bd), .val (.long ((((9223372036854775807 : Int64) % (bd).toInt64) + (1 : Int64)) % (bd).toInt64)), .second, .unset, .unset] [(.int (1 : Int32)), (.long (own_mix (sd + (-7046029254386353131 : Int64))))]) _
  refine Rch.st (fun _ k => XT.lushr X22.here hx rfl (hb hby d_prog_18_method_3_code_17) rfl k) ?_
  show Rch p e below T22 (mkF m 18 #[.val (.ref aa), .val (.int bd), .val (.long ((((9223372036854775807 : Int64) % (bd).toInt64) + (1 : Int64)) % (bd).toInt64)), .second, .unset, .unset] [(.long (XT.ushrL (own_mix (sd + (-7046029254386353131 : Int64))) (1 : Int32)))]) _
  refine Rch.st (fun _ k => XT.lstore X22.here hx rfl (hb hby d_prog_18_method_3_code_18) rfl (l' := #[.val (.ref aa), .val (.int bd), .val (.long ((((9223372036854775807 : Int64) % (bd).toInt64) + (1 : Int64)) % (bd).toInt64)), .second, .val (.long (XT.ushrL (own_mix (sd + (-7046029254386353131 : Int64))) (1 : Int32))), .second]) rfl k) ?_
  show Rch p e below T22 (mkF m 20 #[.val (.ref aa), .val (.int bd), .val (.long ((((9223372036854775807 : Int64) % (bd).toInt64) + (1 : Int64)) % (bd).toInt64)), .second, .val (.long (XT.ushrL (own_mix (sd + (-7046029254386353131 : Int64))) (1 : Int32))), .second] []) _
  refine Rch.st (fun _ k => XT.lload X22.here hx rfl (hb hby d_prog_18_method_3_code_20) rfl k) ?_
  show Rch p e below T22 (mkF m 22 #[.val (.ref aa), .val (.int bd), .val (.long ((((9223372036854775807 : Int64) % (bd).toInt64) + (1 : Int64)) % (bd).toInt64)), .second, .val (.long (XT.ushrL (own_mix (sd + (-7046029254386353131 : Int64))) (1 : Int32))), .second] [(.long (XT.ushrL (own_mix (sd + (-7046029254386353131 : Int64))) (1 : Int32)))]) _
  refine Rch.st (fun _ k => Stand.ldc2J X22 hx hown (mv hZ (hw _ (List.mem_of_getElem? (i := 31) rfl))) rfl (hb hby d_prog_18_method_3_code_22) k) ?_
  show Rch p e below T22 (mkF m 25 #[.val (.ref aa), .val (.int bd), .val (.long ((((9223372036854775807 : Int64) % (bd).toInt64) + (1 : Int64)) % (bd).toInt64)), .second, .val (.long (XT.ushrL (own_mix (sd + (-7046029254386353131 : Int64))) (1 : Int32))), .second] [(.long (9223372036854775807 : Int64)), (.long (XT.ushrL (own_mix (sd + (-7046029254386353131 : Int64))) (1 : Int32)))]) _
  refine Rch.st (fun _ k => XT.lloadN X22.here hx rfl (hb hby d_prog_18_method_3_code_25) rfl k) ?_
  show Rch p e below T22 (mkF m 26 #[.val (.ref aa), .val (.int bd), .val (.long ((((9223372036854775807 : Int64) % (bd).toInt64) + (1 : Int64)) % (bd).toInt64)), .second, .val (.long (XT.ushrL (own_mix (sd + (-7046029254386353131 : Int64))) (1 : Int32))), .second] [(.long ((((9223372036854775807 : Int64) % (bd).toInt64) + (1 : Int64)) % (bd).toInt64)), (.long (9223372036854775807 : Int64)), (.long (XT.ushrL (own_mix (sd + (-7046029254386353131 : Int64))) (1 : Int32)))]) _
  refine Rch.st (fun _ k => XT.lsub X22.here hx rfl (hb hby d_prog_18_method_3_code_26) rfl k) ?_
  show Rch p e below T22 (mkF m 27 #[.val (.ref aa), .val (.int bd), .val (.long ((((9223372036854775807 : Int64) % (bd).toInt64) + (1 : Int64)) % (bd).toInt64)), .second, .val (.long (XT.ushrL (own_mix (sd + (-7046029254386353131 : Int64))) (1 : Int32))), .second] [(.long ((9223372036854775807 : Int64) - ((((9223372036854775807 : Int64) % (bd).toInt64) + (1 : Int64)) % (bd).toInt64))), (.long (XT.ushrL (own_mix (sd + (-7046029254386353131 : Int64))) (1 : Int32)))]) _
  refine Rch.st (fun _ k => XT.lcmp X22.here hx rfl (hb hby d_prog_18_method_3_code_27) rfl k) ?_
  show Rch p e below T22 (mkF m 28 #[.val (.ref aa), .val (.int bd), .val (.long ((((9223372036854775807 : Int64) % (bd).toInt64) + (1 : Int64)) % (bd).toInt64)), .second, .val (.long (XT.ushrL (own_mix (sd + (-7046029254386353131 : Int64))) (1 : Int32))), .second] [(.int (XT.cmpL (XT.ushrL (own_mix (sd + (-7046029254386353131 : Int64))) (1 : Int32)) ((9223372036854775807 : Int64) - ((((9223372036854775807 : Int64) % (bd).toInt64) + (1 : Int64)) % (bd).toInt64))))]) _
  refine Rch.st (fun _ k => XS.ifYes X22.here hx rfl (pc0 := 28) (pc' := 42) rfl (hb hby d_prog_18_method_3_code_28) rfl (XT.ll_le_t (own_ex hbd ht)) (by decide) (by decide) k) ?_
  show Rch p e below T22 (mkF m 42 #[.val (.ref aa), .val (.int bd), .val (.long ((((9223372036854775807 : Int64) % (bd).toInt64) + (1 : Int64)) % (bd).toInt64)), .second, .val (.long (XT.ushrL (own_mix (sd + (-7046029254386353131 : Int64))) (1 : Int32))), .second] []) _
  refine Rch.st (fun _ k => XT.lload X22.here hx rfl (hb hby d_prog_18_method_3_code_42) rfl k) ?_
  show Rch p e below T22 (mkF m 44 #[.val (.ref aa), .val (.int bd), .val (.long ((((9223372036854775807 : Int64) % (bd).toInt64) + (1 : Int64)) % (bd).toInt64)), .second, .val (.long (XT.ushrL (own_mix (sd + (-7046029254386353131 : Int64))) (1 : Int32))), .second] [(.long (XT.ushrL (own_mix (sd + (-7046029254386353131 : Int64))) (1 : Int32)))]) _
  refine Rch.st (fun _ k => XS.iloadN X22.here hx rfl (hb hby d_prog_18_method_3_code_44) rfl k) ?_
  show Rch p e below T22 (mkF m 45 #[.val (.ref aa), .val (.int bd), .val (.long ((((9223372036854775807 : Int64) % (bd).toInt64) + (1 : Int64)) % (bd).toInt64)), .second, .val (.long (XT.ushrL (own_mix (sd + (-7046029254386353131 : Int64))) (1 : Int32))), .second] [(.int bd), (.long (XT.ushrL (own_mix (sd + (-7046029254386353131 : Int64))) (1 : Int32)))]) _
  refine Rch.st (fun _ k => XT.i2l X22.here hx rfl (hb hby d_prog_18_method_3_code_45) rfl k) ?_
  show Rch p e below T22 (mkF m 46 #[.val (.ref aa), .val (.int bd), .val (.long ((((9223372036854775807 : Int64) % (bd).toInt64) + (1 : Int64)) % (bd).toInt64)), .second, .val (.long (XT.ushrL (own_mix (sd + (-7046029254386353131 : Int64))) (1 : Int32))), .second] [(.long (bd).toInt64), (.long (XT.ushrL (own_mix (sd + (-7046029254386353131 : Int64))) (1 : Int32)))]) _
  refine Rch.st (fun _ k => lremM X22 hx rfl (hb hby d_prog_18_method_3_code_46) rfl (own_bd hbd) k) ?_
  show Rch p e below T22 (mkF m 47 #[.val (.ref aa), .val (.int bd), .val (.long ((((9223372036854775807 : Int64) % (bd).toInt64) + (1 : Int64)) % (bd).toInt64)), .second, .val (.long (XT.ushrL (own_mix (sd + (-7046029254386353131 : Int64))) (1 : Int32))), .second] [(.long ((XT.ushrL (own_mix (sd + (-7046029254386353131 : Int64))) (1 : Int32)) % (bd).toInt64))]) _
  refine Rch.st (fun _ k => XT.l2i X22.here hx rfl (hb hby d_prog_18_method_3_code_47) rfl k) ?_
  show Rch p e below T22 (mkF m 48 #[.val (.ref aa), .val (.int bd), .val (.long ((((9223372036854775807 : Int64) % (bd).toInt64) + (1 : Int64)) % (bd).toInt64)), .second, .val (.long (XT.ushrL (own_mix (sd + (-7046029254386353131 : Int64))) (1 : Int32))), .second] [(.int (((XT.ushrL (own_mix (sd + (-7046029254386353131 : Int64))) (1 : Int32)) % (bd).toInt64)).toInt32)]) _
  exact Rch.retV X22 hx Bd.returns rfl (Or.inl ⟨rfl, by simp, _, rfl⟩) (hb hby d_prog_18_method_3_code_48) (by rw [(rfl : T22.heap = T22.heap)]; exact ⟨rfl, N23, Kp25, fq22_0⟩) (by decide) (by decide)

theorem pn_com_example_dualfit_dualfit_allocation_SeededRandomNextIntPinLaw : plainName "com/example/dualfit/dualfit/allocation/SeededRandomNextIntPinLaw" = true := by first | (simp [plainName, overriddenIn]; done) | decide +kernel
theorem ef_rm_law (m : MethodId) (sd : Int64) (bb : Int32) (fl : Int32)  : entryFrame m #[(.long sd), (.int bb), (.int fl)] maxLocals = mkF m 0 #[.val (.long sd), .second, .val (.int bb), .val (.int fl), .unset, .unset, .unset, .unset, .unset, .unset, .unset, .unset, .unset, .unset, .unset, .unset, .unset, .unset, .unset, .unset] [] := by  first | (simp [entryFrame, mkF, argsToLocals, Value.category, maxLocals]; done) | rfl
def Q_rm_law (Z : State) (sd : Int64) (bb : Int32) (fl : Int32) (h0 : Heap) (n0 : Nat) (v : Option Value) (h : Heap) (L : List Loc) : Prop := (v = some (.int (1 : Int32))) ∧ (Fr n0 L) ∧ (Keep h0 h [])
theorem pd__J_V : parseMethodDescriptor "(J)V" = some ⟨[.long], none⟩ := by decide +kernel
theorem pd___D : parseMethodDescriptor "()D" = some ⟨[], (some .double)⟩ := by decide +kernel
theorem pd__I_I : parseMethodDescriptor "(I)I" = some ⟨[.int], (some .int)⟩ := by decide +kernel
set_option maxRecDepth 65536 in
set_option maxHeartbeats 40000000 in
theorem rm_law (l : Launch) (Z : State) (a0 : Array Value) (hw : ∀ d ∈ tables_1, d.before a0 Z = true) (ws : List Jvm.Cond) (sd : Int64) (bb : Int32) (fl : Int32) (h0 : Heap) (n0 : Nat) (Z0 : n0 ≤ h0.size)  :
    MetFree l x (head1 (Jvm.Cond.code x code maxLocals ret :: ws) room_1) (fun a U => a = #[(.long sd), (.int bb), (.int fl)] ∧ Z.Warmed39 U.vm ∧ U.heap = h0) (fun _ _ _ _ _ => True) (fun _ U o U' => ∃ v L, o = .returned v ∧ Q_rm_law Z sd bb fl h0 n0 v U'.heap L ∧ FrameEnd U o U' L 16 128) := by
  refine MetFree.of_bodySF (plainFor_of_name pn_com_example_dualfit_dualfit_allocation_SeededRandomNextIntPinLaw) hisR ?_
  intro p e s m args below meth c s₁ Bd hml0 hP hK
  obtain ⟨rfl, hZ, hh⟩ := hP
  have hx := Bd.exec
  have hby := Bd.bytes
  have hml : c.maxLocals = 20 := hml0
  have hown : s.vm.findClass "com/example/dualfit/dualfit/allocation/SeededRandomNextIntPinLaw" = some m.cls := findClass_of_methodNamed Bd.named
  have hnm := (name_of_methodNamed Bd.named Bd.method).1
  have X0 : Stand p l e room_1 s m #[(.long sd), (.int bb), (.int fl)] below meth c s₁ [] 0 0 := Stand.of_body Bd
  have e0 : s₁.heap = h0 := by rw [← hh, Bd.state]; rfl
  have N0 := Fr.nil n0
  have K00 : Keep h0 h0 [] := Keep.refl _ _
  have hlk0 : meth.locks = false := by first | assumption | exact BodyLoose.notSynchronized (by assumption) | exact Body.notSynchronized (by assumption)
  show Rch p e below s₁ (entryFrame m #[(.long sd), (.int bb), (.int fl)] maxLocals) (Fin s (Q_rm_law Z sd bb fl h0 n0) 16 128)
  refine Rch.cast (ef_rm_law m sd bb fl) ?_
  show Rch p e below s₁ (mkF m 0 #[.val (.long sd), .second, .val (.int bb), .val (.int fl), .unset, .unset, .unset, .unset, .unset, .unset, .unset, .unset, .unset, .unset, .unset, .unset, .unset, .unset, .unset, .unset] []) _
  refine Rch.st (fun _ k => XS.iloadN X0.here hx rfl (hb hby at_0) rfl k) ?_
  show Rch p e below s₁ (mkF m 1 #[.val (.long sd), .second, .val (.int bb), .val (.int fl), .unset, .unset, .unset, .unset, .unset, .unset, .unset, .unset, .unset, .unset, .unset, .unset, .unset, .unset, .unset, .unset] [(.int fl)]) _
  refine Rch.st (fun _ k => XS.iconst X0.here hx rfl (hb hby at_1) k) ?_
  show Rch p e below s₁ (mkF m 2 #[.val (.long sd), .second, .val (.int bb), .val (.int fl), .unset, .unset, .unset, .unset, .unset, .unset, .unset, .unset, .unset, .unset, .unset, .unset, .unset, .unset, .unset, .unset] [(.int (1 : Int32)), (.int fl)]) _
  refine Rch.st (fun _ k => XS.iand X0.here hx rfl (hb hby at_2) rfl k) ?_
  show Rch p e below s₁ (mkF m 3 #[.val (.long sd), .second, .val (.int bb), .val (.int fl), .unset, .unset, .unset, .unset, .unset, .unset, .unset, .unset, .unset, .unset, .unset, .unset, .unset, .unset, .unset, .unset] [(.int (fl &&& (1 : Int32)))]) _
  have J : ∀ (bd : Int32), (1 ≤ bd.toInt) →  Rch p e below s₁ (mkF m 32 #[.val (.long sd), .second, .val (.int bb), .val (.int fl), .val (.int bd), .unset, .unset, .unset, .unset, .unset, .unset, .unset, .unset, .unset, .unset, .unset, .unset, .unset, .unset, .unset] []) (Fin s (Q_rm_law Z sd bb fl h0 n0) 16 128) := by
    intro bd hbd
    obtain ⟨T27, h27, X27, e27, E27, A27, D27, -, st27⟩ := newO X0 hx hZ hown (hw _ (List.mem_of_getElem? (i := 0) rfl)) (hw _ (List.mem_of_getElem? (i := 1) rfl)) (hw _ (List.mem_of_getElem? (i := 2) rfl)) e0 (g := (mkF m 32 #[.val (.long sd), .second, .val (.int bb), .val (.int fl), .val (.int bd), .unset, .unset, .unset, .unset, .unset, .unset, .unset, .unset, .unset, .unset, .unset, .unset, .unset, .unset, .unset] [])) rfl (hb hby at_32) (by decide) (by decide)
    obtain ⟨a27, g27⟩ : ∃ z, z = h0.size := ⟨_, rfl⟩
    rw [← g27] at A27 D27 st27
    have ge28 : n0 ≤ a27 := Nat.le_trans Z0 (Nat.le_of_eq g27.symm)
    have Z30 := Nat.le_trans Z0 E27.1
    have Kp31 : Keep h0 h27 [] := K00.ext E27
    have f32 : Fld Z h27 a27 "com/example/dualfit/dualfit/allocation/SeededRandom" "state" "J" (.long (0 : Int64)) := D27 (Or.inl (hw _ (List.mem_of_getElem? (i := 10) rfl))) (ty := .long) (by decide)
    refine Rch.st (fun _ k => st27 _ k) ?_
    show Rch p e below T27 (mkF m 35 #[.val (.long sd), .second, .val (.int bb), .val (.int fl), .val (.int bd), .unset, .unset, .unset, .unset, .unset, .unset, .unset, .unset, .unset, .unset, .unset, .unset, .unset, .unset, .unset] [(.ref a27)]) _
    refine Rch.st (fun _ k => XS.dup X27.here hx rfl (hb hby at_35) rfl rfl k) ?_
    show Rch p e below T27 (mkF m 36 #[.val (.long sd), .second, .val (.int bb), .val (.int fl), .val (.int bd), .unset, .unset, .unset, .unset, .unset, .unset, .unset, .unset, .unset, .unset, .unset, .unset, .unset, .unset, .unset] [(.ref a27), (.ref a27)]) _
    refine Rch.st (fun _ k => XT.lloadN X27.here hx rfl (hb hby at_36) rfl k) ?_
    show Rch p e below T27 (mkF m 37 #[.val (.long sd), .second, .val (.int bb), .val (.int fl), .val (.int bd), .unset, .unset, .unset, .unset, .unset, .unset, .unset, .unset, .unset, .unset, .unset, .unset, .unset, .unset, .unset] [(.long sd), (.ref a27), (.ref a27)]) _
    obtain ⟨_, _, ⟨T33, L33, k33, n33⟩, -, X33, ⟨Lc33, hQ33, l33, y33, z33⟩, st33⟩ := X27.specialBack hx (y := (⟨"com/example/dualfit/dualfit/allocation/SeededRandom", "<init>", "(J)V"⟩ : MethodName)) rfl hown (mvT hZ (hw _ (List.mem_of_getElem? (i := 3) rfl))) (mvT hZ (hw _ (List.mem_of_getElem? (i := 4) rfl))) (mvT hZ (hw _ (List.mem_of_getElem? (i := 5) rfl))) (by decide) (backOf (W := 1) (rm_init l Z a0 hw [] a27 sd h27 n0 Z30 f32 A27 (ge28)) hZ (hw _ (List.mem_of_getElem? (i := 5) rfl)) (hw _ (List.mem_of_getElem? (i := 2) rfl)) (by decide) (by decide)) (g := (mkF m 37 #[.val (.long sd), .second, .val (.int bb), .val (.int fl), .val (.int bd), .unset, .unset, .unset, .unset, .unset, .unset, .unset, .unset, .unset, .unset, .unset, .unset, .unset, .unset, .unset] [(.long sd), (.ref a27), (.ref a27)])) rfl (by rw [hml]; rfl) (Steps.refl _) (a := a27) (argsL := [(.long sd)]) (rest := [(.ref a27)]) (lenOf pd__J_V rfl) rfl (by show 2 * 0 + _ ≤ _; exact Nat.le_of_eq rfl) (hb hby at_37) (fun _ _ => ⟨rfl, e27, (by decide : 1 + 0 ≤ _), (by decide : 1 + 0 ≤ _)⟩)
    dsimp only [Pt.U, Pt.locs, Pt.cells, Pt.slots] at X33 l33 y33 z33 st33 hQ33
    subst l33 y33 z33
    obtain ⟨rfl, NQ33, K33, fq33_0⟩ := hQ33
    have N34 := Fr.app N0 NQ33
    have f35 : Exa Z T33.heap a27 "com/example/dualfit/dualfit/allocation/SeededRandom" := A27.keep K33
    have Kp36 : Keep h0 T33.heap [] := Kp31.trans K33 (allS (Or.inr (Nat.le_trans K00.1 (Nat.le_of_eq g27.symm))) all0)
    have Z37 := Nat.le_trans Z30 K33.1
    refine Rch.st (fun _ k => st33.trans k) ?_
    show Rch p e below T33 (mkF m 40 #[.val (.long sd), .second, .val (.int bb), .val (.int fl), .val (.int bd), .unset, .unset, .unset, .unset, .unset, .unset, .unset, .unset, .unset, .unset, .unset, .unset, .unset, .unset, .unset] [(.ref a27)]) _
    refine Rch.st (fun _ k => XS.astore X33.here hx rfl (hb hby at_40) rfl rfl (l' := #[.val (.long sd), .second, .val (.int bb), .val (.int fl), .val (.int bd), .val (.ref a27), .unset, .unset, .unset, .unset, .unset, .unset, .unset, .unset, .unset, .unset, .unset, .unset, .unset, .unset]) rfl k) ?_
    show Rch p e below T33 (mkF m 42 #[.val (.long sd), .second, .val (.int bb), .val (.int fl), .val (.int bd), .val (.ref a27), .unset, .unset, .unset, .unset, .unset, .unset, .unset, .unset, .unset, .unset, .unset, .unset, .unset, .unset] []) _
    refine Rch.st (fun _ k => XS.aload X33.here hx rfl (hb hby at_42) rfl rfl k) ?_
    show Rch p e below T33 (mkF m 44 #[.val (.long sd), .second, .val (.int bb), .val (.int fl), .val (.int bd), .val (.ref a27), .unset, .unset, .unset, .unset, .unset, .unset, .unset, .unset, .unset, .unset, .unset, .unset, .unset, .unset] [(.ref a27)]) _
    obtain ⟨cq38, kq38, q38a, q38b, q38c⟩ := isOf hZ (rfl : T33.heap = T33.heap) f35
    obtain ⟨_, _, ⟨T38, L38, k38, n38⟩, -, X38, ⟨Lc38, hQ38, l38, y38, z38⟩, st38⟩ := X33.virtualBack hx (y := (⟨"com/example/dualfit/dualfit/allocation/SeededRandom", "nextDouble", "()D"⟩ : MethodName)) (z := (⟨"com/example/dualfit/dualfit/allocation/SeededRandom", "nextDouble", "()D"⟩ : MethodName)) hown (mvT hZ (hw _ (List.mem_of_getElem? (i := 11) rfl))) (mvT hZ (hw _ (List.mem_of_getElem? (i := 12) rfl))) (notFace_of_selects (args := #[]) (mvT hZ (hw _ (List.mem_of_getElem? (i := 14) rfl)))) (mvT hZ (hw _ (List.mem_of_getElem? (i := 14) rfl))) (mvT hZ (hw _ (List.mem_of_getElem? (i := 13) rfl))) (by decide) (backOf (W := 0) (rm_nextDouble l Z a0 hw [] a27 sd T33.heap n0 Z37 fq33_0 f35 (ge28)) hZ (hw _ (List.mem_of_getElem? (i := 15) rfl)) (hw _ (List.mem_of_getElem? (i := 2) rfl)) (by decide) (by decide)) q38a q38c (g := (mkF m 44 #[.val (.long sd), .second, .val (.int bb), .val (.int fl), .val (.int bd), .val (.ref a27), .unset, .unset, .unset, .unset, .unset, .unset, .unset, .unset, .unset, .unset, .unset, .unset, .unset, .unset] [(.ref a27)])) rfl (by rw [hml]; rfl) (Steps.refl _) (argsL := []) (rest := []) (lenOf pd___D rfl) rfl (by show 2 * 0 + _ ≤ _; exact Nat.le_of_eq rfl) (hb hby at_44) (fun _ _ => ⟨rfl, (rfl : T33.heap = T33.heap), (by decide : 1 + 0 ≤ _), (by decide : 1 + 0 ≤ _)⟩)
    dsimp only [Pt.U, Pt.locs, Pt.cells, Pt.slots] at X38 l38 y38 z38 st38 hQ38
    subst l38 y38 z38
    obtain ⟨rfl, NQ38, K38, fq38_0⟩ := hQ38
    have N39 := Fr.app N34 NQ38
    have f40 : Exa Z T38.heap a27 "com/example/dualfit/dualfit/allocation/SeededRandom" := f35.keep K38
    have Kp41 : Keep h0 T38.heap [] := Kp36.trans K38 (allS (Or.inr (Nat.le_trans K00.1 (Nat.le_of_eq g27.symm))) all0)
    have Z42 := Nat.le_trans Z37 K38.1
    refine Rch.st (fun _ k => st38.trans k) ?_
    show Rch p e below T38 (mkF m 47 #[.val (.long sd), .second, .val (.int bb), .val (.int fl), .val (.int bd), .val (.ref a27), .unset, .unset, .unset, .unset, .unset, .unset, .unset, .unset, .unset, .unset, .unset, .unset, .unset, .unset] [(.double (own_dbl (sd + (-7046029254386353131 : Int64))))]) _
    refine Rch.st (fun _ k => XS.dstore X38.here hx rfl (hb hby at_47) rfl (l' := #[.val (.long sd), .second, .val (.int bb), .val (.int fl), .val (.int bd), .val (.ref a27), .val (.double (own_dbl (sd + (-7046029254386353131 : Int64)))), .second, .unset, .unset, .unset, .unset, .unset, .unset, .unset, .unset, .unset, .unset, .unset, .unset]) rfl k) ?_
    show Rch p e below T38 (mkF m 49 #[.val (.long sd), .second, .val (.int bb), .val (.int fl), .val (.int bd), .val (.ref a27), .val (.double (own_dbl (sd + (-7046029254386353131 : Int64)))), .second, .unset, .unset, .unset, .unset, .unset, .unset, .unset, .unset, .unset, .unset, .unset, .unset] []) _
    refine Rch.st (fun _ k => XS.aload X38.here hx rfl (hb hby at_49) rfl rfl k) ?_
    show Rch p e below T38 (mkF m 51 #[.val (.long sd), .second, .val (.int bb), .val (.int fl), .val (.int bd), .val (.ref a27), .val (.double (own_dbl (sd + (-7046029254386353131 : Int64)))), .second, .unset, .unset, .unset, .unset, .unset, .unset, .unset, .unset, .unset, .unset, .unset, .unset] [(.ref a27)]) _
    obtain ⟨cq43, kq43, q43a, q43b, q43c⟩ := isOf hZ (rfl : T38.heap = T38.heap) f40
    obtain ⟨_, _, ⟨T43, L43, k43, n43⟩, -, X43, ⟨Lc43, hQ43, l43, y43, z43⟩, st43⟩ := X38.virtualBack hx (y := (⟨"com/example/dualfit/dualfit/allocation/SeededRandom", "nextDouble", "()D"⟩ : MethodName)) (z := (⟨"com/example/dualfit/dualfit/allocation/SeededRandom", "nextDouble", "()D"⟩ : MethodName)) hown (mvT hZ (hw _ (List.mem_of_getElem? (i := 11) rfl))) (mvT hZ (hw _ (List.mem_of_getElem? (i := 12) rfl))) (notFace_of_selects (args := #[]) (mvT hZ (hw _ (List.mem_of_getElem? (i := 14) rfl)))) (mvT hZ (hw _ (List.mem_of_getElem? (i := 14) rfl))) (mvT hZ (hw _ (List.mem_of_getElem? (i := 13) rfl))) (by decide) (backOf (W := 0) (rm_nextDouble l Z a0 hw [] a27 (sd + (-7046029254386353131 : Int64)) T38.heap n0 Z42 fq38_0 f40 (ge28)) hZ (hw _ (List.mem_of_getElem? (i := 15) rfl)) (hw _ (List.mem_of_getElem? (i := 2) rfl)) (by decide) (by decide)) q43a q43c (g := (mkF m 51 #[.val (.long sd), .second, .val (.int bb), .val (.int fl), .val (.int bd), .val (.ref a27), .val (.double (own_dbl (sd + (-7046029254386353131 : Int64)))), .second, .unset, .unset, .unset, .unset, .unset, .unset, .unset, .unset, .unset, .unset, .unset, .unset] [(.ref a27)])) rfl (by rw [hml]; rfl) (Steps.refl _) (argsL := []) (rest := []) (lenOf pd___D rfl) rfl (by show 2 * 0 + _ ≤ _; exact Nat.le_of_eq rfl) (hb hby at_51) (fun _ _ => ⟨rfl, (rfl : T38.heap = T38.heap), (by decide : 1 + 0 ≤ _), (by decide : 1 + 0 ≤ _)⟩)
    dsimp only [Pt.U, Pt.locs, Pt.cells, Pt.slots] at X43 l43 y43 z43 st43 hQ43
    subst l43 y43 z43
    obtain ⟨rfl, NQ43, K43, fq43_0⟩ := hQ43
    have N44 := Fr.app N39 NQ43
    have f45 : Exa Z T43.heap a27 "com/example/dualfit/dualfit/allocation/SeededRandom" := f40.keep K43
    have Kp46 : Keep h0 T43.heap [] := Kp41.trans K43 (allS (Or.inr (Nat.le_trans K00.1 (Nat.le_of_eq g27.symm))) all0)
    have Z47 := Nat.le_trans Z42 K43.1
    refine Rch.st (fun _ k => st43.trans k) ?_
    show Rch p e below T43 (mkF m 54 #[.val (.long sd), .second, .val (.int bb), .val (.int fl), .val (.int bd), .val (.ref a27), .val (.double (own_dbl (sd + (-7046029254386353131 : Int64)))), .second, .unset, .unset, .unset, .unset, .unset, .unset, .unset, .unset, .unset, .unset, .unset, .unset] [(.double (own_dbl ((sd + (-7046029254386353131 : Int64)) + (-7046029254386353131 : Int64))))]) _
    refine Rch.st (fun _ k => XS.dstore X43.here hx rfl (hb hby at_54) rfl (l' := #[.val (.long sd), .second, .val (.int bb), .val (.int fl), .val (.int bd), .val (.ref a27), .val (.double (own_dbl (sd + (-7046029254386353131 : Int64)))), .second, .val (.double (own_dbl ((sd + (-7046029254386353131 : Int64)) + (-7046029254386353131 : Int64)))), .second, .unset, .unset, .unset, .unset, .unset, .unset, .unset, .unset, .unset, .unset]) rfl k) ?_
    show Rch p e below T43 (mkF m 56 #[.val (.long sd), .second, .val (.int bb), .val (.int fl), .val (.int bd), .val (.ref a27), .val (.double (own_dbl (sd + (-7046029254386353131 : Int64)))), .second, .val (.double (own_dbl ((sd + (-7046029254386353131 : Int64)) + (-7046029254386353131 : Int64)))), .second, .unset, .unset, .unset, .unset, .unset, .unset, .unset, .unset, .unset, .unset] []) _
    refine Rch.st (fun _ k => XS.dload X43.here hx rfl (hb hby at_56) rfl k) ?_
    show Rch p e below T43 (mkF m 58 #[.val (.long sd), .second, .val (.int bb), .val (.int fl), .val (.int bd), .val (.ref a27), .val (.double (own_dbl (sd + (-7046029254386353131 : Int64)))), .second, .val (.double (own_dbl ((sd + (-7046029254386353131 : Int64)) + (-7046029254386353131 : Int64)))), .second, .unset, .unset, .unset, .unset, .unset, .unset, .unset, .unset, .unset, .unset] [(.double (own_dbl (sd + (-7046029254386353131 : Int64))))]) _
    refine Rch.st (fun _ k => ldc2D X43 hx hown (mv hZ (hw _ (List.mem_of_getElem? (i := 24) rfl))) rfl (hb hby at_58) k) ?_
    show Rch p e below T43 (mkF m 61 #[.val (.long sd), .second, .val (.int bb), .val (.int fl), .val (.int bd), .val (.ref a27), .val (.double (own_dbl (sd + (-7046029254386353131 : Int64)))), .second, .val (.double (own_dbl ((sd + (-7046029254386353131 : Int64)) + (-7046029254386353131 : Int64)))), .second, .unset, .unset, .unset, .unset, .unset, .unset, .unset, .unset, .unset, .unset] [(.double (4845873199050653696 : UInt64)), (.double (own_dbl (sd + (-7046029254386353131 : Int64))))]) _
    refine Rch.st (fun _ k => XS.dmulS X43.here hx rfl (hb hby at_61) rfl (own_dbl_nn2 _) rfl k) ?_
    show Rch p e below T43 (mkF m 62 #[.val (.long sd), .second, .val (.int bb), .val (.int fl), .val (.int bd), .val (.ref a27), .val (.double (own_dbl (sd + (-7046029254386353131 : Int64)))), .second, .val (.double (own_dbl ((sd + (-7046029254386353131 : Int64)) + (-7046029254386353131 : Int64)))), .second, .unset, .unset, .unset, .unset, .unset, .unset, .unset, .unset, .unset, .unset] [(.double (FP.dmul (own_dbl (sd + (-7046029254386353131 : Int64))) (4845873199050653696 : UInt64)))]) _
    refine Rch.st (fun _ k => XS.d2lS X43.here hx rfl (hb hby at_62) rfl rfl k) ?_
    show Rch p e below T43 (mkF m 63 #[.val (.long sd), .second, .val (.int bb), .val (.int fl), .val (.int bd), .val (.ref a27), .val (.double (own_dbl (sd + (-7046029254386353131 : Int64)))), .second, .val (.double (own_dbl ((sd + (-7046029254386353131 : Int64)) + (-7046029254386353131 : Int64)))), .second, .unset, .unset, .unset, .unset, .unset, .unset, .unset, .unset, .unset, .unset] [(.long (FP.d2l (FP.dmul (own_dbl (sd + (-7046029254386353131 : Int64))) (4845873199050653696 : UInt64))))]) _
    have r48 : (FP.d2l (FP.dmul (own_dbl (sd + (-7046029254386353131 : Int64))) (4845873199050653696 : UInt64))) = (XT.ushrL (own_mix (sd + (-7046029254386353131 : Int64))) (11 : Int32)) := own_dbl_l _
    rw [r48]
    show Rch p e below T43 (mkF m 63 #[.val (.long sd), .second, .val (.int bb), .val (.int fl), .val (.int bd), .val (.ref a27), .val (.double (own_dbl (sd + (-7046029254386353131 : Int64)))), .second, .val (.double (own_dbl ((sd + (-7046029254386353131 : Int64)) + (-7046029254386353131 : Int64)))), .second, .unset, .unset, .unset, .unset, .unset, .unset, .unset, .unset, .unset, .unset] [(.long (XT.ushrL (own_mix (sd + (-7046029254386353131 : Int64))) (11 : Int32)))]) _
    refine Rch.st (fun _ k => XT.lstore X43.here hx rfl (hb hby at_63) rfl (l' := #[.val (.long sd), .second, .val (.int bb), .val (.int fl), .val (.int bd), .val (.ref a27), .val (.double (own_dbl (sd + (-7046029254386353131 : Int64)))), .second, .val (.double (own_dbl ((sd + (-7046029254386353131 : Int64)) + (-7046029254386353131 : Int64)))), .second, .val (.long (XT.ushrL (own_mix (sd + (-7046029254386353131 : Int64))) (11 : Int32))), .second, .unset, .unset, .unset, .unset, .unset, .unset, .unset, .unset]) rfl k) ?_
    show Rch p e below T43 (mkF m 65 #[.val (.long sd), .second, .val (.int bb), .val (.int fl), .val (.int bd), .val (.ref a27), .val (.double (own_dbl (sd + (-7046029254386353131 : Int64)))), .second, .val (.double (own_dbl ((sd + (-7046029254386353131 : Int64)) + (-7046029254386353131 : Int64)))), .second, .val (.long (XT.ushrL (own_mix (sd + (-7046029254386353131 : Int64))) (11 : Int32))), .second, .unset, .unset, .unset, .unset, .unset, .unset, .unset, .unset] []) _
    refine Rch.st (fun _ k => XT.lload X43.here hx rfl (hb hby at_65) rfl k) ?_
    show Rch p e below T43 (mkF m 67 #[.val (.long sd), .second, .val (.int bb), .val (.int fl), .val (.int bd), .val (.ref a27), .val (.double (own_dbl (sd + (-7046029254386353131 : Int64)))), .second, .val (.double (own_dbl ((sd + (-7046029254386353131 : Int64)) + (-7046029254386353131 : Int64)))), .second, .val (.long (XT.ushrL (own_mix (sd + (-7046029254386353131 : Int64))) (11 : Int32))), .second, .unset, .unset, .unset, .unset, .unset, .unset, .unset, .unset] [(.long (XT.ushrL (own_mix (sd + (-7046029254386353131 : Int64))) (11 : Int32)))]) _
    refine Rch.st (fun _ k => Stand.ldc2J X43 hx hown (mv hZ (hw _ (List.mem_of_getElem? (i := 25) rfl))) rfl (hb hby at_67) k) ?_
    show Rch p e below T43 (mkF m 70 #[.val (.long sd), .second, .val (.int bb), .val (.int fl), .val (.int bd), .val (.ref a27), .val (.double (own_dbl (sd + (-7046029254386353131 : Int64)))), .second, .val (.double (own_dbl ((sd + (-7046029254386353131 : Int64)) + (-7046029254386353131 : Int64)))), .second, .val (.long (XT.ushrL (own_mix (sd + (-7046029254386353131 : Int64))) (11 : Int32))), .second, .unset, .unset, .unset, .unset, .unset, .unset, .unset, .unset] [(.long (9007199252643840 : Int64)), (.long (XT.ushrL (own_mix (sd + (-7046029254386353131 : Int64))) (11 : Int32)))]) _
    refine Rch.st (fun _ k => XT.lcmp X43.here hx rfl (hb hby at_70) rfl k) ?_
    show Rch p e below T43 (mkF m 71 #[.val (.long sd), .second, .val (.int bb), .val (.int fl), .val (.int bd), .val (.ref a27), .val (.double (own_dbl (sd + (-7046029254386353131 : Int64)))), .second, .val (.double (own_dbl ((sd + (-7046029254386353131 : Int64)) + (-7046029254386353131 : Int64)))), .second, .val (.long (XT.ushrL (own_mix (sd + (-7046029254386353131 : Int64))) (11 : Int32))), .second, .unset, .unset, .unset, .unset, .unset, .unset, .unset, .unset] [(.int (XT.cmpL (XT.ushrL (own_mix (sd + (-7046029254386353131 : Int64))) (11 : Int32)) (9007199252643840 : Int64)))]) _
    by_cases c49 : (XT.ushrL (own_mix (sd + (-7046029254386353131 : Int64))) (11 : Int32)) < (9007199252643840 : Int64)
    · skip
      refine Rch.st (fun _ k => XS.ifYes X43.here hx rfl (pc0 := 71) (pc' := 76) rfl (hb hby at_71) rfl (XT.ll_lt_t (c49)) (by decide) (by decide) k) ?_
      show Rch p e below T43 (mkF m 76 #[.val (.long sd), .second, .val (.int bb), .val (.int fl), .val (.int bd), .val (.ref a27), .val (.double (own_dbl (sd + (-7046029254386353131 : Int64)))), .second, .val (.double (own_dbl ((sd + (-7046029254386353131 : Int64)) + (-7046029254386353131 : Int64)))), .second, .val (.long (XT.ushrL (own_mix (sd + (-7046029254386353131 : Int64))) (11 : Int32))), .second, .unset, .unset, .unset, .unset, .unset, .unset, .unset, .unset] []) _
      obtain ⟨T50, h50, X50, e50, E50, A50, D50, -, st50⟩ := newO X43 hx hZ hown (hw _ (List.mem_of_getElem? (i := 0) rfl)) (hw _ (List.mem_of_getElem? (i := 1) rfl)) (hw _ (List.mem_of_getElem? (i := 2) rfl)) (rfl : T43.heap = T43.heap) (g := (mkF m 76 #[.val (.long sd), .second, .val (.int bb), .val (.int fl), .val (.int bd), .val (.ref a27), .val (.double (own_dbl (sd + (-7046029254386353131 : Int64)))), .second, .val (.double (own_dbl ((sd + (-7046029254386353131 : Int64)) + (-7046029254386353131 : Int64)))), .second, .val (.long (XT.ushrL (own_mix (sd + (-7046029254386353131 : Int64))) (11 : Int32))), .second, .unset, .unset, .unset, .unset, .unset, .unset, .unset, .unset] [])) rfl (hb hby at_76) (by decide) (by decide)
      obtain ⟨a50, g50⟩ : ∃ z, z = T43.heap.size := ⟨_, rfl⟩
      rw [← g50] at A50 D50 st50
      have ne51 : a27 ≠ a50 := by rw [g50]; exact Nat.ne_of_lt f45.lt
      have ge52 : n0 ≤ a50 := Nat.le_trans Z47 (Nat.le_of_eq g50.symm)
      have f54 : Exa Z h50 a27 "com/example/dualfit/dualfit/allocation/SeededRandom" := f45.ext E50
      have f55 : Fld Z h50 a27 "com/example/dualfit/dualfit/allocation/SeededRandom" "state" "J" (.long ((sd + (-7046029254386353131 : Int64)) + (-7046029254386353131 : Int64))) := fq43_0.ext E50
      have Z56 := Nat.le_trans Z47 E50.1
      have Kp57 : Keep h0 h50 [] := Kp46.ext E50
      have f58 : Fld Z h50 a50 "com/example/dualfit/dualfit/allocation/SeededRandom" "state" "J" (.long (0 : Int64)) := D50 (Or.inl (hw _ (List.mem_of_getElem? (i := 10) rfl))) (ty := .long) (by decide)
      refine Rch.st (fun _ k => st50 _ k) ?_
      show Rch p e below T50 (mkF m 79 #[.val (.long sd), .second, .val (.int bb), .val (.int fl), .val (.int bd), .val (.ref a27), .val (.double (own_dbl (sd + (-7046029254386353131 : Int64)))), .second, .val (.double (own_dbl ((sd + (-7046029254386353131 : Int64)) + (-7046029254386353131 : Int64)))), .second, .val (.long (XT.ushrL (own_mix (sd + (-7046029254386353131 : Int64))) (11 : Int32))), .second, .unset, .unset, .unset, .unset, .unset, .unset, .unset, .unset] [(.ref a50)]) _
      refine Rch.st (fun _ k => XS.dup X50.here hx rfl (hb hby at_79) rfl rfl k) ?_
      show Rch p e below T50 (mkF m 80 #[.val (.long sd), .second, .val (.int bb), .val (.int fl), .val (.int bd), .val (.ref a27), .val (.double (own_dbl (sd + (-7046029254386353131 : Int64)))), .second, .val (.double (own_dbl ((sd + (-7046029254386353131 : Int64)) + (-7046029254386353131 : Int64)))), .second, .val (.long (XT.ushrL (own_mix (sd + (-7046029254386353131 : Int64))) (11 : Int32))), .second, .unset, .unset, .unset, .unset, .unset, .unset, .unset, .unset] [(.ref a50), (.ref a50)]) _
      refine Rch.st (fun _ k => XT.lloadN X50.here hx rfl (hb hby at_80) rfl k) ?_
      show Rch p e below T50 (mkF m 81 #[.val (.long sd), .second, .val (.int bb), .val (.int fl), .val (.int bd), .val (.ref a27), .val (.double (own_dbl (sd + (-7046029254386353131 : Int64)))), .second, .val (.double (own_dbl ((sd + (-7046029254386353131 : Int64)) + (-7046029254386353131 : Int64)))), .second, .val (.long (XT.ushrL (own_mix (sd + (-7046029254386353131 : Int64))) (11 : Int32))), .second, .unset, .unset, .unset, .unset, .unset, .unset, .unset, .unset] [(.long sd), (.ref a50), (.ref a50)]) _
      obtain ⟨_, _, ⟨T59, L59, k59, n59⟩, -, X59, ⟨Lc59, hQ59, l59, y59, z59⟩, st59⟩ := X50.specialBack hx (y := (⟨"com/example/dualfit/dualfit/allocation/SeededRandom", "<init>", "(J)V"⟩ : MethodName)) rfl hown (mvT hZ (hw _ (List.mem_of_getElem? (i := 3) rfl))) (mvT hZ (hw _ (List.mem_of_getElem? (i := 4) rfl))) (mvT hZ (hw _ (List.mem_of_getElem? (i := 5) rfl))) (by decide) (backOf (W := 1) (rm_init l Z a0 hw [] a50 sd h50 n0 Z56 f58 A50 (ge52)) hZ (hw _ (List.mem_of_getElem? (i := 5) rfl)) (hw _ (List.mem_of_getElem? (i := 2) rfl)) (by decide) (by decide)) (g := (mkF m 81 #[.val (.long sd), .second, .val (.int bb), .val (.int fl), .val (.int bd), .val (.ref a27), .val (.double (own_dbl (sd + (-7046029254386353131 : Int64)))), .second, .val (.double (own_dbl ((sd + (-7046029254386353131 : Int64)) + (-7046029254386353131 : Int64)))), .second, .val (.long (XT.ushrL (own_mix (sd + (-7046029254386353131 : Int64))) (11 : Int32))), .second, .unset, .unset, .unset, .unset, .unset, .unset, .unset, .unset] [(.long sd), (.ref a50), (.ref a50)])) rfl (by rw [hml]; rfl) (Steps.refl _) (a := a50) (argsL := [(.long sd)]) (rest := [(.ref a50)]) (lenOf pd__J_V rfl) rfl (by show 2 * 0 + _ ≤ _; exact Nat.le_of_eq rfl) (hb hby at_81) (fun _ _ => ⟨rfl, e50, (by decide : 2 + 0 ≤ _), (by decide : 2 + 0 ≤ _)⟩)
      dsimp only [Pt.U, Pt.locs, Pt.cells, Pt.slots] at X59 l59 y59 z59 st59 hQ59
      subst l59 y59 z59
      obtain ⟨rfl, NQ59, K59, fq59_0⟩ := hQ59
      have N60 := Fr.app N44 NQ59
      have f61 : Exa Z T59.heap a27 "com/example/dualfit/dualfit/allocation/SeededRandom" := f54.keep K59
      have f62 : Fld Z T59.heap a27 "com/example/dualfit/dualfit/allocation/SeededRandom" "state" "J" (.long ((sd + (-7046029254386353131 : Int64)) + (-7046029254386353131 : Int64))) := f55.keep K59 (ninS ne51 nin0)
      have f63 : Exa Z T59.heap a50 "com/example/dualfit/dualfit/allocation/SeededRandom" := A50.keep K59
      have Kp64 : Keep h0 T59.heap [] := Kp57.trans K59 (allS (Or.inr (Nat.le_trans Kp46.1 (Nat.le_of_eq g50.symm))) all0)
      have Z65 := Nat.le_trans Z56 K59.1
      refine Rch.st (fun _ k => st59.trans k) ?_
      show Rch p e below T59 (mkF m 84 #[.val (.long sd), .second, .val (.int bb), .val (.int fl), .val (.int bd), .val (.ref a27), .val (.double (own_dbl (sd + (-7046029254386353131 : Int64)))), .second, .val (.double (own_dbl ((sd + (-7046029254386353131 : Int64)) + (-7046029254386353131 : Int64)))), .second, .val (.long (XT.ushrL (own_mix (sd + (-7046029254386353131 : Int64))) (11 : Int32))), .second, .unset, .unset, .unset, .unset, .unset, .unset, .unset, .unset] [(.ref a50)]) _
      refine Rch.st (fun _ k => XS.astore X59.here hx rfl (hb hby at_84) rfl rfl (l' := #[.val (.long sd), .second, .val (.int bb), .val (.int fl), .val (.int bd), .val (.ref a27), .val (.double (own_dbl (sd + (-7046029254386353131 : Int64)))), .second, .val (.double (own_dbl ((sd + (-7046029254386353131 : Int64)) + (-7046029254386353131 : Int64)))), .second, .val (.long (XT.ushrL (own_mix (sd + (-7046029254386353131 : Int64))) (11 : Int32))), .second, .val (.ref a50), .unset, .unset, .unset, .unset, .unset, .unset, .unset]) rfl k) ?_
      show Rch p e below T59 (mkF m 86 #[.val (.long sd), .second, .val (.int bb), .val (.int fl), .val (.int bd), .val (.ref a27), .val (.double (own_dbl (sd + (-7046029254386353131 : Int64)))), .second, .val (.double (own_dbl ((sd + (-7046029254386353131 : Int64)) + (-7046029254386353131 : Int64)))), .second, .val (.long (XT.ushrL (own_mix (sd + (-7046029254386353131 : Int64))) (11 : Int32))), .second, .val (.ref a50), .unset, .unset, .unset, .unset, .unset, .unset, .unset] []) _
      refine Rch.st (fun _ k => XS.aload X59.here hx rfl (hb hby at_86) rfl rfl k) ?_
      show Rch p e below T59 (mkF m 88 #[.val (.long sd), .second, .val (.int bb), .val (.int fl), .val (.int bd), .val (.ref a27), .val (.double (own_dbl (sd + (-7046029254386353131 : Int64)))), .second, .val (.double (own_dbl ((sd + (-7046029254386353131 : Int64)) + (-7046029254386353131 : Int64)))), .second, .val (.long (XT.ushrL (own_mix (sd + (-7046029254386353131 : Int64))) (11 : Int32))), .second, .val (.ref a50), .unset, .unset, .unset, .unset, .unset, .unset, .unset] [(.ref a50)]) _
      refine Rch.st (fun _ k => XS.iload X59.here hx rfl (hb hby at_88) rfl k) ?_
      show Rch p e below T59 (mkF m 90 #[.val (.long sd), .second, .val (.int bb), .val (.int fl), .val (.int bd), .val (.ref a27), .val (.double (own_dbl (sd + (-7046029254386353131 : Int64)))), .second, .val (.double (own_dbl ((sd + (-7046029254386353131 : Int64)) + (-7046029254386353131 : Int64)))), .second, .val (.long (XT.ushrL (own_mix (sd + (-7046029254386353131 : Int64))) (11 : Int32))), .second, .val (.ref a50), .unset, .unset, .unset, .unset, .unset, .unset, .unset] [(.int bd), (.ref a50)]) _
      obtain ⟨cq66, kq66, q66a, q66b, q66c⟩ := isOf hZ (rfl : T59.heap = T59.heap) f63
      obtain ⟨_, _, ⟨T66, L66, k66, n66⟩, -, X66, ⟨Lc66, hQ66, l66, y66, z66⟩, st66⟩ := X59.virtualBack hx (y := (⟨"com/example/dualfit/dualfit/allocation/SeededRandom", "nextInt", "(I)I"⟩ : MethodName)) (z := (⟨"com/example/dualfit/dualfit/allocation/SeededRandom", "nextInt", "(I)I"⟩ : MethodName)) hown (mvT hZ (hw _ (List.mem_of_getElem? (i := 26) rfl))) (mvT hZ (hw _ (List.mem_of_getElem? (i := 27) rfl))) (notFace_of_selects (args := #[]) (mvT hZ (hw _ (List.mem_of_getElem? (i := 29) rfl)))) (mvT hZ (hw _ (List.mem_of_getElem? (i := 29) rfl))) (mvT hZ (hw _ (List.mem_of_getElem? (i := 28) rfl))) (by decide) (backOf (W := 0) (rm_nextInt l Z a0 hw [] a50 sd bd T59.heap n0 Z65 fq59_0 f63 (ge52) (hbd) (c49)) hZ (hw _ (List.mem_of_getElem? (i := 30) rfl)) (hw _ (List.mem_of_getElem? (i := 2) rfl)) (by decide) (by decide)) q66a q66c (g := (mkF m 90 #[.val (.long sd), .second, .val (.int bb), .val (.int fl), .val (.int bd), .val (.ref a27), .val (.double (own_dbl (sd + (-7046029254386353131 : Int64)))), .second, .val (.double (own_dbl ((sd + (-7046029254386353131 : Int64)) + (-7046029254386353131 : Int64)))), .second, .val (.long (XT.ushrL (own_mix (sd + (-7046029254386353131 : Int64))) (11 : Int32))), .second, .val (.ref a50), .unset, .unset, .unset, .unset, .unset, .unset, .unset] [(.int bd), (.ref a50)])) rfl (by rw [hml]; rfl) (Steps.refl _) (argsL := [(.int bd)]) (rest := []) (lenOf pd__I_I rfl) rfl (by show 2 * 0 + _ ≤ _; exact Nat.le_of_eq rfl) (hb hby at_90) (fun _ _ => ⟨rfl, (rfl : T59.heap = T59.heap), (by decide : 2 + 0 ≤ _), (by decide : 2 + 0 ≤ _)⟩)
      dsimp only [Pt.U, Pt.locs, Pt.cells, Pt.slots] at X66 l66 y66 z66 st66 hQ66
      subst l66 y66 z66
      obtain ⟨rfl, NQ66, K66, fq66_0⟩ := hQ66
      have N67 := Fr.app N60 NQ66
      have f68 : Exa Z T66.heap a27 "com/example/dualfit/dualfit/allocation/SeededRandom" := f61.keep K66
      have f69 : Fld Z T66.heap a27 "com/example/dualfit/dualfit/allocation/SeededRandom" "state" "J" (.long ((sd + (-7046029254386353131 : Int64)) + (-7046029254386353131 : Int64))) := f62.keep K66 (ninS ne51 nin0)
      have f70 : Exa Z T66.heap a50 "com/example/dualfit/dualfit/allocation/SeededRandom" := f63.keep K66
      have Kp71 : Keep h0 T66.heap [] := Kp64.trans K66 (allS (Or.inr (Nat.le_trans Kp46.1 (Nat.le_of_eq g50.symm))) all0)
      have Z72 := Nat.le_trans Z65 K66.1
      refine Rch.st (fun _ k => st66.trans k) ?_
      show Rch p e below T66 (mkF m 93 #[.val (.long sd), .second, .val (.int bb), .val (.int fl), .val (.int bd), .val (.ref a27), .val (.double (own_dbl (sd + (-7046029254386353131 : Int64)))), .second, .val (.double (own_dbl ((sd + (-7046029254386353131 : Int64)) + (-7046029254386353131 : Int64)))), .second, .val (.long (XT.ushrL (own_mix (sd + (-7046029254386353131 : Int64))) (11 : Int32))), .second, .val (.ref a50), .unset, .unset, .unset, .unset, .unset, .unset, .unset] [(.int (own_ni (sd + (-7046029254386353131 : Int64)) bd))]) _
      refine Rch.st (fun _ k => XS.istore X66.here hx rfl (hb hby at_93) rfl (l' := #[.val (.long sd), .second, .val (.int bb), .val (.int fl), .val (.int bd), .val (.ref a27), .val (.double (own_dbl (sd + (-7046029254386353131 : Int64)))), .second, .val (.double (own_dbl ((sd + (-7046029254386353131 : Int64)) + (-7046029254386353131 : Int64)))), .second, .val (.long (XT.ushrL (own_mix (sd + (-7046029254386353131 : Int64))) (11 : Int32))), .second, .val (.ref a50), .val (.int (own_ni (sd + (-7046029254386353131 : Int64)) bd)), .unset, .unset, .unset, .unset, .unset, .unset]) rfl k) ?_
      show Rch p e below T66 (mkF m 95 #[.val (.long sd), .second, .val (.int bb), .val (.int fl), .val (.int bd), .val (.ref a27), .val (.double (own_dbl (sd + (-7046029254386353131 : Int64)))), .second, .val (.double (own_dbl ((sd + (-7046029254386353131 : Int64)) + (-7046029254386353131 : Int64)))), .second, .val (.long (XT.ushrL (own_mix (sd + (-7046029254386353131 : Int64))) (11 : Int32))), .second, .val (.ref a50), .val (.int (own_ni (sd + (-7046029254386353131 : Int64)) bd)), .unset, .unset, .unset, .unset, .unset, .unset] []) _
      refine Rch.st (fun _ k => XS.aload X66.here hx rfl (hb hby at_95) rfl rfl k) ?_
      show Rch p e below T66 (mkF m 97 #[.val (.long sd), .second, .val (.int bb), .val (.int fl), .val (.int bd), .val (.ref a27), .val (.double (own_dbl (sd + (-7046029254386353131 : Int64)))), .second, .val (.double (own_dbl ((sd + (-7046029254386353131 : Int64)) + (-7046029254386353131 : Int64)))), .second, .val (.long (XT.ushrL (own_mix (sd + (-7046029254386353131 : Int64))) (11 : Int32))), .second, .val (.ref a50), .val (.int (own_ni (sd + (-7046029254386353131 : Int64)) bd)), .unset, .unset, .unset, .unset, .unset, .unset] [(.ref a50)]) _
      obtain ⟨cq73, kq73, q73a, q73b, q73c⟩ := isOf hZ (rfl : T66.heap = T66.heap) f70
      obtain ⟨_, _, ⟨T73, L73, k73, n73⟩, -, X73, ⟨Lc73, hQ73, l73, y73, z73⟩, st73⟩ := X66.virtualBack hx (y := (⟨"com/example/dualfit/dualfit/allocation/SeededRandom", "nextDouble", "()D"⟩ : MethodName)) (z := (⟨"com/example/dualfit/dualfit/allocation/SeededRandom", "nextDouble", "()D"⟩ : MethodName)) hown (mvT hZ (hw _ (List.mem_of_getElem? (i := 11) rfl))) (mvT hZ (hw _ (List.mem_of_getElem? (i := 12) rfl))) (notFace_of_selects (args := #[]) (mvT hZ (hw _ (List.mem_of_getElem? (i := 14) rfl)))) (mvT hZ (hw _ (List.mem_of_getElem? (i := 14) rfl))) (mvT hZ (hw _ (List.mem_of_getElem? (i := 13) rfl))) (by decide) (backOf (W := 0) (rm_nextDouble l Z a0 hw [] a50 (sd + (-7046029254386353131 : Int64)) T66.heap n0 Z72 fq66_0 f70 (ge52)) hZ (hw _ (List.mem_of_getElem? (i := 15) rfl)) (hw _ (List.mem_of_getElem? (i := 2) rfl)) (by decide) (by decide)) q73a q73c (g := (mkF m 97 #[.val (.long sd), .second, .val (.int bb), .val (.int fl), .val (.int bd), .val (.ref a27), .val (.double (own_dbl (sd + (-7046029254386353131 : Int64)))), .second, .val (.double (own_dbl ((sd + (-7046029254386353131 : Int64)) + (-7046029254386353131 : Int64)))), .second, .val (.long (XT.ushrL (own_mix (sd + (-7046029254386353131 : Int64))) (11 : Int32))), .second, .val (.ref a50), .val (.int (own_ni (sd + (-7046029254386353131 : Int64)) bd)), .unset, .unset, .unset, .unset, .unset, .unset] [(.ref a50)])) rfl (by rw [hml]; rfl) (Steps.refl _) (argsL := []) (rest := []) (lenOf pd___D rfl) rfl (by show 2 * 0 + _ ≤ _; exact Nat.le_of_eq rfl) (hb hby at_97) (fun _ _ => ⟨rfl, (rfl : T66.heap = T66.heap), (by decide : 2 + 0 ≤ _), (by decide : 2 + 0 ≤ _)⟩)
      dsimp only [Pt.U, Pt.locs, Pt.cells, Pt.slots] at X73 l73 y73 z73 st73 hQ73
      subst l73 y73 z73
      obtain ⟨rfl, NQ73, K73, fq73_0⟩ := hQ73
      have N74 := Fr.app N67 NQ73
      have f75 : Exa Z T73.heap a27 "com/example/dualfit/dualfit/allocation/SeededRandom" := f68.keep K73
      have f76 : Fld Z T73.heap a27 "com/example/dualfit/dualfit/allocation/SeededRandom" "state" "J" (.long ((sd + (-7046029254386353131 : Int64)) + (-7046029254386353131 : Int64))) := f69.keep K73 (ninS ne51 nin0)
      have f77 : Exa Z T73.heap a50 "com/example/dualfit/dualfit/allocation/SeededRandom" := f70.keep K73
      have Kp78 : Keep h0 T73.heap [] := Kp71.trans K73 (allS (Or.inr (Nat.le_trans Kp46.1 (Nat.le_of_eq g50.symm))) all0)
      have Z79 := Nat.le_trans Z72 K73.1
      refine Rch.st (fun _ k => st73.trans k) ?_
      show Rch p e below T73 (mkF m 100 #[.val (.long sd), .second, .val (.int bb), .val (.int fl), .val (.int bd), .val (.ref a27), .val (.double (own_dbl (sd + (-7046029254386353131 : Int64)))), .second, .val (.double (own_dbl ((sd + (-7046029254386353131 : Int64)) + (-7046029254386353131 : Int64)))), .second, .val (.long (XT.ushrL (own_mix (sd + (-7046029254386353131 : Int64))) (11 : Int32))), .second, .val (.ref a50), .val (.int (own_ni (sd + (-7046029254386353131 : Int64)) bd)), .unset, .unset, .unset, .unset, .unset, .unset] [(.double (own_dbl ((sd + (-7046029254386353131 : Int64)) + (-7046029254386353131 : Int64))))]) _
      refine Rch.st (fun _ k => XS.dstore X73.here hx rfl (hb hby at_100) rfl (l' := #[.val (.long sd), .second, .val (.int bb), .val (.int fl), .val (.int bd), .val (.ref a27), .val (.double (own_dbl (sd + (-7046029254386353131 : Int64)))), .second, .val (.double (own_dbl ((sd + (-7046029254386353131 : Int64)) + (-7046029254386353131 : Int64)))), .second, .val (.long (XT.ushrL (own_mix (sd + (-7046029254386353131 : Int64))) (11 : Int32))), .second, .val (.ref a50), .val (.int (own_ni (sd + (-7046029254386353131 : Int64)) bd)), .val (.double (own_dbl ((sd + (-7046029254386353131 : Int64)) + (-7046029254386353131 : Int64)))), .second, .unset, .unset, .unset, .unset]) rfl k) ?_
      show Rch p e below T73 (mkF m 102 #[.val (.long sd), .second, .val (.int bb), .val (.int fl), .val (.int bd), .val (.ref a27), .val (.double (own_dbl (sd + (-7046029254386353131 : Int64)))), .second, .val (.double (own_dbl ((sd + (-7046029254386353131 : Int64)) + (-7046029254386353131 : Int64)))), .second, .val (.long (XT.ushrL (own_mix (sd + (-7046029254386353131 : Int64))) (11 : Int32))), .second, .val (.ref a50), .val (.int (own_ni (sd + (-7046029254386353131 : Int64)) bd)), .val (.double (own_dbl ((sd + (-7046029254386353131 : Int64)) + (-7046029254386353131 : Int64)))), .second, .unset, .unset, .unset, .unset] []) _
      refine Rch.st (fun _ k => XS.iload X73.here hx rfl (hb hby at_102) rfl k) ?_
      show Rch p e below T73 (mkF m 104 #[.val (.long sd), .second, .val (.int bb), .val (.int fl), .val (.int bd), .val (.ref a27), .val (.double (own_dbl (sd + (-7046029254386353131 : Int64)))), .second, .val (.double (own_dbl ((sd + (-7046029254386353131 : Int64)) + (-7046029254386353131 : Int64)))), .second, .val (.long (XT.ushrL (own_mix (sd + (-7046029254386353131 : Int64))) (11 : Int32))), .second, .val (.ref a50), .val (.int (own_ni (sd + (-7046029254386353131 : Int64)) bd)), .val (.double (own_dbl ((sd + (-7046029254386353131 : Int64)) + (-7046029254386353131 : Int64)))), .second, .unset, .unset, .unset, .unset] [(.int (own_ni (sd + (-7046029254386353131 : Int64)) bd))]) _
      refine Rch.st (fun _ k => XS.ifNo X73.here hx rfl (hb hby at_104) rfl (XT.i0_lt_f ((own_ni_rng _ hbd).1)) k) ?_
      show Rch p e below T73 (mkF m 107 #[.val (.long sd), .second, .val (.int bb), .val (.int fl), .val (.int bd), .val (.ref a27), .val (.double (own_dbl (sd + (-7046029254386353131 : Int64)))), .second, .val (.double (own_dbl ((sd + (-7046029254386353131 : Int64)) + (-7046029254386353131 : Int64)))), .second, .val (.long (XT.ushrL (own_mix (sd + (-7046029254386353131 : Int64))) (11 : Int32))), .second, .val (.ref a50), .val (.int (own_ni (sd + (-7046029254386353131 : Int64)) bd)), .val (.double (own_dbl ((sd + (-7046029254386353131 : Int64)) + (-7046029254386353131 : Int64)))), .second, .unset, .unset, .unset, .unset] []) _
      refine Rch.st (fun _ k => XS.iload X73.here hx rfl (hb hby at_107) rfl k) ?_
      show Rch p e below T73 (mkF m 109 #[.val (.long sd), .second, .val (.int bb), .val (.int fl), .val (.int bd), .val (.ref a27), .val (.double (own_dbl (sd + (-7046029254386353131 : Int64)))), .second, .val (.double (own_dbl ((sd + (-7046029254386353131 : Int64)) + (-7046029254386353131 : Int64)))), .second, .val (.long (XT.ushrL (own_mix (sd + (-7046029254386353131 : Int64))) (11 : Int32))), .second, .val (.ref a50), .val (.int (own_ni (sd + (-7046029254386353131 : Int64)) bd)), .val (.double (own_dbl ((sd + (-7046029254386353131 : Int64)) + (-7046029254386353131 : Int64)))), .second, .unset, .unset, .unset, .unset] [(.int (own_ni (sd + (-7046029254386353131 : Int64)) bd))]) _
      refine Rch.st (fun _ k => XS.iload X73.here hx rfl (hb hby at_109) rfl k) ?_
      show Rch p e below T73 (mkF m 111 #[.val (.long sd), .second, .val (.int bb), .val (.int fl), .val (.int bd), .val (.ref a27), .val (.double (own_dbl (sd + (-7046029254386353131 : Int64)))), .second, .val (.double (own_dbl ((sd + (-7046029254386353131 : Int64)) + (-7046029254386353131 : Int64)))), .second, .val (.long (XT.ushrL (own_mix (sd + (-7046029254386353131 : Int64))) (11 : Int32))), .second, .val (.ref a50), .val (.int (own_ni (sd + (-7046029254386353131 : Int64)) bd)), .val (.double (own_dbl ((sd + (-7046029254386353131 : Int64)) + (-7046029254386353131 : Int64)))), .second, .unset, .unset, .unset, .unset] [(.int bd), (.int (own_ni (sd + (-7046029254386353131 : Int64)) bd))]) _
      refine Rch.st (fun _ k => XS.icmpYes X73.here hx rfl (pc0 := 111) (pc' := 116) rfl (hb hby at_111) rfl (XT.ii_lt_t ((own_ni_rng _ hbd).2)) (by decide) (by decide) k) ?_
      show Rch p e below T73 (mkF m 116 #[.val (.long sd), .second, .val (.int bb), .val (.int fl), .val (.int bd), .val (.ref a27), .val (.double (own_dbl (sd + (-7046029254386353131 : Int64)))), .second, .val (.double (own_dbl ((sd + (-7046029254386353131 : Int64)) + (-7046029254386353131 : Int64)))), .second, .val (.long (XT.ushrL (own_mix (sd + (-7046029254386353131 : Int64))) (11 : Int32))), .second, .val (.ref a50), .val (.int (own_ni (sd + (-7046029254386353131 : Int64)) bd)), .val (.double (own_dbl ((sd + (-7046029254386353131 : Int64)) + (-7046029254386353131 : Int64)))), .second, .unset, .unset, .unset, .unset] []) _
      refine Rch.st (fun _ k => XT.lload X73.here hx rfl (hb hby at_116) rfl k) ?_
      show Rch p e below T73 (mkF m 118 #[.val (.long sd), .second, .val (.int bb), .val (.int fl), .val (.int bd), .val (.ref a27), .val (.double (own_dbl (sd + (-7046029254386353131 : Int64)))), .second, .val (.double (own_dbl ((sd + (-7046029254386353131 : Int64)) + (-7046029254386353131 : Int64)))), .second, .val (.long (XT.ushrL (own_mix (sd + (-7046029254386353131 : Int64))) (11 : Int32))), .second, .val (.ref a50), .val (.int (own_ni (sd + (-7046029254386353131 : Int64)) bd)), .val (.double (own_dbl ((sd + (-7046029254386353131 : Int64)) + (-7046029254386353131 : Int64)))), .second, .unset, .unset, .unset, .unset] [(.long (XT.ushrL (own_mix (sd + (-7046029254386353131 : Int64))) (11 : Int32)))]) _
      refine Rch.st (fun _ k => Stand.ldc2J X73 hx hown (mv hZ (hw _ (List.mem_of_getElem? (i := 32) rfl))) rfl (hb hby at_118) k) ?_
      show Rch p e below T73 (mkF m 121 #[.val (.long sd), .second, .val (.int bb), .val (.int fl), .val (.int bd), .val (.ref a27), .val (.double (own_dbl (sd + (-7046029254386353131 : Int64)))), .second, .val (.double (own_dbl ((sd + (-7046029254386353131 : Int64)) + (-7046029254386353131 : Int64)))), .second, .val (.long (XT.ushrL (own_mix (sd + (-7046029254386353131 : Int64))) (11 : Int32))), .second, .val (.ref a50), .val (.int (own_ni (sd + (-7046029254386353131 : Int64)) bd)), .val (.double (own_dbl ((sd + (-7046029254386353131 : Int64)) + (-7046029254386353131 : Int64)))), .second, .unset, .unset, .unset, .unset] [(.long (1024 : Int64)), (.long (XT.ushrL (own_mix (sd + (-7046029254386353131 : Int64))) (11 : Int32)))]) _
      refine Rch.st (fun _ k => XT.lmul X73.here hx rfl (hb hby at_121) rfl k) ?_
      show Rch p e below T73 (mkF m 122 #[.val (.long sd), .second, .val (.int bb), .val (.int fl), .val (.int bd), .val (.ref a27), .val (.double (own_dbl (sd + (-7046029254386353131 : Int64)))), .second, .val (.double (own_dbl ((sd + (-7046029254386353131 : Int64)) + (-7046029254386353131 : Int64)))), .second, .val (.long (XT.ushrL (own_mix (sd + (-7046029254386353131 : Int64))) (11 : Int32))), .second, .val (.ref a50), .val (.int (own_ni (sd + (-7046029254386353131 : Int64)) bd)), .val (.double (own_dbl ((sd + (-7046029254386353131 : Int64)) + (-7046029254386353131 : Int64)))), .second, .unset, .unset, .unset, .unset] [(.long ((XT.ushrL (own_mix (sd + (-7046029254386353131 : Int64))) (11 : Int32)) * (1024 : Int64)))]) _
      refine Rch.st (fun _ k => XS.iload X73.here hx rfl (hb hby at_122) rfl k) ?_
      show Rch p e below T73 (mkF m 124 #[.val (.long sd), .second, .val (.int bb), .val (.int fl), .val (.int bd), .val (.ref a27), .val (.double (own_dbl (sd + (-7046029254386353131 : Int64)))), .second, .val (.double (own_dbl ((sd + (-7046029254386353131 : Int64)) + (-7046029254386353131 : Int64)))), .second, .val (.long (XT.ushrL (own_mix (sd + (-7046029254386353131 : Int64))) (11 : Int32))), .second, .val (.ref a50), .val (.int (own_ni (sd + (-7046029254386353131 : Int64)) bd)), .val (.double (own_dbl ((sd + (-7046029254386353131 : Int64)) + (-7046029254386353131 : Int64)))), .second, .unset, .unset, .unset, .unset] [(.int bd), (.long ((XT.ushrL (own_mix (sd + (-7046029254386353131 : Int64))) (11 : Int32)) * (1024 : Int64)))]) _
      refine Rch.st (fun _ k => XT.i2l X73.here hx rfl (hb hby at_124) rfl k) ?_
      show Rch p e below T73 (mkF m 125 #[.val (.long sd), .second, .val (.int bb), .val (.int fl), .val (.int bd), .val (.ref a27), .val (.double (own_dbl (sd + (-7046029254386353131 : Int64)))), .second, .val (.double (own_dbl ((sd + (-7046029254386353131 : Int64)) + (-7046029254386353131 : Int64)))), .second, .val (.long (XT.ushrL (own_mix (sd + (-7046029254386353131 : Int64))) (11 : Int32))), .second, .val (.ref a50), .val (.int (own_ni (sd + (-7046029254386353131 : Int64)) bd)), .val (.double (own_dbl ((sd + (-7046029254386353131 : Int64)) + (-7046029254386353131 : Int64)))), .second, .unset, .unset, .unset, .unset] [(.long (bd).toInt64), (.long ((XT.ushrL (own_mix (sd + (-7046029254386353131 : Int64))) (11 : Int32)) * (1024 : Int64)))]) _
      refine Rch.st (fun _ k => lremM X73 hx rfl (hb hby at_125) rfl (own_bd hbd) k) ?_
      show Rch p e below T73 (mkF m 126 #[.val (.long sd), .second, .val (.int bb), .val (.int fl), .val (.int bd), .val (.ref a27), .val (.double (own_dbl (sd + (-7046029254386353131 : Int64)))), .second, .val (.double (own_dbl ((sd + (-7046029254386353131 : Int64)) + (-7046029254386353131 : Int64)))), .second, .val (.long (XT.ushrL (own_mix (sd + (-7046029254386353131 : Int64))) (11 : Int32))), .second, .val (.ref a50), .val (.int (own_ni (sd + (-7046029254386353131 : Int64)) bd)), .val (.double (own_dbl ((sd + (-7046029254386353131 : Int64)) + (-7046029254386353131 : Int64)))), .second, .unset, .unset, .unset, .unset] [(.long (((XT.ushrL (own_mix (sd + (-7046029254386353131 : Int64))) (11 : Int32)) * (1024 : Int64)) % (bd).toInt64))]) _
      refine Rch.st (fun _ k => XT.lstore X73.here hx rfl (hb hby at_126) rfl (l' := #[.val (.long sd), .second, .val (.int bb), .val (.int fl), .val (.int bd), .val (.ref a27), .val (.double (own_dbl (sd + (-7046029254386353131 : Int64)))), .second, .val (.double (own_dbl ((sd + (-7046029254386353131 : Int64)) + (-7046029254386353131 : Int64)))), .second, .val (.long (XT.ushrL (own_mix (sd + (-7046029254386353131 : Int64))) (11 : Int32))), .second, .val (.ref a50), .val (.int (own_ni (sd + (-7046029254386353131 : Int64)) bd)), .val (.double (own_dbl ((sd + (-7046029254386353131 : Int64)) + (-7046029254386353131 : Int64)))), .second, .val (.long (((XT.ushrL (own_mix (sd + (-7046029254386353131 : Int64))) (11 : Int32)) * (1024 : Int64)) % (bd).toInt64)), .second, .unset, .unset]) rfl k) ?_
      show Rch p e below T73 (mkF m 128 #[.val (.long sd), .second, .val (.int bb), .val (.int fl), .val (.int bd), .val (.ref a27), .val (.double (own_dbl (sd + (-7046029254386353131 : Int64)))), .second, .val (.double (own_dbl ((sd + (-7046029254386353131 : Int64)) + (-7046029254386353131 : Int64)))), .second, .val (.long (XT.ushrL (own_mix (sd + (-7046029254386353131 : Int64))) (11 : Int32))), .second, .val (.ref a50), .val (.int (own_ni (sd + (-7046029254386353131 : Int64)) bd)), .val (.double (own_dbl ((sd + (-7046029254386353131 : Int64)) + (-7046029254386353131 : Int64)))), .second, .val (.long (((XT.ushrL (own_mix (sd + (-7046029254386353131 : Int64))) (11 : Int32)) * (1024 : Int64)) % (bd).toInt64)), .second, .unset, .unset] []) _
      refine Rch.st (fun _ k => XS.iload X73.here hx rfl (hb hby at_128) rfl k) ?_
      show Rch p e below T73 (mkF m 130 #[.val (.long sd), .second, .val (.int bb), .val (.int fl), .val (.int bd), .val (.ref a27), .val (.double (own_dbl (sd + (-7046029254386353131 : Int64)))), .second, .val (.double (own_dbl ((sd + (-7046029254386353131 : Int64)) + (-7046029254386353131 : Int64)))), .second, .val (.long (XT.ushrL (own_mix (sd + (-7046029254386353131 : Int64))) (11 : Int32))), .second, .val (.ref a50), .val (.int (own_ni (sd + (-7046029254386353131 : Int64)) bd)), .val (.double (own_dbl ((sd + (-7046029254386353131 : Int64)) + (-7046029254386353131 : Int64)))), .second, .val (.long (((XT.ushrL (own_mix (sd + (-7046029254386353131 : Int64))) (11 : Int32)) * (1024 : Int64)) % (bd).toInt64)), .second, .unset, .unset] [(.int (own_ni (sd + (-7046029254386353131 : Int64)) bd))]) _
      refine Rch.st (fun _ k => XT.i2l X73.here hx rfl (hb hby at_130) rfl k) ?_
      show Rch p e below T73 (mkF m 131 #[.val (.long sd), .second, .val (.int bb), .val (.int fl), .val (.int bd), .val (.ref a27), .val (.double (own_dbl (sd + (-7046029254386353131 : Int64)))), .second, .val (.double (own_dbl ((sd + (-7046029254386353131 : Int64)) + (-7046029254386353131 : Int64)))), .second, .val (.long (XT.ushrL (own_mix (sd + (-7046029254386353131 : Int64))) (11 : Int32))), .second, .val (.ref a50), .val (.int (own_ni (sd + (-7046029254386353131 : Int64)) bd)), .val (.double (own_dbl ((sd + (-7046029254386353131 : Int64)) + (-7046029254386353131 : Int64)))), .second, .val (.long (((XT.ushrL (own_mix (sd + (-7046029254386353131 : Int64))) (11 : Int32)) * (1024 : Int64)) % (bd).toInt64)), .second, .unset, .unset] [(.long ((own_ni (sd + (-7046029254386353131 : Int64)) bd)).toInt64)]) _
      refine Rch.st (fun _ k => XT.lload X73.here hx rfl (hb hby at_131) rfl k) ?_
      show Rch p e below T73 (mkF m 133 #[.val (.long sd), .second, .val (.int bb), .val (.int fl), .val (.int bd), .val (.ref a27), .val (.double (own_dbl (sd + (-7046029254386353131 : Int64)))), .second, .val (.double (own_dbl ((sd + (-7046029254386353131 : Int64)) + (-7046029254386353131 : Int64)))), .second, .val (.long (XT.ushrL (own_mix (sd + (-7046029254386353131 : Int64))) (11 : Int32))), .second, .val (.ref a50), .val (.int (own_ni (sd + (-7046029254386353131 : Int64)) bd)), .val (.double (own_dbl ((sd + (-7046029254386353131 : Int64)) + (-7046029254386353131 : Int64)))), .second, .val (.long (((XT.ushrL (own_mix (sd + (-7046029254386353131 : Int64))) (11 : Int32)) * (1024 : Int64)) % (bd).toInt64)), .second, .unset, .unset] [(.long (((XT.ushrL (own_mix (sd + (-7046029254386353131 : Int64))) (11 : Int32)) * (1024 : Int64)) % (bd).toInt64)), (.long ((own_ni (sd + (-7046029254386353131 : Int64)) bd)).toInt64)]) _
      refine Rch.st (fun _ k => XT.lsub X73.here hx rfl (hb hby at_133) rfl k) ?_
      show Rch p e below T73 (mkF m 134 #[.val (.long sd), .second, .val (.int bb), .val (.int fl), .val (.int bd), .val (.ref a27), .val (.double (own_dbl (sd + (-7046029254386353131 : Int64)))), .second, .val (.double (own_dbl ((sd + (-7046029254386353131 : Int64)) + (-7046029254386353131 : Int64)))), .second, .val (.long (XT.ushrL (own_mix (sd + (-7046029254386353131 : Int64))) (11 : Int32))), .second, .val (.ref a50), .val (.int (own_ni (sd + (-7046029254386353131 : Int64)) bd)), .val (.double (own_dbl ((sd + (-7046029254386353131 : Int64)) + (-7046029254386353131 : Int64)))), .second, .val (.long (((XT.ushrL (own_mix (sd + (-7046029254386353131 : Int64))) (11 : Int32)) * (1024 : Int64)) % (bd).toInt64)), .second, .unset, .unset] [(.long (((own_ni (sd + (-7046029254386353131 : Int64)) bd)).toInt64 - (((XT.ushrL (own_mix (sd + (-7046029254386353131 : Int64))) (11 : Int32)) * (1024 : Int64)) % (bd).toInt64)))]) _
      refine Rch.st (fun _ k => XS.iload X73.here hx rfl (hb hby at_134) rfl k) ?_
      show Rch p e below T73 (mkF m 136 #[.val (.long sd), .second, .val (.int bb), .val (.int fl), .val (.int bd), .val (.ref a27), .val (.double (own_dbl (sd + (-7046029254386353131 : Int64)))), .second, .val (.double (own_dbl ((sd + (-7046029254386353131 : Int64)) + (-7046029254386353131 : Int64)))), .second, .val (.long (XT.ushrL (own_mix (sd + (-7046029254386353131 : Int64))) (11 : Int32))), .second, .val (.ref a50), .val (.int (own_ni (sd + (-7046029254386353131 : Int64)) bd)), .val (.double (own_dbl ((sd + (-7046029254386353131 : Int64)) + (-7046029254386353131 : Int64)))), .second, .val (.long (((XT.ushrL (own_mix (sd + (-7046029254386353131 : Int64))) (11 : Int32)) * (1024 : Int64)) % (bd).toInt64)), .second, .unset, .unset] [(.int bd), (.long (((own_ni (sd + (-7046029254386353131 : Int64)) bd)).toInt64 - (((XT.ushrL (own_mix (sd + (-7046029254386353131 : Int64))) (11 : Int32)) * (1024 : Int64)) % (bd).toInt64)))]) _
      refine Rch.st (fun _ k => XT.i2l X73.here hx rfl (hb hby at_136) rfl k) ?_
      show Rch p e below T73 (mkF m 137 #[.val (.long sd), .second, .val (.int bb), .val (.int fl), .val (.int bd), .val (.ref a27), .val (.double (own_dbl (sd + (-7046029254386353131 : Int64)))), .second, .val (.double (own_dbl ((sd + (-7046029254386353131 : Int64)) + (-7046029254386353131 : Int64)))), .second, .val (.long (XT.ushrL (own_mix (sd + (-7046029254386353131 : Int64))) (11 : Int32))), .second, .val (.ref a50), .val (.int (own_ni (sd + (-7046029254386353131 : Int64)) bd)), .val (.double (own_dbl ((sd + (-7046029254386353131 : Int64)) + (-7046029254386353131 : Int64)))), .second, .val (.long (((XT.ushrL (own_mix (sd + (-7046029254386353131 : Int64))) (11 : Int32)) * (1024 : Int64)) % (bd).toInt64)), .second, .unset, .unset] [(.long (bd).toInt64), (.long (((own_ni (sd + (-7046029254386353131 : Int64)) bd)).toInt64 - (((XT.ushrL (own_mix (sd + (-7046029254386353131 : Int64))) (11 : Int32)) * (1024 : Int64)) % (bd).toInt64)))]) _
      refine Rch.st (fun _ k => lremM X73 hx rfl (hb hby at_137) rfl (own_bd hbd) k) ?_
      show Rch p e below T73 (mkF m 138 #[.val (.long sd), .second, .val (.int bb), .val (.int fl), .val (.int bd), .val (.ref a27), .val (.double (own_dbl (sd + (-7046029254386353131 : Int64)))), .second, .val (.double (own_dbl ((sd + (-7046029254386353131 : Int64)) + (-7046029254386353131 : Int64)))), .second, .val (.long (XT.ushrL (own_mix (sd + (-7046029254386353131 : Int64))) (11 : Int32))), .second, .val (.ref a50), .val (.int (own_ni (sd + (-7046029254386353131 : Int64)) bd)), .val (.double (own_dbl ((sd + (-7046029254386353131 : Int64)) + (-7046029254386353131 : Int64)))), .second, .val (.long (((XT.ushrL (own_mix (sd + (-7046029254386353131 : Int64))) (11 : Int32)) * (1024 : Int64)) % (bd).toInt64)), .second, .unset, .unset] [(.long ((((own_ni (sd + (-7046029254386353131 : Int64)) bd)).toInt64 - (((XT.ushrL (own_mix (sd + (-7046029254386353131 : Int64))) (11 : Int32)) * (1024 : Int64)) % (bd).toInt64)) % (bd).toInt64))]) _
      show Rch p e below T73 (mkF m 138 #[.val (.long sd), .second, .val (.int bb), .val (.int fl), .val (.int bd), .val (.ref a27), .val (.double (own_dbl (sd + (-7046029254386353131 : Int64)))), .second, .val (.double (own_dbl ((sd + (-7046029254386353131 : Int64)) + (-7046029254386353131 : Int64)))), .second, .val (.long (XT.ushrL (own_mix (sd + (-7046029254386353131 : Int64))) (11 : Int32))), .second, .val (.ref a50), .val (.int (own_ni (sd + (-7046029254386353131 : Int64)) bd)), .val (.double (own_dbl ((sd + (-7046029254386353131 : Int64)) + (-7046029254386353131 : Int64)))), .second, .val (.long (((XT.ushrL (own_mix (sd + (-7046029254386353131 : Int64))) (11 : Int32)) * (1024 : Int64)) % (bd).toInt64)), .second, .unset, .unset] [(.long (own_diff (sd + (-7046029254386353131 : Int64)) bd))]) _
      refine Rch.st (fun _ k => XT.lstore X73.here hx rfl (hb hby at_138) rfl (l' := #[.val (.long sd), .second, .val (.int bb), .val (.int fl), .val (.int bd), .val (.ref a27), .val (.double (own_dbl (sd + (-7046029254386353131 : Int64)))), .second, .val (.double (own_dbl ((sd + (-7046029254386353131 : Int64)) + (-7046029254386353131 : Int64)))), .second, .val (.long (XT.ushrL (own_mix (sd + (-7046029254386353131 : Int64))) (11 : Int32))), .second, .val (.ref a50), .val (.int (own_ni (sd + (-7046029254386353131 : Int64)) bd)), .val (.double (own_dbl ((sd + (-7046029254386353131 : Int64)) + (-7046029254386353131 : Int64)))), .second, .val (.long (((XT.ushrL (own_mix (sd + (-7046029254386353131 : Int64))) (11 : Int32)) * (1024 : Int64)) % (bd).toInt64)), .second, .val (.long (own_diff (sd + (-7046029254386353131 : Int64)) bd)), .second]) rfl k) ?_
      show Rch p e below T73 (mkF m 140 #[.val (.long sd), .second, .val (.int bb), .val (.int fl), .val (.int bd), .val (.ref a27), .val (.double (own_dbl (sd + (-7046029254386353131 : Int64)))), .second, .val (.double (own_dbl ((sd + (-7046029254386353131 : Int64)) + (-7046029254386353131 : Int64)))), .second, .val (.long (XT.ushrL (own_mix (sd + (-7046029254386353131 : Int64))) (11 : Int32))), .second, .val (.ref a50), .val (.int (own_ni (sd + (-7046029254386353131 : Int64)) bd)), .val (.double (own_dbl ((sd + (-7046029254386353131 : Int64)) + (-7046029254386353131 : Int64)))), .second, .val (.long (((XT.ushrL (own_mix (sd + (-7046029254386353131 : Int64))) (11 : Int32)) * (1024 : Int64)) % (bd).toInt64)), .second, .val (.long (own_diff (sd + (-7046029254386353131 : Int64)) bd)), .second] []) _
      refine Rch.st (fun _ k => XT.lload X73.here hx rfl (hb hby at_140) rfl k) ?_
      show Rch p e below T73 (mkF m 142 #[.val (.long sd), .second, .val (.int bb), .val (.int fl), .val (.int bd), .val (.ref a27), .val (.double (own_dbl (sd + (-7046029254386353131 : Int64)))), .second, .val (.double (own_dbl ((sd + (-7046029254386353131 : Int64)) + (-7046029254386353131 : Int64)))), .second, .val (.long (XT.ushrL (own_mix (sd + (-7046029254386353131 : Int64))) (11 : Int32))), .second, .val (.ref a50), .val (.int (own_ni (sd + (-7046029254386353131 : Int64)) bd)), .val (.double (own_dbl ((sd + (-7046029254386353131 : Int64)) + (-7046029254386353131 : Int64)))), .second, .val (.long (((XT.ushrL (own_mix (sd + (-7046029254386353131 : Int64))) (11 : Int32)) * (1024 : Int64)) % (bd).toInt64)), .second, .val (.long (own_diff (sd + (-7046029254386353131 : Int64)) bd)), .second] [(.long (own_diff (sd + (-7046029254386353131 : Int64)) bd))]) _
      refine Rch.st (fun _ k => XT.lconst X73.here hx rfl (hb hby at_142) k) ?_
      show Rch p e below T73 (mkF m 143 #[.val (.long sd), .second, .val (.int bb), .val (.int fl), .val (.int bd), .val (.ref a27), .val (.double (own_dbl (sd + (-7046029254386353131 : Int64)))), .second, .val (.double (own_dbl ((sd + (-7046029254386353131 : Int64)) + (-7046029254386353131 : Int64)))), .second, .val (.long (XT.ushrL (own_mix (sd + (-7046029254386353131 : Int64))) (11 : Int32))), .second, .val (.ref a50), .val (.int (own_ni (sd + (-7046029254386353131 : Int64)) bd)), .val (.double (own_dbl ((sd + (-7046029254386353131 : Int64)) + (-7046029254386353131 : Int64)))), .second, .val (.long (((XT.ushrL (own_mix (sd + (-7046029254386353131 : Int64))) (11 : Int32)) * (1024 : Int64)) % (bd).toInt64)), .second, .val (.long (own_diff (sd + (-7046029254386353131 : Int64)) bd)), .second] [(.long (0 : Int64)), (.long (own_diff (sd + (-7046029254386353131 : Int64)) bd))]) _
      refine Rch.st (fun _ k => XT.lcmp X73.here hx rfl (hb hby at_143) rfl k) ?_
      show Rch p e below T73 (mkF m 144 #[.val (.long sd), .second, .val (.int bb), .val (.int fl), .val (.int bd), .val (.ref a27), .val (.double (own_dbl (sd + (-7046029254386353131 : Int64)))), .second, .val (.double (own_dbl ((sd + (-7046029254386353131 : Int64)) + (-7046029254386353131 : Int64)))), .second, .val (.long (XT.ushrL (own_mix (sd + (-7046029254386353131 : Int64))) (11 : Int32))), .second, .val (.ref a50), .val (.int (own_ni (sd + (-7046029254386353131 : Int64)) bd)), .val (.double (own_dbl ((sd + (-7046029254386353131 : Int64)) + (-7046029254386353131 : Int64)))), .second, .val (.long (((XT.ushrL (own_mix (sd + (-7046029254386353131 : Int64))) (11 : Int32)) * (1024 : Int64)) % (bd).toInt64)), .second, .val (.long (own_diff (sd + (-7046029254386353131 : Int64)) bd)), .second] [(.int (XT.cmpL (own_diff (sd + (-7046029254386353131 : Int64)) bd) (0 : Int64)))]) _
      by_cases c80 : (own_diff (sd + (-7046029254386353131 : Int64)) bd) < (0 : Int64)
      · skip
        refine Rch.st (fun _ k => XS.ifNo X73.here hx rfl (hb hby at_144) rfl (XT.ll_ge_f (c80)) k) ?_
        show Rch p e below T73 (mkF m 147 #[.val (.long sd), .second, .val (.int bb), .val (.int fl), .val (.int bd), .val (.ref a27), .val (.double (own_dbl (sd + (-7046029254386353131 : Int64)))), .second, .val (.double (own_dbl ((sd + (-7046029254386353131 : Int64)) + (-7046029254386353131 : Int64)))), .second, .val (.long (XT.ushrL (own_mix (sd + (-7046029254386353131 : Int64))) (11 : Int32))), .second, .val (.ref a50), .val (.int (own_ni (sd + (-7046029254386353131 : Int64)) bd)), .val (.double (own_dbl ((sd + (-7046029254386353131 : Int64)) + (-7046029254386353131 : Int64)))), .second, .val (.long (((XT.ushrL (own_mix (sd + (-7046029254386353131 : Int64))) (11 : Int32)) * (1024 : Int64)) % (bd).toInt64)), .second, .val (.long (own_diff (sd + (-7046029254386353131 : Int64)) bd)), .second] []) _
        refine Rch.st (fun _ k => XT.lload X73.here hx rfl (hb hby at_147) rfl k) ?_
        show Rch p e below T73 (mkF m 149 #[.val (.long sd), .second, .val (.int bb), .val (.int fl), .val (.int bd), .val (.ref a27), .val (.double (own_dbl (sd + (-7046029254386353131 : Int64)))), .second, .val (.double (own_dbl ((sd + (-7046029254386353131 : Int64)) + (-7046029254386353131 : Int64)))), .second, .val (.long (XT.ushrL (own_mix (sd + (-7046029254386353131 : Int64))) (11 : Int32))), .second, .val (.ref a50), .val (.int (own_ni (sd + (-7046029254386353131 : Int64)) bd)), .val (.double (own_dbl ((sd + (-7046029254386353131 : Int64)) + (-7046029254386353131 : Int64)))), .second, .val (.long (((XT.ushrL (own_mix (sd + (-7046029254386353131 : Int64))) (11 : Int32)) * (1024 : Int64)) % (bd).toInt64)), .second, .val (.long (own_diff (sd + (-7046029254386353131 : Int64)) bd)), .second] [(.long (own_diff (sd + (-7046029254386353131 : Int64)) bd))]) _
        refine Rch.st (fun _ k => XS.iload X73.here hx rfl (hb hby at_149) rfl k) ?_
        show Rch p e below T73 (mkF m 151 #[.val (.long sd), .second, .val (.int bb), .val (.int fl), .val (.int bd), .val (.ref a27), .val (.double (own_dbl (sd + (-7046029254386353131 : Int64)))), .second, .val (.double (own_dbl ((sd + (-7046029254386353131 : Int64)) + (-7046029254386353131 : Int64)))), .second, .val (.long (XT.ushrL (own_mix (sd + (-7046029254386353131 : Int64))) (11 : Int32))), .second, .val (.ref a50), .val (.int (own_ni (sd + (-7046029254386353131 : Int64)) bd)), .val (.double (own_dbl ((sd + (-7046029254386353131 : Int64)) + (-7046029254386353131 : Int64)))), .second, .val (.long (((XT.ushrL (own_mix (sd + (-7046029254386353131 : Int64))) (11 : Int32)) * (1024 : Int64)) % (bd).toInt64)), .second, .val (.long (own_diff (sd + (-7046029254386353131 : Int64)) bd)), .second] [(.int bd), (.long (own_diff (sd + (-7046029254386353131 : Int64)) bd))]) _
        refine Rch.st (fun _ k => XT.i2l X73.here hx rfl (hb hby at_151) rfl k) ?_
        show Rch p e below T73 (mkF m 152 #[.val (.long sd), .second, .val (.int bb), .val (.int fl), .val (.int bd), .val (.ref a27), .val (.double (own_dbl (sd + (-7046029254386353131 : Int64)))), .second, .val (.double (own_dbl ((sd + (-7046029254386353131 : Int64)) + (-7046029254386353131 : Int64)))), .second, .val (.long (XT.ushrL (own_mix (sd + (-7046029254386353131 : Int64))) (11 : Int32))), .second, .val (.ref a50), .val (.int (own_ni (sd + (-7046029254386353131 : Int64)) bd)), .val (.double (own_dbl ((sd + (-7046029254386353131 : Int64)) + (-7046029254386353131 : Int64)))), .second, .val (.long (((XT.ushrL (own_mix (sd + (-7046029254386353131 : Int64))) (11 : Int32)) * (1024 : Int64)) % (bd).toInt64)), .second, .val (.long (own_diff (sd + (-7046029254386353131 : Int64)) bd)), .second] [(.long (bd).toInt64), (.long (own_diff (sd + (-7046029254386353131 : Int64)) bd))]) _
        refine Rch.st (fun _ k => XT.ladd X73.here hx rfl (hb hby at_152) rfl k) ?_
        show Rch p e below T73 (mkF m 153 #[.val (.long sd), .second, .val (.int bb), .val (.int fl), .val (.int bd), .val (.ref a27), .val (.double (own_dbl (sd + (-7046029254386353131 : Int64)))), .second, .val (.double (own_dbl ((sd + (-7046029254386353131 : Int64)) + (-7046029254386353131 : Int64)))), .second, .val (.long (XT.ushrL (own_mix (sd + (-7046029254386353131 : Int64))) (11 : Int32))), .second, .val (.ref a50), .val (.int (own_ni (sd + (-7046029254386353131 : Int64)) bd)), .val (.double (own_dbl ((sd + (-7046029254386353131 : Int64)) + (-7046029254386353131 : Int64)))), .second, .val (.long (((XT.ushrL (own_mix (sd + (-7046029254386353131 : Int64))) (11 : Int32)) * (1024 : Int64)) % (bd).toInt64)), .second, .val (.long (own_diff (sd + (-7046029254386353131 : Int64)) bd)), .second] [(.long ((own_diff (sd + (-7046029254386353131 : Int64)) bd) + (bd).toInt64))]) _
        refine Rch.st (fun _ k => XT.lstore X73.here hx rfl (hb hby at_153) rfl (l' := #[.val (.long sd), .second, .val (.int bb), .val (.int fl), .val (.int bd), .val (.ref a27), .val (.double (own_dbl (sd + (-7046029254386353131 : Int64)))), .second, .val (.double (own_dbl ((sd + (-7046029254386353131 : Int64)) + (-7046029254386353131 : Int64)))), .second, .val (.long (XT.ushrL (own_mix (sd + (-7046029254386353131 : Int64))) (11 : Int32))), .second, .val (.ref a50), .val (.int (own_ni (sd + (-7046029254386353131 : Int64)) bd)), .val (.double (own_dbl ((sd + (-7046029254386353131 : Int64)) + (-7046029254386353131 : Int64)))), .second, .val (.long (((XT.ushrL (own_mix (sd + (-7046029254386353131 : Int64))) (11 : Int32)) * (1024 : Int64)) % (bd).toInt64)), .second, .val (.long ((own_diff (sd + (-7046029254386353131 : Int64)) bd) + (bd).toInt64)), .second]) rfl k) ?_
        show Rch p e below T73 (mkF m 155 #[.val (.long sd), .second, .val (.int bb), .val (.int fl), .val (.int bd), .val (.ref a27), .val (.double (own_dbl (sd + (-7046029254386353131 : Int64)))), .second, .val (.double (own_dbl ((sd + (-7046029254386353131 : Int64)) + (-7046029254386353131 : Int64)))), .second, .val (.long (XT.ushrL (own_mix (sd + (-7046029254386353131 : Int64))) (11 : Int32))), .second, .val (.ref a50), .val (.int (own_ni (sd + (-7046029254386353131 : Int64)) bd)), .val (.double (own_dbl ((sd + (-7046029254386353131 : Int64)) + (-7046029254386353131 : Int64)))), .second, .val (.long (((XT.ushrL (own_mix (sd + (-7046029254386353131 : Int64))) (11 : Int32)) * (1024 : Int64)) % (bd).toInt64)), .second, .val (.long ((own_diff (sd + (-7046029254386353131 : Int64)) bd) + (bd).toInt64)), .second] []) _
        refine Rch.st (fun _ k => XT.lload X73.here hx rfl (hb hby at_155) rfl k) ?_
        show Rch p e below T73 (mkF m 157 #[.val (.long sd), .second, .val (.int bb), .val (.int fl), .val (.int bd), .val (.ref a27), .val (.double (own_dbl (sd + (-7046029254386353131 : Int64)))), .second, .val (.double (own_dbl ((sd + (-7046029254386353131 : Int64)) + (-7046029254386353131 : Int64)))), .second, .val (.long (XT.ushrL (own_mix (sd + (-7046029254386353131 : Int64))) (11 : Int32))), .second, .val (.ref a50), .val (.int (own_ni (sd + (-7046029254386353131 : Int64)) bd)), .val (.double (own_dbl ((sd + (-7046029254386353131 : Int64)) + (-7046029254386353131 : Int64)))), .second, .val (.long (((XT.ushrL (own_mix (sd + (-7046029254386353131 : Int64))) (11 : Int32)) * (1024 : Int64)) % (bd).toInt64)), .second, .val (.long ((own_diff (sd + (-7046029254386353131 : Int64)) bd) + (bd).toInt64)), .second] [(.long ((own_diff (sd + (-7046029254386353131 : Int64)) bd) + (bd).toInt64))]) _
        refine Rch.st (fun _ k => Stand.ldc2J X73 hx hown (mv hZ (hw _ (List.mem_of_getElem? (i := 33) rfl))) rfl (hb hby at_157) k) ?_
        show Rch p e below T73 (mkF m 160 #[.val (.long sd), .second, .val (.int bb), .val (.int fl), .val (.int bd), .val (.ref a27), .val (.double (own_dbl (sd + (-7046029254386353131 : Int64)))), .second, .val (.double (own_dbl ((sd + (-7046029254386353131 : Int64)) + (-7046029254386353131 : Int64)))), .second, .val (.long (XT.ushrL (own_mix (sd + (-7046029254386353131 : Int64))) (11 : Int32))), .second, .val (.ref a50), .val (.int (own_ni (sd + (-7046029254386353131 : Int64)) bd)), .val (.double (own_dbl ((sd + (-7046029254386353131 : Int64)) + (-7046029254386353131 : Int64)))), .second, .val (.long (((XT.ushrL (own_mix (sd + (-7046029254386353131 : Int64))) (11 : Int32)) * (1024 : Int64)) % (bd).toInt64)), .second, .val (.long ((own_diff (sd + (-7046029254386353131 : Int64)) bd) + (bd).toInt64)), .second] [(.long (1023 : Int64)), (.long ((own_diff (sd + (-7046029254386353131 : Int64)) bd) + (bd).toInt64))]) _
        refine Rch.st (fun _ k => XT.lcmp X73.here hx rfl (hb hby at_160) rfl k) ?_
        show Rch p e below T73 (mkF m 161 #[.val (.long sd), .second, .val (.int bb), .val (.int fl), .val (.int bd), .val (.ref a27), .val (.double (own_dbl (sd + (-7046029254386353131 : Int64)))), .second, .val (.double (own_dbl ((sd + (-7046029254386353131 : Int64)) + (-7046029254386353131 : Int64)))), .second, .val (.long (XT.ushrL (own_mix (sd + (-7046029254386353131 : Int64))) (11 : Int32))), .second, .val (.ref a50), .val (.int (own_ni (sd + (-7046029254386353131 : Int64)) bd)), .val (.double (own_dbl ((sd + (-7046029254386353131 : Int64)) + (-7046029254386353131 : Int64)))), .second, .val (.long (((XT.ushrL (own_mix (sd + (-7046029254386353131 : Int64))) (11 : Int32)) * (1024 : Int64)) % (bd).toInt64)), .second, .val (.long ((own_diff (sd + (-7046029254386353131 : Int64)) bd) + (bd).toInt64)), .second] [(.int (XT.cmpL ((own_diff (sd + (-7046029254386353131 : Int64)) bd) + (bd).toInt64) (1023 : Int64)))]) _
        refine Rch.st (fun _ k => XS.ifNo X73.here hx rfl (hb hby at_161) rfl (XT.ll_gt_f ((own_diff_ok _ hbd).2 c80)) k) ?_
        show Rch p e below T73 (mkF m 164 #[.val (.long sd), .second, .val (.int bb), .val (.int fl), .val (.int bd), .val (.ref a27), .val (.double (own_dbl (sd + (-7046029254386353131 : Int64)))), .second, .val (.double (own_dbl ((sd + (-7046029254386353131 : Int64)) + (-7046029254386353131 : Int64)))), .second, .val (.long (XT.ushrL (own_mix (sd + (-7046029254386353131 : Int64))) (11 : Int32))), .second, .val (.ref a50), .val (.int (own_ni (sd + (-7046029254386353131 : Int64)) bd)), .val (.double (own_dbl ((sd + (-7046029254386353131 : Int64)) + (-7046029254386353131 : Int64)))), .second, .val (.long (((XT.ushrL (own_mix (sd + (-7046029254386353131 : Int64))) (11 : Int32)) * (1024 : Int64)) % (bd).toInt64)), .second, .val (.long ((own_diff (sd + (-7046029254386353131 : Int64)) bd) + (bd).toInt64)), .second] []) _
        refine Rch.st (fun _ k => XS.dload X73.here hx rfl (hb hby at_164) rfl k) ?_
        show Rch p e below T73 (mkF m 166 #[.val (.long sd), .second, .val (.int bb), .val (.int fl), .val (.int bd), .val (.ref a27), .val (.double (own_dbl (sd + (-7046029254386353131 : Int64)))), .second, .val (.double (own_dbl ((sd + (-7046029254386353131 : Int64)) + (-7046029254386353131 : Int64)))), .second, .val (.long (XT.ushrL (own_mix (sd + (-7046029254386353131 : Int64))) (11 : Int32))), .second, .val (.ref a50), .val (.int (own_ni (sd + (-7046029254386353131 : Int64)) bd)), .val (.double (own_dbl ((sd + (-7046029254386353131 : Int64)) + (-7046029254386353131 : Int64)))), .second, .val (.long (((XT.ushrL (own_mix (sd + (-7046029254386353131 : Int64))) (11 : Int32)) * (1024 : Int64)) % (bd).toInt64)), .second, .val (.long ((own_diff (sd + (-7046029254386353131 : Int64)) bd) + (bd).toInt64)), .second] [(.double (own_dbl ((sd + (-7046029254386353131 : Int64)) + (-7046029254386353131 : Int64))))]) _
        refine Rch.st (fun _ k => XS.dload X73.here hx rfl (hb hby at_166) rfl k) ?_
        show Rch p e below T73 (mkF m 168 #[.val (.long sd), .second, .val (.int bb), .val (.int fl), .val (.int bd), .val (.ref a27), .val (.double (own_dbl (sd + (-7046029254386353131 : Int64)))), .second, .val (.double (own_dbl ((sd + (-7046029254386353131 : Int64)) + (-7046029254386353131 : Int64)))), .second, .val (.long (XT.ushrL (own_mix (sd + (-7046029254386353131 : Int64))) (11 : Int32))), .second, .val (.ref a50), .val (.int (own_ni (sd + (-7046029254386353131 : Int64)) bd)), .val (.double (own_dbl ((sd + (-7046029254386353131 : Int64)) + (-7046029254386353131 : Int64)))), .second, .val (.long (((XT.ushrL (own_mix (sd + (-7046029254386353131 : Int64))) (11 : Int32)) * (1024 : Int64)) % (bd).toInt64)), .second, .val (.long ((own_diff (sd + (-7046029254386353131 : Int64)) bd) + (bd).toInt64)), .second] [(.double (own_dbl ((sd + (-7046029254386353131 : Int64)) + (-7046029254386353131 : Int64)))), (.double (own_dbl ((sd + (-7046029254386353131 : Int64)) + (-7046029254386353131 : Int64))))]) _
        refine Rch.st (fun _ k => XS.dcmpS X73.here hx rfl (hb hby at_168) rfl rfl k) ?_
        show Rch p e below T73 (mkF m 169 #[.val (.long sd), .second, .val (.int bb), .val (.int fl), .val (.int bd), .val (.ref a27), .val (.double (own_dbl (sd + (-7046029254386353131 : Int64)))), .second, .val (.double (own_dbl ((sd + (-7046029254386353131 : Int64)) + (-7046029254386353131 : Int64)))), .second, .val (.long (XT.ushrL (own_mix (sd + (-7046029254386353131 : Int64))) (11 : Int32))), .second, .val (.ref a50), .val (.int (own_ni (sd + (-7046029254386353131 : Int64)) bd)), .val (.double (own_dbl ((sd + (-7046029254386353131 : Int64)) + (-7046029254386353131 : Int64)))), .second, .val (.long (((XT.ushrL (own_mix (sd + (-7046029254386353131 : Int64))) (11 : Int32)) * (1024 : Int64)) % (bd).toInt64)), .second, .val (.long ((own_diff (sd + (-7046029254386353131 : Int64)) bd) + (bd).toInt64)), .second] [(.int (cmpValue (FP.dcmp (own_dbl ((sd + (-7046029254386353131 : Int64)) + (-7046029254386353131 : Int64))) (own_dbl ((sd + (-7046029254386353131 : Int64)) + (-7046029254386353131 : Int64)))) .l))]) _
        refine Rch.st (fun _ k => XS.ifNo X73.here hx rfl (hb hby at_169) rfl (XT.i0_ne_f (dcmpV_self (own_dbl_nn _) _)) k) ?_
        show Rch p e below T73 (mkF m 172 #[.val (.long sd), .second, .val (.int bb), .val (.int fl), .val (.int bd), .val (.ref a27), .val (.double (own_dbl (sd + (-7046029254386353131 : Int64)))), .second, .val (.double (own_dbl ((sd + (-7046029254386353131 : Int64)) + (-7046029254386353131 : Int64)))), .second, .val (.long (XT.ushrL (own_mix (sd + (-7046029254386353131 : Int64))) (11 : Int32))), .second, .val (.ref a50), .val (.int (own_ni (sd + (-7046029254386353131 : Int64)) bd)), .val (.double (own_dbl ((sd + (-7046029254386353131 : Int64)) + (-7046029254386353131 : Int64)))), .second, .val (.long (((XT.ushrL (own_mix (sd + (-7046029254386353131 : Int64))) (11 : Int32)) * (1024 : Int64)) % (bd).toInt64)), .second, .val (.long ((own_diff (sd + (-7046029254386353131 : Int64)) bd) + (bd).toInt64)), .second] []) _
        refine Rch.st (fun _ k => XS.iconst X73.here hx rfl (hb hby at_172) k) ?_
        show Rch p e below T73 (mkF m 173 #[.val (.long sd), .second, .val (.int bb), .val (.int fl), .val (.int bd), .val (.ref a27), .val (.double (own_dbl (sd + (-7046029254386353131 : Int64)))), .second, .val (.double (own_dbl ((sd + (-7046029254386353131 : Int64)) + (-7046029254386353131 : Int64)))), .second, .val (.long (XT.ushrL (own_mix (sd + (-7046029254386353131 : Int64))) (11 : Int32))), .second, .val (.ref a50), .val (.int (own_ni (sd + (-7046029254386353131 : Int64)) bd)), .val (.double (own_dbl ((sd + (-7046029254386353131 : Int64)) + (-7046029254386353131 : Int64)))), .second, .val (.long (((XT.ushrL (own_mix (sd + (-7046029254386353131 : Int64))) (11 : Int32)) * (1024 : Int64)) % (bd).toInt64)), .second, .val (.long ((own_diff (sd + (-7046029254386353131 : Int64)) bd) + (bd).toInt64)), .second] [(.int (1 : Int32))]) _
        refine Rch.st (fun _ k => XS.goto X73.here hx rfl (pc0 := 173) (pc' := 177) rfl (hb hby at_173) (by decide) (by decide) k) ?_
        show Rch p e below T73 (mkF m 177 #[.val (.long sd), .second, .val (.int bb), .val (.int fl), .val (.int bd), .val (.ref a27), .val (.double (own_dbl (sd + (-7046029254386353131 : Int64)))), .second, .val (.double (own_dbl ((sd + (-7046029254386353131 : Int64)) + (-7046029254386353131 : Int64)))), .second, .val (.long (XT.ushrL (own_mix (sd + (-7046029254386353131 : Int64))) (11 : Int32))), .second, .val (.ref a50), .val (.int (own_ni (sd + (-7046029254386353131 : Int64)) bd)), .val (.double (own_dbl ((sd + (-7046029254386353131 : Int64)) + (-7046029254386353131 : Int64)))), .second, .val (.long (((XT.ushrL (own_mix (sd + (-7046029254386353131 : Int64))) (11 : Int32)) * (1024 : Int64)) % (bd).toInt64)), .second, .val (.long ((own_diff (sd + (-7046029254386353131 : Int64)) bd) + (bd).toInt64)), .second] [(.int (1 : Int32))]) _
        exact Rch.retV X73 hx Bd.returns rfl (Or.inl ⟨rfl, by simp, _, rfl⟩) (hb hby at_177) (by rw [(rfl : T73.heap = T73.heap)]; exact ⟨rfl, N74, Kp78⟩) (by decide) (by decide)
      · skip
        refine Rch.st (fun _ k => XS.ifYes X73.here hx rfl (pc0 := 144) (pc' := 155) rfl (hb hby at_144) rfl (XT.ll_ge_t (c80)) (by decide) (by decide) k) ?_
        show Rch p e below T73 (mkF m 155 #[.val (.long sd), .second, .val (.int bb), .val (.int fl), .val (.int bd), .val (.ref a27), .val (.double (own_dbl (sd + (-7046029254386353131 : Int64)))), .second, .val (.double (own_dbl ((sd + (-7046029254386353131 : Int64)) + (-7046029254386353131 : Int64)))), .second, .val (.long (XT.ushrL (own_mix (sd + (-7046029254386353131 : Int64))) (11 : Int32))), .second, .val (.ref a50), .val (.int (own_ni (sd + (-7046029254386353131 : Int64)) bd)), .val (.double (own_dbl ((sd + (-7046029254386353131 : Int64)) + (-7046029254386353131 : Int64)))), .second, .val (.long (((XT.ushrL (own_mix (sd + (-7046029254386353131 : Int64))) (11 : Int32)) * (1024 : Int64)) % (bd).toInt64)), .second, .val (.long (own_diff (sd + (-7046029254386353131 : Int64)) bd)), .second] []) _
        refine Rch.st (fun _ k => XT.lload X73.here hx rfl (hb hby at_155) rfl k) ?_
        show Rch p e below T73 (mkF m 157 #[.val (.long sd), .second, .val (.int bb), .val (.int fl), .val (.int bd), .val (.ref a27), .val (.double (own_dbl (sd + (-7046029254386353131 : Int64)))), .second, .val (.double (own_dbl ((sd + (-7046029254386353131 : Int64)) + (-7046029254386353131 : Int64)))), .second, .val (.long (XT.ushrL (own_mix (sd + (-7046029254386353131 : Int64))) (11 : Int32))), .second, .val (.ref a50), .val (.int (own_ni (sd + (-7046029254386353131 : Int64)) bd)), .val (.double (own_dbl ((sd + (-7046029254386353131 : Int64)) + (-7046029254386353131 : Int64)))), .second, .val (.long (((XT.ushrL (own_mix (sd + (-7046029254386353131 : Int64))) (11 : Int32)) * (1024 : Int64)) % (bd).toInt64)), .second, .val (.long (own_diff (sd + (-7046029254386353131 : Int64)) bd)), .second] [(.long (own_diff (sd + (-7046029254386353131 : Int64)) bd))]) _
        refine Rch.st (fun _ k => Stand.ldc2J X73 hx hown (mv hZ (hw _ (List.mem_of_getElem? (i := 33) rfl))) rfl (hb hby at_157) k) ?_
        show Rch p e below T73 (mkF m 160 #[.val (.long sd), .second, .val (.int bb), .val (.int fl), .val (.int bd), .val (.ref a27), .val (.double (own_dbl (sd + (-7046029254386353131 : Int64)))), .second, .val (.double (own_dbl ((sd + (-7046029254386353131 : Int64)) + (-7046029254386353131 : Int64)))), .second, .val (.long (XT.ushrL (own_mix (sd + (-7046029254386353131 : Int64))) (11 : Int32))), .second, .val (.ref a50), .val (.int (own_ni (sd + (-7046029254386353131 : Int64)) bd)), .val (.double (own_dbl ((sd + (-7046029254386353131 : Int64)) + (-7046029254386353131 : Int64)))), .second, .val (.long (((XT.ushrL (own_mix (sd + (-7046029254386353131 : Int64))) (11 : Int32)) * (1024 : Int64)) % (bd).toInt64)), .second, .val (.long (own_diff (sd + (-7046029254386353131 : Int64)) bd)), .second] [(.long (1023 : Int64)), (.long (own_diff (sd + (-7046029254386353131 : Int64)) bd))]) _
        refine Rch.st (fun _ k => XT.lcmp X73.here hx rfl (hb hby at_160) rfl k) ?_
        show Rch p e below T73 (mkF m 161 #[.val (.long sd), .second, .val (.int bb), .val (.int fl), .val (.int bd), .val (.ref a27), .val (.double (own_dbl (sd + (-7046029254386353131 : Int64)))), .second, .val (.double (own_dbl ((sd + (-7046029254386353131 : Int64)) + (-7046029254386353131 : Int64)))), .second, .val (.long (XT.ushrL (own_mix (sd + (-7046029254386353131 : Int64))) (11 : Int32))), .second, .val (.ref a50), .val (.int (own_ni (sd + (-7046029254386353131 : Int64)) bd)), .val (.double (own_dbl ((sd + (-7046029254386353131 : Int64)) + (-7046029254386353131 : Int64)))), .second, .val (.long (((XT.ushrL (own_mix (sd + (-7046029254386353131 : Int64))) (11 : Int32)) * (1024 : Int64)) % (bd).toInt64)), .second, .val (.long (own_diff (sd + (-7046029254386353131 : Int64)) bd)), .second] [(.int (XT.cmpL (own_diff (sd + (-7046029254386353131 : Int64)) bd) (1023 : Int64)))]) _
        refine Rch.st (fun _ k => XS.ifNo X73.here hx rfl (hb hby at_161) rfl (XT.ll_gt_f ((own_diff_ok _ hbd).1 c80)) k) ?_
        show Rch p e below T73 (mkF m 164 #[.val (.long sd), .second, .val (.int bb), .val (.int fl), .val (.int bd), .val (.ref a27), .val (.double (own_dbl (sd + (-7046029254386353131 : Int64)))), .second, .val (.double (own_dbl ((sd + (-7046029254386353131 : Int64)) + (-7046029254386353131 : Int64)))), .second, .val (.long (XT.ushrL (own_mix (sd + (-7046029254386353131 : Int64))) (11 : Int32))), .second, .val (.ref a50), .val (.int (own_ni (sd + (-7046029254386353131 : Int64)) bd)), .val (.double (own_dbl ((sd + (-7046029254386353131 : Int64)) + (-7046029254386353131 : Int64)))), .second, .val (.long (((XT.ushrL (own_mix (sd + (-7046029254386353131 : Int64))) (11 : Int32)) * (1024 : Int64)) % (bd).toInt64)), .second, .val (.long (own_diff (sd + (-7046029254386353131 : Int64)) bd)), .second] []) _
        refine Rch.st (fun _ k => XS.dload X73.here hx rfl (hb hby at_164) rfl k) ?_
        show Rch p e below T73 (mkF m 166 #[.val (.long sd), .second, .val (.int bb), .val (.int fl), .val (.int bd), .val (.ref a27), .val (.double (own_dbl (sd + (-7046029254386353131 : Int64)))), .second, .val (.double (own_dbl ((sd + (-7046029254386353131 : Int64)) + (-7046029254386353131 : Int64)))), .second, .val (.long (XT.ushrL (own_mix (sd + (-7046029254386353131 : Int64))) (11 : Int32))), .second, .val (.ref a50), .val (.int (own_ni (sd + (-7046029254386353131 : Int64)) bd)), .val (.double (own_dbl ((sd + (-7046029254386353131 : Int64)) + (-7046029254386353131 : Int64)))), .second, .val (.long (((XT.ushrL (own_mix (sd + (-7046029254386353131 : Int64))) (11 : Int32)) * (1024 : Int64)) % (bd).toInt64)), .second, .val (.long (own_diff (sd + (-7046029254386353131 : Int64)) bd)), .second] [(.double (own_dbl ((sd + (-7046029254386353131 : Int64)) + (-7046029254386353131 : Int64))))]) _
        refine Rch.st (fun _ k => XS.dload X73.here hx rfl (hb hby at_166) rfl k) ?_
        show Rch p e below T73 (mkF m 168 #[.val (.long sd), .second, .val (.int bb), .val (.int fl), .val (.int bd), .val (.ref a27), .val (.double (own_dbl (sd + (-7046029254386353131 : Int64)))), .second, .val (.double (own_dbl ((sd + (-7046029254386353131 : Int64)) + (-7046029254386353131 : Int64)))), .second, .val (.long (XT.ushrL (own_mix (sd + (-7046029254386353131 : Int64))) (11 : Int32))), .second, .val (.ref a50), .val (.int (own_ni (sd + (-7046029254386353131 : Int64)) bd)), .val (.double (own_dbl ((sd + (-7046029254386353131 : Int64)) + (-7046029254386353131 : Int64)))), .second, .val (.long (((XT.ushrL (own_mix (sd + (-7046029254386353131 : Int64))) (11 : Int32)) * (1024 : Int64)) % (bd).toInt64)), .second, .val (.long (own_diff (sd + (-7046029254386353131 : Int64)) bd)), .second] [(.double (own_dbl ((sd + (-7046029254386353131 : Int64)) + (-7046029254386353131 : Int64)))), (.double (own_dbl ((sd + (-7046029254386353131 : Int64)) + (-7046029254386353131 : Int64))))]) _
        refine Rch.st (fun _ k => XS.dcmpS X73.here hx rfl (hb hby at_168) rfl rfl k) ?_
        show Rch p e below T73 (mkF m 169 #[.val (.long sd), .second, .val (.int bb), .val (.int fl), .val (.int bd), .val (.ref a27), .val (.double (own_dbl (sd + (-7046029254386353131 : Int64)))), .second, .val (.double (own_dbl ((sd + (-7046029254386353131 : Int64)) + (-7046029254386353131 : Int64)))), .second, .val (.long (XT.ushrL (own_mix (sd + (-7046029254386353131 : Int64))) (11 : Int32))), .second, .val (.ref a50), .val (.int (own_ni (sd + (-7046029254386353131 : Int64)) bd)), .val (.double (own_dbl ((sd + (-7046029254386353131 : Int64)) + (-7046029254386353131 : Int64)))), .second, .val (.long (((XT.ushrL (own_mix (sd + (-7046029254386353131 : Int64))) (11 : Int32)) * (1024 : Int64)) % (bd).toInt64)), .second, .val (.long (own_diff (sd + (-7046029254386353131 : Int64)) bd)), .second] [(.int (cmpValue (FP.dcmp (own_dbl ((sd + (-7046029254386353131 : Int64)) + (-7046029254386353131 : Int64))) (own_dbl ((sd + (-7046029254386353131 : Int64)) + (-7046029254386353131 : Int64)))) .l))]) _
        refine Rch.st (fun _ k => XS.ifNo X73.here hx rfl (hb hby at_169) rfl (XT.i0_ne_f (dcmpV_self (own_dbl_nn _) _)) k) ?_
        show Rch p e below T73 (mkF m 172 #[.val (.long sd), .second, .val (.int bb), .val (.int fl), .val (.int bd), .val (.ref a27), .val (.double (own_dbl (sd + (-7046029254386353131 : Int64)))), .second, .val (.double (own_dbl ((sd + (-7046029254386353131 : Int64)) + (-7046029254386353131 : Int64)))), .second, .val (.long (XT.ushrL (own_mix (sd + (-7046029254386353131 : Int64))) (11 : Int32))), .second, .val (.ref a50), .val (.int (own_ni (sd + (-7046029254386353131 : Int64)) bd)), .val (.double (own_dbl ((sd + (-7046029254386353131 : Int64)) + (-7046029254386353131 : Int64)))), .second, .val (.long (((XT.ushrL (own_mix (sd + (-7046029254386353131 : Int64))) (11 : Int32)) * (1024 : Int64)) % (bd).toInt64)), .second, .val (.long (own_diff (sd + (-7046029254386353131 : Int64)) bd)), .second] []) _
        refine Rch.st (fun _ k => XS.iconst X73.here hx rfl (hb hby at_172) k) ?_
        show Rch p e below T73 (mkF m 173 #[.val (.long sd), .second, .val (.int bb), .val (.int fl), .val (.int bd), .val (.ref a27), .val (.double (own_dbl (sd + (-7046029254386353131 : Int64)))), .second, .val (.double (own_dbl ((sd + (-7046029254386353131 : Int64)) + (-7046029254386353131 : Int64)))), .second, .val (.long (XT.ushrL (own_mix (sd + (-7046029254386353131 : Int64))) (11 : Int32))), .second, .val (.ref a50), .val (.int (own_ni (sd + (-7046029254386353131 : Int64)) bd)), .val (.double (own_dbl ((sd + (-7046029254386353131 : Int64)) + (-7046029254386353131 : Int64)))), .second, .val (.long (((XT.ushrL (own_mix (sd + (-7046029254386353131 : Int64))) (11 : Int32)) * (1024 : Int64)) % (bd).toInt64)), .second, .val (.long (own_diff (sd + (-7046029254386353131 : Int64)) bd)), .second] [(.int (1 : Int32))]) _
        refine Rch.st (fun _ k => XS.goto X73.here hx rfl (pc0 := 173) (pc' := 177) rfl (hb hby at_173) (by decide) (by decide) k) ?_
        show Rch p e below T73 (mkF m 177 #[.val (.long sd), .second, .val (.int bb), .val (.int fl), .val (.int bd), .val (.ref a27), .val (.double (own_dbl (sd + (-7046029254386353131 : Int64)))), .second, .val (.double (own_dbl ((sd + (-7046029254386353131 : Int64)) + (-7046029254386353131 : Int64)))), .second, .val (.long (XT.ushrL (own_mix (sd + (-7046029254386353131 : Int64))) (11 : Int32))), .second, .val (.ref a50), .val (.int (own_ni (sd + (-7046029254386353131 : Int64)) bd)), .val (.double (own_dbl ((sd + (-7046029254386353131 : Int64)) + (-7046029254386353131 : Int64)))), .second, .val (.long (((XT.ushrL (own_mix (sd + (-7046029254386353131 : Int64))) (11 : Int32)) * (1024 : Int64)) % (bd).toInt64)), .second, .val (.long (own_diff (sd + (-7046029254386353131 : Int64)) bd)), .second] [(.int (1 : Int32))]) _
        exact Rch.retV X73 hx Bd.returns rfl (Or.inl ⟨rfl, by simp, _, rfl⟩) (hb hby at_177) (by rw [(rfl : T73.heap = T73.heap)]; exact ⟨rfl, N74, Kp78⟩) (by decide) (by decide)
    · skip
      refine Rch.st (fun _ k => XS.ifNo X43.here hx rfl (hb hby at_71) rfl (XT.ll_lt_f (c49)) k) ?_
      show Rch p e below T43 (mkF m 74 #[.val (.long sd), .second, .val (.int bb), .val (.int fl), .val (.int bd), .val (.ref a27), .val (.double (own_dbl (sd + (-7046029254386353131 : Int64)))), .second, .val (.double (own_dbl ((sd + (-7046029254386353131 : Int64)) + (-7046029254386353131 : Int64)))), .second, .val (.long (XT.ushrL (own_mix (sd + (-7046029254386353131 : Int64))) (11 : Int32))), .second, .unset, .unset, .unset, .unset, .unset, .unset, .unset, .unset] []) _
      refine Rch.st (fun _ k => XS.iconst X43.here hx rfl (hb hby at_74) k) ?_
      show Rch p e below T43 (mkF m 75 #[.val (.long sd), .second, .val (.int bb), .val (.int fl), .val (.int bd), .val (.ref a27), .val (.double (own_dbl (sd + (-7046029254386353131 : Int64)))), .second, .val (.double (own_dbl ((sd + (-7046029254386353131 : Int64)) + (-7046029254386353131 : Int64)))), .second, .val (.long (XT.ushrL (own_mix (sd + (-7046029254386353131 : Int64))) (11 : Int32))), .second, .unset, .unset, .unset, .unset, .unset, .unset, .unset, .unset] [(.int (1 : Int32))]) _
      exact Rch.retV X43 hx Bd.returns rfl (Or.inl ⟨rfl, by simp, _, rfl⟩) (hb hby at_75) (by rw [(rfl : T43.heap = T43.heap)]; exact ⟨rfl, N44, Kp46⟩) (by decide) (by decide)
  by_cases c81 : (fl &&& (1 : Int32)) = 0
  · skip
    refine Rch.st (fun _ k => XS.ifYes X0.here hx rfl (pc0 := 3) (pc' := 18) rfl (hb hby at_3) rfl (XT.i0_eq_t (c81)) (by decide) (by decide) k) ?_
    show Rch p e below s₁ (mkF m 18 #[.val (.long sd), .second, .val (.int bb), .val (.int fl), .unset, .unset, .unset, .unset, .unset, .unset, .unset, .unset, .unset, .unset, .unset, .unset, .unset, .unset, .unset, .unset] []) _
    refine Rch.st (fun _ k => XS.iloadN X0.here hx rfl (hb hby at_18) rfl k) ?_
    show Rch p e below s₁ (mkF m 19 #[.val (.long sd), .second, .val (.int bb), .val (.int fl), .unset, .unset, .unset, .unset, .unset, .unset, .unset, .unset, .unset, .unset, .unset, .unset, .unset, .unset, .unset, .unset] [(.int bb)]) _
    refine Rch.st (fun _ k => Stand.ldcI X0 hx hown (mv hZ (hw _ (List.mem_of_getElem? (i := 34) rfl))) rfl (hb hby at_19) k) ?_
    show Rch p e below s₁ (mkF m 21 #[.val (.long sd), .second, .val (.int bb), .val (.int fl), .unset, .unset, .unset, .unset, .unset, .unset, .unset, .unset, .unset, .unset, .unset, .unset, .unset, .unset, .unset, .unset] [(.int (2147483647 : Int32)), (.int bb)]) _
    refine Rch.st (fun _ k => XS.iand X0.here hx rfl (hb hby at_21) rfl k) ?_
    show Rch p e below s₁ (mkF m 22 #[.val (.long sd), .second, .val (.int bb), .val (.int fl), .unset, .unset, .unset, .unset, .unset, .unset, .unset, .unset, .unset, .unset, .unset, .unset, .unset, .unset, .unset, .unset] [(.int (bb &&& (2147483647 : Int32)))]) _
    refine Rch.st (fun _ k => XS.istore X0.here hx rfl (hb hby at_22) rfl (l' := #[.val (.long sd), .second, .val (.int bb), .val (.int fl), .val (.int (bb &&& (2147483647 : Int32))), .unset, .unset, .unset, .unset, .unset, .unset, .unset, .unset, .unset, .unset, .unset, .unset, .unset, .unset, .unset]) rfl k) ?_
    show Rch p e below s₁ (mkF m 24 #[.val (.long sd), .second, .val (.int bb), .val (.int fl), .val (.int (bb &&& (2147483647 : Int32))), .unset, .unset, .unset, .unset, .unset, .unset, .unset, .unset, .unset, .unset, .unset, .unset, .unset, .unset, .unset] []) _
    refine Rch.st (fun _ k => XS.iload X0.here hx rfl (hb hby at_24) rfl k) ?_
    show Rch p e below s₁ (mkF m 26 #[.val (.long sd), .second, .val (.int bb), .val (.int fl), .val (.int (bb &&& (2147483647 : Int32))), .unset, .unset, .unset, .unset, .unset, .unset, .unset, .unset, .unset, .unset, .unset, .unset, .unset, .unset, .unset] [(.int (bb &&& (2147483647 : Int32)))]) _
    by_cases c82 : (bb &&& (2147483647 : Int32)) = 0
    · skip
      refine Rch.st (fun _ k => XS.ifNo X0.here hx rfl (hb hby at_26) rfl (XT.i0_ne_f (c82)) k) ?_
      show Rch p e below s₁ (mkF m 29 #[.val (.long sd), .second, .val (.int bb), .val (.int fl), .val (.int (bb &&& (2147483647 : Int32))), .unset, .unset, .unset, .unset, .unset, .unset, .unset, .unset, .unset, .unset, .unset, .unset, .unset, .unset, .unset] []) _
      refine Rch.st (fun _ k => XS.iconst X0.here hx rfl (hb hby at_29) k) ?_
      show Rch p e below s₁ (mkF m 30 #[.val (.long sd), .second, .val (.int bb), .val (.int fl), .val (.int (bb &&& (2147483647 : Int32))), .unset, .unset, .unset, .unset, .unset, .unset, .unset, .unset, .unset, .unset, .unset, .unset, .unset, .unset, .unset] [(.int (1 : Int32))]) _
      refine Rch.st (fun _ k => XS.istore X0.here hx rfl (hb hby at_30) rfl (l' := #[.val (.long sd), .second, .val (.int bb), .val (.int fl), .val (.int (1 : Int32)), .unset, .unset, .unset, .unset, .unset, .unset, .unset, .unset, .unset, .unset, .unset, .unset, .unset, .unset, .unset]) rfl k) ?_
      show Rch p e below s₁ (mkF m 32 #[.val (.long sd), .second, .val (.int bb), .val (.int fl), .val (.int (1 : Int32)), .unset, .unset, .unset, .unset, .unset, .unset, .unset, .unset, .unset, .unset, .unset, .unset, .unset, .unset, .unset] []) _
      exact J _ (by decide)
    · skip
      refine Rch.st (fun _ k => XS.ifYes X0.here hx rfl (pc0 := 26) (pc' := 32) rfl (hb hby at_26) rfl (XT.i0_ne_t (c82)) (by decide) (by decide) k) ?_
      show Rch p e below s₁ (mkF m 32 #[.val (.long sd), .second, .val (.int bb), .val (.int fl), .val (.int (bb &&& (2147483647 : Int32))), .unset, .unset, .unset, .unset, .unset, .unset, .unset, .unset, .unset, .unset, .unset, .unset, .unset, .unset, .unset] []) _
      exact J _ (own_b2 c82)
  · skip
    refine Rch.st (fun _ k => XS.ifNo X0.here hx rfl (hb hby at_3) rfl (XT.i0_eq_f (c81)) k) ?_
    show Rch p e below s₁ (mkF m 6 #[.val (.long sd), .second, .val (.int bb), .val (.int fl), .unset, .unset, .unset, .unset, .unset, .unset, .unset, .unset, .unset, .unset, .unset, .unset, .unset, .unset, .unset, .unset] []) _
    refine Rch.st (fun _ k => XS.iloadN X0.here hx rfl (hb hby at_6) rfl k) ?_
    show Rch p e below s₁ (mkF m 7 #[.val (.long sd), .second, .val (.int bb), .val (.int fl), .unset, .unset, .unset, .unset, .unset, .unset, .unset, .unset, .unset, .unset, .unset, .unset, .unset, .unset, .unset, .unset] [(.int bb)]) _
    refine Rch.st (fun _ k => XS.sipush X0.here hx rfl (hb hby at_7) k) ?_
    show Rch p e below s₁ (mkF m 10 #[.val (.long sd), .second, .val (.int bb), .val (.int fl), .unset, .unset, .unset, .unset, .unset, .unset, .unset, .unset, .unset, .unset, .unset, .unset, .unset, .unset, .unset, .unset] [(.int (1023 : Int32)), (.int bb)]) _
    refine Rch.st (fun _ k => XS.iand X0.here hx rfl (hb hby at_10) rfl k) ?_
    show Rch p e below s₁ (mkF m 11 #[.val (.long sd), .second, .val (.int bb), .val (.int fl), .unset, .unset, .unset, .unset, .unset, .unset, .unset, .unset, .unset, .unset, .unset, .unset, .unset, .unset, .unset, .unset] [(.int (bb &&& (1023 : Int32)))]) _
    refine Rch.st (fun _ k => XS.iconst X0.here hx rfl (hb hby at_11) k) ?_
    show Rch p e below s₁ (mkF m 12 #[.val (.long sd), .second, .val (.int bb), .val (.int fl), .unset, .unset, .unset, .unset, .unset, .unset, .unset, .unset, .unset, .unset, .unset, .unset, .unset, .unset, .unset, .unset] [(.int (1 : Int32)), (.int (bb &&& (1023 : Int32)))]) _
    refine Rch.st (fun _ k => XS.iadd X0.here hx rfl (hb hby at_12) rfl k) ?_
    show Rch p e below s₁ (mkF m 13 #[.val (.long sd), .second, .val (.int bb), .val (.int fl), .unset, .unset, .unset, .unset, .unset, .unset, .unset, .unset, .unset, .unset, .unset, .unset, .unset, .unset, .unset, .unset] [(.int ((bb &&& (1023 : Int32)) + (1 : Int32)))]) _
    refine Rch.st (fun _ k => XS.istore X0.here hx rfl (hb hby at_13) rfl (l' := #[.val (.long sd), .second, .val (.int bb), .val (.int fl), .val (.int ((bb &&& (1023 : Int32)) + (1 : Int32))), .unset, .unset, .unset, .unset, .unset, .unset, .unset, .unset, .unset, .unset, .unset, .unset, .unset, .unset, .unset]) rfl k) ?_
    show Rch p e below s₁ (mkF m 15 #[.val (.long sd), .second, .val (.int bb), .val (.int fl), .val (.int ((bb &&& (1023 : Int32)) + (1 : Int32))), .unset, .unset, .unset, .unset, .unset, .unset, .unset, .unset, .unset, .unset, .unset, .unset, .unset, .unset, .unset] []) _
    refine Rch.st (fun _ k => XS.goto X0.here hx rfl (pc0 := 15) (pc' := 32) rfl (hb hby at_15) (by decide) (by decide) k) ?_
    show Rch p e below s₁ (mkF m 32 #[.val (.long sd), .second, .val (.int bb), .val (.int fl), .val (.int ((bb &&& (1023 : Int32)) + (1 : Int32))), .unset, .unset, .unset, .unset, .unset, .unset, .unset, .unset, .unset, .unset, .unset, .unset, .unset, .unset, .unset] []) _
    exact J _ (own_b1 bb)

set_option maxRecDepth 65536 in
set_option maxHeartbeats 40000000 in
theorem comes_1 {Post : Tables → Env → Array Value → State → Outcome → State → Prop} (hpost : ∀ tb e args s v u, (limb_1_1.after args s (.returned v) u = true ∧ limb_1_2.after args s (.returned v) u = true ∧ True) → FrameEnd s (.returned v) u (Jvm.fieldLocs frame_1_writes args s ++ Jvm.arrayLocs frame_1_arrays args s ++ Jvm.staticLocs frame_1_statics s) 16 128 → Post tb e args s (.returned v) u) :
    ArmFor flags0 classFile x code maxLocals ret World_1 tables_1 room_1 Calls_1 rest_1 Pre_1 Post := by
  intro l hfl _ _ p e ha hc hk s m args below hf hA hF happ hP
  obtain ⟨hcalls, hrest, hpre⟩ := hP
  obtain ⟨-, -, -, hnamed, -, -, -, hat⟩ := (Spec.applies_iff hf).mp happ
  obtain ⟨hg, hn⟩ := and_e (Cond.before_iff.mp (show (Jvm.Cond.and given_1 narrow_1).before args s = true from hpre))
  obtain ⟨hcnt, hgs⟩ := and_e hg
  obtain ⟨w0, w1, w2, rfl⟩ : ∃ w0 w1 w2, args = #[w0, w1, w2] := by
    have hs : args.size = 3 := by simpa [Cond.value, given_1] using hcnt
    obtain ⟨L⟩ := args
    match L, hs with
    | [w0, w1, w2], _ => exact ⟨w0, w1, w2, rfl⟩
  have hw := fun d (hd : d ∈ tables_1) => atoms_spec (ws := Jvm.Cond.code x code maxLocals ret :: tables_1) hat d (List.mem_cons_of_mem _ hd)
  have hfit : Fit s := fun {y c} hc i hi => by
    obtain ⟨ha, rfl⟩ := Array.getElem?_eq_some_iff.mp hc
    have q := List.all_eq_true.mp ((Array.all_eq_true_iff_forall_mem.mp hF) _ (Array.getElem_mem ha)) i (List.mem_range.mpr hi)
    simpa [Array.getElem?_eq_getElem hi] using q
  obtain ⟨g0, gr0⟩ := and_e hgs
  obtain ⟨i0, q0⟩ := isL_v g0
  obtain rfl : w0 = (.long i0) := Option.some.inj q0
  obtain ⟨g1, gr1⟩ := and_e gr0
  obtain ⟨i1, q1⟩ := is_v g1
  obtain rfl : w1 = (.int i1) := Option.some.inj q1
  obtain ⟨i2, q2⟩ := is_v gr1
  obtain rfl : w2 = (.int i2) := Option.some.inj q2
  obtain ⟨n, o, h1, h2, h3, _, L, rfl, ⟨rfl, N, -⟩, hq⟩ := rm_law l s _ hw tables_1 i0 i1 i2 s.heap s.heap.size (Nat.le_refl _)  p e ha hc hk s m _ below hf ((Spec.applies_iff_loose hf).mp happ).1 ⟨rfl, State.Warmed39.refl s, rfl⟩ trivial
  refine ⟨n, _, h1, h2, h3, hpost _ _ _ _ _ _ ⟨Cond.after_iff.mpr rfl, Cond.after_iff.mpr (eq_i res_at (Term.int_eval (1)) rfl), trivial⟩ ⟨hq.1, hq.2.1, (hq.2.2.sift fun y hy => Or.inr (N y hy)).mono (by decide) (by decide)⟩⟩
theorem main_1_1 : Claimed_1_1 := comes_1 fun _ _ _ _ _ _ h hF => ⟨h.1, hF⟩
theorem main_1_2 : Claimed_1_2 := comes_1 fun _ _ _ _ _ _ h hF => ⟨h.2.1, hF⟩
end Jvm.Pilot.@@N@@
namespace Jvm.Pilot.@@N@@
open Jvm Jvm.ClassFile Sem Op Lib Jvm.Free Jvm.Stand Jvm.Pilot.@@N@@.Jvm.D
/-! MADE BY PROGRAM (witnessworld.py) out of the Statement's table words and the real class files: 9 classes; the members and pool entries that the words name. The judged class is class 1, her method 1. -/
namespace start1
open Jvm.ClassFile
def u (s : String) : CpInfo := .utf8 (stringToUtf16 s)
/-- a pool by its gaps: so many unusable entries, then the entry; so many at the end -/
def gap : Nat → List CpInfo → List CpInfo
  | 0, r => r
  | n + 1, r => .unusable :: gap n r
def poolList (es : List (Nat × CpInfo)) (last : Nat) : List CpInfo := es.foldr (fun e r => gap e.1 (e.2 :: r)) (gap last [])
def pool (es : List (Nat × CpInfo)) (last : Nat) : Array CpInfo := ⟨poolList es last⟩
def fileOf (pool : Array CpInfo) (this : Nat) (attrs : Array Attribute := #[]) (ms : Array MethodInfo := #[]) (fl : Nat := 33) (sup : Nat := 0) (ifs : Array Nat := #[]) (fds : Array FieldInfo := #[]) : ClassFile where
  minorVersion := 0
  majorVersion := 65
  constantPool := pool
  accessFlags := fl
  thisClass := this
  superClass := sup
  interfaces := ifs
  fields := fds
  methods := ms
  attributes := attrs
def plain (name : String) (sup : Option ClassId) : Class where
  name := name
  kind := .ordinary
  loader := none
  accessFlags := 33
  super := sup
  interfaces := #[]
  cf := none
  fields := #[]
  methods := #[]
  instanceTypes := #[]
  staticTypes := #[]
  resolved := #[]
  callSites := []
  init := .initialized
  statics := none
  mirror := none

def pool0 : Array CpInfo := pool [(5, u "<init>"), (0, u "()V"), (1, .class_ 10), (1, u "java/lang/Object")] 113

def k0c0 : Code := { maxStack := 0, maxLocals := 1, code := object_method_1_code, exceptionTable := #[], attributes := #[] }
def k0m0 : Method := { name := "<init>", desc := "()V", sig := { parameters := [], returnType := none }, accessFlags := 1, code := some k0c0 }
/-- java/lang/Object -/
def k0 : Class := { plain "java/lang/Object" none with
  accessFlags := 33
  interfaces := #[]
  cf := some (fileOf pool0 8 #[] #[{ accessFlags := 1, nameIndex := 5, descriptorIndex := 6, attributes := #[] }] 33 0 #[] #[])
  fields := #[]
  methods := #[k0m0]
  instanceTypes := #[]
  staticTypes := #[]
  resolved := Array.replicate 124 none
  statics := none }

def pool1 : Array CpInfo := pool [(2, .class_ 4), (1, u "java/lang/Object"), (0, u "<init>"), (0, u "()V"), (0, .integer 2147483647), (0, .class_ 9), (0, u "com/example/dualfit/dualfit/allocation/SeededRandom"), (0, .methodref 8 11), (0, .nameAndType 5 12), (0, u "(J)V"), (0, .methodref 8 14), (0, .nameAndType 15 16), (0, u "nextDouble"), (0, u "()D"), (0, .double 4845873199050653696), (1, .long 9007199252643840), (1, .methodref 8 22), (0, .nameAndType 23 24), (0, u "nextInt"), (0, u "(I)I"), (0, .long 1024), (1, .long 1023), (1, .class_ 30), (0, u "com/example/dualfit/dualfit/allocation/SeededRandomNextIntPinLaw"), (2, u "law"), (0, u "(JII)Z")] 3

def k1m0 : Method := { name := "<init>", desc := "()V", sig := { parameters := [], returnType := none }, accessFlags := 1, code := none }
def k1c1 : Code := { maxStack := 4, maxLocals := 20, code := code, exceptionTable := #[], attributes := #[] }
def k1m1 : Method := { name := "law", desc := "(JII)Z", sig := { parameters := [.long, .int, .int], returnType := some .boolean }, accessFlags := 9, code := some k1c1 }
/-- com/example/dualfit/dualfit/allocation/SeededRandomNextIntPinLaw -/
def k1 : Class := { plain "com/example/dualfit/dualfit/allocation/SeededRandomNextIntPinLaw" (some 0) with
  accessFlags := 49
  interfaces := #[]
  cf := some (fileOf pool1 29 #[] #[{ accessFlags := 1, nameIndex := 5, descriptorIndex := 6, attributes := #[] }, { accessFlags := 9, nameIndex := 33, descriptorIndex := 34, attributes := #[] }] 49 2 #[] #[])
  fields := #[]
  methods := #[k1m0, k1m1]
  instanceTypes := #[]
  staticTypes := #[]
  resolved := Array.replicate 38 none
  statics := none }

def pool2 : Array CpInfo := pool [(1, .methodref 2 3), (0, .class_ 4), (0, .nameAndType 5 6), (0, u "java/lang/Object"), (0, u "<init>"), (0, u "()V"), (0, .fieldref 8 9), (0, .class_ 10), (0, .nameAndType 11 12), (0, u "com/example/dualfit/dualfit/allocation/SeededRandom"), (0, u "state"), (0, u "J"), (2, u "nextInt"), (0, u "(I)I"), (2, .long 9223372036854775807), (1, .methodref 8 22), (0, .nameAndType 23 24), (0, u "nextLong"), (0, u "()J"), (0, .double 4368491638549381120), (1, .long 11400714819323198485), (1, .long 13787848793156543929), (1, .long 10723151780598845931), (1, u "GAMMA"), (1, u "DOUBLE_BITS"), (0, u "I"), (1, u "DOUBLE_UNIT"), (0, u "D"), (0, u "(J)V"), (5, u "nextDouble"), (0, u "()D")] 2

def k2c0 : Code := { maxStack := 3, maxLocals := 3, code := prog_18_method_1_code, exceptionTable := #[], attributes := #[] }
def k2m0 : Method := { name := "<init>", desc := "(J)V", sig := { parameters := [.long], returnType := none }, accessFlags := 1, code := some k2c0 }
def k2c1 : Code := { maxStack := 6, maxLocals := 6, code := prog_18_method_3_code, exceptionTable := #[], attributes := #[] }
def k2m1 : Method := { name := "nextInt", desc := "(I)I", sig := { parameters := [.int], returnType := some .int }, accessFlags := 0, code := some k2c1 }
def k2c2 : Code := { maxStack := 4, maxLocals := 1, code := prog_18_method_4_code, exceptionTable := #[], attributes := #[] }
def k2m2 : Method := { name := "nextDouble", desc := "()D", sig := { parameters := [], returnType := some .double }, accessFlags := 0, code := some k2c2 }
def k2c3 : Code := { maxStack := 5, maxLocals := 3, code := prog_18_method_5_code, exceptionTable := #[], attributes := #[] }
def k2m3 : Method := { name := "nextLong", desc := "()J", sig := { parameters := [], returnType := some .long }, accessFlags := 2, code := some k2c3 }
/-- com/example/dualfit/dualfit/allocation/SeededRandom -/
def k2 : Class := { plain "com/example/dualfit/dualfit/allocation/SeededRandom" (some 0) with
  accessFlags := 49
  interfaces := #[]
  cf := some (fileOf pool2 8 #[] #[{ accessFlags := 1, nameIndex := 5, descriptorIndex := 40, attributes := #[] }, { accessFlags := 0, nameIndex := 15, descriptorIndex := 16, attributes := #[] }, { accessFlags := 0, nameIndex := 46, descriptorIndex := 47, attributes := #[] }, { accessFlags := 2, nameIndex := 23, descriptorIndex := 24, attributes := #[] }] 49 2 #[] #[{ accessFlags := 26, nameIndex := 33, descriptorIndex := 12, attributes := #[] }, { accessFlags := 26, nameIndex := 35, descriptorIndex := 36, attributes := #[] }, { accessFlags := 26, nameIndex := 38, descriptorIndex := 39, attributes := #[] }, { accessFlags := 2, nameIndex := 11, descriptorIndex := 12, attributes := #[] }])
  fields := #[{ name := "GAMMA", type := .long, accessFlags := 26, slot := 0, constantValue := 0 }, { name := "DOUBLE_BITS", type := .int, accessFlags := 26, slot := 1, constantValue := 0 }, { name := "DOUBLE_UNIT", type := .double, accessFlags := 26, slot := 2, constantValue := 0 }, { name := "state", type := .long, accessFlags := 2, slot := 0, constantValue := 0 }]
  methods := #[k2m0, k2m1, k2m2, k2m3]
  instanceTypes := #[.long]
  staticTypes := #[.long, .int, .double]
  resolved := Array.replicate 50 none
  statics := none }

def pool3 : Array CpInfo := pool [(1, u "java/lang/Cloneable"), (0, .class_ 1), (0, u "java/lang/Object"), (0, .class_ 3)] 3

/-- java/lang/Cloneable -/
def k3 : Class := { plain "java/lang/Cloneable" (some 0) with
  accessFlags := 1537
  interfaces := #[]
  cf := some (fileOf pool3 2 #[] #[] 1537 4 #[] #[])
  fields := #[]
  methods := #[]
  instanceTypes := #[]
  staticTypes := #[]
  resolved := Array.replicate 8 none
  statics := none }

def pool4 : Array CpInfo := pool [(1, u "java/io/Serializable"), (0, .class_ 1), (0, u "java/lang/Object"), (0, .class_ 3)] 3

/-- java/io/Serializable -/
def k4 : Class := { plain "java/io/Serializable" (some 0) with
  accessFlags := 1537
  interfaces := #[]
  cf := some (fileOf pool4 2 #[] #[] 1537 4 #[] #[])
  fields := #[]
  methods := #[]
  instanceTypes := #[]
  staticTypes := #[]
  resolved := Array.replicate 8 none
  statics := none }

/-- the primitive byte -/
def k5 : Class := { plain "byte" none with kind := .primitive 'B', accessFlags := 0x411 }
/-- [B -/
def k6 : Class := { plain "[B" (some 0) with kind := .array 5 .byte, interfaces := #[3, 4], accessFlags := 1041 }

/-- the primitive int -/
def k7 : Class := { plain "int" none with kind := .primitive 'I', accessFlags := 0x411 }
/-- [I -/
def k8 : Class := { plain "[I" (some 0) with kind := .array 7 .int, interfaces := #[3, 4], accessFlags := 1041 }

def heap : Heap := #[]
def classes : Array Class := #[k0, k1, k2, k3, k4, k5, k6, k7, k8]
def interned : List (Array UInt16 × Addr) := []
def slotsUsed : Nat := 0
def theMethod : MethodId := ⟨1, 1⟩
def args0 : Array Value := #[.long 5, .int 9, .int 1]
def aboutOver (below : List Frame) : State where
  vm := { classes := classes, interned := interned.toArray }
  heap := heap
  slotsUsed := slotsUsed
  threads := #[{ frames := .invoking theMethod args0 :: below }]
def below0 : List Frame := [.native { method := ⟨0, 0⟩, args := #[] }]
def about1 : State := aboutOver below0
def p0 : Program := .bare "" "" ""
def e0 : Env := launch0.env 0 0 0
theorem w_frames : about1.frames = Frame.invoking theMethod args0 :: below0 := rfl
set_option maxRecDepth 65536 in
theorem w_args : argsFit about1.vm theMethod args0 = true := by decide +kernel
set_option maxRecDepth 65536 in
theorem w_heap : heapFits about1 = true := by decide +kernel
set_option maxRecDepth 65536 in
theorem w_runnable : about1.curStatus? = some .runnable := by decide +kernel
set_option maxRecDepth 65536 in
theorem w_alone : about1.alone = true := by decide +kernel
set_option maxRecDepth 65536 in
theorem w_named : about1.methodNamed? x = some theMethod := by decide +kernel
set_option maxRecDepth 65536 in
theorem w_hears : about1.hears theMethod below0 = true := by decide +kernel
set_option maxRecDepth 65536 in
theorem w_ripe : about1.ripe theMethod args0 below0 = true := by decide +kernel
theorem w_running : about1.status = .running := rfl
set_option maxRecDepth 65536 in
theorem w_room : about1.hasRoom e0.platform room_1 = true :=
  launch0.hasRoom_least _ room_1 (by decide +kernel) (by decide +kernel) (by decide +kernel) (by decide +kernel) (by decide +kernel) (by decide +kernel)
theorem allAtoms_all (ts : List Jvm.Cond) (a : Array Jvm.Value) (st : Jvm.State) : (allAtoms ts).before a st = ts.all (fun c => c.before a st) := by
  induction ts with
  | nil => rfl
  | cons c t ih =>
    show (Jvm.Cond.and c (allAtoms t)).before a st = _
    rw [Jvm.Cond.before_and, ih, List.all_cons]
def words1 : List Jvm.Cond := Jvm.Cond.code x code maxLocals ret :: tables_1
/-- a 'code' word, met by the world's own term for the bytes: nothing is compared byte by byte -/
theorem code_word {y : MethodName} {bytes : ByteArray} {mx : Nat} {rt : Option FieldType} {a : Array Value} {s : State} {m : MethodId} {meth : Method} {c : Code} (h1 : s.methodNamed? y = some m) (h2 : s.vm.method? m = some meth) (h3 : meth.code = some c) (h4 : c.code = bytes)
    (h5 : (c.maxLocals == mx && c.exceptionTable.isEmpty && decide (c.maxStack ≤ mostOperands) && decide (meth.sig.returnType = rt) && !meth.locks && decide (parseMethodDescriptor y.desc = some meth.sig)) = true) : (Jvm.Cond.code y bytes mx rt).before a s = true := by
  simp only [Bool.and_eq_true, beq_iff_eq, Bool.not_eq_true', decide_eq_true_eq] at h5
  obtain ⟨⟨⟨⟨⟨g1, g2⟩, g3⟩, g4⟩, g5⟩, g6⟩ := h5
  simp [Cond.before, Cond.holds, Cond.value, h1, h2, h3, h4, g1, g2, g3, g4, g5, g6]
def isCode : Jvm.Cond → Bool
  | .code _ _ _ _ => true
  | _ => false
theorem all_split {L : List Jvm.Cond} {P : Jvm.Cond → Bool} (h1 : L.all (fun c => isCode c || P c) = true) (h2 : ∀ c ∈ L.filter isCode, P c = true) : L.all P = true := by
  refine List.all_eq_true.mpr fun c hc => ?_
  have h := List.all_eq_true.mp h1 c hc
  rcases Bool.eq_false_or_eq_true (isCode c) with hi | hi
  · exact h2 c (List.mem_filter.mpr ⟨hc, hi⟩)
  · simpa [hi] using h
set_option maxRecDepth 65536 in
theorem w_c0 : (Jvm.Cond.code x code maxLocals ret).before args0 about1 = true := code_word (m := ⟨1, 1⟩) (meth := k1m1) (c := k1c1) (by decide +kernel) rfl rfl rfl (by decide +kernel)
set_option maxRecDepth 65536 in
theorem w_c1 : (Jvm.Cond.code ({ cls := "com/example/dualfit/dualfit/allocation/SeededRandom", name := "<init>", desc := "(J)V" } : Jvm.MethodName) prog_18_method_1_code (3 : Nat) (Option.none : Option Jvm.ClassFile.FieldType)).before args0 about1 = true := code_word (m := ⟨2, 0⟩) (meth := k2m0) (c := k2c0) (by decide +kernel) rfl rfl rfl (by decide +kernel)
set_option maxRecDepth 65536 in
theorem w_c2 : (Jvm.Cond.code ({ cls := "java/lang/Object", name := "<init>", desc := "()V" } : Jvm.MethodName) object_method_1_code (1 : Nat) (Option.none : Option Jvm.ClassFile.FieldType)).before args0 about1 = true := code_word (m := ⟨0, 0⟩) (meth := k0m0) (c := k0c0) (by decide +kernel) rfl rfl rfl (by decide +kernel)
set_option maxRecDepth 65536 in
theorem w_c3 : (Jvm.Cond.code ({ cls := "com/example/dualfit/dualfit/allocation/SeededRandom", name := "nextDouble", desc := "()D" } : Jvm.MethodName) prog_18_method_4_code (1 : Nat) (Option.some Jvm.ClassFile.FieldType.double)).before args0 about1 = true := code_word (m := ⟨2, 2⟩) (meth := k2m2) (c := k2c2) (by decide +kernel) rfl rfl rfl (by decide +kernel)
set_option maxRecDepth 65536 in
theorem w_c4 : (Jvm.Cond.code ({ cls := "com/example/dualfit/dualfit/allocation/SeededRandom", name := "nextLong", desc := "()J" } : Jvm.MethodName) prog_18_method_5_code (3 : Nat) (Option.some Jvm.ClassFile.FieldType.long)).before args0 about1 = true := code_word (m := ⟨2, 3⟩) (meth := k2m3) (c := k2c3) (by decide +kernel) rfl rfl rfl (by decide +kernel)
set_option maxRecDepth 65536 in
theorem w_c5 : (Jvm.Cond.code ({ cls := "com/example/dualfit/dualfit/allocation/SeededRandom", name := "nextInt", desc := "(I)I" } : Jvm.MethodName) prog_18_method_3_code (6 : Nat) (Option.some Jvm.ClassFile.FieldType.int)).before args0 about1 = true := code_word (m := ⟨2, 1⟩) (meth := k2m1) (c := k2c1) (by decide +kernel) rfl rfl rfl (by decide +kernel)
def codes1 : List Jvm.Cond := [Jvm.Cond.code x code maxLocals ret, Jvm.Cond.code ({ cls := "com/example/dualfit/dualfit/allocation/SeededRandom", name := "<init>", desc := "(J)V" } : Jvm.MethodName) prog_18_method_1_code (3 : Nat) (Option.none : Option Jvm.ClassFile.FieldType), Jvm.Cond.code ({ cls := "java/lang/Object", name := "<init>", desc := "()V" } : Jvm.MethodName) object_method_1_code (1 : Nat) (Option.none : Option Jvm.ClassFile.FieldType), Jvm.Cond.code ({ cls := "com/example/dualfit/dualfit/allocation/SeededRandom", name := "nextDouble", desc := "()D" } : Jvm.MethodName) prog_18_method_4_code (1 : Nat) (Option.some Jvm.ClassFile.FieldType.double), Jvm.Cond.code ({ cls := "com/example/dualfit/dualfit/allocation/SeededRandom", name := "nextLong", desc := "()J" } : Jvm.MethodName) prog_18_method_5_code (3 : Nat) (Option.some Jvm.ClassFile.FieldType.long), Jvm.Cond.code ({ cls := "com/example/dualfit/dualfit/allocation/SeededRandom", name := "nextInt", desc := "(I)I" } : Jvm.MethodName) prog_18_method_3_code (6 : Nat) (Option.some Jvm.ClassFile.FieldType.int)]
set_option maxRecDepth 65536 in
theorem codes_eq : words1.filter isCode = codes1 := rfl
theorem w_codes : ∀ c ∈ words1.filter isCode, c.before args0 about1 = true := by
  rw [codes_eq]
  intro c hc
  simp only [codes1, List.mem_cons, List.not_mem_nil, or_false] at hc
  rcases hc with rfl | rfl | rfl | rfl | rfl | rfl
  · exact w_c0
  · exact w_c1
  · exact w_c2
  · exact w_c3
  · exact w_c4
  · exact w_c5
set_option maxRecDepth 65536 in
theorem w_t1 : (words1.take 24).all (fun c => isCode c || c.before args0 about1) = true := by decide +kernel
set_option maxRecDepth 65536 in
theorem w_t2 : (words1.drop 24).all (fun c => isCode c || c.before args0 about1) = true := by decide +kernel
theorem w_tables : (allAtoms (Jvm.Cond.code x code maxLocals ret :: tables_1)).before args0 about1 = true := by
  rw [allAtoms_all]
  show words1.all (fun c => c.before args0 about1) = true
  refine all_split ?_ w_codes
  rw [← List.take_append_drop 24 words1, List.all_append, w_t1, w_t2]
  rfl
set_option maxRecDepth 65536 in
theorem w_case : (Jvm.Cond.and given_1 narrow_1).before args0 about1 = true := by decide +kernel
theorem w_applies : (headSpec (Jvm.Cond.code x code maxLocals ret :: tables_1) room_1).applies x e0.platform about1 = true :=
  (Spec.applies_iff w_frames).mpr ⟨w_running, w_runnable, w_alone, w_named, w_hears, w_ripe, w_room, w_tables⟩
theorem atStart : AtStart classFile x code maxLocals ret World_1 tables_1 room_1 Calls_1 rest_1 Pre_1 launch0 p0 e0 about1 theMethod args0 below0 :=
  ⟨lists_1, trivial, launch0.admits_env _ _ _, launch0.least_env, fairChoices_fair.cas, fairChoices_fair.clock, w_frames, w_args, w_heap, w_applies, trivial, trivial, w_case⟩
end start1
theorem witness_1 : WitnessClaimed_1 := ⟨start1.p0, start1.e0, start1.about1, start1.theMethod, start1.args0, start1.below0, start1.atStart⟩
end Jvm.Pilot.@@N@@
