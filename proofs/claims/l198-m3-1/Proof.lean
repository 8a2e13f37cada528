import JvmDerived
import JvmDerived.Pilot.@@N@@Statement
import JvmDerived.Pilot.@@N@@Code
set_option linter.unusedVariables false
set_option linter.unusedSimpArgs false
namespace Jvm.Pilot.@@N@@
open Jvm Jvm.ClassFile Sem Op Lib Jvm.Free Jvm.Stand Jvm.LawKit Jvm.RoadKit Bundle Jvm.Pilot.@@N@@.Jvm.D
section OwnKit
variable {p : Program} {l : Launch} {e : Env} {R : Room} {s : State} {m : MethodId} {args : Array Value} {below : List Frame} {meth : Method} {c : Code} {T : State} {locs : List Loc} {cells slots : Nat}
/-- from T with the frame F on top the body ends, and its end is as P says -/
def Rch (p : Program) (e : Env) (below : List Frame) (T : State) (F : JFrame) (P : Outcome → State → Prop) : Prop := ∃ s₂ o, Steps p.tables e below (T.setTop F) s₂ ∧ s₂.status = .running ∧ Ended s₂ below o ∧ P o s₂
theorem Rch.st {P : Outcome → State → Prop} {T T' : State} {F F' : JFrame} (k : ∀ t, Steps p.tables e below (T'.setTop F') t → Steps p.tables e below (T.setTop F) t) (h : Rch p e below T' F' P) : Rch p e below T F P :=
  let ⟨a, o, h1, h2⟩ := h
  ⟨a, o, k _ h1, h2⟩
theorem Rch.sq {P : Outcome → State → Prop} {T T' : State} {F F' : JFrame} (k : Steps p.tables e below (T.setTop F) (T'.setTop F')) (h : Rch p e below T' F' P) : Rch p e below T F P := Rch.st (fun _ q => k.trans q) h
theorem Rch.cast {P : Outcome → State → Prop} {T : State} {F F' : JFrame} (q : F = F') (h : Rch p e below T F' P) : Rch p e below T F P := q ▸ h
/-- a return, as a contract says it -/
def Fin (s : State) (Q : Option Value → Heap → List Loc → Prop) (K N : Nat) (o : Outcome) (U : State) : Prop := ∃ v L, o = .returned v ∧ Q v U.heap L ∧ FrameEnd s o U L K N
theorem Rch.retV (X : Stand p l e R s m args below meth c T locs cells slots) (hx : p.tables.exec = Jvm.exec) {pc : Nat} {Ls : Array Slot} {w : Value} {t : FieldType} {i : Instr} {rest : List Value} {Q : Option Value → Heap → List Loc → Prop} {K N : Nat} (hret : meth.sig.returnType = some t) (hn : narrow t w = w)
    (hi : (i = .ireturn ∧ (t = .int ∨ t = .boolean ∨ t = .byte ∨ t = .char ∨ t = .short) ∧ ∃ z, w = .int z) ∨ (i = .lreturn ∧ t = .long ∧ ∃ z, w = .long z) ∨ (i = .dreturn ∧ t = .double ∧ ∃ z, w = .double z) ∨ (i = .freturn ∧ t = .float ∧ ∃ z, w = .float z) ∨ (i = .areturn ∧ t.isReference = true ∧ w.isRef = true))
    (hd : decode c.code pc = .ok (i, 1)) (hq : Q (some w) T.heap locs) (hk : cells ≤ K) (hs : slots ≤ N) (hlocks : meth.locks = false := by first | assumption | exact BodyLoose.notSynchronized (by assumption) | exact Body.notSynchronized (by assumption)) : Rch p e below T (mkF m pc Ls (w :: rest)) (Fin s Q K N) := by
  obtain ⟨fs, hr, hrun, hended, hW, hsame⟩ := X.leave (v := some w) (fun h => by rw [hret] at h; cases h) hlocks
  exact ⟨_, _, retOut X hx hret hn hi hd hr, hrun, hended, _, _, rfl, hq, ⟨_, rfl⟩, hW, hsame.mono hk hs⟩
theorem Rch.ret0 (X : Stand p l e R s m args below meth c T locs cells slots) (hx : p.tables.exec = Jvm.exec) {pc : Nat} {Ls : Array Slot} {Q : Option Value → Heap → List Loc → Prop} {K N : Nat} (hret : meth.sig.returnType = none)
    (hd : decode c.code pc = .ok (.return_, 1)) (hq : Q none T.heap locs) (hk : cells ≤ K) (hs : slots ≤ N) (hlocks : meth.locks = false := by first | assumption | exact BodyLoose.notSynchronized (by assumption) | exact Body.notSynchronized (by assumption)) : Rch p e below T (mkF m pc Ls []) (Fin s Q K N) := by
  obtain ⟨fs, hr, hrun, hended, hW, hsame⟩ := X.leave (v := none) (fun _ => rfl) hlocks
  exact ⟨_, _, X.returnOut hx hret hd hr, hrun, hended, _, _, rfl, hq, ⟨_, rfl⟩, hW, hsame.mono hk hs⟩
theorem Rnar {t : FieldType} {w : Value} (h : w.isRef = true) : narrow t w = w := by cases w <;> first | (cases t <;> rfl) | (simp [Value.isRef] at h)
theorem Rfit {t : FieldType} {w : Value} (ht : t.isReference = true) (h : w.isRef = true) : fits t w = true := by cases t <;> first | (cases ht; done) | (cases w <;> simp [Value.isRef, fits] at h ⊢)
theorem own_selP {args : Array Value} {y : MethodName} {n : Nat} (wi : (Cond.instantiable y.cls n).before args s = true) (hpriv : s.PrivateAt y) (hinst : (Cond.instanceMethod y).before args s = true) (hy : y.cls ≠ "java/lang/invoke/MethodHandle" ∧ y.cls ≠ "java/lang/invoke/VarHandle") : (Cond.selects y.cls y y).before args s = true := by
  obtain ⟨c2, k2, i1, i2, i3, i4⟩ := Cond.instantiable_spec wi
  exact selects_self_of_private i1 i2 (by simp_all) hpriv hinst hy
theorem lremM {g : JFrame} {target : State} (X : Stand p l e R s m args below meth c T locs cells slots) (hx : p.tables.exec = Jvm.exec) (hg : g.method = m) {x y : Int64} {rest : List Value} (hd : decode c.code g.pc = .ok (.lrem, 1)) (hs : g.stack = .long y :: .long x :: rest) (hy : y ≠ 0)
    (hr : Steps p.tables e below (T.setTop { g with pc := g.pc + 1, stack := .long (x % y) :: rest }) target) : Steps p.tables e below (T.setTop g) target := XT.lrem X.here hx hg hd hs hy (by rw [lrem_mod]; exact hr)
theorem ldc2D {g : JFrame} {target : State} (X : Stand p l e R s m args below meth c T locs cells slots) (hx : p.tables.exec = Jvm.exec) {own : String} {index : Nat} {b : UInt64} (hown : s.vm.findClass own = some m.cls) (hconst : (Cond.constantDouble own index b).before args s = true) (hg : g.method = m) (hd : decode c.code g.pc = .ok (.ldc2_w index, 3))
    (hr : Steps p.tables e below (T.setTop { g with pc := g.pc + 3, stack := .double b :: g.stack }) target) : Steps p.tables e below (T.setTop g) target := X.ldc2DoubleC hx hown hconst hg hd target hr
end OwnKit
section OwnArr
variable {p : Program} {l : Launch} {e : Env} {R : Room} {s : State} {m : MethodId} {args : Array Value} {below : List Frame} {meth : Method} {c : Code} {T Z : State} {locs : List Loc} {cells slots : Nat} {h : Heap} {a : Addr} {k : ClassId} {n j x : Int32} {vs : List Value} {d v : Value} {g : JFrame} {rest : List Value} {target : State}
theorem own_alen {ty : FieldType} (X : Stand p l e R s m args below meth c T locs cells slots) (hx : p.tables.exec = Jvm.exec) (hZ : Z.Warmed39 s.vm) (eT : T.heap = h) (V : Arv Z h a k ty n vs d) (hg : g.method = m) (hs : g.stack = .ref a :: rest) (hd : decode c.code g.pc = .ok (.arraylength, 1))
    (hr : Steps p.tables e below (T.setTop { g with pc := g.pc + 1, stack := .int n :: rest }) target) : Steps p.tables e below (T.setTop g) target := by
  obtain ⟨cl, Ar, q, S, M, H, G⟩ := V
  refine X.arraylength hx (by rw [eT]; exact Ar.1) (State.isArrayOf_alike hZ.alike Ar.2.1) hg hs hd _ ?_
  rw [len_of S M]; exact hr
theorem own_ldB (X : Stand p l e R s m args below meth c T locs cells slots) (hx : p.tables.exec = Jvm.exec) (hZ : Z.Warmed39 s.vm) (eT : T.heap = h) (V : Arv Z h a k .byte n vs d) (hj : ¬ j < 0 ∧ j < n) (hv : vs.getD j.toNatClampNeg d = v) (hg : g.method = m) (hs : g.stack = .int j :: .ref a :: rest) (hd : decode c.code g.pc = .ok (.baload, 1))
    (hr : Steps p.tables e below (T.setTop { g with pc := g.pc + 1, stack := v :: rest }) target) : Steps p.tables e below (T.setTop g) target := by
  obtain ⟨cl, Ar, q, S, M, H, G⟩ := V
  exact X.baloadBytes hx (by rw [eT]; exact Ar.1) (State.isArrayOf_alike hZ.alike Ar.2.1) Ar.2.2 (inb_of S hj) (H.at (inb_of S hj) hv) hg hs hd _ hr
theorem own_ldC (X : Stand p l e R s m args below meth c T locs cells slots) (hx : p.tables.exec = Jvm.exec) (hZ : Z.Warmed39 s.vm) (eT : T.heap = h) (V : Arv Z h a k .char n vs d) (hj : ¬ j < 0 ∧ j < n) (hv : vs.getD j.toNatClampNeg d = v) (hg : g.method = m) (hs : g.stack = .int j :: .ref a :: rest) (hd : decode c.code g.pc = .ok (.caload, 1))
    (hr : Steps p.tables e below (T.setTop { g with pc := g.pc + 1, stack := v :: rest }) target) : Steps p.tables e below (T.setTop g) target := by
  obtain ⟨cl, Ar, q, S, M, H, G⟩ := V
  exact X.caload hx (by rw [eT]; exact Ar.1) (State.isArrayOf_alike hZ.alike Ar.2.1) Ar.2.2 (inb_of S hj) (H.at (inb_of S hj) hv) hg hs hd _ hr
theorem own_stC (X : Stand p l e R s m args below meth c T locs cells slots) (hx : p.tables.exec = Jvm.exec) (hZ : Z.Warmed39 s.vm) (eT : T.heap = h) (V : Arv Z h a k .char n vs d) (hj : ¬ j < 0 ∧ j < n) (i : Nat) (hi : j.toNatClampNeg = i) (hl : i < vs.length) (hg : g.method = m) (hs : g.stack = .int x :: .int j :: .ref a :: rest) (hd : decode c.code g.pc = .ok (.castore, 1)) :
    ∃ T' h', Stand p l e R s m args below meth c T' (locs ++ [⟨a, j.toNatClampNeg⟩]) cells slots ∧ T'.heap = h' ∧ Wr h h' a j.toNatClampNeg (.int (nar .char x)) ∧ Arv Z h' a k .char n (vs.set i (.int (nar .char x))) d ∧ ∀ target, Steps p.tables e below (T'.setTop { g with pc := g.pc + 1, stack := rest }) target → Steps p.tables e below (T.setTop g) target := by
  obtain ⟨cl, Ar, q, S, M, H, G⟩ := V
  obtain ⟨T', h', X', e', W, st⟩ := stC X hx hZ eT Ar (inb_of S hj) hg hs hd
  exact ⟨T', h', X', e', W, Arv.set Ar q S M H G (fits_nar_char _) W i hi hl, st⟩
theorem own_stB (X : Stand p l e R s m args below meth c T locs cells slots) (hx : p.tables.exec = Jvm.exec) (hZ : Z.Warmed39 s.vm) (eT : T.heap = h) (V : Arv Z h a k .byte n vs d) (hj : ¬ j < 0 ∧ j < n) (i : Nat) (hi : j.toNatClampNeg = i) (hl : i < vs.length) (hg : g.method = m) (hs : g.stack = .int x :: .int j :: .ref a :: rest) (hd : decode c.code g.pc = .ok (.bastore, 1)) :
    ∃ T' h', Stand p l e R s m args below meth c T' (locs ++ [⟨a, j.toNatClampNeg⟩]) cells slots ∧ T'.heap = h' ∧ Wr h h' a j.toNatClampNeg (.int x.toInt8.toInt32) ∧ Arv Z h' a k .byte n (vs.set i (.int x.toInt8.toInt32)) d ∧ ∀ target, Steps p.tables e below (T'.setTop { g with pc := g.pc + 1, stack := rest }) target → Steps p.tables e below (T.setTop g) target := by
  obtain ⟨cl, Ar, q, S, M, H, G⟩ := V
  obtain ⟨T', h', X', e', W, st⟩ := stB X hx hZ eT Ar (inb_of S hj) hg hs hd
  exact ⟨T', h', X', e', W, Arv.set Ar q S M H G (fits_nar_byte _) W i hi hl, st⟩
end OwnArr
theorem own_ushrL11 (x : Int64) : (XT.ushrL x 11).toInt = ((x.toBitVec.toNat / 2048 : Nat) : Int) := by
  have h : (XT.ushrL x 11).toBitVec = x.toBitVec >>> 11 := by
    simp only [XT.ushrL]; rfl
  have h2 : (XT.ushrL x 11).toInt = (x.toBitVec >>> 11).toInt := congrArg BitVec.toInt h
  rw [h2, BitVec.toInt_eq_toNat_of_lt (by rw [BitVec.toNat_ushiftRight, Nat.shiftRight_eq_div_pow]; have := x.toBitVec.isLt; omega), BitVec.toNat_ushiftRight, Nat.shiftRight_eq_div_pow]
theorem own_top (x : Int64) : 0 ≤ (XT.ushrL x 11).toInt ∧ (XT.ushrL x 11).toInt < 9007199254740992 := by
  rw [own_ushrL11]; have := x.toBitVec.isLt; omega
/-- a whole number from 0 up to 2^53: its datum -/
theorem own_l2d {t : Int64} (h0 : 0 ≤ t.toInt) (h1 : t.toInt < 9007199254740992) : ∃ (c : Nat) (j : Nat), FP.Core.val64 (FP.l2d t) = .fin false c (if c = 0 then -1074 else -(j : Int)) ∧ j ≤ 52 ∧ c = t.toInt.toNat * 2 ^ j ∧ c < 2 ^ 53 ∧ (c = 0 ∨ 2 ^ 52 ≤ c) := by
  obtain ⟨n, hn⟩ : ∃ n : Nat, t.toInt = n := ⟨t.toInt.toNat, by omega⟩
  have hv : FP.Core.val64 (FP.l2d t) = FP.Core.roundRatio FP.Core.b64 false n 1 0 := by
    have := FP.Core.val64_l2d t
    rw [show FP.l2d t = FP.Core.l2d t from rfl, this]
    simp only [FP.Core.ofInt, FP.Core.round, hn]
    rw [show decide ((n : Int) < 0) = false from decide_eq_false (by omega)]
    rfl
  rw [hn] at h1 ⊢
  by_cases hz : n = 0
  · subst hz
    refine ⟨0, 0, ?_, by omega, by simp, by decide, Or.inl rfl⟩
    rw [hv]; decide
  · have hl := Nat.log2_lt hz |>.mp (Nat.lt_succ_self n.log2)
    have hk : 2 ^ n.log2 ≤ n := Nat.log2_self_le hz
    have hl52 : n.log2 ≤ 52 := by
      by_cases q : n.log2 ≤ 52
      · exact q
      · have : 2 ^ 53 ≤ 2 ^ n.log2 := Nat.pow_le_pow_right (by decide) (by omega)
        omega
    have e1 : 2 ^ n.log2 * 2 ^ (52 - n.log2) = 2 ^ 52 := by rw [← Nat.pow_add]; congr 1; omega
    have e2 : 2 ^ (n.log2 + 1) * 2 ^ (52 - n.log2) = 2 ^ 53 := by rw [← Nat.pow_add]; congr 1; omega
    have b1 : 2 ^ 52 ≤ n * 2 ^ (52 - n.log2) := by rw [← e1]; exact Nat.mul_le_mul_right _ hk
    have b2 : n * 2 ^ (52 - n.log2) < 2 ^ 53 := by rw [← e2]; exact Nat.mul_lt_mul_of_pos_right hl (Nat.two_pow_pos _)
    have hp : n * 2 ^ (52 - n.log2) ≠ 0 := by omega
    refine ⟨n * 2 ^ (52 - n.log2), 52 - n.log2, ?_, by omega, by simp, b2, Or.inr b1⟩
    rw [hv, if_neg hp]
    refine FP.Core.roundRatio_exact FP.Core.good_b64 (by decide) ⟨b2, ?_, ?_, Or.inr b1⟩ ?_
    · show (-1074 : Int) ≤ _; omega
    · show _ ≤ (971 : Int); omega
    · have a1 : ((0 : Int) - -((52 - n.log2 : Nat) : Int)).toNat = 52 - n.log2 := by omega
      have a2 : (-((52 - n.log2 : Nat) : Int) - 0).toNat = 0 := by omega
      rw [a1, a2]; simp
/-- times 2^-53 -/
theorem own_unit {t : Int64} (h0 : 0 ≤ t.toInt) (h1 : t.toInt < 9007199254740992) : ∃ (c : Nat) (j : Nat), FP.Core.val64 (FP.l2d t) = .fin false c (if c = 0 then -1074 else -(j : Int)) ∧ FP.Core.val64 (FP.dmul (FP.l2d t) 4368491638549381120) = .fin false c (if c = 0 then -1074 else -(j : Int) - 53) ∧ j ≤ 52 ∧ c < 2 ^ 53 ∧ (c = 0 ∨ 2 ^ 52 ≤ c) := by
  obtain ⟨c, j, hv, hj, -, hc, hc'⟩ := own_l2d h0 h1
  refine ⟨c, j, hv, ?_, hj, hc, hc'⟩
  rw [show FP.dmul (FP.l2d t) 4368491638549381120 = FP.Core.dmul (FP.l2d t) 4368491638549381120 from rfl, FP.Core.val64_dmul, hv, show FP.Core.val64 4368491638549381120 = .fin false (2 ^ 52) (-105) by decide]
  by_cases hz : c = 0
  · subst hz; rw [if_pos rfl, if_pos rfl]; decide
  · rw [if_neg hz, if_neg hz]
    show FP.Core.roundRatio FP.Core.b64 false (c * 2 ^ 52) 1 (-(j : Int) + -105) = _
    refine FP.Core.roundRatio_exact FP.Core.good_b64 (by decide) ⟨hc, ?_, ?_, Or.inr (by have : 2 ^ 52 ≤ c := by omega
                                                                                         exact this)⟩ ?_
    · show (-1074 : Int) ≤ _; omega
    · show _ ≤ (971 : Int); omega
    · have a1 : (-(j : Int) + -105 - (-(j : Int) - 53)).toNat = 0 := by omega
      have a2 : (-(j : Int) - 53 - (-(j : Int) + -105)).toNat = 52 := by omega
      rw [a1, a2]; simp
theorem own_back {t : Int64} (h0 : 0 ≤ t.toInt) (h1 : t.toInt < 9007199254740992) : FP.dmul (FP.dmul (FP.l2d t) 4368491638549381120) 4845873199050653696 = FP.l2d t := by
  obtain ⟨c, j, hv, hd, hj, hc, hc'⟩ := own_unit h0 h1
  have e : FP.Core.val64 (FP.dmul (FP.dmul (FP.l2d t) 4368491638549381120) 4845873199050653696) = FP.Core.val64 (FP.l2d t) := by
    rw [show FP.dmul (FP.dmul (FP.l2d t) 4368491638549381120) 4845873199050653696 = FP.Core.dmul (FP.dmul (FP.l2d t) 4368491638549381120) 4845873199050653696 from rfl, FP.Core.val64_dmul, hd, hv, show FP.Core.val64 4845873199050653696 = .fin false (2 ^ 52) 1 by decide]
    by_cases hz : c = 0
    · subst hz; rw [if_pos rfl, if_pos rfl]; decide
    · rw [if_neg hz, if_neg hz]
      show FP.Core.roundRatio FP.Core.b64 false (c * 2 ^ 52) 1 (-(j : Int) - 53 + 1) = _
      refine FP.Core.roundRatio_exact FP.Core.good_b64 (by decide) ⟨hc, ?_, ?_, Or.inr (by have : 2 ^ 52 ≤ c := by omega
                                                                                           exact this)⟩ ?_
      · show (-1074 : Int) ≤ _; omega
      · show _ ≤ (971 : Int); omega
      · have a1 : (-(j : Int) - 53 + 1 - -(j : Int)).toNat = 0 := by omega
        have a2 : (-(j : Int) - (-(j : Int) - 53 + 1)).toNat = 52 := by omega
        rw [a1, a2]; simp
  exact FP.Core.val64_inj (by rw [e, hv]; intro q; cases q) e
theorem own_d2l {t : Int64} (h0 : 0 ≤ t.toInt) (h1 : t.toInt < 9007199254740992) : FP.d2l (FP.dmul (FP.dmul (FP.l2d t) 4368491638549381120) 4845873199050653696) = t := by
  rw [own_back h0 h1]
  exact FP.Core.d2l_l2d (by omega)
theorem own_ge0 {t : Int64} (h0 : 0 ≤ t.toInt) (h1 : t.toInt < 9007199254740992) : ¬ cmpValue (FP.dcmp (FP.dmul (FP.l2d t) 4368491638549381120) 0) .l < 0 := by
  obtain ⟨c, j, hv, hd, hj, hc, hc'⟩ := own_unit h0 h1
  have e : FP.dcmp (FP.dmul (FP.l2d t) 4368491638549381120) 0 = FP.Core.order (.fin false c (if c = 0 then -1074 else -(j : Int) - 53)) (.fin false 0 (-1074)) := by
    rw [← hd]; rfl
  rw [e]
  simp only [FP.Core.order, FP.Core.signed, FP.Core.inUnits]
  simp only [Bool.false_eq_true, if_false, Nat.zero_mul, Int.ofNat_zero]
  have : compare ((c * 2 ^ ((if c = 0 then (-1074 : Int) else -(j : Int) - 53) - min (if c = 0 then (-1074 : Int) else -(j : Int) - 53) (-1074)).toNat : Nat) : Int) 0 ≠ .lt := by
    rw [Ne, Int.compare_eq_lt]; omega
  revert this
  generalize compare ((c * 2 ^ ((if c = 0 then (-1074 : Int) else -(j : Int) - 53) - min (if c = 0 then (-1074 : Int) else -(j : Int) - 53) (-1074)).toNat : Nat) : Int) 0 = o
  intro this
  cases o <;> first | (exact absurd rfl this) | decide
theorem own_lt1 {t : Int64} (h0 : 0 ≤ t.toInt) (h1 : t.toInt < 9007199254740992) : cmpValue (FP.dcmp (FP.dmul (FP.l2d t) 4368491638549381120) 4607182418800017408) .g < 0 := by
  obtain ⟨c, j, hv, hd, hj, hc, hc'⟩ := own_unit h0 h1
  have e : FP.dcmp (FP.dmul (FP.l2d t) 4368491638549381120) 4607182418800017408 = FP.Core.order (.fin false c (if c = 0 then -1074 else -(j : Int) - 53)) (.fin false (2 ^ 52) (-52)) := by
    rw [← hd, ← show FP.Core.val64 4607182418800017408 = .fin false (2 ^ 52) (-52) by decide]; rfl
  rw [e]
  by_cases hz : c = 0
  · subst hz; rw [if_pos rfl]; decide +kernel
  · rw [if_neg hz]
    have hm : min (-(j : Int) - 53) (-52) = -(j : Int) - 53 := by omega
    simp only [FP.Core.order, FP.Core.signed, FP.Core.inUnits, hm, Bool.false_eq_true, if_false]
    have a1 : (-(j : Int) - 53 - (-(j : Int) - 53)).toNat = 0 := by omega
    have a2 : (-52 - (-(j : Int) - 53)).toNat = j + 1 := by omega
    rw [a1, a2]
    have hlt : (((c * 2 ^ 0 : Nat)) : Int) < ((2 ^ 52 * 2 ^ (j + 1) : Nat) : Int) := by
      have : 2 ^ 1 ≤ 2 ^ (j + 1) := Nat.pow_le_pow_right (by decide) (by omega)
      have h3 : 2 ^ 52 * 2 ^ 1 ≤ 2 ^ 52 * 2 ^ (j + 1) := Nat.mul_le_mul_left _ this
      have h4 : c * 2 ^ 0 = c := by simp
      rw [h4]
      exact_mod_cast Nat.lt_of_lt_of_le hc (by simpa using h3)
    rw [Int.compare_eq_lt.mpr hlt]
    decide
theorem own_noNaN {t : Int64} (h0 : 0 ≤ t.toInt) (h1 : t.toInt < 9007199254740992) : Jvm.Free.Fl.NoNaN64 (FP.dmul (FP.l2d t) 4368491638549381120) := by
  obtain ⟨c, j, hv, hd, -⟩ := own_unit h0 h1
  exact Jvm.Free.Fl.dmul_out (Jvm.Free.Fl.l2d_fin t) (by unfold Jvm.Free.Fl.Fin64; decide)
theorem own_noNaN2 {t : Int64} (h0 : 0 ≤ t.toInt) (h1 : t.toInt < 9007199254740992) : Jvm.Free.Fl.NoNaN64 (FP.dmul (FP.dmul (FP.l2d t) 4368491638549381120) 4845873199050653696) := by
  rw [own_back h0 h1]
  exact (Jvm.Free.Fl.l2d_fin t).noNaN
/-- SplitMix64's mixing function -/
def own_mix (z : Int64) : Int64 := (((z ^^^ XT.ushrL z 30) * -4658895280553007687 ^^^ XT.ushrL ((z ^^^ XT.ushrL z 30) * -4658895280553007687) 27) * -7723592293110705685) ^^^ XT.ushrL (((z ^^^ XT.ushrL z 30) * -4658895280553007687 ^^^ XT.ushrL ((z ^^^ XT.ushrL z 30) * -4658895280553007687) 27) * -7723592293110705685) 31
def own_dbl (z : Int64) : UInt64 := FP.dmul (FP.l2d (XT.ushrL (own_mix z) 11)) 4368491638549381120
theorem own_dbl_eq (z : Int64) : FP.dmul (FP.l2d (XT.ushrL (own_mix z) 11)) 4368491638549381120 = own_dbl z := rfl
theorem own_dbl_nn (z : Int64) : Jvm.Free.Fl.NoNaN64 (own_dbl z) := by unfold own_dbl; exact own_noNaN (own_top _).1 (own_top _).2
theorem own_dbl_nn2 (z : Int64) : Jvm.Free.Fl.NoNaN64 (FP.dmul (own_dbl z) 4845873199050653696) := by unfold own_dbl; exact own_noNaN2 (own_top _).1 (own_top _).2
theorem own_dbl_ge0 (z : Int64) : ¬ cmpValue (FP.dcmp (own_dbl z) 0) .l < 0 := by unfold own_dbl; exact own_ge0 (own_top _).1 (own_top _).2
theorem own_dbl_lt1 (z : Int64) : cmpValue (FP.dcmp (own_dbl z) 4607182418800017408) .g < 0 := by unfold own_dbl; exact own_lt1 (own_top _).1 (own_top _).2
theorem own_dbl_l (z : Int64) : FP.d2l (FP.dmul (own_dbl z) 4845873199050653696) = XT.ushrL (own_mix z) 11 := by unfold own_dbl; exact own_d2l (own_top _).1 (own_top _).2
theorem d_prog_18_method_1_code_0 : decode prog_18_method_1_code 0 = .ok (.aload_n 0, 1) := by decide +kernel
theorem d_prog_18_method_1_code_1 : decode prog_18_method_1_code 1 = .ok (.invokespecial 1, 3) := by decide +kernel
theorem d_prog_18_method_1_code_4 : decode prog_18_method_1_code 4 = .ok (.aload_n 0, 1) := by decide +kernel
theorem d_prog_18_method_1_code_5 : decode prog_18_method_1_code 5 = .ok (.lload_n 1, 1) := by decide +kernel
theorem d_prog_18_method_1_code_6 : decode prog_18_method_1_code 6 = .ok (.putfield 7, 3) := by decide +kernel
theorem d_prog_18_method_1_code_9 : decode prog_18_method_1_code 9 = .ok (.return_, 1) := by decide +kernel
theorem pn_com_example_dualfit_dualfit_allocation_SeededRandom : plainName "com/example/dualfit/dualfit/allocation/SeededRandom" = true := by first | (simp [plainName, overriddenIn]; done) | decide +kernel
theorem ef_rm_init (m : MethodId) (aa : Addr) (sd : Int64)  : entryFrame m #[(.ref aa), (.long sd)] 3 = mkF m 0 #[.val (.ref aa), .val (.long sd), .second] [] := by  first | rfl | (simp [entryFrame, mkF, argsToLocals, Value.category, maxLocals]; done)
def Q_rm_init (Z : State) (aa : Addr) (sd : Int64) (h0 : Heap) (n0 : Nat) (v : Option Value) (h : Heap) (L : List Loc) : Prop := (v = none) ∧ (Fr n0 L) ∧ (Keep h0 h [aa]) ∧ (Fld Z h aa "com/example/dualfit/dualfit/allocation/SeededRandom" "state" "J" (.long sd))
set_option maxRecDepth 65536 in
set_option maxHeartbeats 40000000 in
theorem rm_init (l : Launch) (Z : State) (a0 : Array Value) (hw : ∀ d ∈ tables_1, d.before a0 Z = true) (ws : List Jvm.Cond) (aa : Addr) (sd : Int64) (h0 : Heap) (n0 : Nat) (Z0 : n0 ≤ h0.size) (f0 : Fld Z h0 aa "com/example/dualfit/dualfit/allocation/SeededRandom" "state" "J" (.long (0 : Int64))) (f1 : Exa Z h0 aa "com/example/dualfit/dualfit/allocation/SeededRandom") (ga : n0 ≤ aa) :
    MetFree l (⟨"com/example/dualfit/dualfit/allocation/SeededRandom", "<init>", "(J)V"⟩ : MethodName) (head1 (Jvm.Cond.code (⟨"com/example/dualfit/dualfit/allocation/SeededRandom", "<init>", "(J)V"⟩ : MethodName) prog_18_method_1_code 3 none :: ws) ({ frames := 1, cells := 0, slots := 0, locals := 12 } : Room)) (fun a U => a = #[(.ref aa), (.long sd)] ∧ Z.Warmed39 U.vm ∧ U.heap = h0) (fun _ _ _ _ _ => True) (fun _ U o U' => ∃ v L, o = .returned v ∧ Q_rm_init Z aa sd h0 n0 v U'.heap L ∧ FrameEnd U o U' L ({ frames := 1, cells := 0, slots := 0, locals := 12 } : Room).cells ({ frames := 1, cells := 0, slots := 0, locals := 12 } : Room).slots) := by
  refine MetFree.of_bodySF (plainFor_of_name pn_com_example_dualfit_dualfit_allocation_SeededRandom) hisR ?_
  intro p e s m args below meth c s₁ Bd hml0 hP hK
  obtain ⟨rfl, hZ, hh⟩ := hP
  have hx := Bd.exec
  have hby := Bd.bytes
  have hml : c.maxLocals = 3 := hml0
  have hown : s.vm.findClass "com/example/dualfit/dualfit/allocation/SeededRandom" = some m.cls := findClass_of_methodNamed Bd.named
  have hnm := (name_of_methodNamed Bd.named Bd.method).1
  have X0 : Stand p l e ({ frames := 1, cells := 0, slots := 0, locals := 12 } : Room) s m #[(.ref aa), (.long sd)] below meth c s₁ [] 0 0 := Stand.of_body Bd
  have e0 : s₁.heap = h0 := by rw [← hh, Bd.state]; rfl
  have N0 := Fr.nil n0
  have K00 : Keep h0 h0 [aa] := Keep.refl _ _
  have hlk0 : meth.locks = false := by first | assumption | exact BodyLoose.notSynchronized (by assumption) | exact Body.notSynchronized (by assumption)
  show Rch p e below s₁ (entryFrame m #[(.ref aa), (.long sd)] 3) (Fin s (Q_rm_init Z aa sd h0 n0) 0 0)
  refine Rch.cast (ef_rm_init m aa sd) ?_
  show Rch p e below s₁ (mkF m 0 #[.val (.ref aa), .val (.long sd), .second] []) _
  refine Rch.st (fun _ k => XS.aloadN X0.here hx rfl (hb hby d_prog_18_method_1_code_0) rfl rfl k) ?_
  show Rch p e below s₁ (mkF m 1 #[.val (.ref aa), .val (.long sd), .second] [(.ref aa)]) _
  obtain ⟨T1, X1, e1, st1⟩ := initO X0 hx hZ hown (hw _ (List.mem_of_getElem? (i := 7) rfl)) (hw _ (List.mem_of_getElem? (i := 8) rfl)) (hw _ (List.mem_of_getElem? (i := 9) rfl)) e0 (g := (mkF m 1 #[.val (.ref aa), .val (.long sd), .second] [(.ref aa)])) rfl (by rw [hml]; rfl) rfl (hb hby d_prog_18_method_1_code_1) (by decide) (W := 0) (by show 2 * 0 + _ ≤ _; exact Nat.le_of_eq rfl) (by decide)
  refine Rch.st (fun _ k => st1 _ k) ?_
  show Rch p e below T1 (mkF m 4 #[.val (.ref aa), .val (.long sd), .second] []) _
  refine Rch.st (fun _ k => XS.aloadN X1.here hx rfl (hb hby d_prog_18_method_1_code_4) rfl rfl k) ?_
  show Rch p e below T1 (mkF m 5 #[.val (.ref aa), .val (.long sd), .second] [(.ref aa)]) _
  refine Rch.st (fun _ k => XT.lloadN X1.here hx rfl (hb hby d_prog_18_method_1_code_5) rfl k) ?_
  show Rch p e below T1 (mkF m 6 #[.val (.ref aa), .val (.long sd), .second] [(.long sd), (.ref aa)]) _
  obtain ⟨T2, h2, X2, e2, W2, st2⟩ := putF X1 hx hZ hown (host := "") (Or.inl (hw _ (List.mem_of_getElem? (i := 10) rfl))) Via.refl e1 f0 f1 (Or.inl (hw _ (List.mem_of_getElem? (i := 11) rfl))) (hw _ (List.mem_of_getElem? (i := 2) rfl)) (ty := .long) (by decide) rfl rfl (g := (mkF m 6 #[.val (.ref aa), .val (.long sd), .second] [(.long sd), (.ref aa)])) rfl rfl (hb hby d_prog_18_method_1_code_6)
  have N3 := Fr.snoc X2 N0 ga
  have f4 : Fld Z h2 aa "com/example/dualfit/dualfit/allocation/SeededRandom" "state" "J" (.long sd) := f0.same W2
  have f5 : Exa Z h2 aa "com/example/dualfit/dualfit/allocation/SeededRandom" := f1.wr W2
  have Z6 := Nat.le_trans Z0 (Keep.of_wr W2).1
  have Kp7 : Keep h0 h2 [aa] := K00.wr W2 (Or.inl (List.mem_of_getElem? (i := 0) rfl))
  refine Rch.st (fun _ k => st2 _ k) ?_
  show Rch p e below T2 (mkF m 9 #[.val (.ref aa), .val (.long sd), .second] []) _
  exact Rch.ret0 X2 hx Bd.returns (hb hby d_prog_18_method_1_code_9) (by rw [e2]; exact ⟨rfl, N3, Kp7, f4⟩) (by decide) (by decide)

theorem d_prog_18_method_5_code_0 : decode prog_18_method_5_code 0 = .ok (.aload_n 0, 1) := by decide +kernel
theorem d_prog_18_method_5_code_1 : decode prog_18_method_5_code 1 = .ok (.dup, 1) := by decide +kernel
theorem d_prog_18_method_5_code_2 : decode prog_18_method_5_code 2 = .ok (.getfield 7, 3) := by decide +kernel
theorem d_prog_18_method_5_code_5 : decode prog_18_method_5_code 5 = .ok (.ldc2_w 27, 3) := by decide +kernel
theorem d_prog_18_method_5_code_8 : decode prog_18_method_5_code 8 = .ok (.ladd, 1) := by decide +kernel
theorem d_prog_18_method_5_code_9 : decode prog_18_method_5_code 9 = .ok (.putfield 7, 3) := by decide +kernel
theorem d_prog_18_method_5_code_12 : decode prog_18_method_5_code 12 = .ok (.aload_n 0, 1) := by decide +kernel
theorem d_prog_18_method_5_code_13 : decode prog_18_method_5_code 13 = .ok (.getfield 7, 3) := by decide +kernel
theorem d_prog_18_method_5_code_16 : decode prog_18_method_5_code 16 = .ok (.lstore_n 1, 1) := by decide +kernel
theorem d_prog_18_method_5_code_17 : decode prog_18_method_5_code 17 = .ok (.lload_n 1, 1) := by decide +kernel
theorem d_prog_18_method_5_code_18 : decode prog_18_method_5_code 18 = .ok (.lload_n 1, 1) := by decide +kernel
theorem d_prog_18_method_5_code_19 : decode prog_18_method_5_code 19 = .ok (.bipush 30, 2) := by decide +kernel
theorem d_prog_18_method_5_code_21 : decode prog_18_method_5_code 21 = .ok (.lushr, 1) := by decide +kernel
theorem d_prog_18_method_5_code_22 : decode prog_18_method_5_code 22 = .ok (.lxor, 1) := by decide +kernel
theorem d_prog_18_method_5_code_23 : decode prog_18_method_5_code 23 = .ok (.ldc2_w 29, 3) := by decide +kernel
theorem d_prog_18_method_5_code_26 : decode prog_18_method_5_code 26 = .ok (.lmul, 1) := by decide +kernel
theorem d_prog_18_method_5_code_27 : decode prog_18_method_5_code 27 = .ok (.lstore_n 1, 1) := by decide +kernel
theorem d_prog_18_method_5_code_28 : decode prog_18_method_5_code 28 = .ok (.lload_n 1, 1) := by decide +kernel
theorem d_prog_18_method_5_code_29 : decode prog_18_method_5_code 29 = .ok (.lload_n 1, 1) := by decide +kernel
theorem d_prog_18_method_5_code_30 : decode prog_18_method_5_code 30 = .ok (.bipush 27, 2) := by decide +kernel
theorem d_prog_18_method_5_code_32 : decode prog_18_method_5_code 32 = .ok (.lushr, 1) := by decide +kernel
theorem d_prog_18_method_5_code_33 : decode prog_18_method_5_code 33 = .ok (.lxor, 1) := by decide +kernel
theorem d_prog_18_method_5_code_34 : decode prog_18_method_5_code 34 = .ok (.ldc2_w 31, 3) := by decide +kernel
theorem d_prog_18_method_5_code_37 : decode prog_18_method_5_code 37 = .ok (.lmul, 1) := by decide +kernel
theorem d_prog_18_method_5_code_38 : decode prog_18_method_5_code 38 = .ok (.lstore_n 1, 1) := by decide +kernel
theorem d_prog_18_method_5_code_39 : decode prog_18_method_5_code 39 = .ok (.lload_n 1, 1) := by decide +kernel
theorem d_prog_18_method_5_code_40 : decode prog_18_method_5_code 40 = .ok (.lload_n 1, 1) := by decide +kernel
theorem d_prog_18_method_5_code_41 : decode prog_18_method_5_code 41 = .ok (.bipush 31, 2) := by decide +kernel
theorem d_prog_18_method_5_code_43 : decode prog_18_method_5_code 43 = .ok (.lushr, 1) := by decide +kernel
theorem d_prog_18_method_5_code_44 : decode prog_18_method_5_code 44 = .ok (.lxor, 1) := by decide +kernel
theorem d_prog_18_method_5_code_45 : decode prog_18_method_5_code 45 = .ok (.lreturn, 1) := by decide +kernel
theorem ef_rm_nextLong (m : MethodId) (aa : Addr) (sd : Int64)  : entryFrame m #[(.ref aa)] 3 = mkF m 0 #[.val (.ref aa), .unset, .unset] [] := by  first | rfl | (simp [entryFrame, mkF, argsToLocals, Value.category, maxLocals]; done)
def Q_rm_nextLong (Z : State) (aa : Addr) (sd : Int64) (h0 : Heap) (n0 : Nat) (v : Option Value) (h : Heap) (L : List Loc) : Prop := (v = some (.long (own_mix (sd + (-7046029254386353131 : Int64))))) ∧ (Fr n0 L) ∧ (Keep h0 h [aa]) ∧ (Fld Z h aa "com/example/dualfit/dualfit/allocation/SeededRandom" "state" "J" (.long (sd + (-7046029254386353131 : Int64))))
set_option maxRecDepth 65536 in
set_option maxHeartbeats 40000000 in
theorem rm_nextLong (l : Launch) (Z : State) (a0 : Array Value) (hw : ∀ d ∈ tables_1, d.before a0 Z = true) (ws : List Jvm.Cond) (aa : Addr) (sd : Int64) (h0 : Heap) (n0 : Nat) (Z0 : n0 ≤ h0.size) (f0 : Fld Z h0 aa "com/example/dualfit/dualfit/allocation/SeededRandom" "state" "J" (.long sd)) (f1 : Exa Z h0 aa "com/example/dualfit/dualfit/allocation/SeededRandom") (ga : n0 ≤ aa) :
    MetFree l (⟨"com/example/dualfit/dualfit/allocation/SeededRandom", "nextLong", "()J"⟩ : MethodName) (head1 (Jvm.Cond.code (⟨"com/example/dualfit/dualfit/allocation/SeededRandom", "nextLong", "()J"⟩ : MethodName) prog_18_method_5_code 3 (some .long) :: ws) ({ frames := 0, cells := 0, slots := 0, locals := 0 } : Room)) (fun a U => a = #[(.ref aa)] ∧ Z.Warmed39 U.vm ∧ U.heap = h0) (fun _ _ _ _ _ => True) (fun _ U o U' => ∃ v L, o = .returned v ∧ Q_rm_nextLong Z aa sd h0 n0 v U'.heap L ∧ FrameEnd U o U' L ({ frames := 0, cells := 0, slots := 0, locals := 0 } : Room).cells ({ frames := 0, cells := 0, slots := 0, locals := 0 } : Room).slots) := by
  refine MetFree.of_bodySF (plainFor_of_name pn_com_example_dualfit_dualfit_allocation_SeededRandom) hisR ?_
  intro p e s m args below meth c s₁ Bd hml0 hP hK
  obtain ⟨rfl, hZ, hh⟩ := hP
  have hx := Bd.exec
  have hby := Bd.bytes
  have hml : c.maxLocals = 3 := hml0
  have hown : s.vm.findClass "com/example/dualfit/dualfit/allocation/SeededRandom" = some m.cls := findClass_of_methodNamed Bd.named
  have hnm := (name_of_methodNamed Bd.named Bd.method).1
  have X0 : Stand p l e ({ frames := 0, cells := 0, slots := 0, locals := 0 } : Room) s m #[(.ref aa)] below meth c s₁ [] 0 0 := Stand.of_body Bd
  have e0 : s₁.heap = h0 := by rw [← hh, Bd.state]; rfl
  have N0 := Fr.nil n0
  have K00 : Keep h0 h0 [aa] := Keep.refl _ _
  have hlk0 : meth.locks = false := by first | assumption | exact BodyLoose.notSynchronized (by assumption) | exact Body.notSynchronized (by assumption)
  show Rch p e below s₁ (entryFrame m #[(.ref aa)] 3) (Fin s (Q_rm_nextLong Z aa sd h0 n0) 0 0)
  refine Rch.cast (ef_rm_nextLong m aa sd) ?_
  show Rch p e below s₁ (mkF m 0 #[.val (.ref aa), .unset, .unset] []) _
  refine Rch.st (fun _ k => XS.aloadN X0.here hx rfl (hb hby d_prog_18_method_5_code_0) rfl rfl k) ?_
  show Rch p e below s₁ (mkF m 1 #[.val (.ref aa), .unset, .unset] [(.ref aa)]) _
  refine Rch.st (fun _ k => XS.dup X0.here hx rfl (hb hby d_prog_18_method_5_code_1) rfl rfl k) ?_
  show Rch p e below s₁ (mkF m 2 #[.val (.ref aa), .unset, .unset] [(.ref aa), (.ref aa)]) _
  obtain ⟨T8, X8, e8, st8⟩ := getF X0 hx hZ hown (host := "") (Or.inl (hw _ (List.mem_of_getElem? (i := 10) rfl))) Via.refl e0 f0 (g := (mkF m 2 #[.val (.ref aa), .unset, .unset] [(.ref aa), (.ref aa)])) rfl rfl (hb hby d_prog_18_method_5_code_2)
  refine Rch.st (fun _ k => st8 _ k) ?_
  show Rch p e below T8 (mkF m 5 #[.val (.ref aa), .unset, .unset] [(.long sd), (.ref aa)]) _
  refine Rch.st (fun _ k => Stand.ldc2J X8 hx hown (mv hZ (hw _ (List.mem_of_getElem? (i := 21) rfl))) rfl (hb hby d_prog_18_method_5_code_5) k) ?_
  show Rch p e below T8 (mkF m 8 #[.val (.ref aa), .unset, .unset] [(.long (-7046029254386353131 : Int64)), (.long sd), (.ref aa)]) _
  refine Rch.st (fun _ k => XT.ladd X8.here hx rfl (hb hby d_prog_18_method_5_code_8) rfl k) ?_
  show Rch p e below T8 (mkF m 9 #[.val (.ref aa), .unset, .unset] [(.long (sd + (-7046029254386353131 : Int64))), (.ref aa)]) _
  obtain ⟨T9, h9, X9, e9, W9, st9⟩ := putF X8 hx hZ hown (host := "") (Or.inl (hw _ (List.mem_of_getElem? (i := 10) rfl))) Via.refl e8 f0 f1 (Or.inl (hw _ (List.mem_of_getElem? (i := 11) rfl))) (hw _ (List.mem_of_getElem? (i := 2) rfl)) (ty := .long) (by decide) rfl rfl (g := (mkF m 9 #[.val (.ref aa), .unset, .unset] [(.long (sd + (-7046029254386353131 : Int64))), (.ref aa)])) rfl rfl (hb hby d_prog_18_method_5_code_9)
  have N10 := Fr.snoc X9 N0 ga
  have f11 : Fld Z h9 aa "com/example/dualfit/dualfit/allocation/SeededRandom" "state" "J" (.long (sd + (-7046029254386353131 : Int64))) := f0.same W9
  have f12 : Exa Z h9 aa "com/example/dualfit/dualfit/allocation/SeededRandom" := f1.wr W9
  have Z13 := Nat.le_trans Z0 (Keep.of_wr W9).1
  have Kp14 : Keep h0 h9 [aa] := K00.wr W9 (Or.inl (List.mem_of_getElem? (i := 0) rfl))
  refine Rch.st (fun _ k => st9 _ k) ?_
  show Rch p e below T9 (mkF m 12 #[.val (.ref aa), .unset, .unset] []) _
  refine Rch.st (fun _ k => XS.aloadN X9.here hx rfl (hb hby d_prog_18_method_5_code_12) rfl rfl k) ?_
  show Rch p e below T9 (mkF m 13 #[.val (.ref aa), .unset, .unset] [(.ref aa)]) _
  obtain ⟨T15, X15, e15, st15⟩ := getF X9 hx hZ hown (host := "") (Or.inl (hw _ (List.mem_of_getElem? (i := 10) rfl))) Via.refl e9 f11 (g := (mkF m 13 #[.val (.ref aa), .unset, .unset] [(.ref aa)])) rfl rfl (hb hby d_prog_18_method_5_code_13)
  refine Rch.st (fun _ k => st15 _ k) ?_
  show Rch p e below T15 (mkF m 16 #[.val (.ref aa), .unset, .unset] [(.long (sd + (-7046029254386353131 : Int64)))]) _
  refine Rch.st (fun _ k => XT.lstoreN X15.here hx rfl (hb hby d_prog_18_method_5_code_16) rfl (l' := #[.val (.ref aa), .val (.long (sd + (-7046029254386353131 : Int64))), .second]) rfl k) ?_
  show Rch p e below T15 (mkF m 17 #[.val (.ref aa), .val (.long (sd + (-7046029254386353131 : Int64))), .second] []) _
  refine Rch.st (fun _ k => XT.lloadN X15.here hx rfl (hb hby d_prog_18_method_5_code_17) rfl k) ?_
  show Rch p e below T15 (mkF m 18 #[.val (.ref aa), .val (.long (sd + (-7046029254386353131 : Int64))), .second] [(.long (sd + (-7046029254386353131 : Int64)))]) _
  refine Rch.st (fun _ k => XT.lloadN X15.here hx rfl (hb hby d_prog_18_method_5_code_18) rfl k) ?_
  show Rch p e below T15 (mkF m 19 #[.val (.ref aa), .val (.long (sd + (-7046029254386353131 : Int64))), .second] [(.long (sd + (-7046029254386353131 : Int64))), (.long (sd + (-7046029254386353131 : Int64)))]) _
  refine Rch.st (fun _ k => XS.bipush X15.here hx rfl (hb hby d_prog_18_method_5_code_19) k) ?_
  show Rch p e below T15 (mkF m 21 #[.val (.ref aa), .val (.long (sd + (-7046029254386353131 : Int64))), .second] [(.int (30 : Int32)), (.long (sd + (-7046029254386353131 : Int64))), (.long (sd + (-7046029254386353131 : Int64)))]) _
  refine Rch.st (fun _ k => XT.lushr X15.here hx rfl (hb hby d_prog_18_method_5_code_21) rfl k) ?_
  show Rch p e below T15 (mkF m 22 #[.val (.ref aa), .val (.long (sd + (-7046029254386353131 : Int64))), .second] [(.long (XT.ushrL (sd + (-7046029254386353131 : Int64)) (30 : Int32))), (.long (sd + (-7046029254386353131 : Int64)))]) _
  refine Rch.st (fun _ k => XT.lxor X15.here hx rfl (hb hby d_prog_18_method_5_code_22) rfl k) ?_
  show Rch p e below T15 (mkF m 23 #[.val (.ref aa), .val (.long (sd + (-7046029254386353131 : Int64))), .second] [(.long ((sd + (-7046029254386353131 : Int64)) ^^^ (XT.ushrL (sd + (-7046029254386353131 : Int64)) (30 : Int32))))]) _
  refine Rch.st (fun _ k => Stand.ldc2J X15 hx hown (mv hZ (hw _ (List.mem_of_getElem? (i := 22) rfl))) rfl (hb hby d_prog_18_method_5_code_23) k) ?_
  show Rch p e below T15 (mkF m 26 #[.val (.ref aa), .val (.long (sd + (-7046029254386353131 : Int64))), .second] [(.long (-4658895280553007687 : Int64)), (.long ((sd + (-7046029254386353131 : Int64)) ^^^ (XT.ushrL (sd + (-7046029254386353131 : Int64)) (30 : Int32))))]) _
  refine Rch.st (fun _ k => XT.lmul X15.here hx rfl (hb hby d_prog_18_method_5_code_26) rfl k) ?_
  show Rch p e below T15 (mkF m 27 #[.val (.ref aa), .val (.long (sd + (-7046029254386353131 : Int64))), .second] [(.long (((sd + (-7046029254386353131 : Int64)) ^^^ (XT.ushrL (sd + (-7046029254386353131 : Int64)) (30 : Int32))) * (-4658895280553007687 : Int64)))]) _
  refine Rch.st (fun _ k => XT.lstoreN X15.here hx rfl (hb hby d_prog_18_method_5_code_27) rfl (l' := #[.val (.ref aa), .val (.long (((sd + (-7046029254386353131 : Int64)) ^^^ (XT.ushrL (sd + (-7046029254386353131 : Int64)) (30 : Int32))) * (-4658895280553007687 : Int64))), .second]) rfl k) ?_
  show Rch p e below T15 (mkF m 28 #[.val (.ref aa), .val (.long (((sd + (-7046029254386353131 : Int64)) ^^^ (XT.ushrL (sd + (-7046029254386353131 : Int64)) (30 : Int32))) * (-4658895280553007687 : Int64))), .second] []) _
  refine Rch.st (fun _ k => XT.lloadN X15.here hx rfl (hb hby d_prog_18_method_5_code_28) rfl k) ?_
  show Rch p e below T15 (mkF m 29 #[.val (.ref aa), .val (.long (((sd + (-7046029254386353131 : Int64)) ^^^ (XT.ushrL (sd + (-7046029254386353131 : Int64)) (30 : Int32))) * (-4658895280553007687 : Int64))), .second] [(.long (((sd + (-7046029254386353131 : Int64)) ^^^ (XT.ushrL (sd + (-7046029254386353131 : Int64)) (30 : Int32))) * (-4658895280553007687 : Int64)))]) _
  refine Rch.st (fun _ k => XT.lloadN X15.here hx rfl (hb hby d_prog_18_method_5_code_29) rfl k) ?_
  show Rch p e below T15 (mkF m 30 #[.val (.ref aa), .val (.long (((sd + (-7046029254386353131 : Int64)) ^^^ (XT.ushrL (sd + (-7046029254386353131 : Int64)) (30 : Int32))) * (-4658895280553007687 : Int64))), .second] [(.long (((sd + (-7046029254386353131 : Int64)) ^^^ (XT.ushrL (sd + (-7046029254386353131 : Int64)) (30 : Int32))) * (-4658895280553007687 : Int64))), (.long (((sd + (-7046029254386353131 : Int64)) ^^^ (XT.ushrL (sd + (-7046029254386353131 : Int64)) (30 : Int32))) * (-4658895280553007687 : Int64)))]) _
  refine Rch.st (fun _ k => XS.bipush X15.here hx rfl (hb hby d_prog_18_method_5_code_30) k) ?_
  show Rch p e below T15 (mkF m 32 #[.val (.ref aa), .val (.long (((sd + (-7046029254386353131 : Int64)) ^^^ (XT.ushrL (sd + (-7046029254386353131 : Int64)) (30 : Int32))) * (-4658895280553007687 : Int64))), .second] [(.int (27 : Int32)), (.long (((sd + (-7046029254386353131 : Int64)) ^^^ (XT.ushrL (sd + (-7046029254386353131 : Int64)) (30 : Int32))) * (-4658895280553007687 : Int64))), (.long (((sd + (-7046029254386353131 : Int64)) ^^^ (XT.ushrL (sd + (-7046029254386353131 : Int64)) (30 : Int32))) * (-4658895280553007687 : Int64)))]) _
  refine Rch.st (fun _ k => XT.lushr X15.here hx rfl (hb hby d_prog_18_method_5_code_32) rfl k) ?_
  show Rch p e below T15 (mkF m 33 #[.val (.ref aa), .val (.long (((sd + (-7046029254386353131 : Int64)) ^^^ (XT.ushrL (sd + (-7046029254386353131 : Int64)) (30 : Int32))) * (-4658895280553007687 : Int64))), .second] [(.long (XT.ushrL (((sd + (-7046029254386353131 : Int64)) ^^^ (XT.ushrL (sd + (-7046029254386353131 : Int64)) (30 : Int32))) * (-4658895280553007687 : Int64)) (27 : Int32))), (.long (((sd + (-7046029254386353131 : Int64)) ^^^ (XT.ushrL (sd + (-7046029254386353131 : Int64)) (30 : Int32))) * (-4658895280553007687 : Int64)))]) _
  refine Rch.st (fun _ k => XT.lxor X15.here hx rfl (hb hby d_prog_18_method_5_code_33) rfl k) ?_
  show Rch p e below T15 (mkF m 34 #[.val (.ref aa), .val (.long (((sd + (-7046029254386353131 : Int64)) ^^^ (XT.ushrL (sd + (-7046029254386353131 : Int64)) (30 : Int32))) * (-4658895280553007687 : Int64))), .second] [(.long ((((sd + (-7046029254386353131 : Int64)) ^^^ (XT.ushrL (sd + (-7046029254386353131 : Int64)) (30 : Int32))) * (-4658895280553007687 : Int64)) ^^^ (XT.ushrL (((sd + (-7046029254386353131 : Int64)) ^^^ (XT.ushrL (sd + (-7046029254386353131 : Int64)) (30 : Int32))) * (-4658895280553007687 : Int64)) (27 : Int32))))]) _
  refine Rch.st (fun _ k => Stand.ldc2J X15 hx hown (mv hZ (hw _ (List.mem_of_getElem? (i := 23) rfl))) rfl (hb hby d_prog_18_method_5_code_34) k) ?_
  show Rch p e below T15 (mkF m 37 #[.val (.ref aa), .val (.long (((sd + (-7046029254386353131 : Int64)) ^^^ (XT.ushrL (sd + (-7046029254386353131 : Int64)) (30 : Int32))) * (-4658895280553007687 : Int64))), .second] [(.long (-7723592293110705685 : Int64)), (.long ((((sd + (-7046029254386353131 : Int64)) ^^^ (XT.ushrL (sd + (-7046029254386353131 : Int64)) (30 : Int32))) * (-4658895280553007687 : Int64)) ^^^ (XT.ushrL (((sd + (-7046029254386353131 : Int64)) ^^^ (XT.ushrL (sd + (-7046029254386353131 : Int64)) (30 : Int32))) * (-4658895280553007687 : Int64)) (27 : Int32))))]) _
  refine Rch.st (fun _ k => XT.lmul X15.here hx rfl (hb hby d_prog_18_method_5_code_37) rfl k) ?_
  show Rch p e below T15 (mkF m 38 #[.val (.ref aa), .val (.long (((sd + (-7046029254386353131 : Int64)) ^^^ (XT.ushrL (sd + (-7046029254386353131 : Int64)) (30 : Int32))) * (-4658895280553007687 : Int64))), .second] [(.long (((((sd + (-7046029254386353131 : Int64)) ^^^ (XT.ushrL (sd + (-7046029254386353131 : Int64)) (30 : Int32))) * (-4658895280553007687 : Int64)) ^^^ (XT.ushrL (((sd + (-7046029254386353131 : Int64)) ^^^ (XT.ushrL (sd + (-7046029254386353131 : Int64)) (30 : Int32))) * (-4658895280553007687 : Int64)) (27 : Int32))) * (-7723592293110705685 : Int64)))]) _
  refine Rch.st (fun _ k => XT.lstoreN X15.here hx rfl (hb hby d_prog_18_method_5_code_38) rfl (l' := #[.val (.ref aa), .val (.long (((((sd + (-7046029254386353131 : Int64)) ^^^ (XT.ushrL (sd + (-7046029254386353131 : Int64)) (30 : Int32))) * (-4658895280553007687 : Int64)) ^^^ (XT.ushrL (((sd + (-7046029254386353131 : Int64)) ^^^ (XT.ushrL (sd + (-7046029254386353131 : Int64)) (30 : Int32))) * (-4658895280553007687 : Int64)) (27 : Int32))) * (-7723592293110705685 : Int64))), .second]) rfl k) ?_
  show Rch p e below T15 (mkF m 39 #[.val (.ref aa), .val (.long (((((sd + (-7046029254386353131 : Int64)) ^^^ (XT.ushrL (sd + (-7046029254386353131 : Int64)) (30 : Int32))) * (-4658895280553007687 : Int64)) ^^^ (XT.ushrL (((sd + (-7046029254386353131 : Int64)) ^^^ (XT.ushrL (sd + (-7046029254386353131 : Int64)) (30 : Int32))) * (-4658895280553007687 : Int64)) (27 : Int32))) * (-7723592293110705685 : Int64))), .second] []) _
  refine Rch.st (fun _ k => XT.lloadN X15.here hx rfl (hb hby d_prog_18_method_5_code_39) rfl k) ?_
  show Rch p e below T15 (mkF m 40 #[.val (.ref aa), .val (.long (((((sd + (-7046029254386353131 : Int64)) ^^^ (XT.ushrL (sd + (-7046029254386353131 : Int64)) (30 : Int32))) * (-4658895280553007687 : Int64)) ^^^ (XT.ushrL (((sd + (-7046029254386353131 : Int64)) ^^^ (XT.ushrL (sd + (-7046029254386353131 : Int64)) (30 : Int32))) * (-4658895280553007687 : Int64)) (27 : Int32))) * (-7723592293110705685 : Int64))), .second] [(.long (((((sd + (-7046029254386353131 : Int64)) ^^^ (XT.ushrL (sd + (-7046029254386353131 : Int64)) (30 : Int32))) * (-4658895280553007687 : Int64)) ^^^ (XT.ushrL (((sd + (-7046029254386353131 : Int64)) ^^^ (XT.ushrL (sd + (-7046029254386353131 : Int64)) (30 : Int32))) * (-4658895280553007687 : Int64)) (27 : Int32))) * (-7723592293110705685 : Int64)))]) _
  refine Rch.st (fun _ k => XT.lloadN X15.here hx rfl (hb hby d_prog_18_method_5_code_40) rfl k) ?_
  show Rch p e below T15 (mkF m 41 #[.val (.ref aa), .val (.long (((((sd + (-7046029254386353131 : Int64)) ^^^ (XT.ushrL (sd + (-7046029254386353131 : Int64)) (30 : Int32))) * (-4658895280553007687 : Int64)) ^^^ (XT.ushrL (((sd + (-7046029254386353131 : Int64)) ^^^ (XT.ushrL (sd + (-7046029254386353131 : Int64)) (30 : Int32))) * (-4658895280553007687 : Int64)) (27 : Int32))) * (-7723592293110705685 : Int64))), .second] [(.long (((((sd + (-7046029254386353131 : Int64)) ^^^ (XT.ushrL (sd + (-7046029254386353131 : Int64)) (30 : Int32))) * (-4658895280553007687 : Int64)) ^^^ (XT.ushrL (((sd + (-7046029254386353131 : Int64)) ^^^ (XT.ushrL (sd + (-7046029254386353131 : Int64)) (30 : Int32))) * (-4658895280553007687 : Int64)) (27 : Int32))) * (-7723592293110705685 : Int64))), (.long (((((sd + (-7046029254386353131 : Int64)) ^^^ (XT.ushrL (sd + (-7046029254386353131 : Int64)) (30 : Int32))) * (-4658895280553007687 : Int64)) ^^^ (XT.ushrL (((sd + (-7046029254386353131 : Int64)) ^^^ (XT.ushrL (sd + (-7046029254386353131 : Int64)) (30 : Int32))) * (-4658895280553007687 : Int64)) (27 : Int32))) * (-7723592293110705685 : Int64)))]) _
  refine Rch.st (fun _ k => XS.bipush X15.here hx rfl (hb hby d_prog_18_method_5_code_41) k) ?_
  show Rch p e below T15 (mkF m 43 #[.val (.ref aa), .val (.long (((((sd + (-7046029254386353131 : Int64)) ^^^ (XT.ushrL (sd + (-7046029254386353131 : Int64)) (30 : Int32))) * (-4658895280553007687 : Int64)) ^^^ (XT.ushrL (((sd + (-7046029254386353131 : Int64)) ^^^ (XT.ushrL (sd + (-7046029254386353131 : Int64)) (30 : Int32))) * (-4658895280553007687 : Int64)) (27 : Int32))) * (-7723592293110705685 : Int64))), .second] [(.int (31 : Int32)), (.long (((((sd + (-7046029254386353131 : Int64)) ^^^ (XT.ushrL (sd + (-7046029254386353131 : Int64)) (30 : Int32))) * (-4658895280553007687 : Int64)) ^^^ (XT.ushrL (((sd + (-7046029254386353131 : Int64)) ^^^ (XT.ushrL (sd + (-7046029254386353131 : Int64)) (30 : Int32))) * (-4658895280553007687 : Int64)) (27 : Int32))) * (-7723592293110705685 : Int64))), (.long (((((sd + (-7046029254386353131 : Int64)) ^^^ (XT.ushrL (sd + (-7046029254386353131 : Int64)) (30 : Int32))) * (-4658895280553007687 : Int64)) ^^^ (XT.ushrL (((sd + (-7046029254386353131 : Int64)) ^^^ (XT.ushrL (sd + (-7046029254386353131 : Int64)) (30 : Int32))) * (-4658895280553007687 : Int64)) (27 : Int32))) * (-7723592293110705685 : Int64)))]) _
  refine Rch.st (fun _ k => XT.lushr X15.here hx rfl (hb hby d_prog_18_method_5_code_43) rfl k) ?_
  show Rch p e below T15 (mkF m 44 #[.val (.ref aa), .val (.long (((((sd + (-7046029254386353131 : Int64)) ^^^ (XT.ushrL (sd + (-7046029254386353131 : Int64)) (30 : Int32))) * (-4658895280553007687 : Int64)) ^^^ (XT.ushrL (((sd + (-7046029254386353131 : Int64)) ^^^ (XT.ushrL (sd + (-7046029254386353131 : Int64)) (30 : Int32))) * (-4658895280553007687 : Int64)) (27 : Int32))) * (-7723592293110705685 : Int64))), .second] [(.long (XT.ushrL (((((sd + (-7046029254386353131 : Int64)) ^^^ (XT.ushrL (sd + (-7046029254386353131 : Int64)) (30 : Int32))) * (-4658895280553007687 : Int64)) ^^^ (XT.ushrL (((sd + (-7046029254386353131 : Int64)) ^^^ (XT.ushrL (sd + (-7046029254386353131 : Int64)) (30 : Int32))) * (-4658895280553007687 : Int64)) (27 : Int32))) * (-7723592293110705685 : Int64)) (31 : Int32))), (.long (((((sd + (-7046029254386353131 : Int64)) ^^^ (XT.ushrL (sd + (-7046029254386353131 : Int64)) (30 : Int32))) * (-4658895280553007687 : Int64)) ^^^ (XT.ushrL (((sd + (-7046029254386353131 : Int64)) ^^^ (XT.ushrL (sd + (-7046029254386353131 : Int64)) (30 : Int32))) * (-4658895280553007687 : Int64)) (27 : Int32))) * (-7723592293110705685 : Int64)))]) _
  refine Rch.st (fun _ k => XT.lxor X15.here hx rfl (hb hby d_prog_18_method_5_code_44) rfl k) ?_
  show Rch p e below T15 (mkF m 45 #[.val (.ref aa), .val (.long (((((sd + (-7046029254386353131 : Int64)) ^^^ (XT.ushrL (sd + (-7046029254386353131 : Int64)) (30 : Int32))) * (-4658895280553007687 : Int64)) ^^^ (XT.ushrL (((sd + (-7046029254386353131 : Int64)) ^^^ (XT.ushrL (sd + (-7046029254386353131 : Int64)) (30 : Int32))) * (-4658895280553007687 : Int64)) (27 : Int32))) * (-7723592293110705685 : Int64))), .second] [(.long ((((((sd + (-7046029254386353131 : Int64)) ^^^ (XT.ushrL (sd + (-7046029254386353131 : Int64)) (30 : Int32))) * (-4658895280553007687 : Int64)) ^^^ (XT.ushrL (((sd + (-7046029254386353131 : Int64)) ^^^ (XT.ushrL (sd + (-7046029254386353131 : Int64)) (30 : Int32))) * (-4658895280553007687 : Int64)) (27 : Int32))) * (-7723592293110705685 : Int64)) ^^^ (XT.ushrL (((((sd + (-7046029254386353131 : Int64)) ^^^ (XT.ushrL (sd + (-7046029254386353131 : Int64)) (30 : Int32))) * (-4658895280553007687 : Int64)) ^^^ (XT.ushrL (((sd + (-7046029254386353131 : Int64)) ^^^ (XT.ushrL (sd + (-7046029254386353131 : Int64)) (30 : Int32))) * (-4658895280553007687 : Int64)) (27 : Int32))) * (-7723592293110705685 : Int64)) (31 : Int32))))]) _
  exact Rch.retV X15 hx Bd.returns rfl (Or.inr (Or.inl ⟨rfl, rfl, _, rfl⟩)) (hb hby d_prog_18_method_5_code_45) (by rw [e15]; exact ⟨rfl, N10, Kp14, f11⟩) (by decide) (by decide)

theorem d_prog_18_method_4_code_0 : decode prog_18_method_4_code 0 = .ok (.aload_n 0, 1) := by decide +kernel
theorem d_prog_18_method_4_code_1 : decode prog_18_method_4_code 1 = .ok (.invokevirtual 21, 3) := by decide +kernel
theorem d_prog_18_method_4_code_4 : decode prog_18_method_4_code 4 = .ok (.bipush 11, 2) := by decide +kernel
theorem d_prog_18_method_4_code_6 : decode prog_18_method_4_code 6 = .ok (.lushr, 1) := by decide +kernel
theorem d_prog_18_method_4_code_7 : decode prog_18_method_4_code 7 = .ok (.l2d, 1) := by decide +kernel
theorem d_prog_18_method_4_code_8 : decode prog_18_method_4_code 8 = .ok (.ldc2_w 25, 3) := by decide +kernel
theorem d_prog_18_method_4_code_11 : decode prog_18_method_4_code 11 = .ok (.dmul, 1) := by decide +kernel
theorem d_prog_18_method_4_code_12 : decode prog_18_method_4_code 12 = .ok (.dreturn, 1) := by decide +kernel
theorem ef_rm_nextDouble (m : MethodId) (aa : Addr) (sd : Int64)  : entryFrame m #[(.ref aa)] 1 = mkF m 0 #[.val (.ref aa)] [] := by  first | rfl | (simp [entryFrame, mkF, argsToLocals, Value.category, maxLocals]; done)
def Q_rm_nextDouble (Z : State) (aa : Addr) (sd : Int64) (h0 : Heap) (n0 : Nat) (v : Option Value) (h : Heap) (L : List Loc) : Prop := (v = some (.double (own_dbl (sd + (-7046029254386353131 : Int64))))) ∧ (Fr n0 L) ∧ (Keep h0 h [aa]) ∧ (Fld Z h aa "com/example/dualfit/dualfit/allocation/SeededRandom" "state" "J" (.long (sd + (-7046029254386353131 : Int64))))
theorem pd___J : parseMethodDescriptor "()J" = some ⟨[], (some .long)⟩ := by decide +kernel
set_option maxRecDepth 65536 in
set_option maxHeartbeats 40000000 in
theorem rm_nextDouble (l : Launch) (Z : State) (a0 : Array Value) (hw : ∀ d ∈ tables_1, d.before a0 Z = true) (ws : List Jvm.Cond) (aa : Addr) (sd : Int64) (h0 : Heap) (n0 : Nat) (Z0 : n0 ≤ h0.size) (f0 : Fld Z h0 aa "com/example/dualfit/dualfit/allocation/SeededRandom" "state" "J" (.long sd)) (f1 : Exa Z h0 aa "com/example/dualfit/dualfit/allocation/SeededRandom") (ga : n0 ≤ aa) :
    MetFree l (⟨"com/example/dualfit/dualfit/allocation/SeededRandom", "nextDouble", "()D"⟩ : MethodName) (head1 (Jvm.Cond.code (⟨"com/example/dualfit/dualfit/allocation/SeededRandom", "nextDouble", "()D"⟩ : MethodName) prog_18_method_4_code 1 (some .double) :: ws) ({ frames := 1, cells := 0, slots := 0, locals := 14 } : Room)) (fun a U => a = #[(.ref aa)] ∧ Z.Warmed39 U.vm ∧ U.heap = h0) (fun _ _ _ _ _ => True) (fun _ U o U' => ∃ v L, o = .returned v ∧ Q_rm_nextDouble Z aa sd h0 n0 v U'.heap L ∧ FrameEnd U o U' L ({ frames := 1, cells := 0, slots := 0, locals := 14 } : Room).cells ({ frames := 1, cells := 0, slots := 0, locals := 14 } : Room).slots) := by
  refine MetFree.of_bodySF (plainFor_of_name pn_com_example_dualfit_dualfit_allocation_SeededRandom) hisR ?_
  intro p e s m args below meth c s₁ Bd hml0 hP hK
  obtain ⟨rfl, hZ, hh⟩ := hP
  have hx := Bd.exec
  have hby := Bd.bytes
  have hml : c.maxLocals = 1 := hml0
  have hown : s.vm.findClass "com/example/dualfit/dualfit/allocation/SeededRandom" = some m.cls := findClass_of_methodNamed Bd.named
  have hnm := (name_of_methodNamed Bd.named Bd.method).1
  have X0 : Stand p l e ({ frames := 1, cells := 0, slots := 0, locals := 14 } : Room) s m #[(.ref aa)] below meth c s₁ [] 0 0 := Stand.of_body Bd
  have e0 : s₁.heap = h0 := by rw [← hh, Bd.state]; rfl
  have N0 := Fr.nil n0
  have K00 : Keep h0 h0 [aa] := Keep.refl _ _
  have hlk0 : meth.locks = false := by first | assumption | exact BodyLoose.notSynchronized (by assumption) | exact Body.notSynchronized (by assumption)
  show Rch p e below s₁ (entryFrame m #[(.ref aa)] 1) (Fin s (Q_rm_nextDouble Z aa sd h0 n0) 0 0)
  refine Rch.cast (ef_rm_nextDouble m aa sd) ?_
  show Rch p e below s₁ (mkF m 0 #[.val (.ref aa)] []) _
  refine Rch.st (fun _ k => XS.aloadN X0.here hx rfl (hb hby d_prog_18_method_4_code_0) rfl rfl k) ?_
  show Rch p e below s₁ (mkF m 1 #[.val (.ref aa)] [(.ref aa)]) _
  obtain ⟨cq16, q16a, q16b⟩ := f1.cell
  obtain ⟨_, _, ⟨T16, L16, k16, n16⟩, -, X16, ⟨Lc16, hQ16, l16, y16, z16⟩, st16⟩ := X0.privateBack hx (y := (⟨"com/example/dualfit/dualfit/allocation/SeededRandom", "nextLong", "()J"⟩ : MethodName)) hown (mvT hZ (hw _ (List.mem_of_getElem? (i := 17) rfl))) (mvT hZ (hw _ (List.mem_of_getElem? (i := 18) rfl))) (own_selP (mvT hZ (hw _ (List.mem_of_getElem? (i := 2) rfl))) (Cond.privateMethod_at (mvP hZ (hw _ (List.mem_of_getElem? (i := 19) rfl)) (args := #[]))) (mvT hZ (hw _ (List.mem_of_getElem? (i := 18) rfl))) (by decide)) (Cond.privateMethod_at (mvP hZ (hw _ (List.mem_of_getElem? (i := 19) rfl)) (args := #[]))) (mvT hZ (hw _ (List.mem_of_getElem? (i := 20) rfl))) (by decide) (backOf (W := 0) (rm_nextLong l Z a0 hw [] aa sd h0 n0 Z0 f0 f1 (ga)) hZ (hw _ (List.mem_of_getElem? (i := 20) rfl)) (hw _ (List.mem_of_getElem? (i := 3) rfl)) (by decide) (by decide)) (g := (mkF m 1 #[.val (.ref aa)] [(.ref aa)])) rfl (by rw [hml]; rfl) (Steps.refl _) (a := aa) (by rw [e0]; exact q16a) q16b (argsL := []) (rest := []) (lenOf pd___J rfl) rfl (by show 2 * 0 + _ ≤ _; exact Nat.le_of_eq rfl) (hb hby d_prog_18_method_4_code_1) (fun _ _ => ⟨rfl, e0, (by decide : 0 + 0 ≤ _), (by decide : 0 + 0 ≤ _)⟩)
  dsimp only [Pt.U, Pt.locs, Pt.cells, Pt.slots] at X16 l16 y16 z16 st16 hQ16
  subst l16 y16 z16
  obtain ⟨rfl, NQ16, K16, fq16_0⟩ := hQ16
  have N17 := Fr.app N0 NQ16
  have f18 : Exa Z T16.heap aa "com/example/dualfit/dualfit/allocation/SeededRandom" := f1.keep K16
  have Kp19 : Keep h0 T16.heap [aa] := K00.trans K16 (allS (Or.inl (List.mem_of_getElem? (i := 0) rfl)) all0)
  have Z20 := Nat.le_trans Z0 K16.1
  refine Rch.st (fun _ k => st16.trans k) ?_
  show Rch p e below T16 (mkF m 4 #[.val (.ref aa)] [(.long (own_mix (sd + (-7046029254386353131 : Int64))))]) _
  refine Rch.st (fun _ k => XS.bipush X16.here hx rfl (hb hby d_prog_18_method_4_code_4) k) ?_
  show Rch p e below T16 (mkF m 6 #[.val (.ref aa)] [(.int (11 : Int32)), (.long (own_mix (sd + (-7046029254386353131 : Int64))))]) _
  refine Rch.st (fun _ k => XT.lushr X16.here hx rfl (hb hby d_prog_18_method_4_code_6) rfl k) ?_
  show Rch p e below T16 (mkF m 7 #[.val (.ref aa)] [(.long (XT.ushrL (own_mix (sd + (-7046029254386353131 : Int64))) (11 : Int32)))]) _
  refine Rch.st (fun _ k => XS.l2dS X16.here hx rfl (hb hby d_prog_18_method_4_code_7) rfl rfl k) ?_
  show Rch p e below T16 (mkF m 8 #[.val (.ref aa)] [(.double (FP.l2d (XT.ushrL (own_mix (sd + (-7046029254386353131 : Int64))) (11 : Int32))))]) _
  refine Rch.st (fun _ k => ldc2D X16 hx hown (mv hZ (hw _ (List.mem_of_getElem? (i := 24) rfl))) rfl (hb hby d_prog_18_method_4_code_8) k) ?_
  show Rch p e below T16 (mkF m 11 #[.val (.ref aa)] [(.double (4368491638549381120 : UInt64)), (.double (FP.l2d (XT.ushrL (own_mix (sd + (-7046029254386353131 : Int64))) (11 : Int32))))]) _
  refine Rch.st (fun _ k => XS.dmulS X16.here hx rfl (hb hby d_prog_18_method_4_code_11) rfl (own_dbl_nn (sd + (-7046029254386353131 : Int64))) rfl k) ?_
  show Rch p e below T16 (mkF m 12 #[.val (.ref aa)] [(.double (FP.dmul (FP.l2d (XT.ushrL (own_mix (sd + (-7046029254386353131 : Int64))) (11 : Int32))) (4368491638549381120 : UInt64)))]) _
  have r21 : (FP.dmul (FP.l2d (XT.ushrL (own_mix (sd + (-7046029254386353131 : Int64))) (11 : Int32))) (4368491638549381120 : UInt64)) = (own_dbl (sd + (-7046029254386353131 : Int64))) := own_dbl_eq _
  rw [r21]
  show Rch p e below T16 (mkF m 12 #[.val (.ref aa)] [(.double (own_dbl (sd + (-7046029254386353131 : Int64))))]) _
  exact Rch.retV X16 hx Bd.returns rfl (Or.inr (Or.inr (Or.inl ⟨rfl, rfl, _, rfl⟩))) (hb hby d_prog_18_method_4_code_12) (by rw [(rfl : T16.heap = T16.heap)]; exact ⟨rfl, N17, Kp19, fq16_0⟩) (by decide) (by decide)

theorem d_method_2_code_0 : decode method_2_code 0 = .ok (.lload_n 0, 1) := by decide +kernel
theorem d_method_2_code_1 : decode method_2_code 1 = .ok (.lload_n 0, 1) := by decide +kernel
theorem d_method_2_code_2 : decode method_2_code 2 = .ok (.bipush 30, 2) := by decide +kernel
theorem d_method_2_code_4 : decode method_2_code 4 = .ok (.lushr, 1) := by decide +kernel
theorem d_method_2_code_5 : decode method_2_code 5 = .ok (.lxor, 1) := by decide +kernel
theorem d_method_2_code_6 : decode method_2_code 6 = .ok (.ldc2_w 7, 3) := by decide +kernel
theorem d_method_2_code_9 : decode method_2_code 9 = .ok (.lmul, 1) := by decide +kernel
theorem d_method_2_code_10 : decode method_2_code 10 = .ok (.lstore_n 0, 1) := by decide +kernel
theorem d_method_2_code_11 : decode method_2_code 11 = .ok (.lload_n 0, 1) := by decide +kernel
theorem d_method_2_code_12 : decode method_2_code 12 = .ok (.lload_n 0, 1) := by decide +kernel
theorem d_method_2_code_13 : decode method_2_code 13 = .ok (.bipush 27, 2) := by decide +kernel
theorem d_method_2_code_15 : decode method_2_code 15 = .ok (.lushr, 1) := by decide +kernel
theorem d_method_2_code_16 : decode method_2_code 16 = .ok (.lxor, 1) := by decide +kernel
theorem d_method_2_code_17 : decode method_2_code 17 = .ok (.ldc2_w 9, 3) := by decide +kernel
theorem d_method_2_code_20 : decode method_2_code 20 = .ok (.lmul, 1) := by decide +kernel
theorem d_method_2_code_21 : decode method_2_code 21 = .ok (.lstore_n 0, 1) := by decide +kernel
theorem d_method_2_code_22 : decode method_2_code 22 = .ok (.lload_n 0, 1) := by decide +kernel
theorem d_method_2_code_23 : decode method_2_code 23 = .ok (.lload_n 0, 1) := by decide +kernel
theorem d_method_2_code_24 : decode method_2_code 24 = .ok (.bipush 31, 2) := by decide +kernel
theorem d_method_2_code_26 : decode method_2_code 26 = .ok (.lushr, 1) := by decide +kernel
theorem d_method_2_code_27 : decode method_2_code 27 = .ok (.lxor, 1) := by decide +kernel
theorem d_method_2_code_28 : decode method_2_code 28 = .ok (.lreturn, 1) := by decide +kernel
theorem pn_com_example_dualfit_dualfit_allocation_SeededRandomNextDoublePinLaw : plainName "com/example/dualfit/dualfit/allocation/SeededRandomNextDoublePinLaw" = true := by first | (simp [plainName, overriddenIn]; done) | decide +kernel
theorem ef_rm_mix (m : MethodId) (z : Int64)  : entryFrame m #[(.long z)] 2 = mkF m 0 #[.val (.long z), .second] [] := by  first | rfl | (simp [entryFrame, mkF, argsToLocals, Value.category, maxLocals]; done)
def Q_rm_mix (Z : State) (z : Int64) (h0 : Heap) (n0 : Nat) (v : Option Value) (h : Heap) (L : List Loc) : Prop := (v = some (.long (own_mix z))) ∧ (Fr n0 L) ∧ (h = h0)
set_option maxRecDepth 65536 in
set_option maxHeartbeats 40000000 in
theorem rm_mix (l : Launch) (Z : State) (a0 : Array Value) (hw : ∀ d ∈ tables_1, d.before a0 Z = true) (ws : List Jvm.Cond) (z : Int64) (h0 : Heap) (n0 : Nat) (Z0 : n0 ≤ h0.size)  :
    MetFree l (⟨"com/example/dualfit/dualfit/allocation/SeededRandomNextDoublePinLaw", "splitMix", "(J)J"⟩ : MethodName) (head1 (Jvm.Cond.code (⟨"com/example/dualfit/dualfit/allocation/SeededRandomNextDoublePinLaw", "splitMix", "(J)J"⟩ : MethodName) method_2_code 2 (some .long) :: ws) ({ frames := 0, cells := 0, slots := 0, locals := 0 } : Room)) (fun a U => a = #[(.long z)] ∧ Z.Warmed39 U.vm ∧ U.heap = h0) (fun _ _ _ _ _ => True) (fun _ U o U' => ∃ v L, o = .returned v ∧ Q_rm_mix Z z h0 n0 v U'.heap L ∧ FrameEnd U o U' L ({ frames := 0, cells := 0, slots := 0, locals := 0 } : Room).cells ({ frames := 0, cells := 0, slots := 0, locals := 0 } : Room).slots) := by
  refine MetFree.of_bodySF (plainFor_of_name pn_com_example_dualfit_dualfit_allocation_SeededRandomNextDoublePinLaw) hisR ?_
  intro p e s m args below meth c s₁ Bd hml0 hP hK
  obtain ⟨rfl, hZ, hh⟩ := hP
  have hx := Bd.exec
  have hby := Bd.bytes
  have hml : c.maxLocals = 2 := hml0
  have hown : s.vm.findClass "com/example/dualfit/dualfit/allocation/SeededRandomNextDoublePinLaw" = some m.cls := findClass_of_methodNamed Bd.named
  have hnm := (name_of_methodNamed Bd.named Bd.method).1
  have X0 : Stand p l e ({ frames := 0, cells := 0, slots := 0, locals := 0 } : Room) s m #[(.long z)] below meth c s₁ [] 0 0 := Stand.of_body Bd
  have e0 : s₁.heap = h0 := by rw [← hh, Bd.state]; rfl
  have N0 := Fr.nil n0
  have K00 : Keep h0 h0 [] := Keep.refl _ _
  have hlk0 : meth.locks = false := by first | assumption | exact BodyLoose.notSynchronized (by assumption) | exact Body.notSynchronized (by assumption)
  show Rch p e below s₁ (entryFrame m #[(.long z)] 2) (Fin s (Q_rm_mix Z z h0 n0) 0 0)
  refine Rch.cast (ef_rm_mix m z) ?_
  show Rch p e below s₁ (mkF m 0 #[.val (.long z), .second] []) _
  refine Rch.st (fun _ k => XT.lloadN X0.here hx rfl (hb hby d_method_2_code_0) rfl k) ?_
  show Rch p e below s₁ (mkF m 1 #[.val (.long z), .second] [(.long z)]) _
  refine Rch.st (fun _ k => XT.lloadN X0.here hx rfl (hb hby d_method_2_code_1) rfl k) ?_
  show Rch p e below s₁ (mkF m 2 #[.val (.long z), .second] [(.long z), (.long z)]) _
  refine Rch.st (fun _ k => XS.bipush X0.here hx rfl (hb hby d_method_2_code_2) k) ?_
  show Rch p e below s₁ (mkF m 4 #[.val (.long z), .second] [(.int (30 : Int32)), (.long z), (.long z)]) _
  refine Rch.st (fun _ k => XT.lushr X0.here hx rfl (hb hby d_method_2_code_4) rfl k) ?_
  show Rch p e below s₁ (mkF m 5 #[.val (.long z), .second] [(.long (XT.ushrL z (30 : Int32))), (.long z)]) _
  refine Rch.st (fun _ k => XT.lxor X0.here hx rfl (hb hby d_method_2_code_5) rfl k) ?_
  show Rch p e below s₁ (mkF m 6 #[.val (.long z), .second] [(.long (z ^^^ (XT.ushrL z (30 : Int32))))]) _
  refine Rch.st (fun _ k => Stand.ldc2J X0 hx hown (mv hZ (hw _ (List.mem_of_getElem? (i := 32) rfl))) rfl (hb hby d_method_2_code_6) k) ?_
  show Rch p e below s₁ (mkF m 9 #[.val (.long z), .second] [(.long (-4658895280553007687 : Int64)), (.long (z ^^^ (XT.ushrL z (30 : Int32))))]) _
  refine Rch.st (fun _ k => XT.lmul X0.here hx rfl (hb hby d_method_2_code_9) rfl k) ?_
  show Rch p e below s₁ (mkF m 10 #[.val (.long z), .second] [(.long ((z ^^^ (XT.ushrL z (30 : Int32))) * (-4658895280553007687 : Int64)))]) _
  refine Rch.st (fun _ k => XT.lstoreN X0.here hx rfl (hb hby d_method_2_code_10) rfl (l' := #[.val (.long ((z ^^^ (XT.ushrL z (30 : Int32))) * (-4658895280553007687 : Int64))), .second]) rfl k) ?_
  show Rch p e below s₁ (mkF m 11 #[.val (.long ((z ^^^ (XT.ushrL z (30 : Int32))) * (-4658895280553007687 : Int64))), .second] []) _
  refine Rch.st (fun _ k => XT.lloadN X0.here hx rfl (hb hby d_method_2_code_11) rfl k) ?_
  show Rch p e below s₁ (mkF m 12 #[.val (.long ((z ^^^ (XT.ushrL z (30 : Int32))) * (-4658895280553007687 : Int64))), .second] [(.long ((z ^^^ (XT.ushrL z (30 : Int32))) * (-4658895280553007687 : Int64)))]) _
  refine Rch.st (fun _ k => XT.lloadN X0.here hx rfl (hb hby d_method_2_code_12) rfl k) ?_
  show Rch p e below s₁ (mkF m 13 #[.val (.long ((z ^^^ (XT.ushrL z (30 : Int32))) * (-4658895280553007687 : Int64))), .second] [(.long ((z ^^^ (XT.ushrL z (30 : Int32))) * (-4658895280553007687 : Int64))), (.long ((z ^^^ (XT.ushrL z (30 : Int32))) * (-4658895280553007687 : Int64)))]) _
  refine Rch.st (fun _ k => XS.bipush X0.here hx rfl (hb hby d_method_2_code_13) k) ?_
  show Rch p e below s₁ (mkF m 15 #[.val (.long ((z ^^^ (XT.ushrL z (30 : Int32))) * (-4658895280553007687 : Int64))), .second] [(.int (27 : Int32)), (.long ((z ^^^ (XT.ushrL z (30 : Int32))) * (-4658895280553007687 : Int64))), (.long ((z ^^^ (XT.ushrL z (30 : Int32))) * (-4658895280553007687 : Int64)))]) _
  refine Rch.st (fun _ k => XT.lushr X0.here hx rfl (hb hby d_method_2_code_15) rfl k) ?_
  show Rch p e below s₁ (mkF m 16 #[.val (.long ((z ^^^ (XT.ushrL z (30 : Int32))) * (-4658895280553007687 : Int64))), .second] [(.long (XT.ushrL ((z ^^^ (XT.ushrL z (30 : Int32))) * (-4658895280553007687 : Int64)) (27 : Int32))), (.long ((z ^^^ (XT.ushrL z (30 : Int32))) * (-4658895280553007687 : Int64)))]) _
  refine Rch.st (fun _ k => XT.lxor X0.here hx rfl (hb hby d_method_2_code_16) rfl k) ?_
  show Rch p e below s₁ (mkF m 17 #[.val (.long ((z ^^^ (XT.ushrL z (30 : Int32))) * (-4658895280553007687 : Int64))), .second] [(.long (((z ^^^ (XT.ushrL z (30 : Int32))) * (-4658895280553007687 : Int64)) ^^^ (XT.ushrL ((z ^^^ (XT.ushrL z (30 : Int32))) * (-4658895280553007687 : Int64)) (27 : Int32))))]) _
  refine Rch.st (fun _ k => Stand.ldc2J X0 hx hown (mv hZ (hw _ (List.mem_of_getElem? (i := 33) rfl))) rfl (hb hby d_method_2_code_17) k) ?_
  show Rch p e below s₁ (mkF m 20 #[.val (.long ((z ^^^ (XT.ushrL z (30 : Int32))) * (-4658895280553007687 : Int64))), .second] [(.long (-7723592293110705685 : Int64)), (.long (((z ^^^ (XT.ushrL z (30 : Int32))) * (-4658895280553007687 : Int64)) ^^^ (XT.ushrL ((z ^^^ (XT.ushrL z (30 : Int32))) * (-4658895280553007687 : Int64)) (27 : Int32))))]) _
  refine Rch.st (fun _ k => XT.lmul X0.here hx rfl (hb hby d_method_2_code_20) rfl k) ?_
  show Rch p e below s₁ (mkF m 21 #[.val (.long ((z ^^^ (XT.ushrL z (30 : Int32))) * (-4658895280553007687 : Int64))), .second] [(.long ((((z ^^^ (XT.ushrL z (30 : Int32))) * (-4658895280553007687 : Int64)) ^^^ (XT.ushrL ((z ^^^ (XT.ushrL z (30 : Int32))) * (-4658895280553007687 : Int64)) (27 : Int32))) * (-7723592293110705685 : Int64)))]) _
  refine Rch.st (fun _ k => XT.lstoreN X0.here hx rfl (hb hby d_method_2_code_21) rfl (l' := #[.val (.long ((((z ^^^ (XT.ushrL z (30 : Int32))) * (-4658895280553007687 : Int64)) ^^^ (XT.ushrL ((z ^^^ (XT.ushrL z (30 : Int32))) * (-4658895280553007687 : Int64)) (27 : Int32))) * (-7723592293110705685 : Int64))), .second]) rfl k) ?_
  show Rch p e below s₁ (mkF m 22 #[.val (.long ((((z ^^^ (XT.ushrL z (30 : Int32))) * (-4658895280553007687 : Int64)) ^^^ (XT.ushrL ((z ^^^ (XT.ushrL z (30 : Int32))) * (-4658895280553007687 : Int64)) (27 : Int32))) * (-7723592293110705685 : Int64))), .second] []) _
  refine Rch.st (fun _ k => XT.lloadN X0.here hx rfl (hb hby d_method_2_code_22) rfl k) ?_
  show Rch p e below s₁ (mkF m 23 #[.val (.long ((((z ^^^ (XT.ushrL z (30 : Int32))) * (-4658895280553007687 : Int64)) ^^^ (XT.ushrL ((z ^^^ (XT.ushrL z (30 : Int32))) * (-4658895280553007687 : Int64)) (27 : Int32))) * (-7723592293110705685 : Int64))), .second] [(.long ((((z ^^^ (XT.ushrL z (30 : Int32))) * (-4658895280553007687 : Int64)) ^^^ (XT.ushrL ((z ^^^ (XT.ushrL z (30 : Int32))) * (-4658895280553007687 : Int64)) (27 : Int32))) * (-7723592293110705685 : Int64)))]) _
  refine Rch.st (fun _ k => XT.lloadN X0.here hx rfl (hb hby d_method_2_code_23) rfl k) ?_
  show Rch p e below s₁ (mkF m 24 #[.val (.long ((((z ^^^ (XT.ushrL z (30 : Int32))) * (-4658895280553007687 : Int64)) ^^^ (XT.ushrL ((z ^^^ (XT.ushrL z (30 : Int32))) * (-4658895280553007687 : Int64)) (27 : Int32))) * (-7723592293110705685 : Int64))), .second] [(.long ((((z ^^^ (XT.ushrL z (30 : Int32))) * (-4658895280553007687 : Int64)) ^^^ (XT.ushrL ((z ^^^ (XT.ushrL z (30 : Int32))) * (-4658895280553007687 : Int64)) (27 : Int32))) * (-7723592293110705685 : Int64))), (.long ((((z ^^^ (XT.ushrL z (30 : Int32))) * (-4658895280553007687 : Int64)) ^^^ (XT.ushrL ((z ^^^ (XT.ushrL z (30 : Int32))) * (-4658895280553007687 : Int64)) (27 : Int32))) * (-7723592293110705685 : Int64)))]) _
  refine Rch.st (fun _ k => XS.bipush X0.here hx rfl (hb hby d_method_2_code_24) k) ?_
  show Rch p e below s₁ (mkF m 26 #[.val (.long ((((z ^^^ (XT.ushrL z (30 : Int32))) * (-4658895280553007687 : Int64)) ^^^ (XT.ushrL ((z ^^^ (XT.ushrL z (30 : Int32))) * (-4658895280553007687 : Int64)) (27 : Int32))) * (-7723592293110705685 : Int64))), .second] [(.int (31 : Int32)), (.long ((((z ^^^ (XT.ushrL z (30 : Int32))) * (-4658895280553007687 : Int64)) ^^^ (XT.ushrL ((z ^^^ (XT.ushrL z (30 : Int32))) * (-4658895280553007687 : Int64)) (27 : Int32))) * (-7723592293110705685 : Int64))), (.long ((((z ^^^ (XT.ushrL z (30 : Int32))) * (-4658895280553007687 : Int64)) ^^^ (XT.ushrL ((z ^^^ (XT.ushrL z (30 : Int32))) * (-4658895280553007687 : Int64)) (27 : Int32))) * (-7723592293110705685 : Int64)))]) _
  refine Rch.st (fun _ k => XT.lushr X0.here hx rfl (hb hby d_method_2_code_26) rfl k) ?_
  show Rch p e below s₁ (mkF m 27 #[.val (.long ((((z ^^^ (XT.ushrL z (30 : Int32))) * (-4658895280553007687 : Int64)) ^^^ (XT.ushrL ((z ^^^ (XT.ushrL z (30 : Int32))) * (-4658895280553007687 : Int64)) (27 : Int32))) * (-7723592293110705685 : Int64))), .second] [(.long (XT.ushrL ((((z ^^^ (XT.ushrL z (30 : Int32))) * (-4658895280553007687 : Int64)) ^^^ (XT.ushrL ((z ^^^ (XT.ushrL z (30 : Int32))) * (-4658895280553007687 : Int64)) (27 : Int32))) * (-7723592293110705685 : Int64)) (31 : Int32))), (.long ((((z ^^^ (XT.ushrL z (30 : Int32))) * (-4658895280553007687 : Int64)) ^^^ (XT.ushrL ((z ^^^ (XT.ushrL z (30 : Int32))) * (-4658895280553007687 : Int64)) (27 : Int32))) * (-7723592293110705685 : Int64)))]) _
  refine Rch.st (fun _ k => XT.lxor X0.here hx rfl (hb hby d_method_2_code_27) rfl k) ?_
  show Rch p e below s₁ (mkF m 28 #[.val (.long ((((z ^^^ (XT.ushrL z (30 : Int32))) * (-4658895280553007687 : Int64)) ^^^ (XT.ushrL ((z ^^^ (XT.ushrL z (30 : Int32))) * (-4658895280553007687 : Int64)) (27 : Int32))) * (-7723592293110705685 : Int64))), .second] [(.long (((((z ^^^ (XT.ushrL z (30 : Int32))) * (-4658895280553007687 : Int64)) ^^^ (XT.ushrL ((z ^^^ (XT.ushrL z (30 : Int32))) * (-4658895280553007687 : Int64)) (27 : Int32))) * (-7723592293110705685 : Int64)) ^^^ (XT.ushrL ((((z ^^^ (XT.ushrL z (30 : Int32))) * (-4658895280553007687 : Int64)) ^^^ (XT.ushrL ((z ^^^ (XT.ushrL z (30 : Int32))) * (-4658895280553007687 : Int64)) (27 : Int32))) * (-7723592293110705685 : Int64)) (31 : Int32))))]) _
  exact Rch.retV X0 hx Bd.returns rfl (Or.inr (Or.inl ⟨rfl, rfl, _, rfl⟩)) (hb hby d_method_2_code_28) (by rw [e0]; exact ⟨rfl, N0, rfl⟩) (by decide) (by decide)

theorem d_method_3_code_0 : decode method_3_code 0 = .ok (.lload_n 2, 1) := by decide +kernel
theorem d_method_3_code_1 : decode method_3_code 1 = .ok (.invokestatic 11, 3) := by decide +kernel
theorem d_method_3_code_4 : decode method_3_code 4 = .ok (.bipush 11, 2) := by decide +kernel
theorem d_method_3_code_6 : decode method_3_code 6 = .ok (.lushr, 1) := by decide +kernel
theorem d_method_3_code_7 : decode method_3_code 7 = .ok (.lstore 4, 2) := by decide +kernel
theorem d_method_3_code_9 : decode method_3_code 9 = .ok (.dload_n 0, 1) := by decide +kernel
theorem d_method_3_code_10 : decode method_3_code 10 = .ok (.dconst 0, 1) := by decide +kernel
theorem d_method_3_code_11 : decode method_3_code 11 = .ok (.dcmp .l, 1) := by decide +kernel
theorem d_method_3_code_12 : decode method_3_code 12 = .ok (.ifCond .lt 25, 3) := by decide +kernel
theorem d_method_3_code_15 : decode method_3_code 15 = .ok (.dload_n 0, 1) := by decide +kernel
theorem d_method_3_code_16 : decode method_3_code 16 = .ok (.dconst 1, 1) := by decide +kernel
theorem d_method_3_code_17 : decode method_3_code 17 = .ok (.dcmp .g, 1) := by decide +kernel
theorem d_method_3_code_18 : decode method_3_code 18 = .ok (.ifCond .ge 19, 3) := by decide +kernel
theorem d_method_3_code_21 : decode method_3_code 21 = .ok (.dload_n 0, 1) := by decide +kernel
theorem d_method_3_code_22 : decode method_3_code 22 = .ok (.ldc2_w 17, 3) := by decide +kernel
theorem d_method_3_code_25 : decode method_3_code 25 = .ok (.dmul, 1) := by decide +kernel
theorem d_method_3_code_26 : decode method_3_code 26 = .ok (.d2l, 1) := by decide +kernel
theorem d_method_3_code_27 : decode method_3_code 27 = .ok (.lload 4, 2) := by decide +kernel
theorem d_method_3_code_29 : decode method_3_code 29 = .ok (.lcmp, 1) := by decide +kernel
theorem d_method_3_code_30 : decode method_3_code 30 = .ok (.ifCond .ne 7, 3) := by decide +kernel
theorem d_method_3_code_33 : decode method_3_code 33 = .ok (.iconst 1, 1) := by decide +kernel
theorem d_method_3_code_34 : decode method_3_code 34 = .ok (.goto 4, 3) := by decide +kernel
theorem d_method_3_code_37 : decode method_3_code 37 = .ok (.iconst 0, 1) := by decide +kernel
theorem d_method_3_code_38 : decode method_3_code 38 = .ok (.ireturn, 1) := by decide +kernel
theorem ef_rm_draw (m : MethodId) (z : Int64)  : entryFrame m #[(.double (own_dbl z)), (.long z)] 6 = mkF m 0 #[.val (.double (own_dbl z)), .second, .val (.long z), .second, .unset, .unset] [] := by  first | rfl | (simp [entryFrame, mkF, argsToLocals, Value.category, maxLocals]; done)
def Q_rm_draw (Z : State) (z : Int64) (h0 : Heap) (n0 : Nat) (v : Option Value) (h : Heap) (L : List Loc) : Prop := (v = some (.int (1 : Int32))) ∧ (Fr n0 L) ∧ (h = h0)
theorem pd__J_J : parseMethodDescriptor "(J)J" = some ⟨[.long], (some .long)⟩ := by decide +kernel
set_option maxRecDepth 65536 in
set_option maxHeartbeats 40000000 in
theorem rm_draw (l : Launch) (Z : State) (a0 : Array Value) (hw : ∀ d ∈ tables_1, d.before a0 Z = true) (ws : List Jvm.Cond) (z : Int64) (h0 : Heap) (n0 : Nat) (Z0 : n0 ≤ h0.size)  :
    MetFree l (⟨"com/example/dualfit/dualfit/allocation/SeededRandomNextDoublePinLaw", "drawIs", "(DJ)Z"⟩ : MethodName) (head1 (Jvm.Cond.code (⟨"com/example/dualfit/dualfit/allocation/SeededRandomNextDoublePinLaw", "drawIs", "(DJ)Z"⟩ : MethodName) method_3_code 6 (some .boolean) :: ws) ({ frames := 1, cells := 0, slots := 0, locals := 13 } : Room)) (fun a U => a = #[(.double (own_dbl z)), (.long z)] ∧ Z.Warmed39 U.vm ∧ U.heap = h0) (fun _ _ _ _ _ => True) (fun _ U o U' => ∃ v L, o = .returned v ∧ Q_rm_draw Z z h0 n0 v U'.heap L ∧ FrameEnd U o U' L ({ frames := 1, cells := 0, slots := 0, locals := 13 } : Room).cells ({ frames := 1, cells := 0, slots := 0, locals := 13 } : Room).slots) := by
  refine MetFree.of_bodySF (plainFor_of_name pn_com_example_dualfit_dualfit_allocation_SeededRandomNextDoublePinLaw) hisR ?_
  intro p e s m args below meth c s₁ Bd hml0 hP hK
  obtain ⟨rfl, hZ, hh⟩ := hP
  have hx := Bd.exec
  have hby := Bd.bytes
  have hml : c.maxLocals = 6 := hml0
  have hown : s.vm.findClass "com/example/dualfit/dualfit/allocation/SeededRandomNextDoublePinLaw" = some m.cls := findClass_of_methodNamed Bd.named
  have hnm := (name_of_methodNamed Bd.named Bd.method).1
  have X0 : Stand p l e ({ frames := 1, cells := 0, slots := 0, locals := 13 } : Room) s m #[(.double (own_dbl z)), (.long z)] below meth c s₁ [] 0 0 := Stand.of_body Bd
  have e0 : s₁.heap = h0 := by rw [← hh, Bd.state]; rfl
  have N0 := Fr.nil n0
  have K00 : Keep h0 h0 [] := Keep.refl _ _
  have hlk0 : meth.locks = false := by first | assumption | exact BodyLoose.notSynchronized (by assumption) | exact Body.notSynchronized (by assumption)
  show Rch p e below s₁ (entryFrame m #[(.double (own_dbl z)), (.long z)] 6) (Fin s (Q_rm_draw Z z h0 n0) 0 0)
  refine Rch.cast (ef_rm_draw m z) ?_
  show Rch p e below s₁ (mkF m 0 #[.val (.double (own_dbl z)), .second, .val (.long z), .second, .unset, .unset] []) _
  refine Rch.st (fun _ k => XT.lloadN X0.here hx rfl (hb hby d_method_3_code_0) rfl k) ?_
  show Rch p e below s₁ (mkF m 1 #[.val (.double (own_dbl z)), .second, .val (.long z), .second, .unset, .unset] [(.long z)]) _
  obtain ⟨_, _, ⟨T22, L22, k22, n22⟩, -, X22, ⟨Lc22, hQ22, l22, y22, z22⟩, st22⟩ := Jvm.LawKit.callS X0 hx (y := (⟨"com/example/dualfit/dualfit/allocation/SeededRandomNextDoublePinLaw", "splitMix", "(J)J"⟩ : MethodName)) hown (mvT hZ (hw _ (List.mem_of_getElem? (i := 29) rfl))) (mvT hZ (hw _ (List.mem_of_getElem? (i := 30) rfl))) (mvT hZ (hw _ (List.mem_of_getElem? (i := 27) rfl))) (mvT hZ (hw _ (List.mem_of_getElem? (i := 31) rfl))) (by decide) (backOf (W := 0) (rm_mix l Z a0 hw [] z h0 n0 Z0 ) hZ (hw _ (List.mem_of_getElem? (i := 31) rfl)) (hw _ (List.mem_of_getElem? (i := 27) rfl)) (by decide) (by decide)) (g := (mkF m 1 #[.val (.double (own_dbl z)), .second, .val (.long z), .second, .unset, .unset] [(.long z)])) rfl (by rw [hml]; rfl) (argsL := [(.long z)]) (rest := []) (lenOf pd__J_J rfl) rfl (by show 2 * 0 + _ ≤ _; exact Nat.le_of_eq rfl) (hb hby d_method_3_code_1) (fun _ _ => ⟨rfl, e0, (by decide : 0 + 0 ≤ _), (by decide : 0 + 0 ≤ _)⟩)
  dsimp only [Pt.U, Pt.locs, Pt.cells, Pt.slots] at X22 l22 y22 z22 st22 hQ22
  subst l22 y22 z22
  obtain ⟨rfl, NQ22, K22⟩ := hQ22
  have N23 := Fr.app N0 NQ22
  refine Rch.st (fun _ k => st22 _ k) ?_
  show Rch p e below T22 (mkF m 4 #[.val (.double (own_dbl z)), .second, .val (.long z), .second, .unset, .unset] [(.long (own_mix z))]) _
  refine Rch.st (fun _ k => XS.bipush X22.here hx rfl (hb hby d_method_3_code_4) k) ?_
  show Rch p e below T22 (mkF m 6 #[.val (.double (own_dbl z)), .second, .val (.long z), .second, .unset, .unset] [(.int (11 : Int32)), (.long (own_mix z))]) _
  refine Rch.st (fun _ k => XT.lushr X22.here hx rfl (hb hby d_method_3_code_6) rfl k) ?_
  show Rch p e below T22 (mkF m 7 #[.val (.double (own_dbl z)), .second, .val (.long z), .second, .unset, .unset] [(.long (XT.ushrL (own_mix z) (11 : Int32)))]) _
  refine Rch.st (fun _ k => XT.lstore X22.here hx rfl (hb hby d_method_3_code_7) rfl (l' := #[.val (.double (own_dbl z)), .second, .val (.long z), .second, .val (.long (XT.ushrL (own_mix z) (11 : Int32))), .second]) rfl k) ?_
  show Rch p e below T22 (mkF m 9 #[.val (.double (own_dbl z)), .second, .val (.long z), .second, .val (.long (XT.ushrL (own_mix z) (11 : Int32))), .second] []) _
  refine Rch.st (fun _ k => XS.dloadN X22.here hx rfl (hb hby d_method_3_code_9) rfl k) ?_
  show Rch p e below T22 (mkF m 10 #[.val (.double (own_dbl z)), .second, .val (.long z), .second, .val (.long (XT.ushrL (own_mix z) (11 : Int32))), .second] [(.double (own_dbl z))]) _
  refine Rch.st (fun _ k => XS.dconst0 X22.here hx rfl (hb hby d_method_3_code_10) rfl k) ?_
  show Rch p e below T22 (mkF m 11 #[.val (.double (own_dbl z)), .second, .val (.long z), .second, .val (.long (XT.ushrL (own_mix z) (11 : Int32))), .second] [(.double (0 : UInt64)), (.double (own_dbl z))]) _
  refine Rch.st (fun _ k => XS.dcmpS X22.here hx rfl (hb hby d_method_3_code_11) rfl rfl k) ?_
  show Rch p e below T22 (mkF m 12 #[.val (.double (own_dbl z)), .second, .val (.long z), .second, .val (.long (XT.ushrL (own_mix z) (11 : Int32))), .second] [(.int (cmpValue (FP.dcmp (own_dbl z) (0 : UInt64)) .l))]) _
  refine Rch.st (fun _ k => XS.ifNo X22.here hx rfl (hb hby d_method_3_code_12) rfl (XT.i0_lt_f (own_dbl_ge0 z)) k) ?_
  show Rch p e below T22 (mkF m 15 #[.val (.double (own_dbl z)), .second, .val (.long z), .second, .val (.long (XT.ushrL (own_mix z) (11 : Int32))), .second] []) _
  refine Rch.st (fun _ k => XS.dloadN X22.here hx rfl (hb hby d_method_3_code_15) rfl k) ?_
  show Rch p e below T22 (mkF m 16 #[.val (.double (own_dbl z)), .second, .val (.long z), .second, .val (.long (XT.ushrL (own_mix z) (11 : Int32))), .second] [(.double (own_dbl z))]) _
  refine Rch.st (fun _ k => XS.dconst1 X22.here hx rfl (hb hby d_method_3_code_16) rfl k) ?_
  show Rch p e below T22 (mkF m 17 #[.val (.double (own_dbl z)), .second, .val (.long z), .second, .val (.long (XT.ushrL (own_mix z) (11 : Int32))), .second] [(.double (4607182418800017408 : UInt64)), (.double (own_dbl z))]) _
  refine Rch.st (fun _ k => XS.dcmpS X22.here hx rfl (hb hby d_method_3_code_17) rfl rfl k) ?_
  show Rch p e below T22 (mkF m 18 #[.val (.double (own_dbl z)), .second, .val (.long z), .second, .val (.long (XT.ushrL (own_mix z) (11 : Int32))), .second] [(.int (cmpValue (FP.dcmp (own_dbl z) (4607182418800017408 : UInt64)) .g))]) _
  refine Rch.st (fun _ k => XS.ifNo X22.here hx rfl (hb hby d_method_3_code_18) rfl (XT.i0_ge_f (own_dbl_lt1 z)) k) ?_
  show Rch p e below T22 (mkF m 21 #[.val (.double (own_dbl z)), .second, .val (.long z), .second, .val (.long (XT.ushrL (own_mix z) (11 : Int32))), .second] []) _
  refine Rch.st (fun _ k => XS.dloadN X22.here hx rfl (hb hby d_method_3_code_21) rfl k) ?_
  show Rch p e below T22 (mkF m 22 #[.val (.double (own_dbl z)), .second, .val (.long z), .second, .val (.long (XT.ushrL (own_mix z) (11 : Int32))), .second] [(.double (own_dbl z))]) _
  refine Rch.st (fun _ k => ldc2D X22 hx hown (mv hZ (hw _ (List.mem_of_getElem? (i := 34) rfl))) rfl (hb hby d_method_3_code_22) k) ?_
  show Rch p e below T22 (mkF m 25 #[.val (.double (own_dbl z)), .second, .val (.long z), .second, .val (.long (XT.ushrL (own_mix z) (11 : Int32))), .second] [(.double (4845873199050653696 : UInt64)), (.double (own_dbl z))]) _
  refine Rch.st (fun _ k => XS.dmulS X22.here hx rfl (hb hby d_method_3_code_25) rfl (own_dbl_nn2 z) rfl k) ?_
  show Rch p e below T22 (mkF m 26 #[.val (.double (own_dbl z)), .second, .val (.long z), .second, .val (.long (XT.ushrL (own_mix z) (11 : Int32))), .second] [(.double (FP.dmul (own_dbl z) (4845873199050653696 : UInt64)))]) _
  refine Rch.st (fun _ k => XS.d2lS X22.here hx rfl (hb hby d_method_3_code_26) rfl rfl k) ?_
  show Rch p e below T22 (mkF m 27 #[.val (.double (own_dbl z)), .second, .val (.long z), .second, .val (.long (XT.ushrL (own_mix z) (11 : Int32))), .second] [(.long (FP.d2l (FP.dmul (own_dbl z) (4845873199050653696 : UInt64))))]) _
  refine Rch.st (fun _ k => XT.lload X22.here hx rfl (hb hby d_method_3_code_27) rfl k) ?_
  show Rch p e below T22 (mkF m 29 #[.val (.double (own_dbl z)), .second, .val (.long z), .second, .val (.long (XT.ushrL (own_mix z) (11 : Int32))), .second] [(.long (XT.ushrL (own_mix z) (11 : Int32))), (.long (FP.d2l (FP.dmul (own_dbl z) (4845873199050653696 : UInt64))))]) _
  refine Rch.st (fun _ k => XT.lcmp X22.here hx rfl (hb hby d_method_3_code_29) rfl k) ?_
  show Rch p e below T22 (mkF m 30 #[.val (.double (own_dbl z)), .second, .val (.long z), .second, .val (.long (XT.ushrL (own_mix z) (11 : Int32))), .second] [(.int (XT.cmpL (FP.d2l (FP.dmul (own_dbl z) (4845873199050653696 : UInt64))) (XT.ushrL (own_mix z) (11 : Int32))))]) _
  refine Rch.st (fun _ k => XS.ifNo X22.here hx rfl (hb hby d_method_3_code_30) rfl (XT.ll_ne_f (own_dbl_l z)) k) ?_
  show Rch p e below T22 (mkF m 33 #[.val (.double (own_dbl z)), .second, .val (.long z), .second, .val (.long (XT.ushrL (own_mix z) (11 : Int32))), .second] []) _
  refine Rch.st (fun _ k => XS.iconst X22.here hx rfl (hb hby d_method_3_code_33) k) ?_
  show Rch p e below T22 (mkF m 34 #[.val (.double (own_dbl z)), .second, .val (.long z), .second, .val (.long (XT.ushrL (own_mix z) (11 : Int32))), .second] [(.int (1 : Int32))]) _
  refine Rch.st (fun _ k => XS.goto X22.here hx rfl (pc0 := 34) (pc' := 38) rfl (hb hby d_method_3_code_34) (by decide) (by decide) k) ?_
  show Rch p e below T22 (mkF m 38 #[.val (.double (own_dbl z)), .second, .val (.long z), .second, .val (.long (XT.ushrL (own_mix z) (11 : Int32))), .second] [(.int (1 : Int32))]) _
  exact Rch.retV X22 hx Bd.returns rfl (Or.inl ⟨rfl, by simp, _, rfl⟩) (hb hby d_method_3_code_38) (by rw [K22]; exact ⟨rfl, N23, rfl⟩) (by decide) (by decide)

theorem ef_rm_law (m : MethodId) (sd : Int64)  : entryFrame m #[(.long sd)] maxLocals = mkF m 0 #[.val (.long sd), .second, .unset, .unset, .unset, .unset, .unset, .unset, .unset, .unset, .unset] [] := by  first | rfl | (simp [entryFrame, mkF, argsToLocals, Value.category, maxLocals]; done)
def Q_rm_law (Z : State) (sd : Int64) (h0 : Heap) (n0 : Nat) (v : Option Value) (h : Heap) (L : List Loc) : Prop := (v = some (.int (1 : Int32))) ∧ (Fr n0 L) ∧ (Keep h0 h [])
theorem pd__J_V : parseMethodDescriptor "(J)V" = some ⟨[.long], none⟩ := by decide +kernel
theorem pd___D : parseMethodDescriptor "()D" = some ⟨[], (some .double)⟩ := by decide +kernel
theorem pd__DJ_Z : parseMethodDescriptor "(DJ)Z" = some ⟨[.double, .long], (some .boolean)⟩ := by decide +kernel
set_option maxRecDepth 65536 in
set_option maxHeartbeats 40000000 in
theorem rm_law (l : Launch) (Z : State) (a0 : Array Value) (hw : ∀ d ∈ tables_1, d.before a0 Z = true) (ws : List Jvm.Cond) (sd : Int64) (h0 : Heap) (n0 : Nat) (Z0 : n0 ≤ h0.size)  :
    MetFree l x (head1 (Jvm.Cond.code x code maxLocals ret :: ws) room_1) (fun a U => a = #[(.long sd)] ∧ Z.Warmed39 U.vm ∧ U.heap = h0) (fun _ _ _ _ _ => True) (fun _ U o U' => ∃ v L, o = .returned v ∧ Q_rm_law Z sd h0 n0 v U'.heap L ∧ FrameEnd U o U' L 16 128) := by
  refine MetFree.of_bodySF (plainFor_of_name pn_com_example_dualfit_dualfit_allocation_SeededRandomNextDoublePinLaw) hisR ?_
  intro p e s m args below meth c s₁ Bd hml0 hP hK
  obtain ⟨rfl, hZ, hh⟩ := hP
  have hx := Bd.exec
  have hby := Bd.bytes
  have hml : c.maxLocals = 11 := hml0
  have hown : s.vm.findClass "com/example/dualfit/dualfit/allocation/SeededRandomNextDoublePinLaw" = some m.cls := findClass_of_methodNamed Bd.named
  have hnm := (name_of_methodNamed Bd.named Bd.method).1
  have X0 : Stand p l e room_1 s m #[(.long sd)] below meth c s₁ [] 0 0 := Stand.of_body Bd
  have e0 : s₁.heap = h0 := by rw [← hh, Bd.state]; rfl
  have N0 := Fr.nil n0
  have K00 : Keep h0 h0 [] := Keep.refl _ _
  have hlk0 : meth.locks = false := by first | assumption | exact BodyLoose.notSynchronized (by assumption) | exact Body.notSynchronized (by assumption)
  show Rch p e below s₁ (entryFrame m #[(.long sd)] maxLocals) (Fin s (Q_rm_law Z sd h0 n0) 16 128)
  refine Rch.cast (ef_rm_law m sd) ?_
  show Rch p e below s₁ (mkF m 0 #[.val (.long sd), .second, .unset, .unset, .unset, .unset, .unset, .unset, .unset, .unset, .unset] []) _
  refine Rch.st (fun _ k => Stand.ldc2J X0 hx hown (mv hZ (hw _ (List.mem_of_getElem? (i := 0) rfl))) rfl (hb hby at_0) k) ?_
  show Rch p e below s₁ (mkF m 3 #[.val (.long sd), .second, .unset, .unset, .unset, .unset, .unset, .unset, .unset, .unset, .unset] [(.long (-7046029254386353131 : Int64))]) _
  refine Rch.st (fun _ k => XT.lstoreN X0.here hx rfl (hb hby at_3) rfl (l' := #[.val (.long sd), .second, .val (.long (-7046029254386353131 : Int64)), .second, .unset, .unset, .unset, .unset, .unset, .unset, .unset]) rfl k) ?_
  show Rch p e below s₁ (mkF m 4 #[.val (.long sd), .second, .val (.long (-7046029254386353131 : Int64)), .second, .unset, .unset, .unset, .unset, .unset, .unset, .unset] []) _
  obtain ⟨T24, h24, X24, e24, E24, A24, D24, -, st24⟩ := newO X0 hx hZ hown (hw _ (List.mem_of_getElem? (i := 1) rfl)) (hw _ (List.mem_of_getElem? (i := 2) rfl)) (hw _ (List.mem_of_getElem? (i := 3) rfl)) e0 (g := (mkF m 4 #[.val (.long sd), .second, .val (.long (-7046029254386353131 : Int64)), .second, .unset, .unset, .unset, .unset, .unset, .unset, .unset] [])) rfl (hb hby at_4) (by decide) (by decide)
  obtain ⟨a24, g24⟩ : ∃ z, z = h0.size := ⟨_, rfl⟩
  rw [← g24] at A24 D24 st24
  have ge25 : n0 ≤ a24 := Nat.le_trans Z0 (Nat.le_of_eq g24.symm)
  have Z27 := Nat.le_trans Z0 E24.1
  have Kp28 : Keep h0 h24 [] := K00.ext E24
  have f29 : Fld Z h24 a24 "com/example/dualfit/dualfit/allocation/SeededRandom" "state" "J" (.long (0 : Int64)) := D24 (Or.inl (hw _ (List.mem_of_getElem? (i := 11) rfl))) (ty := .long) (by decide)
  refine Rch.st (fun _ k => st24 _ k) ?_
  show Rch p e below T24 (mkF m 7 #[.val (.long sd), .second, .val (.long (-7046029254386353131 : Int64)), .second, .unset, .unset, .unset, .unset, .unset, .unset, .unset] [(.ref a24)]) _
  refine Rch.st (fun _ k => XS.dup X24.here hx rfl (hb hby at_7) rfl rfl k) ?_
  show Rch p e below T24 (mkF m 8 #[.val (.long sd), .second, .val (.long (-7046029254386353131 : Int64)), .second, .unset, .unset, .unset, .unset, .unset, .unset, .unset] [(.ref a24), (.ref a24)]) _
  refine Rch.st (fun _ k => XT.lloadN X24.here hx rfl (hb hby at_8) rfl k) ?_
  show Rch p e below T24 (mkF m 9 #[.val (.long sd), .second, .val (.long (-7046029254386353131 : Int64)), .second, .unset, .unset, .unset, .unset, .unset, .unset, .unset] [(.long sd), (.ref a24), (.ref a24)]) _
  obtain ⟨_, _, ⟨T30, L30, k30, n30⟩, -, X30, ⟨Lc30, hQ30, l30, y30, z30⟩, st30⟩ := X24.specialBack hx (y := (⟨"com/example/dualfit/dualfit/allocation/SeededRandom", "<init>", "(J)V"⟩ : MethodName)) rfl hown (mvT hZ (hw _ (List.mem_of_getElem? (i := 4) rfl))) (mvT hZ (hw _ (List.mem_of_getElem? (i := 5) rfl))) (mvT hZ (hw _ (List.mem_of_getElem? (i := 6) rfl))) (by decide) (backOf (W := 1) (rm_init l Z a0 hw [] a24 sd h24 n0 Z27 f29 A24 (ge25)) hZ (hw _ (List.mem_of_getElem? (i := 6) rfl)) (hw _ (List.mem_of_getElem? (i := 3) rfl)) (by decide) (by decide)) (g := (mkF m 9 #[.val (.long sd), .second, .val (.long (-7046029254386353131 : Int64)), .second, .unset, .unset, .unset, .unset, .unset, .unset, .unset] [(.long sd), (.ref a24), (.ref a24)])) rfl (by rw [hml]; rfl) (Steps.refl _) (a := a24) (argsL := [(.long sd)]) (rest := [(.ref a24)]) (lenOf pd__J_V rfl) rfl (by show 2 * 0 + _ ≤ _; exact Nat.le_of_eq rfl) (hb hby at_9) (fun _ _ => ⟨rfl, e24, (by decide : 1 + 0 ≤ _), (by decide : 1 + 0 ≤ _)⟩)
  dsimp only [Pt.U, Pt.locs, Pt.cells, Pt.slots] at X30 l30 y30 z30 st30 hQ30
  subst l30 y30 z30
  obtain ⟨rfl, NQ30, K30, fq30_0⟩ := hQ30
  have N31 := Fr.app N0 NQ30
  have f32 : Exa Z T30.heap a24 "com/example/dualfit/dualfit/allocation/SeededRandom" := A24.keep K30
  have Kp33 : Keep h0 T30.heap [] := Kp28.trans K30 (allS (Or.inr (Nat.le_trans K00.1 (Nat.le_of_eq g24.symm))) all0)
  have Z34 := Nat.le_trans Z27 K30.1
  refine Rch.st (fun _ k => st30.trans k) ?_
  show Rch p e below T30 (mkF m 12 #[.val (.long sd), .second, .val (.long (-7046029254386353131 : Int64)), .second, .unset, .unset, .unset, .unset, .unset, .unset, .unset] [(.ref a24)]) _
  refine Rch.st (fun _ k => XS.astore X30.here hx rfl (hb hby at_12) rfl rfl (l' := #[.val (.long sd), .second, .val (.long (-7046029254386353131 : Int64)), .second, .val (.ref a24), .unset, .unset, .unset, .unset, .unset, .unset]) rfl k) ?_
  show Rch p e below T30 (mkF m 14 #[.val (.long sd), .second, .val (.long (-7046029254386353131 : Int64)), .second, .val (.ref a24), .unset, .unset, .unset, .unset, .unset, .unset] []) _
  refine Rch.st (fun _ k => XS.aload X30.here hx rfl (hb hby at_14) rfl rfl k) ?_
  show Rch p e below T30 (mkF m 16 #[.val (.long sd), .second, .val (.long (-7046029254386353131 : Int64)), .second, .val (.ref a24), .unset, .unset, .unset, .unset, .unset, .unset] [(.ref a24)]) _
  obtain ⟨cq35, kq35, q35a, q35b, q35c⟩ := isOf hZ (rfl : T30.heap = T30.heap) f32
  obtain ⟨_, _, ⟨T35, L35, k35, n35⟩, -, X35, ⟨Lc35, hQ35, l35, y35, z35⟩, st35⟩ := X30.virtualBack hx (y := (⟨"com/example/dualfit/dualfit/allocation/SeededRandom", "nextDouble", "()D"⟩ : MethodName)) (z := (⟨"com/example/dualfit/dualfit/allocation/SeededRandom", "nextDouble", "()D"⟩ : MethodName)) hown (mvT hZ (hw _ (List.mem_of_getElem? (i := 12) rfl))) (mvT hZ (hw _ (List.mem_of_getElem? (i := 13) rfl))) (notFace_of_selects (args := #[]) (mvT hZ (hw _ (List.mem_of_getElem? (i := 15) rfl)))) (mvT hZ (hw _ (List.mem_of_getElem? (i := 15) rfl))) (mvT hZ (hw _ (List.mem_of_getElem? (i := 14) rfl))) (by decide) (backOf (W := 0) (rm_nextDouble l Z a0 hw [] a24 sd T30.heap n0 Z34 fq30_0 f32 (ge25)) hZ (hw _ (List.mem_of_getElem? (i := 16) rfl)) (hw _ (List.mem_of_getElem? (i := 3) rfl)) (by decide) (by decide)) q35a q35c (g := (mkF m 16 #[.val (.long sd), .second, .val (.long (-7046029254386353131 : Int64)), .second, .val (.ref a24), .unset, .unset, .unset, .unset, .unset, .unset] [(.ref a24)])) rfl (by rw [hml]; rfl) (Steps.refl _) (argsL := []) (rest := []) (lenOf pd___D rfl) rfl (by show 2 * 0 + _ ≤ _; exact Nat.le_of_eq rfl) (hb hby at_16) (fun _ _ => ⟨rfl, (rfl : T30.heap = T30.heap), (by decide : 1 + 0 ≤ _), (by decide : 1 + 0 ≤ _)⟩)
  dsimp only [Pt.U, Pt.locs, Pt.cells, Pt.slots] at X35 l35 y35 z35 st35 hQ35
  subst l35 y35 z35
  obtain ⟨rfl, NQ35, K35, fq35_0⟩ := hQ35
  have N36 := Fr.app N31 NQ35
  have f37 : Exa Z T35.heap a24 "com/example/dualfit/dualfit/allocation/SeededRandom" := f32.keep K35
  have Kp38 : Keep h0 T35.heap [] := Kp33.trans K35 (allS (Or.inr (Nat.le_trans K00.1 (Nat.le_of_eq g24.symm))) all0)
  have Z39 := Nat.le_trans Z34 K35.1
  refine Rch.st (fun _ k => st35.trans k) ?_
  show Rch p e below T35 (mkF m 19 #[.val (.long sd), .second, .val (.long (-7046029254386353131 : Int64)), .second, .val (.ref a24), .unset, .unset, .unset, .unset, .unset, .unset] [(.double (own_dbl (sd + (-7046029254386353131 : Int64))))]) _
  refine Rch.st (fun _ k => XS.dstore X35.here hx rfl (hb hby at_19) rfl (l' := #[.val (.long sd), .second, .val (.long (-7046029254386353131 : Int64)), .second, .val (.ref a24), .val (.double (own_dbl (sd + (-7046029254386353131 : Int64)))), .second, .unset, .unset, .unset, .unset]) rfl k) ?_
  show Rch p e below T35 (mkF m 21 #[.val (.long sd), .second, .val (.long (-7046029254386353131 : Int64)), .second, .val (.ref a24), .val (.double (own_dbl (sd + (-7046029254386353131 : Int64)))), .second, .unset, .unset, .unset, .unset] []) _
  refine Rch.st (fun _ k => XS.aload X35.here hx rfl (hb hby at_21) rfl rfl k) ?_
  show Rch p e below T35 (mkF m 23 #[.val (.long sd), .second, .val (.long (-7046029254386353131 : Int64)), .second, .val (.ref a24), .val (.double (own_dbl (sd + (-7046029254386353131 : Int64)))), .second, .unset, .unset, .unset, .unset] [(.ref a24)]) _
  obtain ⟨cq40, kq40, q40a, q40b, q40c⟩ := isOf hZ (rfl : T35.heap = T35.heap) f37
  obtain ⟨_, _, ⟨T40, L40, k40, n40⟩, -, X40, ⟨Lc40, hQ40, l40, y40, z40⟩, st40⟩ := X35.virtualBack hx (y := (⟨"com/example/dualfit/dualfit/allocation/SeededRandom", "nextDouble", "()D"⟩ : MethodName)) (z := (⟨"com/example/dualfit/dualfit/allocation/SeededRandom", "nextDouble", "()D"⟩ : MethodName)) hown (mvT hZ (hw _ (List.mem_of_getElem? (i := 12) rfl))) (mvT hZ (hw _ (List.mem_of_getElem? (i := 13) rfl))) (notFace_of_selects (args := #[]) (mvT hZ (hw _ (List.mem_of_getElem? (i := 15) rfl)))) (mvT hZ (hw _ (List.mem_of_getElem? (i := 15) rfl))) (mvT hZ (hw _ (List.mem_of_getElem? (i := 14) rfl))) (by decide) (backOf (W := 0) (rm_nextDouble l Z a0 hw [] a24 (sd + (-7046029254386353131 : Int64)) T35.heap n0 Z39 fq35_0 f37 (ge25)) hZ (hw _ (List.mem_of_getElem? (i := 16) rfl)) (hw _ (List.mem_of_getElem? (i := 3) rfl)) (by decide) (by decide)) q40a q40c (g := (mkF m 23 #[.val (.long sd), .second, .val (.long (-7046029254386353131 : Int64)), .second, .val (.ref a24), .val (.double (own_dbl (sd + (-7046029254386353131 : Int64)))), .second, .unset, .unset, .unset, .unset] [(.ref a24)])) rfl (by rw [hml]; rfl) (Steps.refl _) (argsL := []) (rest := []) (lenOf pd___D rfl) rfl (by show 2 * 0 + _ ≤ _; exact Nat.le_of_eq rfl) (hb hby at_23) (fun _ _ => ⟨rfl, (rfl : T35.heap = T35.heap), (by decide : 1 + 0 ≤ _), (by decide : 1 + 0 ≤ _)⟩)
  dsimp only [Pt.U, Pt.locs, Pt.cells, Pt.slots] at X40 l40 y40 z40 st40 hQ40
  subst l40 y40 z40
  obtain ⟨rfl, NQ40, K40, fq40_0⟩ := hQ40
  have N41 := Fr.app N36 NQ40
  have f42 : Exa Z T40.heap a24 "com/example/dualfit/dualfit/allocation/SeededRandom" := f37.keep K40
  have Kp43 : Keep h0 T40.heap [] := Kp38.trans K40 (allS (Or.inr (Nat.le_trans K00.1 (Nat.le_of_eq g24.symm))) all0)
  have Z44 := Nat.le_trans Z39 K40.1
  refine Rch.st (fun _ k => st40.trans k) ?_
  show Rch p e below T40 (mkF m 26 #[.val (.long sd), .second, .val (.long (-7046029254386353131 : Int64)), .second, .val (.ref a24), .val (.double (own_dbl (sd + (-7046029254386353131 : Int64)))), .second, .unset, .unset, .unset, .unset] [(.double (own_dbl ((sd + (-7046029254386353131 : Int64)) + (-7046029254386353131 : Int64))))]) _
  refine Rch.st (fun _ k => XS.dstore X40.here hx rfl (hb hby at_26) rfl (l' := #[.val (.long sd), .second, .val (.long (-7046029254386353131 : Int64)), .second, .val (.ref a24), .val (.double (own_dbl (sd + (-7046029254386353131 : Int64)))), .second, .val (.double (own_dbl ((sd + (-7046029254386353131 : Int64)) + (-7046029254386353131 : Int64)))), .second, .unset, .unset]) rfl k) ?_
  show Rch p e below T40 (mkF m 28 #[.val (.long sd), .second, .val (.long (-7046029254386353131 : Int64)), .second, .val (.ref a24), .val (.double (own_dbl (sd + (-7046029254386353131 : Int64)))), .second, .val (.double (own_dbl ((sd + (-7046029254386353131 : Int64)) + (-7046029254386353131 : Int64)))), .second, .unset, .unset] []) _
  refine Rch.st (fun _ k => XS.aload X40.here hx rfl (hb hby at_28) rfl rfl k) ?_
  show Rch p e below T40 (mkF m 30 #[.val (.long sd), .second, .val (.long (-7046029254386353131 : Int64)), .second, .val (.ref a24), .val (.double (own_dbl (sd + (-7046029254386353131 : Int64)))), .second, .val (.double (own_dbl ((sd + (-7046029254386353131 : Int64)) + (-7046029254386353131 : Int64)))), .second, .unset, .unset] [(.ref a24)]) _
  obtain ⟨cq45, kq45, q45a, q45b, q45c⟩ := isOf hZ (rfl : T40.heap = T40.heap) f42
  obtain ⟨_, _, ⟨T45, L45, k45, n45⟩, -, X45, ⟨Lc45, hQ45, l45, y45, z45⟩, st45⟩ := X40.virtualBack hx (y := (⟨"com/example/dualfit/dualfit/allocation/SeededRandom", "nextDouble", "()D"⟩ : MethodName)) (z := (⟨"com/example/dualfit/dualfit/allocation/SeededRandom", "nextDouble", "()D"⟩ : MethodName)) hown (mvT hZ (hw _ (List.mem_of_getElem? (i := 12) rfl))) (mvT hZ (hw _ (List.mem_of_getElem? (i := 13) rfl))) (notFace_of_selects (args := #[]) (mvT hZ (hw _ (List.mem_of_getElem? (i := 15) rfl)))) (mvT hZ (hw _ (List.mem_of_getElem? (i := 15) rfl))) (mvT hZ (hw _ (List.mem_of_getElem? (i := 14) rfl))) (by decide) (backOf (W := 0) (rm_nextDouble l Z a0 hw [] a24 ((sd + (-7046029254386353131 : Int64)) + (-7046029254386353131 : Int64)) T40.heap n0 Z44 fq40_0 f42 (ge25)) hZ (hw _ (List.mem_of_getElem? (i := 16) rfl)) (hw _ (List.mem_of_getElem? (i := 3) rfl)) (by decide) (by decide)) q45a q45c (g := (mkF m 30 #[.val (.long sd), .second, .val (.long (-7046029254386353131 : Int64)), .second, .val (.ref a24), .val (.double (own_dbl (sd + (-7046029254386353131 : Int64)))), .second, .val (.double (own_dbl ((sd + (-7046029254386353131 : Int64)) + (-7046029254386353131 : Int64)))), .second, .unset, .unset] [(.ref a24)])) rfl (by rw [hml]; rfl) (Steps.refl _) (argsL := []) (rest := []) (lenOf pd___D rfl) rfl (by show 2 * 0 + _ ≤ _; exact Nat.le_of_eq rfl) (hb hby at_30) (fun _ _ => ⟨rfl, (rfl : T40.heap = T40.heap), (by decide : 1 + 0 ≤ _), (by decide : 1 + 0 ≤ _)⟩)
  dsimp only [Pt.U, Pt.locs, Pt.cells, Pt.slots] at X45 l45 y45 z45 st45 hQ45
  subst l45 y45 z45
  obtain ⟨rfl, NQ45, K45, fq45_0⟩ := hQ45
  have N46 := Fr.app N41 NQ45
  have f47 : Exa Z T45.heap a24 "com/example/dualfit/dualfit/allocation/SeededRandom" := f42.keep K45
  have Kp48 : Keep h0 T45.heap [] := Kp43.trans K45 (allS (Or.inr (Nat.le_trans K00.1 (Nat.le_of_eq g24.symm))) all0)
  have Z49 := Nat.le_trans Z44 K45.1
  refine Rch.st (fun _ k => st45.trans k) ?_
  show Rch p e below T45 (mkF m 33 #[.val (.long sd), .second, .val (.long (-7046029254386353131 : Int64)), .second, .val (.ref a24), .val (.double (own_dbl (sd + (-7046029254386353131 : Int64)))), .second, .val (.double (own_dbl ((sd + (-7046029254386353131 : Int64)) + (-7046029254386353131 : Int64)))), .second, .unset, .unset] [(.double (own_dbl (((sd + (-7046029254386353131 : Int64)) + (-7046029254386353131 : Int64)) + (-7046029254386353131 : Int64))))]) _
  refine Rch.st (fun _ k => XS.dstore X45.here hx rfl (hb hby at_33) rfl (l' := #[.val (.long sd), .second, .val (.long (-7046029254386353131 : Int64)), .second, .val (.ref a24), .val (.double (own_dbl (sd + (-7046029254386353131 : Int64)))), .second, .val (.double (own_dbl ((sd + (-7046029254386353131 : Int64)) + (-7046029254386353131 : Int64)))), .second, .val (.double (own_dbl (((sd + (-7046029254386353131 : Int64)) + (-7046029254386353131 : Int64)) + (-7046029254386353131 : Int64)))), .second]) rfl k) ?_
  show Rch p e below T45 (mkF m 35 #[.val (.long sd), .second, .val (.long (-7046029254386353131 : Int64)), .second, .val (.ref a24), .val (.double (own_dbl (sd + (-7046029254386353131 : Int64)))), .second, .val (.double (own_dbl ((sd + (-7046029254386353131 : Int64)) + (-7046029254386353131 : Int64)))), .second, .val (.double (own_dbl (((sd + (-7046029254386353131 : Int64)) + (-7046029254386353131 : Int64)) + (-7046029254386353131 : Int64)))), .second] []) _
  refine Rch.st (fun _ k => XS.dload X45.here hx rfl (hb hby at_35) rfl k) ?_
  show Rch p e below T45 (mkF m 37 #[.val (.long sd), .second, .val (.long (-7046029254386353131 : Int64)), .second, .val (.ref a24), .val (.double (own_dbl (sd + (-7046029254386353131 : Int64)))), .second, .val (.double (own_dbl ((sd + (-7046029254386353131 : Int64)) + (-7046029254386353131 : Int64)))), .second, .val (.double (own_dbl (((sd + (-7046029254386353131 : Int64)) + (-7046029254386353131 : Int64)) + (-7046029254386353131 : Int64)))), .second] [(.double (own_dbl (sd + (-7046029254386353131 : Int64))))]) _
  refine Rch.st (fun _ k => XT.lloadN X45.here hx rfl (hb hby at_37) rfl k) ?_
  show Rch p e below T45 (mkF m 38 #[.val (.long sd), .second, .val (.long (-7046029254386353131 : Int64)), .second, .val (.ref a24), .val (.double (own_dbl (sd + (-7046029254386353131 : Int64)))), .second, .val (.double (own_dbl ((sd + (-7046029254386353131 : Int64)) + (-7046029254386353131 : Int64)))), .second, .val (.double (own_dbl (((sd + (-7046029254386353131 : Int64)) + (-7046029254386353131 : Int64)) + (-7046029254386353131 : Int64)))), .second] [(.long sd), (.double (own_dbl (sd + (-7046029254386353131 : Int64))))]) _
  refine Rch.st (fun _ k => XT.lloadN X45.here hx rfl (hb hby at_38) rfl k) ?_
  show Rch p e below T45 (mkF m 39 #[.val (.long sd), .second, .val (.long (-7046029254386353131 : Int64)), .second, .val (.ref a24), .val (.double (own_dbl (sd + (-7046029254386353131 : Int64)))), .second, .val (.double (own_dbl ((sd + (-7046029254386353131 : Int64)) + (-7046029254386353131 : Int64)))), .second, .val (.double (own_dbl (((sd + (-7046029254386353131 : Int64)) + (-7046029254386353131 : Int64)) + (-7046029254386353131 : Int64)))), .second] [(.long (-7046029254386353131 : Int64)), (.long sd), (.double (own_dbl (sd + (-7046029254386353131 : Int64))))]) _
  refine Rch.st (fun _ k => XT.ladd X45.here hx rfl (hb hby at_39) rfl k) ?_
  show Rch p e below T45 (mkF m 40 #[.val (.long sd), .second, .val (.long (-7046029254386353131 : Int64)), .second, .val (.ref a24), .val (.double (own_dbl (sd + (-7046029254386353131 : Int64)))), .second, .val (.double (own_dbl ((sd + (-7046029254386353131 : Int64)) + (-7046029254386353131 : Int64)))), .second, .val (.double (own_dbl (((sd + (-7046029254386353131 : Int64)) + (-7046029254386353131 : Int64)) + (-7046029254386353131 : Int64)))), .second] [(.long (sd + (-7046029254386353131 : Int64))), (.double (own_dbl (sd + (-7046029254386353131 : Int64))))]) _
  obtain ⟨_, _, ⟨T50, L50, k50, n50⟩, -, X50, ⟨Lc50, hQ50, l50, y50, z50⟩, st50⟩ := Jvm.LawKit.callS X45 hx (y := (⟨"com/example/dualfit/dualfit/allocation/SeededRandomNextDoublePinLaw", "drawIs", "(DJ)Z"⟩ : MethodName)) hown (mvT hZ (hw _ (List.mem_of_getElem? (i := 25) rfl))) (mvT hZ (hw _ (List.mem_of_getElem? (i := 26) rfl))) (mvT hZ (hw _ (List.mem_of_getElem? (i := 27) rfl))) (mvT hZ (hw _ (List.mem_of_getElem? (i := 28) rfl))) (by decide) (backOf (W := 0) (rm_draw l Z a0 hw [] (sd + (-7046029254386353131 : Int64)) T45.heap n0 Z49 ) hZ (hw _ (List.mem_of_getElem? (i := 28) rfl)) (hw _ (List.mem_of_getElem? (i := 27) rfl)) (by decide) (by decide)) (g := (mkF m 40 #[.val (.long sd), .second, .val (.long (-7046029254386353131 : Int64)), .second, .val (.ref a24), .val (.double (own_dbl (sd + (-7046029254386353131 : Int64)))), .second, .val (.double (own_dbl ((sd + (-7046029254386353131 : Int64)) + (-7046029254386353131 : Int64)))), .second, .val (.double (own_dbl (((sd + (-7046029254386353131 : Int64)) + (-7046029254386353131 : Int64)) + (-7046029254386353131 : Int64)))), .second] [(.long (sd + (-7046029254386353131 : Int64))), (.double (own_dbl (sd + (-7046029254386353131 : Int64))))])) rfl (by rw [hml]; rfl) (argsL := [(.double (own_dbl (sd + (-7046029254386353131 : Int64)))), (.long (sd + (-7046029254386353131 : Int64)))]) (rest := []) (lenOf pd__DJ_Z rfl) rfl (by show 2 * 0 + _ ≤ _; exact Nat.le_of_eq rfl) (hb hby at_40) (fun _ _ => ⟨rfl, (rfl : T45.heap = T45.heap), (by decide : 1 + 0 ≤ _), (by decide : 1 + 0 ≤ _)⟩)
  dsimp only [Pt.U, Pt.locs, Pt.cells, Pt.slots] at X50 l50 y50 z50 st50 hQ50
  subst l50 y50 z50
  obtain ⟨rfl, NQ50, K50⟩ := hQ50
  have N51 := Fr.app N46 NQ50
  refine Rch.st (fun _ k => st50 _ k) ?_
  show Rch p e below T50 (mkF m 43 #[.val (.long sd), .second, .val (.long (-7046029254386353131 : Int64)), .second, .val (.ref a24), .val (.double (own_dbl (sd + (-7046029254386353131 : Int64)))), .second, .val (.double (own_dbl ((sd + (-7046029254386353131 : Int64)) + (-7046029254386353131 : Int64)))), .second, .val (.double (own_dbl (((sd + (-7046029254386353131 : Int64)) + (-7046029254386353131 : Int64)) + (-7046029254386353131 : Int64)))), .second] [(.int (1 : Int32))]) _
  refine Rch.st (fun _ k => XS.ifNo X50.here hx rfl (hb hby at_43) rfl (XT.i0_eq_f (by decide)) k) ?_
  show Rch p e below T50 (mkF m 46 #[.val (.long sd), .second, .val (.long (-7046029254386353131 : Int64)), .second, .val (.ref a24), .val (.double (own_dbl (sd + (-7046029254386353131 : Int64)))), .second, .val (.double (own_dbl ((sd + (-7046029254386353131 : Int64)) + (-7046029254386353131 : Int64)))), .second, .val (.double (own_dbl (((sd + (-7046029254386353131 : Int64)) + (-7046029254386353131 : Int64)) + (-7046029254386353131 : Int64)))), .second] []) _
  refine Rch.st (fun _ k => XS.dload X50.here hx rfl (hb hby at_46) rfl k) ?_
  show Rch p e below T50 (mkF m 48 #[.val (.long sd), .second, .val (.long (-7046029254386353131 : Int64)), .second, .val (.ref a24), .val (.double (own_dbl (sd + (-7046029254386353131 : Int64)))), .second, .val (.double (own_dbl ((sd + (-7046029254386353131 : Int64)) + (-7046029254386353131 : Int64)))), .second, .val (.double (own_dbl (((sd + (-7046029254386353131 : Int64)) + (-7046029254386353131 : Int64)) + (-7046029254386353131 : Int64)))), .second] [(.double (own_dbl ((sd + (-7046029254386353131 : Int64)) + (-7046029254386353131 : Int64))))]) _
  refine Rch.st (fun _ k => XT.lloadN X50.here hx rfl (hb hby at_48) rfl k) ?_
  show Rch p e below T50 (mkF m 49 #[.val (.long sd), .second, .val (.long (-7046029254386353131 : Int64)), .second, .val (.ref a24), .val (.double (own_dbl (sd + (-7046029254386353131 : Int64)))), .second, .val (.double (own_dbl ((sd + (-7046029254386353131 : Int64)) + (-7046029254386353131 : Int64)))), .second, .val (.double (own_dbl (((sd + (-7046029254386353131 : Int64)) + (-7046029254386353131 : Int64)) + (-7046029254386353131 : Int64)))), .second] [(.long sd), (.double (own_dbl ((sd + (-7046029254386353131 : Int64)) + (-7046029254386353131 : Int64))))]) _
  refine Rch.st (fun _ k => Stand.ldc2J X50 hx hown (mv hZ (hw _ (List.mem_of_getElem? (i := 35) rfl))) rfl (hb hby at_49) k) ?_
  show Rch p e below T50 (mkF m 52 #[.val (.long sd), .second, .val (.long (-7046029254386353131 : Int64)), .second, .val (.ref a24), .val (.double (own_dbl (sd + (-7046029254386353131 : Int64)))), .second, .val (.double (own_dbl ((sd + (-7046029254386353131 : Int64)) + (-7046029254386353131 : Int64)))), .second, .val (.double (own_dbl (((sd + (-7046029254386353131 : Int64)) + (-7046029254386353131 : Int64)) + (-7046029254386353131 : Int64)))), .second] [(.long (2 : Int64)), (.long sd), (.double (own_dbl ((sd + (-7046029254386353131 : Int64)) + (-7046029254386353131 : Int64))))]) _
  refine Rch.st (fun _ k => XT.lloadN X50.here hx rfl (hb hby at_52) rfl k) ?_
  show Rch p e below T50 (mkF m 53 #[.val (.long sd), .second, .val (.long (-7046029254386353131 : Int64)), .second, .val (.ref a24), .val (.double (own_dbl (sd + (-7046029254386353131 : Int64)))), .second, .val (.double (own_dbl ((sd + (-7046029254386353131 : Int64)) + (-7046029254386353131 : Int64)))), .second, .val (.double (own_dbl (((sd + (-7046029254386353131 : Int64)) + (-7046029254386353131 : Int64)) + (-7046029254386353131 : Int64)))), .second] [(.long (-7046029254386353131 : Int64)), (.long (2 : Int64)), (.long sd), (.double (own_dbl ((sd + (-7046029254386353131 : Int64)) + (-7046029254386353131 : Int64))))]) _
  refine Rch.st (fun _ k => XT.lmul X50.here hx rfl (hb hby at_53) rfl k) ?_
  show Rch p e below T50 (mkF m 54 #[.val (.long sd), .second, .val (.long (-7046029254386353131 : Int64)), .second, .val (.ref a24), .val (.double (own_dbl (sd + (-7046029254386353131 : Int64)))), .second, .val (.double (own_dbl ((sd + (-7046029254386353131 : Int64)) + (-7046029254386353131 : Int64)))), .second, .val (.double (own_dbl (((sd + (-7046029254386353131 : Int64)) + (-7046029254386353131 : Int64)) + (-7046029254386353131 : Int64)))), .second] [(.long ((2 : Int64) * (-7046029254386353131 : Int64))), (.long sd), (.double (own_dbl ((sd + (-7046029254386353131 : Int64)) + (-7046029254386353131 : Int64))))]) _
  refine Rch.st (fun _ k => XT.ladd X50.here hx rfl (hb hby at_54) rfl k) ?_
  show Rch p e below T50 (mkF m 55 #[.val (.long sd), .second, .val (.long (-7046029254386353131 : Int64)), .second, .val (.ref a24), .val (.double (own_dbl (sd + (-7046029254386353131 : Int64)))), .second, .val (.double (own_dbl ((sd + (-7046029254386353131 : Int64)) + (-7046029254386353131 : Int64)))), .second, .val (.double (own_dbl (((sd + (-7046029254386353131 : Int64)) + (-7046029254386353131 : Int64)) + (-7046029254386353131 : Int64)))), .second] [(.long (sd + ((2 : Int64) * (-7046029254386353131 : Int64)))), (.double (own_dbl ((sd + (-7046029254386353131 : Int64)) + (-7046029254386353131 : Int64))))]) _
  have r52 : (sd + ((2 : Int64) * (-7046029254386353131 : Int64))) = ((sd + (-7046029254386353131 : Int64)) + (-7046029254386353131 : Int64)) := by simp only [Int64.add_assoc]; congr 1
  rw [r52]
  show Rch p e below T50 (mkF m 55 #[.val (.long sd), .second, .val (.long (-7046029254386353131 : Int64)), .second, .val (.ref a24), .val (.double (own_dbl (sd + (-7046029254386353131 : Int64)))), .second, .val (.double (own_dbl ((sd + (-7046029254386353131 : Int64)) + (-7046029254386353131 : Int64)))), .second, .val (.double (own_dbl (((sd + (-7046029254386353131 : Int64)) + (-7046029254386353131 : Int64)) + (-7046029254386353131 : Int64)))), .second] [(.long ((sd + (-7046029254386353131 : Int64)) + (-7046029254386353131 : Int64))), (.double (own_dbl ((sd + (-7046029254386353131 : Int64)) + (-7046029254386353131 : Int64))))]) _
  obtain ⟨_, _, ⟨T53, L53, k53, n53⟩, -, X53, ⟨Lc53, hQ53, l53, y53, z53⟩, st53⟩ := Jvm.LawKit.callS X50 hx (y := (⟨"com/example/dualfit/dualfit/allocation/SeededRandomNextDoublePinLaw", "drawIs", "(DJ)Z"⟩ : MethodName)) hown (mvT hZ (hw _ (List.mem_of_getElem? (i := 25) rfl))) (mvT hZ (hw _ (List.mem_of_getElem? (i := 26) rfl))) (mvT hZ (hw _ (List.mem_of_getElem? (i := 27) rfl))) (mvT hZ (hw _ (List.mem_of_getElem? (i := 28) rfl))) (by decide) (backOf (W := 0) (rm_draw l Z a0 hw [] ((sd + (-7046029254386353131 : Int64)) + (-7046029254386353131 : Int64)) T45.heap n0 Z49 ) hZ (hw _ (List.mem_of_getElem? (i := 28) rfl)) (hw _ (List.mem_of_getElem? (i := 27) rfl)) (by decide) (by decide)) (g := (mkF m 55 #[.val (.long sd), .second, .val (.long (-7046029254386353131 : Int64)), .second, .val (.ref a24), .val (.double (own_dbl (sd + (-7046029254386353131 : Int64)))), .second, .val (.double (own_dbl ((sd + (-7046029254386353131 : Int64)) + (-7046029254386353131 : Int64)))), .second, .val (.double (own_dbl (((sd + (-7046029254386353131 : Int64)) + (-7046029254386353131 : Int64)) + (-7046029254386353131 : Int64)))), .second] [(.long ((sd + (-7046029254386353131 : Int64)) + (-7046029254386353131 : Int64))), (.double (own_dbl ((sd + (-7046029254386353131 : Int64)) + (-7046029254386353131 : Int64))))])) rfl (by rw [hml]; rfl) (argsL := [(.double (own_dbl ((sd + (-7046029254386353131 : Int64)) + (-7046029254386353131 : Int64)))), (.long ((sd + (-7046029254386353131 : Int64)) + (-7046029254386353131 : Int64)))]) (rest := []) (lenOf pd__DJ_Z rfl) rfl (by show 2 * 0 + _ ≤ _; exact Nat.le_of_eq rfl) (hb hby at_55) (fun _ _ => ⟨rfl, K50, (by decide : 1 + 0 ≤ _), (by decide : 1 + 0 ≤ _)⟩)
  dsimp only [Pt.U, Pt.locs, Pt.cells, Pt.slots] at X53 l53 y53 z53 st53 hQ53
  subst l53 y53 z53
  obtain ⟨rfl, NQ53, K53⟩ := hQ53
  have N54 := Fr.app N51 NQ53
  refine Rch.st (fun _ k => st53 _ k) ?_
  show Rch p e below T53 (mkF m 58 #[.val (.long sd), .second, .val (.long (-7046029254386353131 : Int64)), .second, .val (.ref a24), .val (.double (own_dbl (sd + (-7046029254386353131 : Int64)))), .second, .val (.double (own_dbl ((sd + (-7046029254386353131 : Int64)) + (-7046029254386353131 : Int64)))), .second, .val (.double (own_dbl (((sd + (-7046029254386353131 : Int64)) + (-7046029254386353131 : Int64)) + (-7046029254386353131 : Int64)))), .second] [(.int (1 : Int32))]) _
  refine Rch.st (fun _ k => XS.ifNo X53.here hx rfl (hb hby at_58) rfl (XT.i0_eq_f (by decide)) k) ?_
  show Rch p e below T53 (mkF m 61 #[.val (.long sd), .second, .val (.long (-7046029254386353131 : Int64)), .second, .val (.ref a24), .val (.double (own_dbl (sd + (-7046029254386353131 : Int64)))), .second, .val (.double (own_dbl ((sd + (-7046029254386353131 : Int64)) + (-7046029254386353131 : Int64)))), .second, .val (.double (own_dbl (((sd + (-7046029254386353131 : Int64)) + (-7046029254386353131 : Int64)) + (-7046029254386353131 : Int64)))), .second] []) _
  refine Rch.st (fun _ k => XS.dload X53.here hx rfl (hb hby at_61) rfl k) ?_
  show Rch p e below T53 (mkF m 63 #[.val (.long sd), .second, .val (.long (-7046029254386353131 : Int64)), .second, .val (.ref a24), .val (.double (own_dbl (sd + (-7046029254386353131 : Int64)))), .second, .val (.double (own_dbl ((sd + (-7046029254386353131 : Int64)) + (-7046029254386353131 : Int64)))), .second, .val (.double (own_dbl (((sd + (-7046029254386353131 : Int64)) + (-7046029254386353131 : Int64)) + (-7046029254386353131 : Int64)))), .second] [(.double (own_dbl (((sd + (-7046029254386353131 : Int64)) + (-7046029254386353131 : Int64)) + (-7046029254386353131 : Int64))))]) _
  refine Rch.st (fun _ k => XT.lloadN X53.here hx rfl (hb hby at_63) rfl k) ?_
  show Rch p e below T53 (mkF m 64 #[.val (.long sd), .second, .val (.long (-7046029254386353131 : Int64)), .second, .val (.ref a24), .val (.double (own_dbl (sd + (-7046029254386353131 : Int64)))), .second, .val (.double (own_dbl ((sd + (-7046029254386353131 : Int64)) + (-7046029254386353131 : Int64)))), .second, .val (.double (own_dbl (((sd + (-7046029254386353131 : Int64)) + (-7046029254386353131 : Int64)) + (-7046029254386353131 : Int64)))), .second] [(.long sd), (.double (own_dbl (((sd + (-7046029254386353131 : Int64)) + (-7046029254386353131 : Int64)) + (-7046029254386353131 : Int64))))]) _
  refine Rch.st (fun _ k => Stand.ldc2J X53 hx hown (mv hZ (hw _ (List.mem_of_getElem? (i := 36) rfl))) rfl (hb hby at_64) k) ?_
  show Rch p e below T53 (mkF m 67 #[.val (.long sd), .second, .val (.long (-7046029254386353131 : Int64)), .second, .val (.ref a24), .val (.double (own_dbl (sd + (-7046029254386353131 : Int64)))), .second, .val (.double (own_dbl ((sd + (-7046029254386353131 : Int64)) + (-7046029254386353131 : Int64)))), .second, .val (.double (own_dbl (((sd + (-7046029254386353131 : Int64)) + (-7046029254386353131 : Int64)) + (-7046029254386353131 : Int64)))), .second] [(.long (3 : Int64)), (.long sd), (.double (own_dbl (((sd + (-7046029254386353131 : Int64)) + (-7046029254386353131 : Int64)) + (-7046029254386353131 : Int64))))]) _
  refine Rch.st (fun _ k => XT.lloadN X53.here hx rfl (hb hby at_67) rfl k) ?_
  show Rch p e below T53 (mkF m 68 #[.val (.long sd), .second, .val (.long (-7046029254386353131 : Int64)), .second, .val (.ref a24), .val (.double (own_dbl (sd + (-7046029254386353131 : Int64)))), .second, .val (.double (own_dbl ((sd + (-7046029254386353131 : Int64)) + (-7046029254386353131 : Int64)))), .second, .val (.double (own_dbl (((sd + (-7046029254386353131 : Int64)) + (-7046029254386353131 : Int64)) + (-7046029254386353131 : Int64)))), .second] [(.long (-7046029254386353131 : Int64)), (.long (3 : Int64)), (.long sd), (.double (own_dbl (((sd + (-7046029254386353131 : Int64)) + (-7046029254386353131 : Int64)) + (-7046029254386353131 : Int64))))]) _
  refine Rch.st (fun _ k => XT.lmul X53.here hx rfl (hb hby at_68) rfl k) ?_
  show Rch p e below T53 (mkF m 69 #[.val (.long sd), .second, .val (.long (-7046029254386353131 : Int64)), .second, .val (.ref a24), .val (.double (own_dbl (sd + (-7046029254386353131 : Int64)))), .second, .val (.double (own_dbl ((sd + (-7046029254386353131 : Int64)) + (-7046029254386353131 : Int64)))), .second, .val (.double (own_dbl (((sd + (-7046029254386353131 : Int64)) + (-7046029254386353131 : Int64)) + (-7046029254386353131 : Int64)))), .second] [(.long ((3 : Int64) * (-7046029254386353131 : Int64))), (.long sd), (.double (own_dbl (((sd + (-7046029254386353131 : Int64)) + (-7046029254386353131 : Int64)) + (-7046029254386353131 : Int64))))]) _
  refine Rch.st (fun _ k => XT.ladd X53.here hx rfl (hb hby at_69) rfl k) ?_
  show Rch p e below T53 (mkF m 70 #[.val (.long sd), .second, .val (.long (-7046029254386353131 : Int64)), .second, .val (.ref a24), .val (.double (own_dbl (sd + (-7046029254386353131 : Int64)))), .second, .val (.double (own_dbl ((sd + (-7046029254386353131 : Int64)) + (-7046029254386353131 : Int64)))), .second, .val (.double (own_dbl (((sd + (-7046029254386353131 : Int64)) + (-7046029254386353131 : Int64)) + (-7046029254386353131 : Int64)))), .second] [(.long (sd + ((3 : Int64) * (-7046029254386353131 : Int64)))), (.double (own_dbl (((sd + (-7046029254386353131 : Int64)) + (-7046029254386353131 : Int64)) + (-7046029254386353131 : Int64))))]) _
  have r55 : (sd + ((3 : Int64) * (-7046029254386353131 : Int64))) = (((sd + (-7046029254386353131 : Int64)) + (-7046029254386353131 : Int64)) + (-7046029254386353131 : Int64)) := by simp only [Int64.add_assoc]; congr 1
  rw [r55]
  show Rch p e below T53 (mkF m 70 #[.val (.long sd), .second, .val (.long (-7046029254386353131 : Int64)), .second, .val (.ref a24), .val (.double (own_dbl (sd + (-7046029254386353131 : Int64)))), .second, .val (.double (own_dbl ((sd + (-7046029254386353131 : Int64)) + (-7046029254386353131 : Int64)))), .second, .val (.double (own_dbl (((sd + (-7046029254386353131 : Int64)) + (-7046029254386353131 : Int64)) + (-7046029254386353131 : Int64)))), .second] [(.long (((sd + (-7046029254386353131 : Int64)) + (-7046029254386353131 : Int64)) + (-7046029254386353131 : Int64))), (.double (own_dbl (((sd + (-7046029254386353131 : Int64)) + (-7046029254386353131 : Int64)) + (-7046029254386353131 : Int64))))]) _
  obtain ⟨_, _, ⟨T56, L56, k56, n56⟩, -, X56, ⟨Lc56, hQ56, l56, y56, z56⟩, st56⟩ := Jvm.LawKit.callS X53 hx (y := (⟨"com/example/dualfit/dualfit/allocation/SeededRandomNextDoublePinLaw", "drawIs", "(DJ)Z"⟩ : MethodName)) hown (mvT hZ (hw _ (List.mem_of_getElem? (i := 25) rfl))) (mvT hZ (hw _ (List.mem_of_getElem? (i := 26) rfl))) (mvT hZ (hw _ (List.mem_of_getElem? (i := 27) rfl))) (mvT hZ (hw _ (List.mem_of_getElem? (i := 28) rfl))) (by decide) (backOf (W := 0) (rm_draw l Z a0 hw [] (((sd + (-7046029254386353131 : Int64)) + (-7046029254386353131 : Int64)) + (-7046029254386353131 : Int64)) T45.heap n0 Z49 ) hZ (hw _ (List.mem_of_getElem? (i := 28) rfl)) (hw _ (List.mem_of_getElem? (i := 27) rfl)) (by decide) (by decide)) (g := (mkF m 70 #[.val (.long sd), .second, .val (.long (-7046029254386353131 : Int64)), .second, .val (.ref a24), .val (.double (own_dbl (sd + (-7046029254386353131 : Int64)))), .second, .val (.double (own_dbl ((sd + (-7046029254386353131 : Int64)) + (-7046029254386353131 : Int64)))), .second, .val (.double (own_dbl (((sd + (-7046029254386353131 : Int64)) + (-7046029254386353131 : Int64)) + (-7046029254386353131 : Int64)))), .second] [(.long (((sd + (-7046029254386353131 : Int64)) + (-7046029254386353131 : Int64)) + (-7046029254386353131 : Int64))), (.double (own_dbl (((sd + (-7046029254386353131 : Int64)) + (-7046029254386353131 : Int64)) + (-7046029254386353131 : Int64))))])) rfl (by rw [hml]; rfl) (argsL := [(.double (own_dbl (((sd + (-7046029254386353131 : Int64)) + (-7046029254386353131 : Int64)) + (-7046029254386353131 : Int64)))), (.long (((sd + (-7046029254386353131 : Int64)) + (-7046029254386353131 : Int64)) + (-7046029254386353131 : Int64)))]) (rest := []) (lenOf pd__DJ_Z rfl) rfl (by show 2 * 0 + _ ≤ _; exact Nat.le_of_eq rfl) (hb hby at_70) (fun _ _ => ⟨rfl, K53, (by decide : 1 + 0 ≤ _), (by decide : 1 + 0 ≤ _)⟩)
  dsimp only [Pt.U, Pt.locs, Pt.cells, Pt.slots] at X56 l56 y56 z56 st56 hQ56
  subst l56 y56 z56
  obtain ⟨rfl, NQ56, K56⟩ := hQ56
  have N57 := Fr.app N54 NQ56
  refine Rch.st (fun _ k => st56 _ k) ?_
  show Rch p e below T56 (mkF m 73 #[.val (.long sd), .second, .val (.long (-7046029254386353131 : Int64)), .second, .val (.ref a24), .val (.double (own_dbl (sd + (-7046029254386353131 : Int64)))), .second, .val (.double (own_dbl ((sd + (-7046029254386353131 : Int64)) + (-7046029254386353131 : Int64)))), .second, .val (.double (own_dbl (((sd + (-7046029254386353131 : Int64)) + (-7046029254386353131 : Int64)) + (-7046029254386353131 : Int64)))), .second] [(.int (1 : Int32))]) _
  refine Rch.st (fun _ k => XS.ifNo X56.here hx rfl (hb hby at_73) rfl (XT.i0_eq_f (by decide)) k) ?_
  show Rch p e below T56 (mkF m 76 #[.val (.long sd), .second, .val (.long (-7046029254386353131 : Int64)), .second, .val (.ref a24), .val (.double (own_dbl (sd + (-7046029254386353131 : Int64)))), .second, .val (.double (own_dbl ((sd + (-7046029254386353131 : Int64)) + (-7046029254386353131 : Int64)))), .second, .val (.double (own_dbl (((sd + (-7046029254386353131 : Int64)) + (-7046029254386353131 : Int64)) + (-7046029254386353131 : Int64)))), .second] []) _
  refine Rch.st (fun _ k => XS.iconst X56.here hx rfl (hb hby at_76) k) ?_
  show Rch p e below T56 (mkF m 77 #[.val (.long sd), .second, .val (.long (-7046029254386353131 : Int64)), .second, .val (.ref a24), .val (.double (own_dbl (sd + (-7046029254386353131 : Int64)))), .second, .val (.double (own_dbl ((sd + (-7046029254386353131 : Int64)) + (-7046029254386353131 : Int64)))), .second, .val (.double (own_dbl (((sd + (-7046029254386353131 : Int64)) + (-7046029254386353131 : Int64)) + (-7046029254386353131 : Int64)))), .second] [(.int (1 : Int32))]) _
  refine Rch.st (fun _ k => XS.goto X56.here hx rfl (pc0 := 77) (pc' := 81) rfl (hb hby at_77) (by decide) (by decide) k) ?_
  show Rch p e below T56 (mkF m 81 #[.val (.long sd), .second, .val (.long (-7046029254386353131 : Int64)), .second, .val (.ref a24), .val (.double (own_dbl (sd + (-7046029254386353131 : Int64)))), .second, .val (.double (own_dbl ((sd + (-7046029254386353131 : Int64)) + (-7046029254386353131 : Int64)))), .second, .val (.double (own_dbl (((sd + (-7046029254386353131 : Int64)) + (-7046029254386353131 : Int64)) + (-7046029254386353131 : Int64)))), .second] [(.int (1 : Int32))]) _
  exact Rch.retV X56 hx Bd.returns rfl (Or.inl ⟨rfl, by simp, _, rfl⟩) (hb hby at_81) (by rw [K56]; exact ⟨rfl, N57, Kp48⟩) (by decide) (by decide)

set_option maxRecDepth 65536 in
set_option maxHeartbeats 40000000 in
theorem comes_1 {Post : Tables → Env → Array Value → State → Outcome → State → Prop} (hpost : ∀ tb e args s v u, (limb_1_1.after args s (.returned v) u = true ∧ limb_1_2.after args s (.returned v) u = true ∧ True) → FrameEnd s (.returned v) u (Jvm.fieldLocs frame_1_writes args s ++ Jvm.arrayLocs frame_1_arrays args s ++ Jvm.staticLocs frame_1_statics s) 16 128 → Post tb e args s (.returned v) u) :
    ArmFor flags0 classFile x code maxLocals ret World_1 tables_1 room_1 Calls_1 rest_1 Pre_1 Post := by
  intro l hfl _ _ p e ha hc hk s m args below hf hA hF happ hP
  obtain ⟨hcalls, hrest, hpre⟩ := hP
  obtain ⟨-, -, -, hnamed, -, -, -, hat⟩ := (Spec.applies_iff hf).mp happ
  obtain ⟨hg, hn⟩ := and_e (Cond.before_iff.mp (show (Jvm.Cond.and given_1 narrow_1).before args s = true from hpre))
  obtain ⟨hcnt, hgs⟩ := and_e hg
  obtain ⟨w0, rfl⟩ : ∃ w0, args = #[w0] := by
    have hs : args.size = 1 := by simpa [Cond.value, given_1] using hcnt
    obtain ⟨L⟩ := args
    match L, hs with
    | [w0], _ => exact ⟨w0, rfl⟩
  have hw := fun d (hd : d ∈ tables_1) => atoms_spec (ws := Jvm.Cond.code x code maxLocals ret :: tables_1) hat d (List.mem_cons_of_mem _ hd)
  have hfit : Fit s := fun {y c} hc i hi => by
    obtain ⟨ha, rfl⟩ := Array.getElem?_eq_some_iff.mp hc
    have q := List.all_eq_true.mp ((Array.all_eq_true_iff_forall_mem.mp hF) _ (Array.getElem_mem ha)) i (List.mem_range.mpr hi)
    simpa [Array.getElem?_eq_getElem hi] using q
  obtain ⟨i0, q0⟩ := isL_v hgs
  obtain rfl : w0 = (.long i0) := Option.some.inj q0
  obtain ⟨n, o, h1, h2, h3, _, L, rfl, ⟨rfl, N, -⟩, hq⟩ := rm_law l s _ hw tables_1 i0 s.heap s.heap.size (Nat.le_refl _)  p e ha hc hk s m _ below hf ((Spec.applies_iff_loose hf).mp happ).1 ⟨rfl, State.Warmed39.refl s, rfl⟩ trivial
  refine ⟨n, _, h1, h2, h3, hpost _ _ _ _ _ _ ⟨Cond.after_iff.mpr rfl, Cond.after_iff.mpr (eq_i res_at (Term.int_eval (1)) rfl), trivial⟩ ⟨hq.1, hq.2.1, (hq.2.2.sift fun y hy => Or.inr (N y hy)).mono (by decide) (by decide)⟩⟩
theorem main_1_1 : Claimed_1_1 := comes_1 fun _ _ _ _ _ _ h hF => ⟨h.1, hF⟩
theorem main_1_2 : Claimed_1_2 := comes_1 fun _ _ _ _ _ _ h hF => ⟨h.2.1, hF⟩
end Jvm.Pilot.@@N@@
namespace Jvm.Pilot.@@N@@
open Jvm Jvm.ClassFile Sem Op Lib Jvm.Free Jvm.Stand Jvm.Pilot.@@N@@.Jvm.D
/-! MADE BY PROGRAM (witnessworld.py) out of the Statement's table words and the real class files: 9 classes; the members and pool entries that the words name. The judged class is class 1, her method 3. -/
namespace start1
open Jvm.ClassFile
def u (s : String) : CpInfo := .utf8 (stringToUtf16 s)
/-- a pool by its gaps: so many unusable entries, then the entry; so many at the end -/
def gap : Nat → List CpInfo → List CpInfo
  | 0, r => r
  | n + 1, r => .unusable :: gap n r
def poolList (es : List (Nat × CpInfo)) (last : Nat) : List CpInfo := es.foldr (fun e r => gap e.1 (e.2 :: r)) (gap last [])
def pool (es : List (Nat × CpInfo)) (last : Nat) : Array CpInfo := ⟨poolList es last⟩
def fileOf (pool : Array CpInfo) (this : Nat) (attrs : Array Attribute := #[]) (ms : Array MethodInfo := #[]) (fl : Nat := 33) (sup : Nat := 0) (ifs : Array Nat := #[]) (fds : Array FieldInfo := #[]) : ClassFile where
  minorVersion := 0
  majorVersion := 65
  constantPool := pool
  accessFlags := fl
  thisClass := this
  superClass := sup
  interfaces := ifs
  fields := fds
  methods := ms
  attributes := attrs
def plain (name : String) (sup : Option ClassId) : Class where
  name := name
  kind := .ordinary
  loader := none
  accessFlags := 33
  super := sup
  interfaces := #[]
  cf := none
  fields := #[]
  methods := #[]
  instanceTypes := #[]
  staticTypes := #[]
  resolved := #[]
  callSites := []
  init := .initialized
  statics := none
  mirror := none

def pool0 : Array CpInfo := pool [(5, u "<init>"), (0, u "()V"), (1, .class_ 10), (1, u "java/lang/Object")] 113

def k0c0 : Code := { maxStack := 0, maxLocals := 1, code := object_method_1_code, exceptionTable := #[], attributes := #[] }
def k0m0 : Method := { name := "<init>", desc := "()V", sig := { parameters := [], returnType := none }, accessFlags := 1, code := some k0c0 }
/-- java/lang/Object -/
def k0 : Class := { plain "java/lang/Object" none with
  accessFlags := 33
  interfaces := #[]
  cf := some (fileOf pool0 8 #[] #[{ accessFlags := 1, nameIndex := 5, descriptorIndex := 6, attributes := #[] }] 33 0 #[] #[])
  fields := #[]
  methods := #[k0m0]
  instanceTypes := #[]
  staticTypes := #[]
  resolved := Array.replicate 124 none
  statics := none }

def pool1 : Array CpInfo := pool [(2, .class_ 4), (1, u "java/lang/Object"), (0, u "<init>"), (0, u "()V"), (0, .long 13787848793156543929), (1, .long 10723151780598845931), (1, .methodref 12 13), (0, .class_ 14), (0, .nameAndType 15 16), (0, u "com/example/dualfit/dualfit/allocation/SeededRandomNextDoublePinLaw"), (0, u "splitMix"), (0, u "(J)J"), (0, .double 4845873199050653696), (1, .long 11400714819323198485), (1, .class_ 22), (0, u "com/example/dualfit/dualfit/allocation/SeededRandom"), (0, .methodref 21 24), (0, .nameAndType 5 25), (0, u "(J)V"), (0, .methodref 21 27), (0, .nameAndType 28 29), (0, u "nextDouble"), (0, u "()D"), (0, .methodref 12 31), (0, .nameAndType 32 33), (0, u "drawIs"), (0, u "(DJ)Z"), (0, .long 2), (1, .long 3), (4, u "law"), (0, u "(J)Z")] 2

def k1m0 : Method := { name := "<init>", desc := "()V", sig := { parameters := [], returnType := none }, accessFlags := 1, code := none }
def k1c1 : Code := { maxStack := 5, maxLocals := 2, code := method_2_code, exceptionTable := #[], attributes := #[] }
def k1m1 : Method := { name := "splitMix", desc := "(J)J", sig := { parameters := [.long], returnType := some .long }, accessFlags := 10, code := some k1c1 }
def k1c2 : Code := { maxStack := 4, maxLocals := 6, code := method_3_code, exceptionTable := #[], attributes := #[] }
def k1m2 : Method := { name := "drawIs", desc := "(DJ)Z", sig := { parameters := [.double, .long], returnType := some .boolean }, accessFlags := 10, code := some k1c2 }
def k1c3 : Code := { maxStack := 8, maxLocals := 11, code := code, exceptionTable := #[], attributes := #[] }
def k1m3 : Method := { name := "law", desc := "(J)Z", sig := { parameters := [.long], returnType := some .boolean }, accessFlags := 9, code := some k1c3 }
/-- com/example/dualfit/dualfit/allocation/SeededRandomNextDoublePinLaw -/
def k1 : Class := { plain "com/example/dualfit/dualfit/allocation/SeededRandomNextDoublePinLaw" (some 0) with
  accessFlags := 49
  interfaces := #[]
  cf := some (fileOf pool1 12 #[] #[{ accessFlags := 1, nameIndex := 5, descriptorIndex := 6, attributes := #[] }, { accessFlags := 10, nameIndex := 15, descriptorIndex := 16, attributes := #[] }, { accessFlags := 10, nameIndex := 32, descriptorIndex := 33, attributes := #[] }, { accessFlags := 9, nameIndex := 41, descriptorIndex := 42, attributes := #[] }] 49 2 #[] #[])
  fields := #[]
  methods := #[k1m0, k1m1, k1m2, k1m3]
  instanceTypes := #[]
  staticTypes := #[]
  resolved := Array.replicate 45 none
  statics := none }

def pool2 : Array CpInfo := pool [(1, .methodref 2 3), (0, .class_ 4), (0, .nameAndType 5 6), (0, u "java/lang/Object"), (0, u "<init>"), (0, u "()V"), (0, .fieldref 8 9), (0, .class_ 10), (0, .nameAndType 11 12), (0, u "com/example/dualfit/dualfit/allocation/SeededRandom"), (0, u "state"), (0, u "J"), (8, .methodref 8 22), (0, .nameAndType 23 24), (0, u "nextLong"), (0, u "()J"), (0, .double 4368491638549381120), (1, .long 11400714819323198485), (1, .long 13787848793156543929), (1, .long 10723151780598845931), (1, u "GAMMA"), (1, u "DOUBLE_BITS"), (0, u "I"), (1, u "DOUBLE_UNIT"), (0, u "D"), (0, u "(J)V"), (5, u "nextDouble"), (0, u "()D")] 2

def k2c0 : Code := { maxStack := 3, maxLocals := 3, code := prog_18_method_1_code, exceptionTable := #[], attributes := #[] }
def k2m0 : Method := { name := "<init>", desc := "(J)V", sig := { parameters := [.long], returnType := none }, accessFlags := 1, code := some k2c0 }
def k2c1 : Code := { maxStack := 4, maxLocals := 1, code := prog_18_method_4_code, exceptionTable := #[], attributes := #[] }
def k2m1 : Method := { name := "nextDouble", desc := "()D", sig := { parameters := [], returnType := some .double }, accessFlags := 0, code := some k2c1 }
def k2c2 : Code := { maxStack := 5, maxLocals := 3, code := prog_18_method_5_code, exceptionTable := #[], attributes := #[] }
def k2m2 : Method := { name := "nextLong", desc := "()J", sig := { parameters := [], returnType := some .long }, accessFlags := 2, code := some k2c2 }
/-- com/example/dualfit/dualfit/allocation/SeededRandom -/
def k2 : Class := { plain "com/example/dualfit/dualfit/allocation/SeededRandom" (some 0) with
  accessFlags := 49
  interfaces := #[]
  cf := some (fileOf pool2 8 #[] #[{ accessFlags := 1, nameIndex := 5, descriptorIndex := 40, attributes := #[] }, { accessFlags := 0, nameIndex := 46, descriptorIndex := 47, attributes := #[] }, { accessFlags := 2, nameIndex := 23, descriptorIndex := 24, attributes := #[] }] 49 2 #[] #[{ accessFlags := 26, nameIndex := 33, descriptorIndex := 12, attributes := #[] }, { accessFlags := 26, nameIndex := 35, descriptorIndex := 36, attributes := #[] }, { accessFlags := 26, nameIndex := 38, descriptorIndex := 39, attributes := #[] }, { accessFlags := 2, nameIndex := 11, descriptorIndex := 12, attributes := #[] }])
  fields := #[{ name := "GAMMA", type := .long, accessFlags := 26, slot := 0, constantValue := 0 }, { name := "DOUBLE_BITS", type := .int, accessFlags := 26, slot := 1, constantValue := 0 }, { name := "DOUBLE_UNIT", type := .double, accessFlags := 26, slot := 2, constantValue := 0 }, { name := "state", type := .long, accessFlags := 2, slot := 0, constantValue := 0 }]
  methods := #[k2m0, k2m1, k2m2]
  instanceTypes := #[.long]
  staticTypes := #[.long, .int, .double]
  resolved := Array.replicate 50 none
  statics := none }

def pool3 : Array CpInfo := pool [(1, u "java/lang/Cloneable"), (0, .class_ 1), (0, u "java/lang/Object"), (0, .class_ 3)] 3

/-- java/lang/Cloneable -/
def k3 : Class := { plain "java/lang/Cloneable" (some 0) with
  accessFlags := 1537
  interfaces := #[]
  cf := some (fileOf pool3 2 #[] #[] 1537 4 #[] #[])
  fields := #[]
  methods := #[]
  instanceTypes := #[]
  staticTypes := #[]
  resolved := Array.replicate 8 none
  statics := none }

def pool4 : Array CpInfo := pool [(1, u "java/io/Serializable"), (0, .class_ 1), (0, u "java/lang/Object"), (0, .class_ 3)] 3

/-- java/io/Serializable -/
def k4 : Class := { plain "java/io/Serializable" (some 0) with
  accessFlags := 1537
  interfaces := #[]
  cf := some (fileOf pool4 2 #[] #[] 1537 4 #[] #[])
  fields := #[]
  methods := #[]
  instanceTypes := #[]
  staticTypes := #[]
  resolved := Array.replicate 8 none
  statics := none }

/-- the primitive byte -/
def k5 : Class := { plain "byte" none with kind := .primitive 'B', accessFlags := 0x411 }
/-- [B -/
def k6 : Class := { plain "[B" (some 0) with kind := .array 5 .byte, interfaces := #[3, 4], accessFlags := 1041 }

/-- the primitive int -/
def k7 : Class := { plain "int" none with kind := .primitive 'I', accessFlags := 0x411 }
/-- [I -/
def k8 : Class := { plain "[I" (some 0) with kind := .array 7 .int, interfaces := #[3, 4], accessFlags := 1041 }

def heap : Heap := #[]
def classes : Array Class := #[k0, k1, k2, k3, k4, k5, k6, k7, k8]
def interned : List (Array UInt16 × Addr) := []
def slotsUsed : Nat := 0
def theMethod : MethodId := ⟨1, 3⟩
def args0 : Array Value := #[.long 5]
def aboutOver (below : List Frame) : State where
  vm := { classes := classes, interned := interned.toArray }
  heap := heap
  slotsUsed := slotsUsed
  threads := #[{ frames := .invoking theMethod args0 :: below }]
def below0 : List Frame := [.native { method := ⟨0, 0⟩, args := #[] }]
def about1 : State := aboutOver below0
def p0 : Program := .bare "" "" ""
def e0 : Env := launch0.env 0 0 0
theorem w_frames : about1.frames = Frame.invoking theMethod args0 :: below0 := rfl
set_option maxRecDepth 65536 in
theorem w_args : argsFit about1.vm theMethod args0 = true := by decide +kernel
set_option maxRecDepth 65536 in
theorem w_heap : heapFits about1 = true := by decide +kernel
set_option maxRecDepth 65536 in
theorem w_runnable : about1.curStatus? = some .runnable := by decide +kernel
set_option maxRecDepth 65536 in
theorem w_alone : about1.alone = true := by decide +kernel
set_option maxRecDepth 65536 in
theorem w_named : about1.methodNamed? x = some theMethod := by decide +kernel
set_option maxRecDepth 65536 in
theorem w_hears : about1.hears theMethod below0 = true := by decide +kernel
set_option maxRecDepth 65536 in
theorem w_ripe : about1.ripe theMethod args0 below0 = true := by decide +kernel
theorem w_running : about1.status = .running := rfl
set_option maxRecDepth 65536 in
theorem w_room : about1.hasRoom e0.platform room_1 = true :=
  launch0.hasRoom_least _ room_1 (by decide +kernel) (by decide +kernel) (by decide +kernel) (by decide +kernel) (by decide +kernel) (by decide +kernel)
theorem allAtoms_all (ts : List Jvm.Cond) (a : Array Jvm.Value) (st : Jvm.State) : (allAtoms ts).before a st = ts.all (fun c => c.before a st) := by
  induction ts with
  | nil => rfl
  | cons c t ih =>
    show (Jvm.Cond.and c (allAtoms t)).before a st = _
    rw [Jvm.Cond.before_and, ih, List.all_cons]
def words1 : List Jvm.Cond := Jvm.Cond.code x code maxLocals ret :: tables_1
/-- a 'code' word, met by the world's own term for the bytes: nothing is compared byte by byte -/
theorem code_word {y : MethodName} {bytes : ByteArray} {mx : Nat} {rt : Option FieldType} {a : Array Value} {s : State} {m : MethodId} {meth : Method} {c : Code} (h1 : s.methodNamed? y = some m) (h2 : s.vm.method? m = some meth) (h3 : meth.code = some c) (h4 : c.code = bytes)
    (h5 : (c.maxLocals == mx && c.exceptionTable.isEmpty && decide (c.maxStack ≤ mostOperands) && decide (meth.sig.returnType = rt) && !meth.locks && decide (parseMethodDescriptor y.desc = some meth.sig)) = true) : (Jvm.Cond.code y bytes mx rt).before a s = true := by
  simp only [Bool.and_eq_true, beq_iff_eq, Bool.not_eq_true', decide_eq_true_eq] at h5
  obtain ⟨⟨⟨⟨⟨g1, g2⟩, g3⟩, g4⟩, g5⟩, g6⟩ := h5
  simp [Cond.before, Cond.holds, Cond.value, h1, h2, h3, h4, g1, g2, g3, g4, g5, g6]
def isCode : Jvm.Cond → Bool
  | .code _ _ _ _ => true
  | _ => false
theorem all_split {L : List Jvm.Cond} {P : Jvm.Cond → Bool} (h1 : L.all (fun c => isCode c || P c) = true) (h2 : ∀ c ∈ L.filter isCode, P c = true) : L.all P = true := by
  refine List.all_eq_true.mpr fun c hc => ?_
  have h := List.all_eq_true.mp h1 c hc
  rcases Bool.eq_false_or_eq_true (isCode c) with hi | hi
  · exact h2 c (List.mem_filter.mpr ⟨hc, hi⟩)
  · simpa [hi] using h
set_option maxRecDepth 65536 in
theorem w_c0 : (Jvm.Cond.code x code maxLocals ret).before args0 about1 = true := code_word (m := ⟨1, 3⟩) (meth := k1m3) (c := k1c3) (by decide +kernel) rfl rfl rfl (by decide +kernel)
set_option maxRecDepth 65536 in
theorem w_c1 : (Jvm.Cond.code ({ cls := "com/example/dualfit/dualfit/allocation/SeededRandom", name := "<init>", desc := "(J)V" } : Jvm.MethodName) prog_18_method_1_code (3 : Nat) (Option.none : Option Jvm.ClassFile.FieldType)).before args0 about1 = true := code_word (m := ⟨2, 0⟩) (meth := k2m0) (c := k2c0) (by decide +kernel) rfl rfl rfl (by decide +kernel)
set_option maxRecDepth 65536 in
theorem w_c2 : (Jvm.Cond.code ({ cls := "java/lang/Object", name := "<init>", desc := "()V" } : Jvm.MethodName) object_method_1_code (1 : Nat) (Option.none : Option Jvm.ClassFile.FieldType)).before args0 about1 = true := code_word (m := ⟨0, 0⟩) (meth := k0m0) (c := k0c0) (by decide +kernel) rfl rfl rfl (by decide +kernel)
set_option maxRecDepth 65536 in
theorem w_c3 : (Jvm.Cond.code ({ cls := "com/example/dualfit/dualfit/allocation/SeededRandom", name := "nextDouble", desc := "()D" } : Jvm.MethodName) prog_18_method_4_code (1 : Nat) (Option.some Jvm.ClassFile.FieldType.double)).before args0 about1 = true := code_word (m := ⟨2, 1⟩) (meth := k2m1) (c := k2c1) (by decide +kernel) rfl rfl rfl (by decide +kernel)
set_option maxRecDepth 65536 in
theorem w_c4 : (Jvm.Cond.code ({ cls := "com/example/dualfit/dualfit/allocation/SeededRandom", name := "nextLong", desc := "()J" } : Jvm.MethodName) prog_18_method_5_code (3 : Nat) (Option.some Jvm.ClassFile.FieldType.long)).before args0 about1 = true := code_word (m := ⟨2, 2⟩) (meth := k2m2) (c := k2c2) (by decide +kernel) rfl rfl rfl (by decide +kernel)
set_option maxRecDepth 65536 in
theorem w_c5 : (Jvm.Cond.code ({ cls := "com/example/dualfit/dualfit/allocation/SeededRandomNextDoublePinLaw", name := "drawIs", desc := "(DJ)Z" } : Jvm.MethodName) method_3_code (6 : Nat) (Option.some Jvm.ClassFile.FieldType.boolean)).before args0 about1 = true := code_word (m := ⟨1, 2⟩) (meth := k1m2) (c := k1c2) (by decide +kernel) rfl rfl rfl (by decide +kernel)
set_option maxRecDepth 65536 in
theorem w_c6 : (Jvm.Cond.code ({ cls := "com/example/dualfit/dualfit/allocation/SeededRandomNextDoublePinLaw", name := "splitMix", desc := "(J)J" } : Jvm.MethodName) method_2_code (2 : Nat) (Option.some Jvm.ClassFile.FieldType.long)).before args0 about1 = true := code_word (m := ⟨1, 1⟩) (meth := k1m1) (c := k1c1) (by decide +kernel) rfl rfl rfl (by decide +kernel)
def codes1 : List Jvm.Cond := [Jvm.Cond.code x code maxLocals ret, Jvm.Cond.code ({ cls := "com/example/dualfit/dualfit/allocation/SeededRandom", name := "<init>", desc := "(J)V" } : Jvm.MethodName) prog_18_method_1_code (3 : Nat) (Option.none : Option Jvm.ClassFile.FieldType), Jvm.Cond.code ({ cls := "java/lang/Object", name := "<init>", desc := "()V" } : Jvm.MethodName) object_method_1_code (1 : Nat) (Option.none : Option Jvm.ClassFile.FieldType), Jvm.Cond.code ({ cls := "com/example/dualfit/dualfit/allocation/SeededRandom", name := "nextDouble", desc := "()D" } : Jvm.MethodName) prog_18_method_4_code (1 : Nat) (Option.some Jvm.ClassFile.FieldType.double), Jvm.Cond.code ({ cls := "com/example/dualfit/dualfit/allocation/SeededRandom", name := "nextLong", desc := "()J" } : Jvm.MethodName) prog_18_method_5_code (3 : Nat) (Option.some Jvm.ClassFile.FieldType.long), Jvm.Cond.code ({ cls := "com/example/dualfit/dualfit/allocation/SeededRandomNextDoublePinLaw", name := "drawIs", desc := "(DJ)Z" } : Jvm.MethodName) method_3_code (6 : Nat) (Option.some Jvm.ClassFile.FieldType.boolean), Jvm.Cond.code ({ cls := "com/example/dualfit/dualfit/allocation/SeededRandomNextDoublePinLaw", name := "splitMix", desc := "(J)J" } : Jvm.MethodName) method_2_code (2 : Nat) (Option.some Jvm.ClassFile.FieldType.long)]
set_option maxRecDepth 65536 in
theorem codes_eq : words1.filter isCode = codes1 := rfl
theorem w_codes : ∀ c ∈ words1.filter isCode, c.before args0 about1 = true := by
  rw [codes_eq]
  intro c hc
  simp only [codes1, List.mem_cons, List.not_mem_nil, or_false] at hc
  rcases hc with rfl | rfl | rfl | rfl | rfl | rfl | rfl
  · exact w_c0
  · exact w_c1
  · exact w_c2
  · exact w_c3
  · exact w_c4
  · exact w_c5
  · exact w_c6
set_option maxRecDepth 65536 in
theorem w_t1 : (words1.take 24).all (fun c => isCode c || c.before args0 about1) = true := by decide +kernel
set_option maxRecDepth 65536 in
theorem w_t2 : (words1.drop 24).all (fun c => isCode c || c.before args0 about1) = true := by decide +kernel
theorem w_tables : (allAtoms (Jvm.Cond.code x code maxLocals ret :: tables_1)).before args0 about1 = true := by
  rw [allAtoms_all]
  show words1.all (fun c => c.before args0 about1) = true
  refine all_split ?_ w_codes
  rw [← List.take_append_drop 24 words1, List.all_append, w_t1, w_t2]
  rfl
set_option maxRecDepth 65536 in
theorem w_case : (Jvm.Cond.and given_1 narrow_1).before args0 about1 = true := by decide +kernel
theorem w_applies : (headSpec (Jvm.Cond.code x code maxLocals ret :: tables_1) room_1).applies x e0.platform about1 = true :=
  (Spec.applies_iff w_frames).mpr ⟨w_running, w_runnable, w_alone, w_named, w_hears, w_ripe, w_room, w_tables⟩
theorem atStart : AtStart classFile x code maxLocals ret World_1 tables_1 room_1 Calls_1 rest_1 Pre_1 launch0 p0 e0 about1 theMethod args0 below0 :=
  ⟨lists_1, trivial, launch0.admits_env _ _ _, launch0.least_env, fairChoices_fair.cas, fairChoices_fair.clock, w_frames, w_args, w_heap, w_applies, trivial, trivial, w_case⟩
end start1
theorem witness_1 : WitnessClaimed_1 := ⟨start1.p0, start1.e0, start1.about1, start1.theMethod, start1.args0, start1.below0, start1.atStart⟩
end Jvm.Pilot.@@N@@
