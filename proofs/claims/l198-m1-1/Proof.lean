import JvmDerived
import JvmDerived.Pilot.@@N@@Statement
import JvmDerived.Pilot.@@N@@Code
set_option linter.unusedVariables false
set_option linter.unusedSimpArgs false
namespace Jvm.Pilot.@@N@@
open Jvm Jvm.ClassFile Sem Op Lib Jvm.Free Jvm.Stand Jvm.LawKit Jvm.RoadKit Bundle Jvm.Pilot.@@N@@.Jvm.D
section OwnKit
variable {p : Program} {l : Launch} {e : Env} {R : Room} {s : State} {m : MethodId} {args : Array Value} {below : List Frame} {meth : Method} {c : Code} {T : State} {locs : List Loc} {cells slots : Nat}
/-- from T with the frame F on top the body ends, and its end is as P says -/
def Rch (p : Program) (e : Env) (below : List Frame) (T : State) (F : JFrame) (P : Outcome → State → Prop) : Prop := ∃ s₂ o, Steps p.tables e below (T.setTop F) s₂ ∧ s₂.status = .running ∧ Ended s₂ below o ∧ P o s₂
theorem Rch.st {P : Outcome → State → Prop} {T T' : State} {F F' : JFrame} (k : ∀ t, Steps p.tables e below (T'.setTop F') t → Steps p.tables e below (T.setTop F) t) (h : Rch p e below T' F' P) : Rch p e below T F P :=
  let ⟨a, o, h1, h2⟩ := h
  ⟨a, o, k _ h1, h2⟩
theorem Rch.sq {P : Outcome → State → Prop} {T T' : State} {F F' : JFrame} (k : Steps p.tables e below (T.setTop F) (T'.setTop F')) (h : Rch p e below T' F' P) : Rch p e below T F P := Rch.st (fun _ q => k.trans q) h
theorem Rch.cast {P : Outcome → State → Prop} {T : State} {F F' : JFrame} (q : F = F') (h : Rch p e below T F' P) : Rch p e below T F P := q ▸ h
/-- a return, as a contract says it -/
def Fin (s : State) (Q : Option Value → Heap → List Loc → Prop) (K N : Nat) (o : Outcome) (U : State) : Prop := ∃ v L, o = .returned v ∧ Q v U.heap L ∧ FrameEnd s o U L K N
theorem Rch.retV (X : Stand p l e R s m args below meth c T locs cells slots) (hx : p.tables.exec = Jvm.exec) {pc : Nat} {Ls : Array Slot} {w : Value} {t : FieldType} {i : Instr} {rest : List Value} {Q : Option Value → Heap → List Loc → Prop} {K N : Nat} (hret : meth.sig.returnType = some t) (hn : narrow t w = w)
    (hi : (i = .ireturn ∧ (t = .int ∨ t = .boolean ∨ t = .byte ∨ t = .char ∨ t = .short) ∧ ∃ z, w = .int z) ∨ (i = .lreturn ∧ t = .long ∧ ∃ z, w = .long z) ∨ (i = .dreturn ∧ t = .double ∧ ∃ z, w = .double z) ∨ (i = .freturn ∧ t = .float ∧ ∃ z, w = .float z) ∨ (i = .areturn ∧ t.isReference = true ∧ w.isRef = true))
    (hd : decode c.code pc = .ok (i, 1)) (hq : Q (some w) T.heap locs) (hk : cells ≤ K) (hs : slots ≤ N) (hlocks : meth.locks = false := by first | assumption | exact BodyLoose.notSynchronized (by assumption) | exact Body.notSynchronized (by assumption)) : Rch p e below T (mkF m pc Ls (w :: rest)) (Fin s Q K N) := by
  obtain ⟨fs, hr, hrun, hended, hW, hsame⟩ := X.leave (v := some w) (fun h => by rw [hret] at h; cases h) hlocks
  exact ⟨_, _, retOut X hx hret hn hi hd hr, hrun, hended, _, _, rfl, hq, ⟨_, rfl⟩, hW, hsame.mono hk hs⟩
theorem Rch.ret0 (X : Stand p l e R s m args below meth c T locs cells slots) (hx : p.tables.exec = Jvm.exec) {pc : Nat} {Ls : Array Slot} {Q : Option Value → Heap → List Loc → Prop} {K N : Nat} (hret : meth.sig.returnType = none)
    (hd : decode c.code pc = .ok (.return_, 1)) (hq : Q none T.heap locs) (hk : cells ≤ K) (hs : slots ≤ N) (hlocks : meth.locks = false := by first | assumption | exact BodyLoose.notSynchronized (by assumption) | exact Body.notSynchronized (by assumption)) : Rch p e below T (mkF m pc Ls []) (Fin s Q K N) := by
  obtain ⟨fs, hr, hrun, hended, hW, hsame⟩ := X.leave (v := none) (fun _ => rfl) hlocks
  exact ⟨_, _, X.returnOut hx hret hd hr, hrun, hended, _, _, rfl, hq, ⟨_, rfl⟩, hW, hsame.mono hk hs⟩
theorem Rnar {t : FieldType} {w : Value} (h : w.isRef = true) : narrow t w = w := by cases w <;> first | (cases t <;> rfl) | (simp [Value.isRef] at h)
theorem Rfit {t : FieldType} {w : Value} (ht : t.isReference = true) (h : w.isRef = true) : fits t w = true := by cases t <;> first | (cases ht; done) | (cases w <;> simp [Value.isRef, fits] at h ⊢)
theorem own_selP {args : Array Value} {y : MethodName} {n : Nat} (wi : (Cond.instantiable y.cls n).before args s = true) (hpriv : s.PrivateAt y) (hinst : (Cond.instanceMethod y).before args s = true) (hy : y.cls ≠ "java/lang/invoke/MethodHandle" ∧ y.cls ≠ "java/lang/invoke/VarHandle") : (Cond.selects y.cls y y).before args s = true := by
  obtain ⟨c2, k2, i1, i2, i3, i4⟩ := Cond.instantiable_spec wi
  exact selects_self_of_private i1 i2 (by simp_all) hpriv hinst hy
theorem lremM {g : JFrame} {target : State} (X : Stand p l e R s m args below meth c T locs cells slots) (hx : p.tables.exec = Jvm.exec) (hg : g.method = m) {x y : Int64} {rest : List Value} (hd : decode c.code g.pc = .ok (.lrem, 1)) (hs : g.stack = .long y :: .long x :: rest) (hy : y ≠ 0)
    (hr : Steps p.tables e below (T.setTop { g with pc := g.pc + 1, stack := .long (x % y) :: rest }) target) : Steps p.tables e below (T.setTop g) target := XT.lrem X.here hx hg hd hs hy (by rw [lrem_mod]; exact hr)
end OwnKit
section OwnArr
variable {p : Program} {l : Launch} {e : Env} {R : Room} {s : State} {m : MethodId} {args : Array Value} {below : List Frame} {meth : Method} {c : Code} {T Z : State} {locs : List Loc} {cells slots : Nat} {h : Heap} {a : Addr} {k : ClassId} {n j x : Int32} {vs : List Value} {d v : Value} {g : JFrame} {rest : List Value} {target : State}
theorem own_alen {ty : FieldType} (X : Stand p l e R s m args below meth c T locs cells slots) (hx : p.tables.exec = Jvm.exec) (hZ : Z.Warmed39 s.vm) (eT : T.heap = h) (V : Arv Z h a k ty n vs d) (hg : g.method = m) (hs : g.stack = .ref a :: rest) (hd : decode c.code g.pc = .ok (.arraylength, 1))
    (hr : Steps p.tables e below (T.setTop { g with pc := g.pc + 1, stack := .int n :: rest }) target) : Steps p.tables e below (T.setTop g) target := by
  obtain ⟨cl, Ar, q, S, M, H, G⟩ := V
  refine X.arraylength hx (by rw [eT]; exact Ar.1) (State.isArrayOf_alike hZ.alike Ar.2.1) hg hs hd _ ?_
  rw [len_of S M]; exact hr
theorem own_ldB (X : Stand p l e R s m args below meth c T locs cells slots) (hx : p.tables.exec = Jvm.exec) (hZ : Z.Warmed39 s.vm) (eT : T.heap = h) (V : Arv Z h a k .byte n vs d) (hj : ¬ j < 0 ∧ j < n) (hv : vs.getD j.toNatClampNeg d = v) (hg : g.method = m) (hs : g.stack = .int j :: .ref a :: rest) (hd : decode c.code g.pc = .ok (.baload, 1))
    (hr : Steps p.tables e below (T.setTop { g with pc := g.pc + 1, stack := v :: rest }) target) : Steps p.tables e below (T.setTop g) target := by
  obtain ⟨cl, Ar, q, S, M, H, G⟩ := V
  exact X.baloadBytes hx (by rw [eT]; exact Ar.1) (State.isArrayOf_alike hZ.alike Ar.2.1) Ar.2.2 (inb_of S hj) (H.at (inb_of S hj) hv) hg hs hd _ hr
theorem own_ldC (X : Stand p l e R s m args below meth c T locs cells slots) (hx : p.tables.exec = Jvm.exec) (hZ : Z.Warmed39 s.vm) (eT : T.heap = h) (V : Arv Z h a k .char n vs d) (hj : ¬ j < 0 ∧ j < n) (hv : vs.getD j.toNatClampNeg d = v) (hg : g.method = m) (hs : g.stack = .int j :: .ref a :: rest) (hd : decode c.code g.pc = .ok (.caload, 1))
    (hr : Steps p.tables e below (T.setTop { g with pc := g.pc + 1, stack := v :: rest }) target) : Steps p.tables e below (T.setTop g) target := by
  obtain ⟨cl, Ar, q, S, M, H, G⟩ := V
  exact X.caload hx (by rw [eT]; exact Ar.1) (State.isArrayOf_alike hZ.alike Ar.2.1) Ar.2.2 (inb_of S hj) (H.at (inb_of S hj) hv) hg hs hd _ hr
theorem own_stC (X : Stand p l e R s m args below meth c T locs cells slots) (hx : p.tables.exec = Jvm.exec) (hZ : Z.Warmed39 s.vm) (eT : T.heap = h) (V : Arv Z h a k .char n vs d) (hj : ¬ j < 0 ∧ j < n) (i : Nat) (hi : j.toNatClampNeg = i) (hl : i < vs.length) (hg : g.method = m) (hs : g.stack = .int x :: .int j :: .ref a :: rest) (hd : decode c.code g.pc = .ok (.castore, 1)) :
    ∃ T' h', Stand p l e R s m args below meth c T' (locs ++ [⟨a, j.toNatClampNeg⟩]) cells slots ∧ T'.heap = h' ∧ Wr h h' a j.toNatClampNeg (.int (nar .char x)) ∧ Arv Z h' a k .char n (vs.set i (.int (nar .char x))) d ∧ ∀ target, Steps p.tables e below (T'.setTop { g with pc := g.pc + 1, stack := rest }) target → Steps p.tables e below (T.setTop g) target := by
  obtain ⟨cl, Ar, q, S, M, H, G⟩ := V
  obtain ⟨T', h', X', e', W, st⟩ := stC X hx hZ eT Ar (inb_of S hj) hg hs hd
  exact ⟨T', h', X', e', W, Arv.set Ar q S M H G (fits_nar_char _) W i hi hl, st⟩
theorem own_stB (X : Stand p l e R s m args below meth c T locs cells slots) (hx : p.tables.exec = Jvm.exec) (hZ : Z.Warmed39 s.vm) (eT : T.heap = h) (V : Arv Z h a k .byte n vs d) (hj : ¬ j < 0 ∧ j < n) (i : Nat) (hi : j.toNatClampNeg = i) (hl : i < vs.length) (hg : g.method = m) (hs : g.stack = .int x :: .int j :: .ref a :: rest) (hd : decode c.code g.pc = .ok (.bastore, 1)) :
    ∃ T' h', Stand p l e R s m args below meth c T' (locs ++ [⟨a, j.toNatClampNeg⟩]) cells slots ∧ T'.heap = h' ∧ Wr h h' a j.toNatClampNeg (.int x.toInt8.toInt32) ∧ Arv Z h' a k .byte n (vs.set i (.int x.toInt8.toInt32)) d ∧ ∀ target, Steps p.tables e below (T'.setTop { g with pc := g.pc + 1, stack := rest }) target → Steps p.tables e below (T.setTop g) target := by
  obtain ⟨cl, Ar, q, S, M, H, G⟩ := V
  obtain ⟨T', h', X', e', W, st⟩ := stB X hx hZ eT Ar (inb_of S hj) hg hs hd
  exact ⟨T', h', X', e', W, Arv.set Ar q S M H G (fits_nar_byte _) W i hi hl, st⟩
end OwnArr
def own_elig (th aF : Addr) (bid rm : Int64) : Int32 := if th = aF then (if rm < bid then 0 else 1) else (if 0 < rm then 1 else 0)
def own_min (x y : Int64) : Int64 := if y < x then y else x
def own_price (th aF : Addr) (bid rm : Int64) : Int64 := if th = aF then bid else own_min bid rm
theorem own_min_le (x y : Int64) : ¬ y < own_min x y := by
  unfold own_min; split
  · rw [Int64.lt_iff_toInt_lt]; omega
  · assumption
theorem own_ord {args : Array Value} {s : State} {t : Term} {a : Addr} {C n d : String} {z : Int32} (hv : t.eval args s none [] s = some (.ref a)) (h : (Cond.eq (Term.field t C n d) (Term.int z)).value args s none s [] = some true) : s.fieldOf? a C n d = some (.int z) := by
  obtain ⟨x, y, h1, h2, -, -⟩ := cmp_v (Or.inl h)
  have h3 : y = .int z := Option.some.inj (h2.symm.trans (Term.int_eval z))
  subst h3
  rw [fld_at hv] at h1
  have h4 := h
  simp only [Cond.value, fld_at hv, h1, Term.int_eval] at h4
  cases x <;> simp at h4
  rw [h1, h4]
theorem d_prog_4_method_4_code_0 : decode prog_4_method_4_code 0 = .ok (.aload_n 0, 1) := by decide +kernel
theorem d_prog_4_method_4_code_1 : decode prog_4_method_4_code 1 = .ok (.getstatic 3, 3) := by decide +kernel
theorem d_prog_4_method_4_code_4 : decode prog_4_method_4_code 4 = .ok (.if_acmp .ne 17, 3) := by decide +kernel
theorem d_prog_4_method_4_code_7 : decode prog_4_method_4_code 7 = .ok (.lload_n 1, 1) := by decide +kernel
theorem d_prog_4_method_4_code_8 : decode prog_4_method_4_code 8 = .ok (.lload_n 3, 1) := by decide +kernel
theorem d_prog_4_method_4_code_9 : decode prog_4_method_4_code 9 = .ok (.lcmp, 1) := by decide +kernel
theorem d_prog_4_method_4_code_10 : decode prog_4_method_4_code 10 = .ok (.ifCond .gt 7, 3) := by decide +kernel
theorem d_prog_4_method_4_code_13 : decode prog_4_method_4_code 13 = .ok (.iconst 1, 1) := by decide +kernel
theorem d_prog_4_method_4_code_14 : decode prog_4_method_4_code 14 = .ok (.goto 18, 3) := by decide +kernel
theorem d_prog_4_method_4_code_17 : decode prog_4_method_4_code 17 = .ok (.iconst 0, 1) := by decide +kernel
theorem d_prog_4_method_4_code_18 : decode prog_4_method_4_code 18 = .ok (.goto 14, 3) := by decide +kernel
theorem d_prog_4_method_4_code_21 : decode prog_4_method_4_code 21 = .ok (.lload_n 3, 1) := by decide +kernel
theorem d_prog_4_method_4_code_22 : decode prog_4_method_4_code 22 = .ok (.lconst 0, 1) := by decide +kernel
theorem d_prog_4_method_4_code_23 : decode prog_4_method_4_code 23 = .ok (.lcmp, 1) := by decide +kernel
theorem d_prog_4_method_4_code_24 : decode prog_4_method_4_code 24 = .ok (.ifCond .le 7, 3) := by decide +kernel
theorem d_prog_4_method_4_code_27 : decode prog_4_method_4_code 27 = .ok (.iconst 1, 1) := by decide +kernel
theorem d_prog_4_method_4_code_28 : decode prog_4_method_4_code 28 = .ok (.goto 4, 3) := by decide +kernel
theorem d_prog_4_method_4_code_31 : decode prog_4_method_4_code 31 = .ok (.iconst 0, 1) := by decide +kernel
theorem d_prog_4_method_4_code_32 : decode prog_4_method_4_code 32 = .ok (.ireturn, 1) := by decide +kernel
theorem pn_com_example_dualfit_dualfit_allocation_Charging : plainName "com/example/dualfit/dualfit/allocation/Charging" = true := by first | (simp [plainName, overriddenIn]; done) | decide +kernel
theorem ef_rm_elig (m : MethodId) (th : Addr) (aF : Addr) (bid : Int64) (rm : Int64)  : entryFrame m #[(.ref th), (.long bid), (.long rm)] 5 = mkF m 0 #[.val (.ref th), .val (.long bid), .second, .val (.long rm), .second] [] := by  first | rfl | (simp [entryFrame, mkF, argsToLocals, Value.category, maxLocals]; done)
def Q_rm_elig (Z : State) (th : Addr) (aF : Addr) (bid : Int64) (rm : Int64) (h0 : Heap) (n0 : Nat) (v : Option Value) (h : Heap) (L : List Loc) : Prop := (v = some (.int (own_elig th aF bid rm))) ∧ (Fr n0 L) ∧ (h = h0)
set_option maxRecDepth 65536 in
set_option maxHeartbeats 40000000 in
theorem rm_elig (l : Launch) (Z : State) (a0 : Array Value) (hw : ∀ d ∈ tables_1, d.before a0 Z = true) (ws : List Jvm.Cond) (th : Addr) (aF : Addr) (bid : Int64) (rm : Int64) (h0 : Heap) (n0 : Nat) (Z0 : n0 ≤ h0.size) (sF : Sta Z h0 "com/example/dualfit/dualfit/allocation/Charging" "FIT" "Lcom/example/dualfit/dualfit/allocation/Charging;" (.ref aF)) :
    MetFree l (⟨"com/example/dualfit/dualfit/allocation/Charging", "eligible", "(JJ)Z"⟩ : MethodName) (head1 (Jvm.Cond.code (⟨"com/example/dualfit/dualfit/allocation/Charging", "eligible", "(JJ)Z"⟩ : MethodName) prog_4_method_4_code 5 (some .boolean) :: ws) ({ frames := 0, cells := 0, slots := 0, locals := 0 } : Room)) (fun a U => a = #[(.ref th), (.long bid), (.long rm)] ∧ Z.Warmed39 U.vm ∧ U.heap = h0) (fun _ _ _ _ _ => True) (fun _ U o U' => ∃ v L, o = .returned v ∧ Q_rm_elig Z th aF bid rm h0 n0 v U'.heap L ∧ FrameEnd U o U' L ({ frames := 0, cells := 0, slots := 0, locals := 0 } : Room).cells ({ frames := 0, cells := 0, slots := 0, locals := 0 } : Room).slots) := by
  refine MetFree.of_bodySF (plainFor_of_name pn_com_example_dualfit_dualfit_allocation_Charging) hisR ?_
  intro p e s m args below meth c s₁ Bd hml0 hP hK
  obtain ⟨rfl, hZ, hh⟩ := hP
  have hx := Bd.exec
  have hby := Bd.bytes
  have hml : c.maxLocals = 5 := hml0
  have hown : s.vm.findClass "com/example/dualfit/dualfit/allocation/Charging" = some m.cls := findClass_of_methodNamed Bd.named
  have hnm := (name_of_methodNamed Bd.named Bd.method).1
  have X0 : Stand p l e ({ frames := 0, cells := 0, slots := 0, locals := 0 } : Room) s m #[(.ref th), (.long bid), (.long rm)] below meth c s₁ [] 0 0 := Stand.of_body Bd
  have e0 : s₁.heap = h0 := by rw [← hh, Bd.state]; rfl
  have N0 := Fr.nil n0
  have hlk0 : meth.locks = false := by first | assumption | exact BodyLoose.notSynchronized (by assumption) | exact Body.notSynchronized (by assumption)
  show Rch p e below s₁ (entryFrame m #[(.ref th), (.long bid), (.long rm)] 5) (Fin s (Q_rm_elig Z th aF bid rm h0 n0) 0 0)
  refine Rch.cast (ef_rm_elig m th aF bid rm) ?_
  show Rch p e below s₁ (mkF m 0 #[.val (.ref th), .val (.long bid), .second, .val (.long rm), .second] []) _
  refine Rch.st (fun _ k => XS.aloadN X0.here hx rfl (hb hby d_prog_4_method_4_code_0) rfl rfl k) ?_
  show Rch p e below s₁ (mkF m 1 #[.val (.ref th), .val (.long bid), .second, .val (.long rm), .second] [(.ref th)]) _
  obtain ⟨T1, X1, e1, st1⟩ := getS X0 hx hZ hown (host := "") (hw _ (List.mem_of_getElem? (i := 8) rfl)) Via.refl e0 sF (g := (mkF m 1 #[.val (.ref th), .val (.long bid), .second, .val (.long rm), .second] [(.ref th)])) rfl (hb hby d_prog_4_method_4_code_1)
  refine Rch.st (fun _ k => st1 _ k) ?_
  show Rch p e below T1 (mkF m 4 #[.val (.ref th), .val (.long bid), .second, .val (.long rm), .second] [(.ref aF), (.ref th)]) _
  by_cases c2 : ((.ref th) : Value) = ((.ref aF) : Value)
  · skip
    refine Rch.st (fun _ k => XT.acmpNo X1.here hx rfl (hb hby d_prog_4_method_4_code_4) rfl rfl rfl (XT.aa_ne_f (c2)) k) ?_
    show Rch p e below T1 (mkF m 7 #[.val (.ref th), .val (.long bid), .second, .val (.long rm), .second] []) _
    refine Rch.st (fun _ k => XT.lloadN X1.here hx rfl (hb hby d_prog_4_method_4_code_7) rfl k) ?_
    show Rch p e below T1 (mkF m 8 #[.val (.ref th), .val (.long bid), .second, .val (.long rm), .second] [(.long bid)]) _
    refine Rch.st (fun _ k => XT.lloadN X1.here hx rfl (hb hby d_prog_4_method_4_code_8) rfl k) ?_
    show Rch p e below T1 (mkF m 9 #[.val (.ref th), .val (.long bid), .second, .val (.long rm), .second] [(.long rm), (.long bid)]) _
    refine Rch.st (fun _ k => XT.lcmp X1.here hx rfl (hb hby d_prog_4_method_4_code_9) rfl k) ?_
    show Rch p e below T1 (mkF m 10 #[.val (.ref th), .val (.long bid), .second, .val (.long rm), .second] [(.int (XT.cmpL bid rm))]) _
    have q3 : th = aF := Value.ref.inj c2
    by_cases c4 : rm < bid
    · skip
      refine Rch.st (fun _ k => XS.ifYes X1.here hx rfl (pc0 := 10) (pc' := 17) rfl (hb hby d_prog_4_method_4_code_10) rfl (XT.ll_gt_t (c4)) (by decide) (by decide) k) ?_
      show Rch p e below T1 (mkF m 17 #[.val (.ref th), .val (.long bid), .second, .val (.long rm), .second] []) _
      refine Rch.st (fun _ k => XS.iconst X1.here hx rfl (hb hby d_prog_4_method_4_code_17) k) ?_
      show Rch p e below T1 (mkF m 18 #[.val (.ref th), .val (.long bid), .second, .val (.long rm), .second] [(.int (0 : Int32))]) _
      refine Rch.st (fun _ k => XS.goto X1.here hx rfl (pc0 := 18) (pc' := 32) rfl (hb hby d_prog_4_method_4_code_18) (by decide) (by decide) k) ?_
      show Rch p e below T1 (mkF m 32 #[.val (.ref th), .val (.long bid), .second, .val (.long rm), .second] [(.int (0 : Int32))]) _
      exact Rch.retV X1 hx Bd.returns rfl (Or.inl ⟨rfl, by simp, _, rfl⟩) (hb hby d_prog_4_method_4_code_32) (by rw [e1]; exact ⟨by simp [own_elig, q3, c4], N0, rfl⟩) (by decide) (by decide)
    · skip
      refine Rch.st (fun _ k => XS.ifNo X1.here hx rfl (hb hby d_prog_4_method_4_code_10) rfl (XT.ll_gt_f (c4)) k) ?_
      show Rch p e below T1 (mkF m 13 #[.val (.ref th), .val (.long bid), .second, .val (.long rm), .second] []) _
      refine Rch.st (fun _ k => XS.iconst X1.here hx rfl (hb hby d_prog_4_method_4_code_13) k) ?_
      show Rch p e below T1 (mkF m 14 #[.val (.ref th), .val (.long bid), .second, .val (.long rm), .second] [(.int (1 : Int32))]) _
      refine Rch.st (fun _ k => XS.goto X1.here hx rfl (pc0 := 14) (pc' := 32) rfl (hb hby d_prog_4_method_4_code_14) (by decide) (by decide) k) ?_
      show Rch p e below T1 (mkF m 32 #[.val (.ref th), .val (.long bid), .second, .val (.long rm), .second] [(.int (1 : Int32))]) _
      exact Rch.retV X1 hx Bd.returns rfl (Or.inl ⟨rfl, by simp, _, rfl⟩) (hb hby d_prog_4_method_4_code_32) (by rw [e1]; exact ⟨by simp [own_elig, q3, c4], N0, rfl⟩) (by decide) (by decide)
  · skip
    refine Rch.st (fun _ k => XT.acmpYes X1.here hx rfl (pc0 := 4) (pc' := 21) rfl (hb hby d_prog_4_method_4_code_4) rfl rfl rfl (XT.aa_ne_t (c2)) (by decide) (by decide) k) ?_
    show Rch p e below T1 (mkF m 21 #[.val (.ref th), .val (.long bid), .second, .val (.long rm), .second] []) _
    refine Rch.st (fun _ k => XT.lloadN X1.here hx rfl (hb hby d_prog_4_method_4_code_21) rfl k) ?_
    show Rch p e below T1 (mkF m 22 #[.val (.ref th), .val (.long bid), .second, .val (.long rm), .second] [(.long rm)]) _
    refine Rch.st (fun _ k => XT.lconst X1.here hx rfl (hb hby d_prog_4_method_4_code_22) k) ?_
    show Rch p e below T1 (mkF m 23 #[.val (.ref th), .val (.long bid), .second, .val (.long rm), .second] [(.long (0 : Int64)), (.long rm)]) _
    refine Rch.st (fun _ k => XT.lcmp X1.here hx rfl (hb hby d_prog_4_method_4_code_23) rfl k) ?_
    show Rch p e below T1 (mkF m 24 #[.val (.ref th), .val (.long bid), .second, .val (.long rm), .second] [(.int (XT.cmpL rm (0 : Int64)))]) _
    have q5 : ¬ th = aF := fun z => c2 (congrArg Value.ref z)
    by_cases c6 : (0 : Int64) < rm
    · skip
      refine Rch.st (fun _ k => XS.ifNo X1.here hx rfl (hb hby d_prog_4_method_4_code_24) rfl (XT.ll_le_f (c6)) k) ?_
      show Rch p e below T1 (mkF m 27 #[.val (.ref th), .val (.long bid), .second, .val (.long rm), .second] []) _
      refine Rch.st (fun _ k => XS.iconst X1.here hx rfl (hb hby d_prog_4_method_4_code_27) k) ?_
      show Rch p e below T1 (mkF m 28 #[.val (.ref th), .val (.long bid), .second, .val (.long rm), .second] [(.int (1 : Int32))]) _
      refine Rch.st (fun _ k => XS.goto X1.here hx rfl (pc0 := 28) (pc' := 32) rfl (hb hby d_prog_4_method_4_code_28) (by decide) (by decide) k) ?_
      show Rch p e below T1 (mkF m 32 #[.val (.ref th), .val (.long bid), .second, .val (.long rm), .second] [(.int (1 : Int32))]) _
      exact Rch.retV X1 hx Bd.returns rfl (Or.inl ⟨rfl, by simp, _, rfl⟩) (hb hby d_prog_4_method_4_code_32) (by rw [e1]; exact ⟨by simp [own_elig, q5, c6], N0, rfl⟩) (by decide) (by decide)
    · skip
      refine Rch.st (fun _ k => XS.ifYes X1.here hx rfl (pc0 := 24) (pc' := 31) rfl (hb hby d_prog_4_method_4_code_24) rfl (XT.ll_le_t (c6)) (by decide) (by decide) k) ?_
      show Rch p e below T1 (mkF m 31 #[.val (.ref th), .val (.long bid), .second, .val (.long rm), .second] []) _
      refine Rch.st (fun _ k => XS.iconst X1.here hx rfl (hb hby d_prog_4_method_4_code_31) k) ?_
      show Rch p e below T1 (mkF m 32 #[.val (.ref th), .val (.long bid), .second, .val (.long rm), .second] [(.int (0 : Int32))]) _
      exact Rch.retV X1 hx Bd.returns rfl (Or.inl ⟨rfl, by simp, _, rfl⟩) (hb hby d_prog_4_method_4_code_32) (by rw [e1]; exact ⟨by simp [own_elig, q5, c6], N0, rfl⟩) (by decide) (by decide)

theorem d_jdk_29_method_70_code_0 : decode jdk_29_method_70_code 0 = .ok (.lload_n 0, 1) := by decide +kernel
theorem d_jdk_29_method_70_code_1 : decode jdk_29_method_70_code 1 = .ok (.lload_n 2, 1) := by decide +kernel
theorem d_jdk_29_method_70_code_2 : decode jdk_29_method_70_code 2 = .ok (.lcmp, 1) := by decide +kernel
theorem d_jdk_29_method_70_code_3 : decode jdk_29_method_70_code 3 = .ok (.ifCond .gt 7, 3) := by decide +kernel
theorem d_jdk_29_method_70_code_6 : decode jdk_29_method_70_code 6 = .ok (.lload_n 0, 1) := by decide +kernel
theorem d_jdk_29_method_70_code_7 : decode jdk_29_method_70_code 7 = .ok (.goto 4, 3) := by decide +kernel
theorem d_jdk_29_method_70_code_10 : decode jdk_29_method_70_code 10 = .ok (.lload_n 2, 1) := by decide +kernel
theorem d_jdk_29_method_70_code_11 : decode jdk_29_method_70_code 11 = .ok (.lreturn, 1) := by decide +kernel
theorem ef_rm_min (m : MethodId) (xx : Int64) (yy : Int64)  : entryFrame m #[(.long xx), (.long yy)] 4 = mkF m 0 #[.val (.long xx), .second, .val (.long yy), .second] [] := by  first | rfl | (simp [entryFrame, mkF, argsToLocals, Value.category, maxLocals]; done)
def Q_rm_min (Z : State) (xx : Int64) (yy : Int64) (h0 : Heap) (n0 : Nat) (v : Option Value) (h : Heap) (L : List Loc) : Prop := (v = some (.long (own_min xx yy))) ∧ (Fr n0 L) ∧ (h = h0)
set_option maxRecDepth 65536 in
set_option maxHeartbeats 40000000 in
theorem rm_min (l : Launch) (Z : State) (a0 : Array Value) (hw : ∀ d ∈ tables_1, d.before a0 Z = true) (ws : List Jvm.Cond) (xx : Int64) (yy : Int64) (h0 : Heap) (n0 : Nat) (Z0 : n0 ≤ h0.size)  :
    MetFree l (⟨"java/lang/Math", "min", "(JJ)J"⟩ : MethodName) (head1 (Jvm.Cond.code (⟨"java/lang/Math", "min", "(JJ)J"⟩ : MethodName) jdk_29_method_70_code 4 (some .long) :: ws) ({ frames := 0, cells := 0, slots := 0, locals := 0 } : Room)) (fun a U => a = #[(.long xx), (.long yy)] ∧ Z.Warmed39 U.vm ∧ U.heap = h0) (fun _ _ _ _ _ => True) (fun _ U o U' => ∃ v L, o = .returned v ∧ Q_rm_min Z xx yy h0 n0 v U'.heap L ∧ FrameEnd U o U' L ({ frames := 0, cells := 0, slots := 0, locals := 0 } : Room).cells ({ frames := 0, cells := 0, slots := 0, locals := 0 } : Room).slots) := by
  refine MetFree.of_bodySF (Jvm.Free.JP.mathPlain rfl (by decide +kernel)) hisR ?_
  intro p e s m args below meth c s₁ Bd hml0 hP hK
  obtain ⟨rfl, hZ, hh⟩ := hP
  have hx := Bd.exec
  have hby := Bd.bytes
  have hml : c.maxLocals = 4 := hml0
  have hown : s.vm.findClass "java/lang/Math" = some m.cls := findClass_of_methodNamed Bd.named
  have hnm := (name_of_methodNamed Bd.named Bd.method).1
  have X0 : Stand p l e ({ frames := 0, cells := 0, slots := 0, locals := 0 } : Room) s m #[(.long xx), (.long yy)] below meth c s₁ [] 0 0 := Stand.of_body Bd
  have e0 : s₁.heap = h0 := by rw [← hh, Bd.state]; rfl
  have N0 := Fr.nil n0
  have hlk0 : meth.locks = false := by first | assumption | exact BodyLoose.notSynchronized (by assumption) | exact Body.notSynchronized (by assumption)
  show Rch p e below s₁ (entryFrame m #[(.long xx), (.long yy)] 4) (Fin s (Q_rm_min Z xx yy h0 n0) 0 0)
  refine Rch.cast (ef_rm_min m xx yy) ?_
  show Rch p e below s₁ (mkF m 0 #[.val (.long xx), .second, .val (.long yy), .second] []) _
  refine Rch.st (fun _ k => XT.lloadN X0.here hx rfl (hb hby d_jdk_29_method_70_code_0) rfl k) ?_
  show Rch p e below s₁ (mkF m 1 #[.val (.long xx), .second, .val (.long yy), .second] [(.long xx)]) _
  refine Rch.st (fun _ k => XT.lloadN X0.here hx rfl (hb hby d_jdk_29_method_70_code_1) rfl k) ?_
  show Rch p e below s₁ (mkF m 2 #[.val (.long xx), .second, .val (.long yy), .second] [(.long yy), (.long xx)]) _
  refine Rch.st (fun _ k => XT.lcmp X0.here hx rfl (hb hby d_jdk_29_method_70_code_2) rfl k) ?_
  show Rch p e below s₁ (mkF m 3 #[.val (.long xx), .second, .val (.long yy), .second] [(.int (XT.cmpL xx yy))]) _
  by_cases c7 : yy < xx
  · skip
    refine Rch.st (fun _ k => XS.ifYes X0.here hx rfl (pc0 := 3) (pc' := 10) rfl (hb hby d_jdk_29_method_70_code_3) rfl (XT.ll_gt_t (c7)) (by decide) (by decide) k) ?_
    show Rch p e below s₁ (mkF m 10 #[.val (.long xx), .second, .val (.long yy), .second] []) _
    refine Rch.st (fun _ k => XT.lloadN X0.here hx rfl (hb hby d_jdk_29_method_70_code_10) rfl k) ?_
    show Rch p e below s₁ (mkF m 11 #[.val (.long xx), .second, .val (.long yy), .second] [(.long yy)]) _
    exact Rch.retV X0 hx Bd.returns rfl (Or.inr (Or.inl ⟨rfl, rfl, _, rfl⟩)) (hb hby d_jdk_29_method_70_code_11) (by rw [e0]; exact ⟨by simp [own_min, c7], N0, rfl⟩) (by decide) (by decide)
  · skip
    refine Rch.st (fun _ k => XS.ifNo X0.here hx rfl (hb hby d_jdk_29_method_70_code_3) rfl (XT.ll_gt_f (c7)) k) ?_
    show Rch p e below s₁ (mkF m 6 #[.val (.long xx), .second, .val (.long yy), .second] []) _
    refine Rch.st (fun _ k => XT.lloadN X0.here hx rfl (hb hby d_jdk_29_method_70_code_6) rfl k) ?_
    show Rch p e below s₁ (mkF m 7 #[.val (.long xx), .second, .val (.long yy), .second] [(.long xx)]) _
    refine Rch.st (fun _ k => XS.goto X0.here hx rfl (pc0 := 7) (pc' := 11) rfl (hb hby d_jdk_29_method_70_code_7) (by decide) (by decide) k) ?_
    show Rch p e below s₁ (mkF m 11 #[.val (.long xx), .second, .val (.long yy), .second] [(.long xx)]) _
    exact Rch.retV X0 hx Bd.returns rfl (Or.inr (Or.inl ⟨rfl, rfl, _, rfl⟩)) (hb hby d_jdk_29_method_70_code_11) (by rw [e0]; exact ⟨by simp [own_min, c7], N0, rfl⟩) (by decide) (by decide)

theorem d_prog_4_method_5_code_0 : decode prog_4_method_5_code 0 = .ok (.aload_n 0, 1) := by decide +kernel
theorem d_prog_4_method_5_code_1 : decode prog_4_method_5_code 1 = .ok (.getstatic 3, 3) := by decide +kernel
theorem d_prog_4_method_5_code_4 : decode prog_4_method_5_code 4 = .ok (.if_acmp .ne 7, 3) := by decide +kernel
theorem d_prog_4_method_5_code_7 : decode prog_4_method_5_code 7 = .ok (.lload_n 1, 1) := by decide +kernel
theorem d_prog_4_method_5_code_8 : decode prog_4_method_5_code 8 = .ok (.goto 8, 3) := by decide +kernel
theorem d_prog_4_method_5_code_11 : decode prog_4_method_5_code 11 = .ok (.lload_n 1, 1) := by decide +kernel
theorem d_prog_4_method_5_code_12 : decode prog_4_method_5_code 12 = .ok (.lload_n 3, 1) := by decide +kernel
theorem d_prog_4_method_5_code_13 : decode prog_4_method_5_code 13 = .ok (.invokestatic 29, 3) := by decide +kernel
theorem d_prog_4_method_5_code_16 : decode prog_4_method_5_code 16 = .ok (.lreturn, 1) := by decide +kernel
theorem ef_rm_price (m : MethodId) (th : Addr) (aF : Addr) (bid : Int64) (rm : Int64)  : entryFrame m #[(.ref th), (.long bid), (.long rm)] 5 = mkF m 0 #[.val (.ref th), .val (.long bid), .second, .val (.long rm), .second] [] := by  first | rfl | (simp [entryFrame, mkF, argsToLocals, Value.category, maxLocals]; done)
def Q_rm_price (Z : State) (th : Addr) (aF : Addr) (bid : Int64) (rm : Int64) (h0 : Heap) (n0 : Nat) (v : Option Value) (h : Heap) (L : List Loc) : Prop := (v = some (.long (own_price th aF bid rm))) ∧ (Fr n0 L) ∧ (h = h0)
theorem pd__JJ_J : parseMethodDescriptor "(JJ)J" = some ⟨[.long, .long], (some .long)⟩ := by decide +kernel
set_option maxRecDepth 65536 in
set_option maxHeartbeats 40000000 in
theorem rm_price (l : Launch) (Z : State) (a0 : Array Value) (hw : ∀ d ∈ tables_1, d.before a0 Z = true) (ws : List Jvm.Cond) (th : Addr) (aF : Addr) (bid : Int64) (rm : Int64) (h0 : Heap) (n0 : Nat) (Z0 : n0 ≤ h0.size) (sF : Sta Z h0 "com/example/dualfit/dualfit/allocation/Charging" "FIT" "Lcom/example/dualfit/dualfit/allocation/Charging;" (.ref aF)) :
    MetFree l (⟨"com/example/dualfit/dualfit/allocation/Charging", "price", "(JJ)J"⟩ : MethodName) (head1 (Jvm.Cond.code (⟨"com/example/dualfit/dualfit/allocation/Charging", "price", "(JJ)J"⟩ : MethodName) prog_4_method_5_code 5 (some .long) :: ws) ({ frames := 1, cells := 0, slots := 0, locals := 15 } : Room)) (fun a U => a = #[(.ref th), (.long bid), (.long rm)] ∧ Z.Warmed39 U.vm ∧ U.heap = h0) (fun _ _ _ _ _ => True) (fun _ U o U' => ∃ v L, o = .returned v ∧ Q_rm_price Z th aF bid rm h0 n0 v U'.heap L ∧ FrameEnd U o U' L ({ frames := 1, cells := 0, slots := 0, locals := 15 } : Room).cells ({ frames := 1, cells := 0, slots := 0, locals := 15 } : Room).slots) := by
  refine MetFree.of_bodySF (plainFor_of_name pn_com_example_dualfit_dualfit_allocation_Charging) hisR ?_
  intro p e s m args below meth c s₁ Bd hml0 hP hK
  obtain ⟨rfl, hZ, hh⟩ := hP
  have hx := Bd.exec
  have hby := Bd.bytes
  have hml : c.maxLocals = 5 := hml0
  have hown : s.vm.findClass "com/example/dualfit/dualfit/allocation/Charging" = some m.cls := findClass_of_methodNamed Bd.named
  have hnm := (name_of_methodNamed Bd.named Bd.method).1
  have X0 : Stand p l e ({ frames := 1, cells := 0, slots := 0, locals := 15 } : Room) s m #[(.ref th), (.long bid), (.long rm)] below meth c s₁ [] 0 0 := Stand.of_body Bd
  have e0 : s₁.heap = h0 := by rw [← hh, Bd.state]; rfl
  have N0 := Fr.nil n0
  have hlk0 : meth.locks = false := by first | assumption | exact BodyLoose.notSynchronized (by assumption) | exact Body.notSynchronized (by assumption)
  show Rch p e below s₁ (entryFrame m #[(.ref th), (.long bid), (.long rm)] 5) (Fin s (Q_rm_price Z th aF bid rm h0 n0) 0 0)
  refine Rch.cast (ef_rm_price m th aF bid rm) ?_
  show Rch p e below s₁ (mkF m 0 #[.val (.ref th), .val (.long bid), .second, .val (.long rm), .second] []) _
  refine Rch.st (fun _ k => XS.aloadN X0.here hx rfl (hb hby d_prog_4_method_5_code_0) rfl rfl k) ?_
  show Rch p e below s₁ (mkF m 1 #[.val (.ref th), .val (.long bid), .second, .val (.long rm), .second] [(.ref th)]) _
  obtain ⟨T8, X8, e8, st8⟩ := getS X0 hx hZ hown (host := "") (hw _ (List.mem_of_getElem? (i := 8) rfl)) Via.refl e0 sF (g := (mkF m 1 #[.val (.ref th), .val (.long bid), .second, .val (.long rm), .second] [(.ref th)])) rfl (hb hby d_prog_4_method_5_code_1)
  refine Rch.st (fun _ k => st8 _ k) ?_
  show Rch p e below T8 (mkF m 4 #[.val (.ref th), .val (.long bid), .second, .val (.long rm), .second] [(.ref aF), (.ref th)]) _
  by_cases c9 : ((.ref th) : Value) = ((.ref aF) : Value)
  · skip
    refine Rch.st (fun _ k => XT.acmpNo X8.here hx rfl (hb hby d_prog_4_method_5_code_4) rfl rfl rfl (XT.aa_ne_f (c9)) k) ?_
    show Rch p e below T8 (mkF m 7 #[.val (.ref th), .val (.long bid), .second, .val (.long rm), .second] []) _
    refine Rch.st (fun _ k => XT.lloadN X8.here hx rfl (hb hby d_prog_4_method_5_code_7) rfl k) ?_
    show Rch p e below T8 (mkF m 8 #[.val (.ref th), .val (.long bid), .second, .val (.long rm), .second] [(.long bid)]) _
    refine Rch.st (fun _ k => XS.goto X8.here hx rfl (pc0 := 8) (pc' := 16) rfl (hb hby d_prog_4_method_5_code_8) (by decide) (by decide) k) ?_
    show Rch p e below T8 (mkF m 16 #[.val (.ref th), .val (.long bid), .second, .val (.long rm), .second] [(.long bid)]) _
    have q10 : th = aF := Value.ref.inj c9
    exact Rch.retV X8 hx Bd.returns rfl (Or.inr (Or.inl ⟨rfl, rfl, _, rfl⟩)) (hb hby d_prog_4_method_5_code_16) (by rw [e8]; exact ⟨by simp [own_price, q10], N0, rfl⟩) (by decide) (by decide)
  · skip
    refine Rch.st (fun _ k => XT.acmpYes X8.here hx rfl (pc0 := 4) (pc' := 11) rfl (hb hby d_prog_4_method_5_code_4) rfl rfl rfl (XT.aa_ne_t (c9)) (by decide) (by decide) k) ?_
    show Rch p e below T8 (mkF m 11 #[.val (.ref th), .val (.long bid), .second, .val (.long rm), .second] []) _
    refine Rch.st (fun _ k => XT.lloadN X8.here hx rfl (hb hby d_prog_4_method_5_code_11) rfl k) ?_
    show Rch p e below T8 (mkF m 12 #[.val (.ref th), .val (.long bid), .second, .val (.long rm), .second] [(.long bid)]) _
    refine Rch.st (fun _ k => XT.lloadN X8.here hx rfl (hb hby d_prog_4_method_5_code_12) rfl k) ?_
    show Rch p e below T8 (mkF m 13 #[.val (.ref th), .val (.long bid), .second, .val (.long rm), .second] [(.long rm), (.long bid)]) _
    have q11 : ¬ th = aF := fun z => c9 (congrArg Value.ref z)
    obtain ⟨_, _, ⟨T12, L12, k12, n12⟩, -, X12, ⟨Lc12, hQ12, l12, y12, z12⟩, st12⟩ := Jvm.LawKit.callS X8 hx (y := (⟨"java/lang/Math", "min", "(JJ)J"⟩ : MethodName)) hown (mvT hZ (hw _ (List.mem_of_getElem? (i := 16) rfl))) (mvT hZ (hw _ (List.mem_of_getElem? (i := 17) rfl))) (mvT hZ (hw _ (List.mem_of_getElem? (i := 18) rfl))) (mvT hZ (hw _ (List.mem_of_getElem? (i := 19) rfl))) (by decide) (backOf (W := 0) (rm_min l Z a0 hw [] bid rm h0 n0 Z0 ) hZ (hw _ (List.mem_of_getElem? (i := 19) rfl)) (hw _ (List.mem_of_getElem? (i := 18) rfl)) (by decide) (by decide)) (g := (mkF m 13 #[.val (.ref th), .val (.long bid), .second, .val (.long rm), .second] [(.long rm), (.long bid)])) rfl (by rw [hml]; rfl) (argsL := [(.long bid), (.long rm)]) (rest := []) (lenOf pd__JJ_J rfl) rfl (by show 2 * 0 + _ ≤ _; exact Nat.le_of_eq rfl) (hb hby d_prog_4_method_5_code_13) (fun _ _ => ⟨rfl, e8, (by decide : 0 + 0 ≤ _), (by decide : 0 + 0 ≤ _)⟩)
    dsimp only [Pt.U, Pt.locs, Pt.cells, Pt.slots] at X12 l12 y12 z12 st12 hQ12
    subst l12 y12 z12
    obtain ⟨rfl, NQ12, K12⟩ := hQ12
    have N13 := Fr.app N0 NQ12
    refine Rch.st (fun _ k => st12 _ k) ?_
    show Rch p e below T12 (mkF m 16 #[.val (.ref th), .val (.long bid), .second, .val (.long rm), .second] [(.long (own_min bid rm))]) _
    exact Rch.retV X12 hx Bd.returns rfl (Or.inr (Or.inl ⟨rfl, rfl, _, rfl⟩)) (hb hby d_prog_4_method_5_code_16) (by rw [K12]; exact ⟨by simp [own_price, q11], N13, rfl⟩) (by decide) (by decide)

theorem pn_com_example_dualfit_dualfit_allocation_ChargingEligiblePinLaw : plainName "com/example/dualfit/dualfit/allocation/ChargingEligiblePinLaw" = true := by first | (simp [plainName, overriddenIn]; done) | decide +kernel
theorem ef_rm_law (m : MethodId) (bid : Int64) (rm : Int64) (aF : Addr) (aC : Addr)  : entryFrame m #[(.long bid), (.long rm)] maxLocals = mkF m 0 #[.val (.long bid), .second, .val (.long rm), .second, .unset, .unset, .unset, .unset] [] := by  first | rfl | (simp [entryFrame, mkF, argsToLocals, Value.category, maxLocals]; done)
def Q_rm_law (Z : State) (bid : Int64) (rm : Int64) (aF : Addr) (aC : Addr) (h0 : Heap) (n0 : Nat) (v : Option Value) (h : Heap) (L : List Loc) : Prop := (v = some (.int (1 : Int32))) ∧ (Fr n0 L) ∧ (h = h0)
theorem pd__JJ_Z : parseMethodDescriptor "(JJ)Z" = some ⟨[.long, .long], (some .boolean)⟩ := by decide +kernel
set_option maxRecDepth 65536 in
set_option maxHeartbeats 40000000 in
theorem rm_law (l : Launch) (Z : State) (a0 : Array Value) (hw : ∀ d ∈ tables_1, d.before a0 Z = true) (ws : List Jvm.Cond) (bid : Int64) (rm : Int64) (aF : Addr) (aC : Addr) (h0 : Heap) (n0 : Nat) (Z0 : n0 ≤ h0.size) (sF : Sta Z h0 "com/example/dualfit/dualfit/allocation/Charging" "FIT" "Lcom/example/dualfit/dualfit/allocation/Charging;" (.ref aF)) (sC : Sta Z h0 "com/example/dualfit/dualfit/allocation/Charging" "CAPPED" "Lcom/example/dualfit/dualfit/allocation/Charging;" (.ref aC)) (f2 : Exa Z h0 aF "com/example/dualfit/dualfit/allocation/Charging") (f3 : Exa Z h0 aC "com/example/dualfit/dualfit/allocation/Charging") (nFC : aC ≠ aF) :
    MetFree l x (head1 (Jvm.Cond.code x code maxLocals ret :: ws) room_1) (fun a U => a = #[(.long bid), (.long rm)] ∧ Z.Warmed39 U.vm ∧ U.heap = h0) (fun _ _ _ _ _ => True) (fun _ U o U' => ∃ v L, o = .returned v ∧ Q_rm_law Z bid rm aF aC h0 n0 v U'.heap L ∧ FrameEnd U o U' L 0 0) := by
  refine MetFree.of_bodySF (plainFor_of_name pn_com_example_dualfit_dualfit_allocation_ChargingEligiblePinLaw) hisR ?_
  intro p e s m args below meth c s₁ Bd hml0 hP hK
  obtain ⟨rfl, hZ, hh⟩ := hP
  have hx := Bd.exec
  have hby := Bd.bytes
  have hml : c.maxLocals = 8 := hml0
  have hown : s.vm.findClass "com/example/dualfit/dualfit/allocation/ChargingEligiblePinLaw" = some m.cls := findClass_of_methodNamed Bd.named
  have hnm := (name_of_methodNamed Bd.named Bd.method).1
  have X0 : Stand p l e room_1 s m #[(.long bid), (.long rm)] below meth c s₁ [] 0 0 := Stand.of_body Bd
  have e0 : s₁.heap = h0 := by rw [← hh, Bd.state]; rfl
  have N0 := Fr.nil n0
  have hlk0 : meth.locks = false := by first | assumption | exact BodyLoose.notSynchronized (by assumption) | exact Body.notSynchronized (by assumption)
  show Rch p e below s₁ (entryFrame m #[(.long bid), (.long rm)] maxLocals) (Fin s (Q_rm_law Z bid rm aF aC h0 n0) 0 0)
  refine Rch.cast (ef_rm_law m bid rm aF aC) ?_
  show Rch p e below s₁ (mkF m 0 #[.val (.long bid), .second, .val (.long rm), .second, .unset, .unset, .unset, .unset] []) _
  refine Rch.st (fun _ k => XT.lloadN X0.here hx rfl (hb hby at_0) rfl k) ?_
  show Rch p e below s₁ (mkF m 1 #[.val (.long bid), .second, .val (.long rm), .second, .unset, .unset, .unset, .unset] [(.long rm)]) _
  refine Rch.st (fun _ k => XT.lloadN X0.here hx rfl (hb hby at_1) rfl k) ?_
  show Rch p e below s₁ (mkF m 2 #[.val (.long bid), .second, .val (.long rm), .second, .unset, .unset, .unset, .unset] [(.long bid), (.long rm)]) _
  refine Rch.st (fun _ k => XT.lcmp X0.here hx rfl (hb hby at_2) rfl k) ?_
  show Rch p e below s₁ (mkF m 3 #[.val (.long bid), .second, .val (.long rm), .second, .unset, .unset, .unset, .unset] [(.int (XT.cmpL rm bid))]) _
  by_cases c14 : rm < bid
  · skip
    refine Rch.st (fun _ k => XS.ifYes X0.here hx rfl (pc0 := 3) (pc' := 10) rfl (hb hby at_3) rfl (XT.ll_lt_t (c14)) (by decide) (by decide) k) ?_
    show Rch p e below s₁ (mkF m 10 #[.val (.long bid), .second, .val (.long rm), .second, .unset, .unset, .unset, .unset] []) _
    refine Rch.st (fun _ k => XS.iconst X0.here hx rfl (hb hby at_10) k) ?_
    show Rch p e below s₁ (mkF m 11 #[.val (.long bid), .second, .val (.long rm), .second, .unset, .unset, .unset, .unset] [(.int (0 : Int32))]) _
    refine Rch.st (fun _ k => XS.istore X0.here hx rfl (hb hby at_11) rfl (l' := #[.val (.long bid), .second, .val (.long rm), .second, .val (.int (0 : Int32)), .unset, .unset, .unset]) rfl k) ?_
    show Rch p e below s₁ (mkF m 13 #[.val (.long bid), .second, .val (.long rm), .second, .val (.int (0 : Int32)), .unset, .unset, .unset] []) _
    refine Rch.st (fun _ k => XT.lloadN X0.here hx rfl (hb hby at_13) rfl k) ?_
    show Rch p e below s₁ (mkF m 14 #[.val (.long bid), .second, .val (.long rm), .second, .val (.int (0 : Int32)), .unset, .unset, .unset] [(.long rm)]) _
    refine Rch.st (fun _ k => XT.lconst X0.here hx rfl (hb hby at_14) k) ?_
    show Rch p e below s₁ (mkF m 15 #[.val (.long bid), .second, .val (.long rm), .second, .val (.int (0 : Int32)), .unset, .unset, .unset] [(.long (0 : Int64)), (.long rm)]) _
    refine Rch.st (fun _ k => XT.lcmp X0.here hx rfl (hb hby at_15) rfl k) ?_
    show Rch p e below s₁ (mkF m 16 #[.val (.long bid), .second, .val (.long rm), .second, .val (.int (0 : Int32)), .unset, .unset, .unset] [(.int (XT.cmpL rm (0 : Int64)))]) _
    by_cases c15 : (0 : Int64) < rm
    · skip
      refine Rch.st (fun _ k => XS.ifNo X0.here hx rfl (hb hby at_16) rfl (XT.ll_le_f (c15)) k) ?_
      show Rch p e below s₁ (mkF m 19 #[.val (.long bid), .second, .val (.long rm), .second, .val (.int (0 : Int32)), .unset, .unset, .unset] []) _
      refine Rch.st (fun _ k => XS.iconst X0.here hx rfl (hb hby at_19) k) ?_
      show Rch p e below s₁ (mkF m 20 #[.val (.long bid), .second, .val (.long rm), .second, .val (.int (0 : Int32)), .unset, .unset, .unset] [(.int (1 : Int32))]) _
      refine Rch.st (fun _ k => XS.goto X0.here hx rfl (pc0 := 20) (pc' := 24) rfl (hb hby at_20) (by decide) (by decide) k) ?_
      show Rch p e below s₁ (mkF m 24 #[.val (.long bid), .second, .val (.long rm), .second, .val (.int (0 : Int32)), .unset, .unset, .unset] [(.int (1 : Int32))]) _
      refine Rch.st (fun _ k => XS.istore X0.here hx rfl (hb hby at_24) rfl (l' := #[.val (.long bid), .second, .val (.long rm), .second, .val (.int (0 : Int32)), .val (.int (1 : Int32)), .unset, .unset]) rfl k) ?_
      show Rch p e below s₁ (mkF m 26 #[.val (.long bid), .second, .val (.long rm), .second, .val (.int (0 : Int32)), .val (.int (1 : Int32)), .unset, .unset] []) _
      obtain ⟨T16, X16, e16, st16⟩ := getS X0 hx hZ hown (host := "") (hw _ (List.mem_of_getElem? (i := 0) rfl)) Via.refl e0 sF (g := (mkF m 26 #[.val (.long bid), .second, .val (.long rm), .second, .val (.int (0 : Int32)), .val (.int (1 : Int32)), .unset, .unset] [])) rfl (hb hby at_26)
      refine Rch.st (fun _ k => st16 _ k) ?_
      show Rch p e below T16 (mkF m 29 #[.val (.long bid), .second, .val (.long rm), .second, .val (.int (0 : Int32)), .val (.int (1 : Int32)), .unset, .unset] [(.ref aF)]) _
      refine Rch.st (fun _ k => XT.lloadN X16.here hx rfl (hb hby at_29) rfl k) ?_
      show Rch p e below T16 (mkF m 30 #[.val (.long bid), .second, .val (.long rm), .second, .val (.int (0 : Int32)), .val (.int (1 : Int32)), .unset, .unset] [(.long bid), (.ref aF)]) _
      refine Rch.st (fun _ k => XT.lloadN X16.here hx rfl (hb hby at_30) rfl k) ?_
      show Rch p e below T16 (mkF m 31 #[.val (.long bid), .second, .val (.long rm), .second, .val (.int (0 : Int32)), .val (.int (1 : Int32)), .unset, .unset] [(.long rm), (.long bid), (.ref aF)]) _
      obtain ⟨cq17, kq17, q17a, q17b, q17c⟩ := isOf hZ e16 f2
      obtain ⟨_, _, ⟨T17, L17, k17, n17⟩, -, X17, ⟨Lc17, hQ17, l17, y17, z17⟩, st17⟩ := X16.virtualBack hx (y := (⟨"com/example/dualfit/dualfit/allocation/Charging", "eligible", "(JJ)Z"⟩ : MethodName)) (z := (⟨"com/example/dualfit/dualfit/allocation/Charging", "eligible", "(JJ)Z"⟩ : MethodName)) hown (mvT hZ (hw _ (List.mem_of_getElem? (i := 3) rfl))) (mvT hZ (hw _ (List.mem_of_getElem? (i := 4) rfl))) (notFace_of_selects (args := #[]) (mvT hZ (hw _ (List.mem_of_getElem? (i := 6) rfl)))) (mvT hZ (hw _ (List.mem_of_getElem? (i := 6) rfl))) (mvT hZ (hw _ (List.mem_of_getElem? (i := 5) rfl))) (by decide) (backOf (W := 0) (rm_elig l Z a0 hw [] aF aF bid rm h0 n0 Z0 (sF)) hZ (hw _ (List.mem_of_getElem? (i := 7) rfl)) (hw _ (List.mem_of_getElem? (i := 1) rfl)) (by decide) (by decide)) q17a q17c (g := (mkF m 31 #[.val (.long bid), .second, .val (.long rm), .second, .val (.int (0 : Int32)), .val (.int (1 : Int32)), .unset, .unset] [(.long rm), (.long bid), (.ref aF)])) rfl (by rw [hml]; rfl) (Steps.refl _) (argsL := [(.long bid), (.long rm)]) (rest := []) (lenOf pd__JJ_Z rfl) rfl (by show 2 * 0 + _ ≤ _; exact Nat.le_of_eq rfl) (hb hby at_31) (fun _ _ => ⟨rfl, e16, (by decide : 0 + 0 ≤ _), (by decide : 0 + 0 ≤ _)⟩)
      dsimp only [Pt.U, Pt.locs, Pt.cells, Pt.slots] at X17 l17 y17 z17 st17 hQ17
      subst l17 y17 z17
      obtain ⟨rfl, NQ17, K17⟩ := hQ17
      have N18 := Fr.app N0 NQ17
      refine Rch.st (fun _ k => st17.trans k) ?_
      show Rch p e below T17 (mkF m 34 #[.val (.long bid), .second, .val (.long rm), .second, .val (.int (0 : Int32)), .val (.int (1 : Int32)), .unset, .unset] [(.int (own_elig aF aF bid rm))]) _
      have r19 : (own_elig aF aF bid rm) = (0 : Int32) := by simp [own_elig, c14]
      rw [r19]
      show Rch p e below T17 (mkF m 34 #[.val (.long bid), .second, .val (.long rm), .second, .val (.int (0 : Int32)), .val (.int (1 : Int32)), .unset, .unset] [(.int (0 : Int32))]) _
      refine Rch.st (fun _ k => XS.istore X17.here hx rfl (hb hby at_34) rfl (l' := #[.val (.long bid), .second, .val (.long rm), .second, .val (.int (0 : Int32)), .val (.int (1 : Int32)), .val (.int (0 : Int32)), .unset]) rfl k) ?_
      show Rch p e below T17 (mkF m 36 #[.val (.long bid), .second, .val (.long rm), .second, .val (.int (0 : Int32)), .val (.int (1 : Int32)), .val (.int (0 : Int32)), .unset] []) _
      obtain ⟨T20, X20, e20, st20⟩ := getS X17 hx hZ hown (host := "") (hw _ (List.mem_of_getElem? (i := 9) rfl)) Via.refl K17 sC (g := (mkF m 36 #[.val (.long bid), .second, .val (.long rm), .second, .val (.int (0 : Int32)), .val (.int (1 : Int32)), .val (.int (0 : Int32)), .unset] [])) rfl (hb hby at_36)
      refine Rch.st (fun _ k => st20 _ k) ?_
      show Rch p e below T20 (mkF m 39 #[.val (.long bid), .second, .val (.long rm), .second, .val (.int (0 : Int32)), .val (.int (1 : Int32)), .val (.int (0 : Int32)), .unset] [(.ref aC)]) _
      refine Rch.st (fun _ k => XT.lloadN X20.here hx rfl (hb hby at_39) rfl k) ?_
      show Rch p e below T20 (mkF m 40 #[.val (.long bid), .second, .val (.long rm), .second, .val (.int (0 : Int32)), .val (.int (1 : Int32)), .val (.int (0 : Int32)), .unset] [(.long bid), (.ref aC)]) _
      refine Rch.st (fun _ k => XT.lloadN X20.here hx rfl (hb hby at_40) rfl k) ?_
      show Rch p e below T20 (mkF m 41 #[.val (.long bid), .second, .val (.long rm), .second, .val (.int (0 : Int32)), .val (.int (1 : Int32)), .val (.int (0 : Int32)), .unset] [(.long rm), (.long bid), (.ref aC)]) _
      obtain ⟨cq21, kq21, q21a, q21b, q21c⟩ := isOf hZ e20 f3
      obtain ⟨_, _, ⟨T21, L21, k21, n21⟩, -, X21, ⟨Lc21, hQ21, l21, y21, z21⟩, st21⟩ := X20.virtualBack hx (y := (⟨"com/example/dualfit/dualfit/allocation/Charging", "eligible", "(JJ)Z"⟩ : MethodName)) (z := (⟨"com/example/dualfit/dualfit/allocation/Charging", "eligible", "(JJ)Z"⟩ : MethodName)) hown (mvT hZ (hw _ (List.mem_of_getElem? (i := 3) rfl))) (mvT hZ (hw _ (List.mem_of_getElem? (i := 4) rfl))) (notFace_of_selects (args := #[]) (mvT hZ (hw _ (List.mem_of_getElem? (i := 6) rfl)))) (mvT hZ (hw _ (List.mem_of_getElem? (i := 6) rfl))) (mvT hZ (hw _ (List.mem_of_getElem? (i := 5) rfl))) (by decide) (backOf (W := 0) (rm_elig l Z a0 hw [] aC aF bid rm h0 n0 Z0 (sF)) hZ (hw _ (List.mem_of_getElem? (i := 7) rfl)) (hw _ (List.mem_of_getElem? (i := 1) rfl)) (by decide) (by decide)) q21a q21c (g := (mkF m 41 #[.val (.long bid), .second, .val (.long rm), .second, .val (.int (0 : Int32)), .val (.int (1 : Int32)), .val (.int (0 : Int32)), .unset] [(.long rm), (.long bid), (.ref aC)])) rfl (by rw [hml]; rfl) (Steps.refl _) (argsL := [(.long bid), (.long rm)]) (rest := []) (lenOf pd__JJ_Z rfl) rfl (by show 2 * 0 + _ ≤ _; exact Nat.le_of_eq rfl) (hb hby at_41) (fun _ _ => ⟨rfl, e20, (by decide : 0 + 0 ≤ _), (by decide : 0 + 0 ≤ _)⟩)
      dsimp only [Pt.U, Pt.locs, Pt.cells, Pt.slots] at X21 l21 y21 z21 st21 hQ21
      subst l21 y21 z21
      obtain ⟨rfl, NQ21, K21⟩ := hQ21
      have N22 := Fr.app N18 NQ21
      refine Rch.st (fun _ k => st21.trans k) ?_
      show Rch p e below T21 (mkF m 44 #[.val (.long bid), .second, .val (.long rm), .second, .val (.int (0 : Int32)), .val (.int (1 : Int32)), .val (.int (0 : Int32)), .unset] [(.int (own_elig aC aF bid rm))]) _
      have r23 : (own_elig aC aF bid rm) = (1 : Int32) := by simp [own_elig, nFC, c15]
      rw [r23]
      show Rch p e below T21 (mkF m 44 #[.val (.long bid), .second, .val (.long rm), .second, .val (.int (0 : Int32)), .val (.int (1 : Int32)), .val (.int (0 : Int32)), .unset] [(.int (1 : Int32))]) _
      refine Rch.st (fun _ k => XS.istore X21.here hx rfl (hb hby at_44) rfl (l' := #[.val (.long bid), .second, .val (.long rm), .second, .val (.int (0 : Int32)), .val (.int (1 : Int32)), .val (.int (0 : Int32)), .val (.int (1 : Int32))]) rfl k) ?_
      show Rch p e below T21 (mkF m 46 #[.val (.long bid), .second, .val (.long rm), .second, .val (.int (0 : Int32)), .val (.int (1 : Int32)), .val (.int (0 : Int32)), .val (.int (1 : Int32))] []) _
      refine Rch.st (fun _ k => XS.iload X21.here hx rfl (hb hby at_46) rfl k) ?_
      show Rch p e below T21 (mkF m 48 #[.val (.long bid), .second, .val (.long rm), .second, .val (.int (0 : Int32)), .val (.int (1 : Int32)), .val (.int (0 : Int32)), .val (.int (1 : Int32))] [(.int (0 : Int32))]) _
      refine Rch.st (fun _ k => XS.iload X21.here hx rfl (hb hby at_48) rfl k) ?_
      show Rch p e below T21 (mkF m 50 #[.val (.long bid), .second, .val (.long rm), .second, .val (.int (0 : Int32)), .val (.int (1 : Int32)), .val (.int (0 : Int32)), .val (.int (1 : Int32))] [(.int (0 : Int32)), (.int (0 : Int32))]) _
      refine Rch.st (fun _ k => XS.icmpYes X21.here hx rfl (pc0 := 50) (pc' := 55) rfl (hb hby at_50) rfl (XT.ii_eq_t (rfl)) (by decide) (by decide) k) ?_
      show Rch p e below T21 (mkF m 55 #[.val (.long bid), .second, .val (.long rm), .second, .val (.int (0 : Int32)), .val (.int (1 : Int32)), .val (.int (0 : Int32)), .val (.int (1 : Int32))] []) _
      refine Rch.st (fun _ k => XS.iload X21.here hx rfl (hb hby at_55) rfl k) ?_
      show Rch p e below T21 (mkF m 57 #[.val (.long bid), .second, .val (.long rm), .second, .val (.int (0 : Int32)), .val (.int (1 : Int32)), .val (.int (0 : Int32)), .val (.int (1 : Int32))] [(.int (1 : Int32))]) _
      refine Rch.st (fun _ k => XS.iload X21.here hx rfl (hb hby at_57) rfl k) ?_
      show Rch p e below T21 (mkF m 59 #[.val (.long bid), .second, .val (.long rm), .second, .val (.int (0 : Int32)), .val (.int (1 : Int32)), .val (.int (0 : Int32)), .val (.int (1 : Int32))] [(.int (1 : Int32)), (.int (1 : Int32))]) _
      refine Rch.st (fun _ k => XS.icmpYes X21.here hx rfl (pc0 := 59) (pc' := 64) rfl (hb hby at_59) rfl (XT.ii_eq_t (rfl)) (by decide) (by decide) k) ?_
      show Rch p e below T21 (mkF m 64 #[.val (.long bid), .second, .val (.long rm), .second, .val (.int (0 : Int32)), .val (.int (1 : Int32)), .val (.int (0 : Int32)), .val (.int (1 : Int32))] []) _
      refine Rch.st (fun _ k => XS.iload X21.here hx rfl (hb hby at_64) rfl k) ?_
      show Rch p e below T21 (mkF m 66 #[.val (.long bid), .second, .val (.long rm), .second, .val (.int (0 : Int32)), .val (.int (1 : Int32)), .val (.int (0 : Int32)), .val (.int (1 : Int32))] [(.int (0 : Int32))]) _
      refine Rch.st (fun _ k => XS.ifYes X21.here hx rfl (pc0 := 66) (pc' := 84) rfl (hb hby at_66) rfl (XT.i0_eq_t (by decide)) (by decide) (by decide) k) ?_
      show Rch p e below T21 (mkF m 84 #[.val (.long bid), .second, .val (.long rm), .second, .val (.int (0 : Int32)), .val (.int (1 : Int32)), .val (.int (0 : Int32)), .val (.int (1 : Int32))] []) _
      refine Rch.st (fun _ k => XS.iload X21.here hx rfl (hb hby at_84) rfl k) ?_
      show Rch p e below T21 (mkF m 86 #[.val (.long bid), .second, .val (.long rm), .second, .val (.int (0 : Int32)), .val (.int (1 : Int32)), .val (.int (0 : Int32)), .val (.int (1 : Int32))] [(.int (1 : Int32))]) _
      refine Rch.st (fun _ k => XS.ifNo X21.here hx rfl (hb hby at_86) rfl (XT.i0_eq_f (by decide)) k) ?_
      show Rch p e below T21 (mkF m 89 #[.val (.long bid), .second, .val (.long rm), .second, .val (.int (0 : Int32)), .val (.int (1 : Int32)), .val (.int (0 : Int32)), .val (.int (1 : Int32))] []) _
      obtain ⟨T24, X24, e24, st24⟩ := getS X21 hx hZ hown (host := "") (hw _ (List.mem_of_getElem? (i := 9) rfl)) Via.refl K21 sC (g := (mkF m 89 #[.val (.long bid), .second, .val (.long rm), .second, .val (.int (0 : Int32)), .val (.int (1 : Int32)), .val (.int (0 : Int32)), .val (.int (1 : Int32))] [])) rfl (hb hby at_89)
      refine Rch.st (fun _ k => st24 _ k) ?_
      show Rch p e below T24 (mkF m 92 #[.val (.long bid), .second, .val (.long rm), .second, .val (.int (0 : Int32)), .val (.int (1 : Int32)), .val (.int (0 : Int32)), .val (.int (1 : Int32))] [(.ref aC)]) _
      refine Rch.st (fun _ k => XT.lloadN X24.here hx rfl (hb hby at_92) rfl k) ?_
      show Rch p e below T24 (mkF m 93 #[.val (.long bid), .second, .val (.long rm), .second, .val (.int (0 : Int32)), .val (.int (1 : Int32)), .val (.int (0 : Int32)), .val (.int (1 : Int32))] [(.long bid), (.ref aC)]) _
      refine Rch.st (fun _ k => XT.lloadN X24.here hx rfl (hb hby at_93) rfl k) ?_
      show Rch p e below T24 (mkF m 94 #[.val (.long bid), .second, .val (.long rm), .second, .val (.int (0 : Int32)), .val (.int (1 : Int32)), .val (.int (0 : Int32)), .val (.int (1 : Int32))] [(.long rm), (.long bid), (.ref aC)]) _
      obtain ⟨cq25, kq25, q25a, q25b, q25c⟩ := isOf hZ e24 f3
      obtain ⟨_, _, ⟨T25, L25, k25, n25⟩, -, X25, ⟨Lc25, hQ25, l25, y25, z25⟩, st25⟩ := X24.virtualBack hx (y := (⟨"com/example/dualfit/dualfit/allocation/Charging", "price", "(JJ)J"⟩ : MethodName)) (z := (⟨"com/example/dualfit/dualfit/allocation/Charging", "price", "(JJ)J"⟩ : MethodName)) hown (mvT hZ (hw _ (List.mem_of_getElem? (i := 11) rfl))) (mvT hZ (hw _ (List.mem_of_getElem? (i := 12) rfl))) (notFace_of_selects (args := #[]) (mvT hZ (hw _ (List.mem_of_getElem? (i := 14) rfl)))) (mvT hZ (hw _ (List.mem_of_getElem? (i := 14) rfl))) (mvT hZ (hw _ (List.mem_of_getElem? (i := 13) rfl))) (by decide) (backOf (W := 0) (rm_price l Z a0 hw [] aC aF bid rm h0 n0 Z0 (sF)) hZ (hw _ (List.mem_of_getElem? (i := 15) rfl)) (hw _ (List.mem_of_getElem? (i := 1) rfl)) (by decide) (by decide)) q25a q25c (g := (mkF m 94 #[.val (.long bid), .second, .val (.long rm), .second, .val (.int (0 : Int32)), .val (.int (1 : Int32)), .val (.int (0 : Int32)), .val (.int (1 : Int32))] [(.long rm), (.long bid), (.ref aC)])) rfl (by rw [hml]; rfl) (Steps.refl _) (argsL := [(.long bid), (.long rm)]) (rest := []) (lenOf pd__JJ_J rfl) rfl (by show 2 * 0 + _ ≤ _; exact Nat.le_of_eq rfl) (hb hby at_94) (fun _ _ => ⟨rfl, e24, (by decide : 0 + 0 ≤ _), (by decide : 0 + 0 ≤ _)⟩)
      dsimp only [Pt.U, Pt.locs, Pt.cells, Pt.slots] at X25 l25 y25 z25 st25 hQ25
      subst l25 y25 z25
      obtain ⟨rfl, NQ25, K25⟩ := hQ25
      have N26 := Fr.app N22 NQ25
      refine Rch.st (fun _ k => st25.trans k) ?_
      show Rch p e below T25 (mkF m 97 #[.val (.long bid), .second, .val (.long rm), .second, .val (.int (0 : Int32)), .val (.int (1 : Int32)), .val (.int (0 : Int32)), .val (.int (1 : Int32))] [(.long (own_price aC aF bid rm))]) _
      refine Rch.st (fun _ k => XT.lloadN X25.here hx rfl (hb hby at_97) rfl k) ?_
      show Rch p e below T25 (mkF m 98 #[.val (.long bid), .second, .val (.long rm), .second, .val (.int (0 : Int32)), .val (.int (1 : Int32)), .val (.int (0 : Int32)), .val (.int (1 : Int32))] [(.long rm), (.long (own_price aC aF bid rm))]) _
      refine Rch.st (fun _ k => XT.lcmp X25.here hx rfl (hb hby at_98) rfl k) ?_
      show Rch p e below T25 (mkF m 99 #[.val (.long bid), .second, .val (.long rm), .second, .val (.int (0 : Int32)), .val (.int (1 : Int32)), .val (.int (0 : Int32)), .val (.int (1 : Int32))] [(.int (XT.cmpL (own_price aC aF bid rm) rm))]) _
      refine Rch.st (fun _ k => XS.ifYes X25.here hx rfl (pc0 := 99) (pc' := 104) rfl (hb hby at_99) rfl (XT.ll_le_t (by simpa [own_price, nFC] using own_min_le bid rm)) (by decide) (by decide) k) ?_
      show Rch p e below T25 (mkF m 104 #[.val (.long bid), .second, .val (.long rm), .second, .val (.int (0 : Int32)), .val (.int (1 : Int32)), .val (.int (0 : Int32)), .val (.int (1 : Int32))] []) _
      refine Rch.st (fun _ k => XS.iconst X25.here hx rfl (hb hby at_104) k) ?_
      show Rch p e below T25 (mkF m 105 #[.val (.long bid), .second, .val (.long rm), .second, .val (.int (0 : Int32)), .val (.int (1 : Int32)), .val (.int (0 : Int32)), .val (.int (1 : Int32))] [(.int (1 : Int32))]) _
      exact Rch.retV X25 hx Bd.returns rfl (Or.inl ⟨rfl, by simp, _, rfl⟩) (hb hby at_105) (by rw [K25]; exact ⟨rfl, N26, rfl⟩) (by decide) (by decide)
    · skip
      refine Rch.st (fun _ k => XS.ifYes X0.here hx rfl (pc0 := 16) (pc' := 23) rfl (hb hby at_16) rfl (XT.ll_le_t (c15)) (by decide) (by decide) k) ?_
      show Rch p e below s₁ (mkF m 23 #[.val (.long bid), .second, .val (.long rm), .second, .val (.int (0 : Int32)), .unset, .unset, .unset] []) _
      refine Rch.st (fun _ k => XS.iconst X0.here hx rfl (hb hby at_23) k) ?_
      show Rch p e below s₁ (mkF m 24 #[.val (.long bid), .second, .val (.long rm), .second, .val (.int (0 : Int32)), .unset, .unset, .unset] [(.int (0 : Int32))]) _
      refine Rch.st (fun _ k => XS.istore X0.here hx rfl (hb hby at_24) rfl (l' := #[.val (.long bid), .second, .val (.long rm), .second, .val (.int (0 : Int32)), .val (.int (0 : Int32)), .unset, .unset]) rfl k) ?_
      show Rch p e below s₁ (mkF m 26 #[.val (.long bid), .second, .val (.long rm), .second, .val (.int (0 : Int32)), .val (.int (0 : Int32)), .unset, .unset] []) _
      obtain ⟨T27, X27, e27, st27⟩ := getS X0 hx hZ hown (host := "") (hw _ (List.mem_of_getElem? (i := 0) rfl)) Via.refl e0 sF (g := (mkF m 26 #[.val (.long bid), .second, .val (.long rm), .second, .val (.int (0 : Int32)), .val (.int (0 : Int32)), .unset, .unset] [])) rfl (hb hby at_26)
      refine Rch.st (fun _ k => st27 _ k) ?_
      show Rch p e below T27 (mkF m 29 #[.val (.long bid), .second, .val (.long rm), .second, .val (.int (0 : Int32)), .val (.int (0 : Int32)), .unset, .unset] [(.ref aF)]) _
      refine Rch.st (fun _ k => XT.lloadN X27.here hx rfl (hb hby at_29) rfl k) ?_
      show Rch p e below T27 (mkF m 30 #[.val (.long bid), .second, .val (.long rm), .second, .val (.int (0 : Int32)), .val (.int (0 : Int32)), .unset, .unset] [(.long bid), (.ref aF)]) _
      refine Rch.st (fun _ k => XT.lloadN X27.here hx rfl (hb hby at_30) rfl k) ?_
      show Rch p e below T27 (mkF m 31 #[.val (.long bid), .second, .val (.long rm), .second, .val (.int (0 : Int32)), .val (.int (0 : Int32)), .unset, .unset] [(.long rm), (.long bid), (.ref aF)]) _
      obtain ⟨cq28, kq28, q28a, q28b, q28c⟩ := isOf hZ e27 f2
      obtain ⟨_, _, ⟨T28, L28, k28, n28⟩, -, X28, ⟨Lc28, hQ28, l28, y28, z28⟩, st28⟩ := X27.virtualBack hx (y := (⟨"com/example/dualfit/dualfit/allocation/Charging", "eligible", "(JJ)Z"⟩ : MethodName)) (z := (⟨"com/example/dualfit/dualfit/allocation/Charging", "eligible", "(JJ)Z"⟩ : MethodName)) hown (mvT hZ (hw _ (List.mem_of_getElem? (i := 3) rfl))) (mvT hZ (hw _ (List.mem_of_getElem? (i := 4) rfl))) (notFace_of_selects (args := #[]) (mvT hZ (hw _ (List.mem_of_getElem? (i := 6) rfl)))) (mvT hZ (hw _ (List.mem_of_getElem? (i := 6) rfl))) (mvT hZ (hw _ (List.mem_of_getElem? (i := 5) rfl))) (by decide) (backOf (W := 0) (rm_elig l Z a0 hw [] aF aF bid rm h0 n0 Z0 (sF)) hZ (hw _ (List.mem_of_getElem? (i := 7) rfl)) (hw _ (List.mem_of_getElem? (i := 1) rfl)) (by decide) (by decide)) q28a q28c (g := (mkF m 31 #[.val (.long bid), .second, .val (.long rm), .second, .val (.int (0 : Int32)), .val (.int (0 : Int32)), .unset, .unset] [(.long rm), (.long bid), (.ref aF)])) rfl (by rw [hml]; rfl) (Steps.refl _) (argsL := [(.long bid), (.long rm)]) (rest := []) (lenOf pd__JJ_Z rfl) rfl (by show 2 * 0 + _ ≤ _; exact Nat.le_of_eq rfl) (hb hby at_31) (fun _ _ => ⟨rfl, e27, (by decide : 0 + 0 ≤ _), (by decide : 0 + 0 ≤ _)⟩)
      dsimp only [Pt.U, Pt.locs, Pt.cells, Pt.slots] at X28 l28 y28 z28 st28 hQ28
      subst l28 y28 z28
      obtain ⟨rfl, NQ28, K28⟩ := hQ28
      have N29 := Fr.app N0 NQ28
      refine Rch.st (fun _ k => st28.trans k) ?_
      show Rch p e below T28 (mkF m 34 #[.val (.long bid), .second, .val (.long rm), .second, .val (.int (0 : Int32)), .val (.int (0 : Int32)), .unset, .unset] [(.int (own_elig aF aF bid rm))]) _
      have r30 : (own_elig aF aF bid rm) = (0 : Int32) := by simp [own_elig, c14]
      rw [r30]
      show Rch p e below T28 (mkF m 34 #[.val (.long bid), .second, .val (.long rm), .second, .val (.int (0 : Int32)), .val (.int (0 : Int32)), .unset, .unset] [(.int (0 : Int32))]) _
      refine Rch.st (fun _ k => XS.istore X28.here hx rfl (hb hby at_34) rfl (l' := #[.val (.long bid), .second, .val (.long rm), .second, .val (.int (0 : Int32)), .val (.int (0 : Int32)), .val (.int (0 : Int32)), .unset]) rfl k) ?_
      show Rch p e below T28 (mkF m 36 #[.val (.long bid), .second, .val (.long rm), .second, .val (.int (0 : Int32)), .val (.int (0 : Int32)), .val (.int (0 : Int32)), .unset] []) _
      obtain ⟨T31, X31, e31, st31⟩ := getS X28 hx hZ hown (host := "") (hw _ (List.mem_of_getElem? (i := 9) rfl)) Via.refl K28 sC (g := (mkF m 36 #[.val (.long bid), .second, .val (.long rm), .second, .val (.int (0 : Int32)), .val (.int (0 : Int32)), .val (.int (0 : Int32)), .unset] [])) rfl (hb hby at_36)
      refine Rch.st (fun _ k => st31 _ k) ?_
      show Rch p e below T31 (mkF m 39 #[.val (.long bid), .second, .val (.long rm), .second, .val (.int (0 : Int32)), .val (.int (0 : Int32)), .val (.int (0 : Int32)), .unset] [(.ref aC)]) _
      refine Rch.st (fun _ k => XT.lloadN X31.here hx rfl (hb hby at_39) rfl k) ?_
      show Rch p e below T31 (mkF m 40 #[.val (.long bid), .second, .val (.long rm), .second, .val (.int (0 : Int32)), .val (.int (0 : Int32)), .val (.int (0 : Int32)), .unset] [(.long bid), (.ref aC)]) _
      refine Rch.st (fun _ k => XT.lloadN X31.here hx rfl (hb hby at_40) rfl k) ?_
      show Rch p e below T31 (mkF m 41 #[.val (.long bid), .second, .val (.long rm), .second, .val (.int (0 : Int32)), .val (.int (0 : Int32)), .val (.int (0 : Int32)), .unset] [(.long rm), (.long bid), (.ref aC)]) _
      obtain ⟨cq32, kq32, q32a, q32b, q32c⟩ := isOf hZ e31 f3
      obtain ⟨_, _, ⟨T32, L32, k32, n32⟩, -, X32, ⟨Lc32, hQ32, l32, y32, z32⟩, st32⟩ := X31.virtualBack hx (y := (⟨"com/example/dualfit/dualfit/allocation/Charging", "eligible", "(JJ)Z"⟩ : MethodName)) (z := (⟨"com/example/dualfit/dualfit/allocation/Charging", "eligible", "(JJ)Z"⟩ : MethodName)) hown (mvT hZ (hw _ (List.mem_of_getElem? (i := 3) rfl))) (mvT hZ (hw _ (List.mem_of_getElem? (i := 4) rfl))) (notFace_of_selects (args := #[]) (mvT hZ (hw _ (List.mem_of_getElem? (i := 6) rfl)))) (mvT hZ (hw _ (List.mem_of_getElem? (i := 6) rfl))) (mvT hZ (hw _ (List.mem_of_getElem? (i := 5) rfl))) (by decide) (backOf (W := 0) (rm_elig l Z a0 hw [] aC aF bid rm h0 n0 Z0 (sF)) hZ (hw _ (List.mem_of_getElem? (i := 7) rfl)) (hw _ (List.mem_of_getElem? (i := 1) rfl)) (by decide) (by decide)) q32a q32c (g := (mkF m 41 #[.val (.long bid), .second, .val (.long rm), .second, .val (.int (0 : Int32)), .val (.int (0 : Int32)), .val (.int (0 : Int32)), .unset] [(.long rm), (.long bid), (.ref aC)])) rfl (by rw [hml]; rfl) (Steps.refl _) (argsL := [(.long bid), (.long rm)]) (rest := []) (lenOf pd__JJ_Z rfl) rfl (by show 2 * 0 + _ ≤ _; exact Nat.le_of_eq rfl) (hb hby at_41) (fun _ _ => ⟨rfl, e31, (by decide : 0 + 0 ≤ _), (by decide : 0 + 0 ≤ _)⟩)
      dsimp only [Pt.U, Pt.locs, Pt.cells, Pt.slots] at X32 l32 y32 z32 st32 hQ32
      subst l32 y32 z32
      obtain ⟨rfl, NQ32, K32⟩ := hQ32
      have N33 := Fr.app N29 NQ32
      refine Rch.st (fun _ k => st32.trans k) ?_
      show Rch p e below T32 (mkF m 44 #[.val (.long bid), .second, .val (.long rm), .second, .val (.int (0 : Int32)), .val (.int (0 : Int32)), .val (.int (0 : Int32)), .unset] [(.int (own_elig aC aF bid rm))]) _
      have r34 : (own_elig aC aF bid rm) = (0 : Int32) := by simp [own_elig, nFC, c15]
      rw [r34]
      show Rch p e below T32 (mkF m 44 #[.val (.long bid), .second, .val (.long rm), .second, .val (.int (0 : Int32)), .val (.int (0 : Int32)), .val (.int (0 : Int32)), .unset] [(.int (0 : Int32))]) _
      refine Rch.st (fun _ k => XS.istore X32.here hx rfl (hb hby at_44) rfl (l' := #[.val (.long bid), .second, .val (.long rm), .second, .val (.int (0 : Int32)), .val (.int (0 : Int32)), .val (.int (0 : Int32)), .val (.int (0 : Int32))]) rfl k) ?_
      show Rch p e below T32 (mkF m 46 #[.val (.long bid), .second, .val (.long rm), .second, .val (.int (0 : Int32)), .val (.int (0 : Int32)), .val (.int (0 : Int32)), .val (.int (0 : Int32))] []) _
      refine Rch.st (fun _ k => XS.iload X32.here hx rfl (hb hby at_46) rfl k) ?_
      show Rch p e below T32 (mkF m 48 #[.val (.long bid), .second, .val (.long rm), .second, .val (.int (0 : Int32)), .val (.int (0 : Int32)), .val (.int (0 : Int32)), .val (.int (0 : Int32))] [(.int (0 : Int32))]) _
      refine Rch.st (fun _ k => XS.iload X32.here hx rfl (hb hby at_48) rfl k) ?_
      show Rch p e below T32 (mkF m 50 #[.val (.long bid), .second, .val (.long rm), .second, .val (.int (0 : Int32)), .val (.int (0 : Int32)), .val (.int (0 : Int32)), .val (.int (0 : Int32))] [(.int (0 : Int32)), (.int (0 : Int32))]) _
      refine Rch.st (fun _ k => XS.icmpYes X32.here hx rfl (pc0 := 50) (pc' := 55) rfl (hb hby at_50) rfl (XT.ii_eq_t (rfl)) (by decide) (by decide) k) ?_
      show Rch p e below T32 (mkF m 55 #[.val (.long bid), .second, .val (.long rm), .second, .val (.int (0 : Int32)), .val (.int (0 : Int32)), .val (.int (0 : Int32)), .val (.int (0 : Int32))] []) _
      refine Rch.st (fun _ k => XS.iload X32.here hx rfl (hb hby at_55) rfl k) ?_
      show Rch p e below T32 (mkF m 57 #[.val (.long bid), .second, .val (.long rm), .second, .val (.int (0 : Int32)), .val (.int (0 : Int32)), .val (.int (0 : Int32)), .val (.int (0 : Int32))] [(.int (0 : Int32))]) _
      refine Rch.st (fun _ k => XS.iload X32.here hx rfl (hb hby at_57) rfl k) ?_
      show Rch p e below T32 (mkF m 59 #[.val (.long bid), .second, .val (.long rm), .second, .val (.int (0 : Int32)), .val (.int (0 : Int32)), .val (.int (0 : Int32)), .val (.int (0 : Int32))] [(.int (0 : Int32)), (.int (0 : Int32))]) _
      refine Rch.st (fun _ k => XS.icmpYes X32.here hx rfl (pc0 := 59) (pc' := 64) rfl (hb hby at_59) rfl (XT.ii_eq_t (rfl)) (by decide) (by decide) k) ?_
      show Rch p e below T32 (mkF m 64 #[.val (.long bid), .second, .val (.long rm), .second, .val (.int (0 : Int32)), .val (.int (0 : Int32)), .val (.int (0 : Int32)), .val (.int (0 : Int32))] []) _
      refine Rch.st (fun _ k => XS.iload X32.here hx rfl (hb hby at_64) rfl k) ?_
      show Rch p e below T32 (mkF m 66 #[.val (.long bid), .second, .val (.long rm), .second, .val (.int (0 : Int32)), .val (.int (0 : Int32)), .val (.int (0 : Int32)), .val (.int (0 : Int32))] [(.int (0 : Int32))]) _
      refine Rch.st (fun _ k => XS.ifYes X32.here hx rfl (pc0 := 66) (pc' := 84) rfl (hb hby at_66) rfl (XT.i0_eq_t (by decide)) (by decide) (by decide) k) ?_
      show Rch p e below T32 (mkF m 84 #[.val (.long bid), .second, .val (.long rm), .second, .val (.int (0 : Int32)), .val (.int (0 : Int32)), .val (.int (0 : Int32)), .val (.int (0 : Int32))] []) _
      refine Rch.st (fun _ k => XS.iload X32.here hx rfl (hb hby at_84) rfl k) ?_
      show Rch p e below T32 (mkF m 86 #[.val (.long bid), .second, .val (.long rm), .second, .val (.int (0 : Int32)), .val (.int (0 : Int32)), .val (.int (0 : Int32)), .val (.int (0 : Int32))] [(.int (0 : Int32))]) _
      refine Rch.st (fun _ k => XS.ifYes X32.here hx rfl (pc0 := 86) (pc' := 104) rfl (hb hby at_86) rfl (XT.i0_eq_t (by decide)) (by decide) (by decide) k) ?_
      show Rch p e below T32 (mkF m 104 #[.val (.long bid), .second, .val (.long rm), .second, .val (.int (0 : Int32)), .val (.int (0 : Int32)), .val (.int (0 : Int32)), .val (.int (0 : Int32))] []) _
      refine Rch.st (fun _ k => XS.iconst X32.here hx rfl (hb hby at_104) k) ?_
      show Rch p e below T32 (mkF m 105 #[.val (.long bid), .second, .val (.long rm), .second, .val (.int (0 : Int32)), .val (.int (0 : Int32)), .val (.int (0 : Int32)), .val (.int (0 : Int32))] [(.int (1 : Int32))]) _
      exact Rch.retV X32 hx Bd.returns rfl (Or.inl ⟨rfl, by simp, _, rfl⟩) (hb hby at_105) (by rw [K32]; exact ⟨rfl, N33, rfl⟩) (by decide) (by decide)
  · skip
    refine Rch.st (fun _ k => XS.ifNo X0.here hx rfl (hb hby at_3) rfl (XT.ll_lt_f (c14)) k) ?_
    show Rch p e below s₁ (mkF m 6 #[.val (.long bid), .second, .val (.long rm), .second, .unset, .unset, .unset, .unset] []) _
    refine Rch.st (fun _ k => XS.iconst X0.here hx rfl (hb hby at_6) k) ?_
    show Rch p e below s₁ (mkF m 7 #[.val (.long bid), .second, .val (.long rm), .second, .unset, .unset, .unset, .unset] [(.int (1 : Int32))]) _
    refine Rch.st (fun _ k => XS.goto X0.here hx rfl (pc0 := 7) (pc' := 11) rfl (hb hby at_7) (by decide) (by decide) k) ?_
    show Rch p e below s₁ (mkF m 11 #[.val (.long bid), .second, .val (.long rm), .second, .unset, .unset, .unset, .unset] [(.int (1 : Int32))]) _
    refine Rch.st (fun _ k => XS.istore X0.here hx rfl (hb hby at_11) rfl (l' := #[.val (.long bid), .second, .val (.long rm), .second, .val (.int (1 : Int32)), .unset, .unset, .unset]) rfl k) ?_
    show Rch p e below s₁ (mkF m 13 #[.val (.long bid), .second, .val (.long rm), .second, .val (.int (1 : Int32)), .unset, .unset, .unset] []) _
    refine Rch.st (fun _ k => XT.lloadN X0.here hx rfl (hb hby at_13) rfl k) ?_
    show Rch p e below s₁ (mkF m 14 #[.val (.long bid), .second, .val (.long rm), .second, .val (.int (1 : Int32)), .unset, .unset, .unset] [(.long rm)]) _
    refine Rch.st (fun _ k => XT.lconst X0.here hx rfl (hb hby at_14) k) ?_
    show Rch p e below s₁ (mkF m 15 #[.val (.long bid), .second, .val (.long rm), .second, .val (.int (1 : Int32)), .unset, .unset, .unset] [(.long (0 : Int64)), (.long rm)]) _
    refine Rch.st (fun _ k => XT.lcmp X0.here hx rfl (hb hby at_15) rfl k) ?_
    show Rch p e below s₁ (mkF m 16 #[.val (.long bid), .second, .val (.long rm), .second, .val (.int (1 : Int32)), .unset, .unset, .unset] [(.int (XT.cmpL rm (0 : Int64)))]) _
    by_cases c35 : (0 : Int64) < rm
    · skip
      refine Rch.st (fun _ k => XS.ifNo X0.here hx rfl (hb hby at_16) rfl (XT.ll_le_f (c35)) k) ?_
      show Rch p e below s₁ (mkF m 19 #[.val (.long bid), .second, .val (.long rm), .second, .val (.int (1 : Int32)), .unset, .unset, .unset] []) _
      refine Rch.st (fun _ k => XS.iconst X0.here hx rfl (hb hby at_19) k) ?_
      show Rch p e below s₁ (mkF m 20 #[.val (.long bid), .second, .val (.long rm), .second, .val (.int (1 : Int32)), .unset, .unset, .unset] [(.int (1 : Int32))]) _
      refine Rch.st (fun _ k => XS.goto X0.here hx rfl (pc0 := 20) (pc' := 24) rfl (hb hby at_20) (by decide) (by decide) k) ?_
      show Rch p e below s₁ (mkF m 24 #[.val (.long bid), .second, .val (.long rm), .second, .val (.int (1 : Int32)), .unset, .unset, .unset] [(.int (1 : Int32))]) _
      refine Rch.st (fun _ k => XS.istore X0.here hx rfl (hb hby at_24) rfl (l' := #[.val (.long bid), .second, .val (.long rm), .second, .val (.int (1 : Int32)), .val (.int (1 : Int32)), .unset, .unset]) rfl k) ?_
      show Rch p e below s₁ (mkF m 26 #[.val (.long bid), .second, .val (.long rm), .second, .val (.int (1 : Int32)), .val (.int (1 : Int32)), .unset, .unset] []) _
      obtain ⟨T36, X36, e36, st36⟩ := getS X0 hx hZ hown (host := "") (hw _ (List.mem_of_getElem? (i := 0) rfl)) Via.refl e0 sF (g := (mkF m 26 #[.val (.long bid), .second, .val (.long rm), .second, .val (.int (1 : Int32)), .val (.int (1 : Int32)), .unset, .unset] [])) rfl (hb hby at_26)
      refine Rch.st (fun _ k => st36 _ k) ?_
      show Rch p e below T36 (mkF m 29 #[.val (.long bid), .second, .val (.long rm), .second, .val (.int (1 : Int32)), .val (.int (1 : Int32)), .unset, .unset] [(.ref aF)]) _
      refine Rch.st (fun _ k => XT.lloadN X36.here hx rfl (hb hby at_29) rfl k) ?_
      show Rch p e below T36 (mkF m 30 #[.val (.long bid), .second, .val (.long rm), .second, .val (.int (1 : Int32)), .val (.int (1 : Int32)), .unset, .unset] [(.long bid), (.ref aF)]) _
      refine Rch.st (fun _ k => XT.lloadN X36.here hx rfl (hb hby at_30) rfl k) ?_
      show Rch p e below T36 (mkF m 31 #[.val (.long bid), .second, .val (.long rm), .second, .val (.int (1 : Int32)), .val (.int (1 : Int32)), .unset, .unset] [(.long rm), (.long bid), (.ref aF)]) _
      obtain ⟨cq37, kq37, q37a, q37b, q37c⟩ := isOf hZ e36 f2
      obtain ⟨_, _, ⟨T37, L37, k37, n37⟩, -, X37, ⟨Lc37, hQ37, l37, y37, z37⟩, st37⟩ := X36.virtualBack hx (y := (⟨"com/example/dualfit/dualfit/allocation/Charging", "eligible", "(JJ)Z"⟩ : MethodName)) (z := (⟨"com/example/dualfit/dualfit/allocation/Charging", "eligible", "(JJ)Z"⟩ : MethodName)) hown (mvT hZ (hw _ (List.mem_of_getElem? (i := 3) rfl))) (mvT hZ (hw _ (List.mem_of_getElem? (i := 4) rfl))) (notFace_of_selects (args := #[]) (mvT hZ (hw _ (List.mem_of_getElem? (i := 6) rfl)))) (mvT hZ (hw _ (List.mem_of_getElem? (i := 6) rfl))) (mvT hZ (hw _ (List.mem_of_getElem? (i := 5) rfl))) (by decide) (backOf (W := 0) (rm_elig l Z a0 hw [] aF aF bid rm h0 n0 Z0 (sF)) hZ (hw _ (List.mem_of_getElem? (i := 7) rfl)) (hw _ (List.mem_of_getElem? (i := 1) rfl)) (by decide) (by decide)) q37a q37c (g := (mkF m 31 #[.val (.long bid), .second, .val (.long rm), .second, .val (.int (1 : Int32)), .val (.int (1 : Int32)), .unset, .unset] [(.long rm), (.long bid), (.ref aF)])) rfl (by rw [hml]; rfl) (Steps.refl _) (argsL := [(.long bid), (.long rm)]) (rest := []) (lenOf pd__JJ_Z rfl) rfl (by show 2 * 0 + _ ≤ _; exact Nat.le_of_eq rfl) (hb hby at_31) (fun _ _ => ⟨rfl, e36, (by decide : 0 + 0 ≤ _), (by decide : 0 + 0 ≤ _)⟩)
      dsimp only [Pt.U, Pt.locs, Pt.cells, Pt.slots] at X37 l37 y37 z37 st37 hQ37
      subst l37 y37 z37
      obtain ⟨rfl, NQ37, K37⟩ := hQ37
      have N38 := Fr.app N0 NQ37
      refine Rch.st (fun _ k => st37.trans k) ?_
      show Rch p e below T37 (mkF m 34 #[.val (.long bid), .second, .val (.long rm), .second, .val (.int (1 : Int32)), .val (.int (1 : Int32)), .unset, .unset] [(.int (own_elig aF aF bid rm))]) _
      have r39 : (own_elig aF aF bid rm) = (1 : Int32) := by simp [own_elig, c14]
      rw [r39]
      show Rch p e below T37 (mkF m 34 #[.val (.long bid), .second, .val (.long rm), .second, .val (.int (1 : Int32)), .val (.int (1 : Int32)), .unset, .unset] [(.int (1 : Int32))]) _
      refine Rch.st (fun _ k => XS.istore X37.here hx rfl (hb hby at_34) rfl (l' := #[.val (.long bid), .second, .val (.long rm), .second, .val (.int (1 : Int32)), .val (.int (1 : Int32)), .val (.int (1 : Int32)), .unset]) rfl k) ?_
      show Rch p e below T37 (mkF m 36 #[.val (.long bid), .second, .val (.long rm), .second, .val (.int (1 : Int32)), .val (.int (1 : Int32)), .val (.int (1 : Int32)), .unset] []) _
      obtain ⟨T40, X40, e40, st40⟩ := getS X37 hx hZ hown (host := "") (hw _ (List.mem_of_getElem? (i := 9) rfl)) Via.refl K37 sC (g := (mkF m 36 #[.val (.long bid), .second, .val (.long rm), .second, .val (.int (1 : Int32)), .val (.int (1 : Int32)), .val (.int (1 : Int32)), .unset] [])) rfl (hb hby at_36)
      refine Rch.st (fun _ k => st40 _ k) ?_
      show Rch p e below T40 (mkF m 39 #[.val (.long bid), .second, .val (.long rm), .second, .val (.int (1 : Int32)), .val (.int (1 : Int32)), .val (.int (1 : Int32)), .unset] [(.ref aC)]) _
      refine Rch.st (fun _ k => XT.lloadN X40.here hx rfl (hb hby at_39) rfl k) ?_
      show Rch p e below T40 (mkF m 40 #[.val (.long bid), .second, .val (.long rm), .second, .val (.int (1 : Int32)), .val (.int (1 : Int32)), .val (.int (1 : Int32)), .unset] [(.long bid), (.ref aC)]) _
      refine Rch.st (fun _ k => XT.lloadN X40.here hx rfl (hb hby at_40) rfl k) ?_
      show Rch p e below T40 (mkF m 41 #[.val (.long bid), .second, .val (.long rm), .second, .val (.int (1 : Int32)), .val (.int (1 : Int32)), .val (.int (1 : Int32)), .unset] [(.long rm), (.long bid), (.ref aC)]) _
      obtain ⟨cq41, kq41, q41a, q41b, q41c⟩ := isOf hZ e40 f3
      obtain ⟨_, _, ⟨T41, L41, k41, n41⟩, -, X41, ⟨Lc41, hQ41, l41, y41, z41⟩, st41⟩ := X40.virtualBack hx (y := (⟨"com/example/dualfit/dualfit/allocation/Charging", "eligible", "(JJ)Z"⟩ : MethodName)) (z := (⟨"com/example/dualfit/dualfit/allocation/Charging", "eligible", "(JJ)Z"⟩ : MethodName)) hown (mvT hZ (hw _ (List.mem_of_getElem? (i := 3) rfl))) (mvT hZ (hw _ (List.mem_of_getElem? (i := 4) rfl))) (notFace_of_selects (args := #[]) (mvT hZ (hw _ (List.mem_of_getElem? (i := 6) rfl)))) (mvT hZ (hw _ (List.mem_of_getElem? (i := 6) rfl))) (mvT hZ (hw _ (List.mem_of_getElem? (i := 5) rfl))) (by decide) (backOf (W := 0) (rm_elig l Z a0 hw [] aC aF bid rm h0 n0 Z0 (sF)) hZ (hw _ (List.mem_of_getElem? (i := 7) rfl)) (hw _ (List.mem_of_getElem? (i := 1) rfl)) (by decide) (by decide)) q41a q41c (g := (mkF m 41 #[.val (.long bid), .second, .val (.long rm), .second, .val (.int (1 : Int32)), .val (.int (1 : Int32)), .val (.int (1 : Int32)), .unset] [(.long rm), (.long bid), (.ref aC)])) rfl (by rw [hml]; rfl) (Steps.refl _) (argsL := [(.long bid), (.long rm)]) (rest := []) (lenOf pd__JJ_Z rfl) rfl (by show 2 * 0 + _ ≤ _; exact Nat.le_of_eq rfl) (hb hby at_41) (fun _ _ => ⟨rfl, e40, (by decide : 0 + 0 ≤ _), (by decide : 0 + 0 ≤ _)⟩)
      dsimp only [Pt.U, Pt.locs, Pt.cells, Pt.slots] at X41 l41 y41 z41 st41 hQ41
      subst l41 y41 z41
      obtain ⟨rfl, NQ41, K41⟩ := hQ41
      have N42 := Fr.app N38 NQ41
      refine Rch.st (fun _ k => st41.trans k) ?_
      show Rch p e below T41 (mkF m 44 #[.val (.long bid), .second, .val (.long rm), .second, .val (.int (1 : Int32)), .val (.int (1 : Int32)), .val (.int (1 : Int32)), .unset] [(.int (own_elig aC aF bid rm))]) _
      have r43 : (own_elig aC aF bid rm) = (1 : Int32) := by simp [own_elig, nFC, c35]
      rw [r43]
      show Rch p e below T41 (mkF m 44 #[.val (.long bid), .second, .val (.long rm), .second, .val (.int (1 : Int32)), .val (.int (1 : Int32)), .val (.int (1 : Int32)), .unset] [(.int (1 : Int32))]) _
      refine Rch.st (fun _ k => XS.istore X41.here hx rfl (hb hby at_44) rfl (l' := #[.val (.long bid), .second, .val (.long rm), .second, .val (.int (1 : Int32)), .val (.int (1 : Int32)), .val (.int (1 : Int32)), .val (.int (1 : Int32))]) rfl k) ?_
      show Rch p e below T41 (mkF m 46 #[.val (.long bid), .second, .val (.long rm), .second, .val (.int (1 : Int32)), .val (.int (1 : Int32)), .val (.int (1 : Int32)), .val (.int (1 : Int32))] []) _
      refine Rch.st (fun _ k => XS.iload X41.here hx rfl (hb hby at_46) rfl k) ?_
      show Rch p e below T41 (mkF m 48 #[.val (.long bid), .second, .val (.long rm), .second, .val (.int (1 : Int32)), .val (.int (1 : Int32)), .val (.int (1 : Int32)), .val (.int (1 : Int32))] [(.int (1 : Int32))]) _
      refine Rch.st (fun _ k => XS.iload X41.here hx rfl (hb hby at_48) rfl k) ?_
      show Rch p e below T41 (mkF m 50 #[.val (.long bid), .second, .val (.long rm), .second, .val (.int (1 : Int32)), .val (.int (1 : Int32)), .val (.int (1 : Int32)), .val (.int (1 : Int32))] [(.int (1 : Int32)), (.int (1 : Int32))]) _
      refine Rch.st (fun _ k => XS.icmpYes X41.here hx rfl (pc0 := 50) (pc' := 55) rfl (hb hby at_50) rfl (XT.ii_eq_t (rfl)) (by decide) (by decide) k) ?_
      show Rch p e below T41 (mkF m 55 #[.val (.long bid), .second, .val (.long rm), .second, .val (.int (1 : Int32)), .val (.int (1 : Int32)), .val (.int (1 : Int32)), .val (.int (1 : Int32))] []) _
      refine Rch.st (fun _ k => XS.iload X41.here hx rfl (hb hby at_55) rfl k) ?_
      show Rch p e below T41 (mkF m 57 #[.val (.long bid), .second, .val (.long rm), .second, .val (.int (1 : Int32)), .val (.int (1 : Int32)), .val (.int (1 : Int32)), .val (.int (1 : Int32))] [(.int (1 : Int32))]) _
      refine Rch.st (fun _ k => XS.iload X41.here hx rfl (hb hby at_57) rfl k) ?_
      show Rch p e below T41 (mkF m 59 #[.val (.long bid), .second, .val (.long rm), .second, .val (.int (1 : Int32)), .val (.int (1 : Int32)), .val (.int (1 : Int32)), .val (.int (1 : Int32))] [(.int (1 : Int32)), (.int (1 : Int32))]) _
      refine Rch.st (fun _ k => XS.icmpYes X41.here hx rfl (pc0 := 59) (pc' := 64) rfl (hb hby at_59) rfl (XT.ii_eq_t (rfl)) (by decide) (by decide) k) ?_
      show Rch p e below T41 (mkF m 64 #[.val (.long bid), .second, .val (.long rm), .second, .val (.int (1 : Int32)), .val (.int (1 : Int32)), .val (.int (1 : Int32)), .val (.int (1 : Int32))] []) _
      refine Rch.st (fun _ k => XS.iload X41.here hx rfl (hb hby at_64) rfl k) ?_
      show Rch p e below T41 (mkF m 66 #[.val (.long bid), .second, .val (.long rm), .second, .val (.int (1 : Int32)), .val (.int (1 : Int32)), .val (.int (1 : Int32)), .val (.int (1 : Int32))] [(.int (1 : Int32))]) _
      refine Rch.st (fun _ k => XS.ifNo X41.here hx rfl (hb hby at_66) rfl (XT.i0_eq_f (by decide)) k) ?_
      show Rch p e below T41 (mkF m 69 #[.val (.long bid), .second, .val (.long rm), .second, .val (.int (1 : Int32)), .val (.int (1 : Int32)), .val (.int (1 : Int32)), .val (.int (1 : Int32))] []) _
      obtain ⟨T44, X44, e44, st44⟩ := getS X41 hx hZ hown (host := "") (hw _ (List.mem_of_getElem? (i := 0) rfl)) Via.refl K41 sF (g := (mkF m 69 #[.val (.long bid), .second, .val (.long rm), .second, .val (.int (1 : Int32)), .val (.int (1 : Int32)), .val (.int (1 : Int32)), .val (.int (1 : Int32))] [])) rfl (hb hby at_69)
      refine Rch.st (fun _ k => st44 _ k) ?_
      show Rch p e below T44 (mkF m 72 #[.val (.long bid), .second, .val (.long rm), .second, .val (.int (1 : Int32)), .val (.int (1 : Int32)), .val (.int (1 : Int32)), .val (.int (1 : Int32))] [(.ref aF)]) _
      refine Rch.st (fun _ k => XT.lloadN X44.here hx rfl (hb hby at_72) rfl k) ?_
      show Rch p e below T44 (mkF m 73 #[.val (.long bid), .second, .val (.long rm), .second, .val (.int (1 : Int32)), .val (.int (1 : Int32)), .val (.int (1 : Int32)), .val (.int (1 : Int32))] [(.long bid), (.ref aF)]) _
      refine Rch.st (fun _ k => XT.lloadN X44.here hx rfl (hb hby at_73) rfl k) ?_
      show Rch p e below T44 (mkF m 74 #[.val (.long bid), .second, .val (.long rm), .second, .val (.int (1 : Int32)), .val (.int (1 : Int32)), .val (.int (1 : Int32)), .val (.int (1 : Int32))] [(.long rm), (.long bid), (.ref aF)]) _
      obtain ⟨cq45, kq45, q45a, q45b, q45c⟩ := isOf hZ e44 f2
      obtain ⟨_, _, ⟨T45, L45, k45, n45⟩, -, X45, ⟨Lc45, hQ45, l45, y45, z45⟩, st45⟩ := X44.virtualBack hx (y := (⟨"com/example/dualfit/dualfit/allocation/Charging", "price", "(JJ)J"⟩ : MethodName)) (z := (⟨"com/example/dualfit/dualfit/allocation/Charging", "price", "(JJ)J"⟩ : MethodName)) hown (mvT hZ (hw _ (List.mem_of_getElem? (i := 11) rfl))) (mvT hZ (hw _ (List.mem_of_getElem? (i := 12) rfl))) (notFace_of_selects (args := #[]) (mvT hZ (hw _ (List.mem_of_getElem? (i := 14) rfl)))) (mvT hZ (hw _ (List.mem_of_getElem? (i := 14) rfl))) (mvT hZ (hw _ (List.mem_of_getElem? (i := 13) rfl))) (by decide) (backOf (W := 0) (rm_price l Z a0 hw [] aF aF bid rm h0 n0 Z0 (sF)) hZ (hw _ (List.mem_of_getElem? (i := 15) rfl)) (hw _ (List.mem_of_getElem? (i := 1) rfl)) (by decide) (by decide)) q45a q45c (g := (mkF m 74 #[.val (.long bid), .second, .val (.long rm), .second, .val (.int (1 : Int32)), .val (.int (1 : Int32)), .val (.int (1 : Int32)), .val (.int (1 : Int32))] [(.long rm), (.long bid), (.ref aF)])) rfl (by rw [hml]; rfl) (Steps.refl _) (argsL := [(.long bid), (.long rm)]) (rest := []) (lenOf pd__JJ_J rfl) rfl (by show 2 * 0 + _ ≤ _; exact Nat.le_of_eq rfl) (hb hby at_74) (fun _ _ => ⟨rfl, e44, (by decide : 0 + 0 ≤ _), (by decide : 0 + 0 ≤ _)⟩)
      dsimp only [Pt.U, Pt.locs, Pt.cells, Pt.slots] at X45 l45 y45 z45 st45 hQ45
      subst l45 y45 z45
      obtain ⟨rfl, NQ45, K45⟩ := hQ45
      have N46 := Fr.app N42 NQ45
      refine Rch.st (fun _ k => st45.trans k) ?_
      show Rch p e below T45 (mkF m 77 #[.val (.long bid), .second, .val (.long rm), .second, .val (.int (1 : Int32)), .val (.int (1 : Int32)), .val (.int (1 : Int32)), .val (.int (1 : Int32))] [(.long (own_price aF aF bid rm))]) _
      refine Rch.st (fun _ k => XT.lloadN X45.here hx rfl (hb hby at_77) rfl k) ?_
      show Rch p e below T45 (mkF m 78 #[.val (.long bid), .second, .val (.long rm), .second, .val (.int (1 : Int32)), .val (.int (1 : Int32)), .val (.int (1 : Int32)), .val (.int (1 : Int32))] [(.long rm), (.long (own_price aF aF bid rm))]) _
      refine Rch.st (fun _ k => XT.lcmp X45.here hx rfl (hb hby at_78) rfl k) ?_
      show Rch p e below T45 (mkF m 79 #[.val (.long bid), .second, .val (.long rm), .second, .val (.int (1 : Int32)), .val (.int (1 : Int32)), .val (.int (1 : Int32)), .val (.int (1 : Int32))] [(.int (XT.cmpL (own_price aF aF bid rm) rm))]) _
      refine Rch.st (fun _ k => XS.ifYes X45.here hx rfl (pc0 := 79) (pc' := 84) rfl (hb hby at_79) rfl (XT.ll_le_t (by simpa [own_price] using c14)) (by decide) (by decide) k) ?_
      show Rch p e below T45 (mkF m 84 #[.val (.long bid), .second, .val (.long rm), .second, .val (.int (1 : Int32)), .val (.int (1 : Int32)), .val (.int (1 : Int32)), .val (.int (1 : Int32))] []) _
      refine Rch.st (fun _ k => XS.iload X45.here hx rfl (hb hby at_84) rfl k) ?_
      show Rch p e below T45 (mkF m 86 #[.val (.long bid), .second, .val (.long rm), .second, .val (.int (1 : Int32)), .val (.int (1 : Int32)), .val (.int (1 : Int32)), .val (.int (1 : Int32))] [(.int (1 : Int32))]) _
      refine Rch.st (fun _ k => XS.ifNo X45.here hx rfl (hb hby at_86) rfl (XT.i0_eq_f (by decide)) k) ?_
      show Rch p e below T45 (mkF m 89 #[.val (.long bid), .second, .val (.long rm), .second, .val (.int (1 : Int32)), .val (.int (1 : Int32)), .val (.int (1 : Int32)), .val (.int (1 : Int32))] []) _
      obtain ⟨T47, X47, e47, st47⟩ := getS X45 hx hZ hown (host := "") (hw _ (List.mem_of_getElem? (i := 9) rfl)) Via.refl K45 sC (g := (mkF m 89 #[.val (.long bid), .second, .val (.long rm), .second, .val (.int (1 : Int32)), .val (.int (1 : Int32)), .val (.int (1 : Int32)), .val (.int (1 : Int32))] [])) rfl (hb hby at_89)
      refine Rch.st (fun _ k => st47 _ k) ?_
      show Rch p e below T47 (mkF m 92 #[.val (.long bid), .second, .val (.long rm), .second, .val (.int (1 : Int32)), .val (.int (1 : Int32)), .val (.int (1 : Int32)), .val (.int (1 : Int32))] [(.ref aC)]) _
      refine Rch.st (fun _ k => XT.lloadN X47.here hx rfl (hb hby at_92) rfl k) ?_
      show Rch p e below T47 (mkF m 93 #[.val (.long bid), .second, .val (.long rm), .second, .val (.int (1 : Int32)), .val (.int (1 : Int32)), .val (.int (1 : Int32)), .val (.int (1 : Int32))] [(.long bid), (.ref aC)]) _
      refine Rch.st (fun _ k => XT.lloadN X47.here hx rfl (hb hby at_93) rfl k) ?_
      show Rch p e below T47 (mkF m 94 #[.val (.long bid), .second, .val (.long rm), .second, .val (.int (1 : Int32)), .val (.int (1 : Int32)), .val (.int (1 : Int32)), .val (.int (1 : Int32))] [(.long rm), (.long bid), (.ref aC)]) _
      obtain ⟨cq48, kq48, q48a, q48b, q48c⟩ := isOf hZ e47 f3
      obtain ⟨_, _, ⟨T48, L48, k48, n48⟩, -, X48, ⟨Lc48, hQ48, l48, y48, z48⟩, st48⟩ := X47.virtualBack hx (y := (⟨"com/example/dualfit/dualfit/allocation/Charging", "price", "(JJ)J"⟩ : MethodName)) (z := (⟨"com/example/dualfit/dualfit/allocation/Charging", "price", "(JJ)J"⟩ : MethodName)) hown (mvT hZ (hw _ (List.mem_of_getElem? (i := 11) rfl))) (mvT hZ (hw _ (List.mem_of_getElem? (i := 12) rfl))) (notFace_of_selects (args := #[]) (mvT hZ (hw _ (List.mem_of_getElem? (i := 14) rfl)))) (mvT hZ (hw _ (List.mem_of_getElem? (i := 14) rfl))) (mvT hZ (hw _ (List.mem_of_getElem? (i := 13) rfl))) (by decide) (backOf (W := 0) (rm_price l Z a0 hw [] aC aF bid rm h0 n0 Z0 (sF)) hZ (hw _ (List.mem_of_getElem? (i := 15) rfl)) (hw _ (List.mem_of_getElem? (i := 1) rfl)) (by decide) (by decide)) q48a q48c (g := (mkF m 94 #[.val (.long bid), .second, .val (.long rm), .second, .val (.int (1 : Int32)), .val (.int (1 : Int32)), .val (.int (1 : Int32)), .val (.int (1 : Int32))] [(.long rm), (.long bid), (.ref aC)])) rfl (by rw [hml]; rfl) (Steps.refl _) (argsL := [(.long bid), (.long rm)]) (rest := []) (lenOf pd__JJ_J rfl) rfl (by show 2 * 0 + _ ≤ _; exact Nat.le_of_eq rfl) (hb hby at_94) (fun _ _ => ⟨rfl, e47, (by decide : 0 + 0 ≤ _), (by decide : 0 + 0 ≤ _)⟩)
      dsimp only [Pt.U, Pt.locs, Pt.cells, Pt.slots] at X48 l48 y48 z48 st48 hQ48
      subst l48 y48 z48
      obtain ⟨rfl, NQ48, K48⟩ := hQ48
      have N49 := Fr.app N46 NQ48
      refine Rch.st (fun _ k => st48.trans k) ?_
      show Rch p e below T48 (mkF m 97 #[.val (.long bid), .second, .val (.long rm), .second, .val (.int (1 : Int32)), .val (.int (1 : Int32)), .val (.int (1 : Int32)), .val (.int (1 : Int32))] [(.long (own_price aC aF bid rm))]) _
      refine Rch.st (fun _ k => XT.lloadN X48.here hx rfl (hb hby at_97) rfl k) ?_
      show Rch p e below T48 (mkF m 98 #[.val (.long bid), .second, .val (.long rm), .second, .val (.int (1 : Int32)), .val (.int (1 : Int32)), .val (.int (1 : Int32)), .val (.int (1 : Int32))] [(.long rm), (.long (own_price aC aF bid rm))]) _
      refine Rch.st (fun _ k => XT.lcmp X48.here hx rfl (hb hby at_98) rfl k) ?_
      show Rch p e below T48 (mkF m 99 #[.val (.long bid), .second, .val (.long rm), .second, .val (.int (1 : Int32)), .val (.int (1 : Int32)), .val (.int (1 : Int32)), .val (.int (1 : Int32))] [(.int (XT.cmpL (own_price aC aF bid rm) rm))]) _
      refine Rch.st (fun _ k => XS.ifYes X48.here hx rfl (pc0 := 99) (pc' := 104) rfl (hb hby at_99) rfl (XT.ll_le_t (by simpa [own_price, nFC] using own_min_le bid rm)) (by decide) (by decide) k) ?_
      show Rch p e below T48 (mkF m 104 #[.val (.long bid), .second, .val (.long rm), .second, .val (.int (1 : Int32)), .val (.int (1 : Int32)), .val (.int (1 : Int32)), .val (.int (1 : Int32))] []) _
      refine Rch.st (fun _ k => XS.iconst X48.here hx rfl (hb hby at_104) k) ?_
      show Rch p e below T48 (mkF m 105 #[.val (.long bid), .second, .val (.long rm), .second, .val (.int (1 : Int32)), .val (.int (1 : Int32)), .val (.int (1 : Int32)), .val (.int (1 : Int32))] [(.int (1 : Int32))]) _
      exact Rch.retV X48 hx Bd.returns rfl (Or.inl ⟨rfl, by simp, _, rfl⟩) (hb hby at_105) (by rw [K48]; exact ⟨rfl, N49, rfl⟩) (by decide) (by decide)
    · skip
      refine Rch.st (fun _ k => XS.ifYes X0.here hx rfl (pc0 := 16) (pc' := 23) rfl (hb hby at_16) rfl (XT.ll_le_t (c35)) (by decide) (by decide) k) ?_
      show Rch p e below s₁ (mkF m 23 #[.val (.long bid), .second, .val (.long rm), .second, .val (.int (1 : Int32)), .unset, .unset, .unset] []) _
      refine Rch.st (fun _ k => XS.iconst X0.here hx rfl (hb hby at_23) k) ?_
      show Rch p e below s₁ (mkF m 24 #[.val (.long bid), .second, .val (.long rm), .second, .val (.int (1 : Int32)), .unset, .unset, .unset] [(.int (0 : Int32))]) _
      refine Rch.st (fun _ k => XS.istore X0.here hx rfl (hb hby at_24) rfl (l' := #[.val (.long bid), .second, .val (.long rm), .second, .val (.int (1 : Int32)), .val (.int (0 : Int32)), .unset, .unset]) rfl k) ?_
      show Rch p e below s₁ (mkF m 26 #[.val (.long bid), .second, .val (.long rm), .second, .val (.int (1 : Int32)), .val (.int (0 : Int32)), .unset, .unset] []) _
      obtain ⟨T50, X50, e50, st50⟩ := getS X0 hx hZ hown (host := "") (hw _ (List.mem_of_getElem? (i := 0) rfl)) Via.refl e0 sF (g := (mkF m 26 #[.val (.long bid), .second, .val (.long rm), .second, .val (.int (1 : Int32)), .val (.int (0 : Int32)), .unset, .unset] [])) rfl (hb hby at_26)
      refine Rch.st (fun _ k => st50 _ k) ?_
      show Rch p e below T50 (mkF m 29 #[.val (.long bid), .second, .val (.long rm), .second, .val (.int (1 : Int32)), .val (.int (0 : Int32)), .unset, .unset] [(.ref aF)]) _
      refine Rch.st (fun _ k => XT.lloadN X50.here hx rfl (hb hby at_29) rfl k) ?_
      show Rch p e below T50 (mkF m 30 #[.val (.long bid), .second, .val (.long rm), .second, .val (.int (1 : Int32)), .val (.int (0 : Int32)), .unset, .unset] [(.long bid), (.ref aF)]) _
      refine Rch.st (fun _ k => XT.lloadN X50.here hx rfl (hb hby at_30) rfl k) ?_
      show Rch p e below T50 (mkF m 31 #[.val (.long bid), .second, .val (.long rm), .second, .val (.int (1 : Int32)), .val (.int (0 : Int32)), .unset, .unset] [(.long rm), (.long bid), (.ref aF)]) _
      obtain ⟨cq51, kq51, q51a, q51b, q51c⟩ := isOf hZ e50 f2
      obtain ⟨_, _, ⟨T51, L51, k51, n51⟩, -, X51, ⟨Lc51, hQ51, l51, y51, z51⟩, st51⟩ := X50.virtualBack hx (y := (⟨"com/example/dualfit/dualfit/allocation/Charging", "eligible", "(JJ)Z"⟩ : MethodName)) (z := (⟨"com/example/dualfit/dualfit/allocation/Charging", "eligible", "(JJ)Z"⟩ : MethodName)) hown (mvT hZ (hw _ (List.mem_of_getElem? (i := 3) rfl))) (mvT hZ (hw _ (List.mem_of_getElem? (i := 4) rfl))) (notFace_of_selects (args := #[]) (mvT hZ (hw _ (List.mem_of_getElem? (i := 6) rfl)))) (mvT hZ (hw _ (List.mem_of_getElem? (i := 6) rfl))) (mvT hZ (hw _ (List.mem_of_getElem? (i := 5) rfl))) (by decide) (backOf (W := 0) (rm_elig l Z a0 hw [] aF aF bid rm h0 n0 Z0 (sF)) hZ (hw _ (List.mem_of_getElem? (i := 7) rfl)) (hw _ (List.mem_of_getElem? (i := 1) rfl)) (by decide) (by decide)) q51a q51c (g := (mkF m 31 #[.val (.long bid), .second, .val (.long rm), .second, .val (.int (1 : Int32)), .val (.int (0 : Int32)), .unset, .unset] [(.long rm), (.long bid), (.ref aF)])) rfl (by rw [hml]; rfl) (Steps.refl _) (argsL := [(.long bid), (.long rm)]) (rest := []) (lenOf pd__JJ_Z rfl) rfl (by show 2 * 0 + _ ≤ _; exact Nat.le_of_eq rfl) (hb hby at_31) (fun _ _ => ⟨rfl, e50, (by decide : 0 + 0 ≤ _), (by decide : 0 + 0 ≤ _)⟩)
      dsimp only [Pt.U, Pt.locs, Pt.cells, Pt.slots] at X51 l51 y51 z51 st51 hQ51
      subst l51 y51 z51
      obtain ⟨rfl, NQ51, K51⟩ := hQ51
      have N52 := Fr.app N0 NQ51
      refine Rch.st (fun _ k => st51.trans k) ?_
      show Rch p e below T51 (mkF m 34 #[.val (.long bid), .second, .val (.long rm), .second, .val (.int (1 : Int32)), .val (.int (0 : Int32)), .unset, .unset] [(.int (own_elig aF aF bid rm))]) _
      have r53 : (own_elig aF aF bid rm) = (1 : Int32) := by simp [own_elig, c14]
      rw [r53]
      show Rch p e below T51 (mkF m 34 #[.val (.long bid), .second, .val (.long rm), .second, .val (.int (1 : Int32)), .val (.int (0 : Int32)), .unset, .unset] [(.int (1 : Int32))]) _
      refine Rch.st (fun _ k => XS.istore X51.here hx rfl (hb hby at_34) rfl (l' := #[.val (.long bid), .second, .val (.long rm), .second, .val (.int (1 : Int32)), .val (.int (0 : Int32)), .val (.int (1 : Int32)), .unset]) rfl k) ?_
      show Rch p e below T51 (mkF m 36 #[.val (.long bid), .second, .val (.long rm), .second, .val (.int (1 : Int32)), .val (.int (0 : Int32)), .val (.int (1 : Int32)), .unset] []) _
      obtain ⟨T54, X54, e54, st54⟩ := getS X51 hx hZ hown (host := "") (hw _ (List.mem_of_getElem? (i := 9) rfl)) Via.refl K51 sC (g := (mkF m 36 #[.val (.long bid), .second, .val (.long rm), .second, .val (.int (1 : Int32)), .val (.int (0 : Int32)), .val (.int (1 : Int32)), .unset] [])) rfl (hb hby at_36)
      refine Rch.st (fun _ k => st54 _ k) ?_
      show Rch p e below T54 (mkF m 39 #[.val (.long bid), .second, .val (.long rm), .second, .val (.int (1 : Int32)), .val (.int (0 : Int32)), .val (.int (1 : Int32)), .unset] [(.ref aC)]) _
      refine Rch.st (fun _ k => XT.lloadN X54.here hx rfl (hb hby at_39) rfl k) ?_
      show Rch p e below T54 (mkF m 40 #[.val (.long bid), .second, .val (.long rm), .second, .val (.int (1 : Int32)), .val (.int (0 : Int32)), .val (.int (1 : Int32)), .unset] [(.long bid), (.ref aC)]) _
      refine Rch.st (fun _ k => XT.lloadN X54.here hx rfl (hb hby at_40) rfl k) ?_
      show Rch p e below T54 (mkF m 41 #[.val (.long bid), .second, .val (.long rm), .second, .val (.int (1 : Int32)), .val (.int (0 : Int32)), .val (.int (1 : Int32)), .unset] [(.long rm), (.long bid), (.ref aC)]) _
      obtain ⟨cq55, kq55, q55a, q55b, q55c⟩ := isOf hZ e54 f3
      obtain ⟨_, _, ⟨T55, L55, k55, n55⟩, -, X55, ⟨Lc55, hQ55, l55, y55, z55⟩, st55⟩ := X54.virtualBack hx (y := (⟨"com/example/dualfit/dualfit/allocation/Charging", "eligible", "(JJ)Z"⟩ : MethodName)) (z := (⟨"com/example/dualfit/dualfit/allocation/Charging", "eligible", "(JJ)Z"⟩ : MethodName)) hown (mvT hZ (hw _ (List.mem_of_getElem? (i := 3) rfl))) (mvT hZ (hw _ (List.mem_of_getElem? (i := 4) rfl))) (notFace_of_selects (args := #[]) (mvT hZ (hw _ (List.mem_of_getElem? (i := 6) rfl)))) (mvT hZ (hw _ (List.mem_of_getElem? (i := 6) rfl))) (mvT hZ (hw _ (List.mem_of_getElem? (i := 5) rfl))) (by decide) (backOf (W := 0) (rm_elig l Z a0 hw [] aC aF bid rm h0 n0 Z0 (sF)) hZ (hw _ (List.mem_of_getElem? (i := 7) rfl)) (hw _ (List.mem_of_getElem? (i := 1) rfl)) (by decide) (by decide)) q55a q55c (g := (mkF m 41 #[.val (.long bid), .second, .val (.long rm), .second, .val (.int (1 : Int32)), .val (.int (0 : Int32)), .val (.int (1 : Int32)), .unset] [(.long rm), (.long bid), (.ref aC)])) rfl (by rw [hml]; rfl) (Steps.refl _) (argsL := [(.long bid), (.long rm)]) (rest := []) (lenOf pd__JJ_Z rfl) rfl (by show 2 * 0 + _ ≤ _; exact Nat.le_of_eq rfl) (hb hby at_41) (fun _ _ => ⟨rfl, e54, (by decide : 0 + 0 ≤ _), (by decide : 0 + 0 ≤ _)⟩)
      dsimp only [Pt.U, Pt.locs, Pt.cells, Pt.slots] at X55 l55 y55 z55 st55 hQ55
      subst l55 y55 z55
      obtain ⟨rfl, NQ55, K55⟩ := hQ55
      have N56 := Fr.app N52 NQ55
      refine Rch.st (fun _ k => st55.trans k) ?_
      show Rch p e below T55 (mkF m 44 #[.val (.long bid), .second, .val (.long rm), .second, .val (.int (1 : Int32)), .val (.int (0 : Int32)), .val (.int (1 : Int32)), .unset] [(.int (own_elig aC aF bid rm))]) _
      have r57 : (own_elig aC aF bid rm) = (0 : Int32) := by simp [own_elig, nFC, c35]
      rw [r57]
      show Rch p e below T55 (mkF m 44 #[.val (.long bid), .second, .val (.long rm), .second, .val (.int (1 : Int32)), .val (.int (0 : Int32)), .val (.int (1 : Int32)), .unset] [(.int (0 : Int32))]) _
      refine Rch.st (fun _ k => XS.istore X55.here hx rfl (hb hby at_44) rfl (l' := #[.val (.long bid), .second, .val (.long rm), .second, .val (.int (1 : Int32)), .val (.int (0 : Int32)), .val (.int (1 : Int32)), .val (.int (0 : Int32))]) rfl k) ?_
      show Rch p e below T55 (mkF m 46 #[.val (.long bid), .second, .val (.long rm), .second, .val (.int (1 : Int32)), .val (.int (0 : Int32)), .val (.int (1 : Int32)), .val (.int (0 : Int32))] []) _
      refine Rch.st (fun _ k => XS.iload X55.here hx rfl (hb hby at_46) rfl k) ?_
      show Rch p e below T55 (mkF m 48 #[.val (.long bid), .second, .val (.long rm), .second, .val (.int (1 : Int32)), .val (.int (0 : Int32)), .val (.int (1 : Int32)), .val (.int (0 : Int32))] [(.int (1 : Int32))]) _
      refine Rch.st (fun _ k => XS.iload X55.here hx rfl (hb hby at_48) rfl k) ?_
      show Rch p e below T55 (mkF m 50 #[.val (.long bid), .second, .val (.long rm), .second, .val (.int (1 : Int32)), .val (.int (0 : Int32)), .val (.int (1 : Int32)), .val (.int (0 : Int32))] [(.int (1 : Int32)), (.int (1 : Int32))]) _
      refine Rch.st (fun _ k => XS.icmpYes X55.here hx rfl (pc0 := 50) (pc' := 55) rfl (hb hby at_50) rfl (XT.ii_eq_t (rfl)) (by decide) (by decide) k) ?_
      show Rch p e below T55 (mkF m 55 #[.val (.long bid), .second, .val (.long rm), .second, .val (.int (1 : Int32)), .val (.int (0 : Int32)), .val (.int (1 : Int32)), .val (.int (0 : Int32))] []) _
      refine Rch.st (fun _ k => XS.iload X55.here hx rfl (hb hby at_55) rfl k) ?_
      show Rch p e below T55 (mkF m 57 #[.val (.long bid), .second, .val (.long rm), .second, .val (.int (1 : Int32)), .val (.int (0 : Int32)), .val (.int (1 : Int32)), .val (.int (0 : Int32))] [(.int (0 : Int32))]) _
      refine Rch.st (fun _ k => XS.iload X55.here hx rfl (hb hby at_57) rfl k) ?_
      show Rch p e below T55 (mkF m 59 #[.val (.long bid), .second, .val (.long rm), .second, .val (.int (1 : Int32)), .val (.int (0 : Int32)), .val (.int (1 : Int32)), .val (.int (0 : Int32))] [(.int (0 : Int32)), (.int (0 : Int32))]) _
      refine Rch.st (fun _ k => XS.icmpYes X55.here hx rfl (pc0 := 59) (pc' := 64) rfl (hb hby at_59) rfl (XT.ii_eq_t (rfl)) (by decide) (by decide) k) ?_
      show Rch p e below T55 (mkF m 64 #[.val (.long bid), .second, .val (.long rm), .second, .val (.int (1 : Int32)), .val (.int (0 : Int32)), .val (.int (1 : Int32)), .val (.int (0 : Int32))] []) _
      refine Rch.st (fun _ k => XS.iload X55.here hx rfl (hb hby at_64) rfl k) ?_
      show Rch p e below T55 (mkF m 66 #[.val (.long bid), .second, .val (.long rm), .second, .val (.int (1 : Int32)), .val (.int (0 : Int32)), .val (.int (1 : Int32)), .val (.int (0 : Int32))] [(.int (1 : Int32))]) _
      refine Rch.st (fun _ k => XS.ifNo X55.here hx rfl (hb hby at_66) rfl (XT.i0_eq_f (by decide)) k) ?_
      show Rch p e below T55 (mkF m 69 #[.val (.long bid), .second, .val (.long rm), .second, .val (.int (1 : Int32)), .val (.int (0 : Int32)), .val (.int (1 : Int32)), .val (.int (0 : Int32))] []) _
      obtain ⟨T58, X58, e58, st58⟩ := getS X55 hx hZ hown (host := "") (hw _ (List.mem_of_getElem? (i := 0) rfl)) Via.refl K55 sF (g := (mkF m 69 #[.val (.long bid), .second, .val (.long rm), .second, .val (.int (1 : Int32)), .val (.int (0 : Int32)), .val (.int (1 : Int32)), .val (.int (0 : Int32))] [])) rfl (hb hby at_69)
      refine Rch.st (fun _ k => st58 _ k) ?_
      show Rch p e below T58 (mkF m 72 #[.val (.long bid), .second, .val (.long rm), .second, .val (.int (1 : Int32)), .val (.int (0 : Int32)), .val (.int (1 : Int32)), .val (.int (0 : Int32))] [(.ref aF)]) _
      refine Rch.st (fun _ k => XT.lloadN X58.here hx rfl (hb hby at_72) rfl k) ?_
      show Rch p e below T58 (mkF m 73 #[.val (.long bid), .second, .val (.long rm), .second, .val (.int (1 : Int32)), .val (.int (0 : Int32)), .val (.int (1 : Int32)), .val (.int (0 : Int32))] [(.long bid), (.ref aF)]) _
      refine Rch.st (fun _ k => XT.lloadN X58.here hx rfl (hb hby at_73) rfl k) ?_
      show Rch p e below T58 (mkF m 74 #[.val (.long bid), .second, .val (.long rm), .second, .val (.int (1 : Int32)), .val (.int (0 : Int32)), .val (.int (1 : Int32)), .val (.int (0 : Int32))] [(.long rm), (.long bid), (.ref aF)]) _
      obtain ⟨cq59, kq59, q59a, q59b, q59c⟩ := isOf hZ e58 f2
      obtain ⟨_, _, ⟨T59, L59, k59, n59⟩, -, X59, ⟨Lc59, hQ59, l59, y59, z59⟩, st59⟩ := X58.virtualBack hx (y := (⟨"com/example/dualfit/dualfit/allocation/Charging", "price", "(JJ)J"⟩ : MethodName)) (z := (⟨"com/example/dualfit/dualfit/allocation/Charging", "price", "(JJ)J"⟩ : MethodName)) hown (mvT hZ (hw _ (List.mem_of_getElem? (i := 11) rfl))) (mvT hZ (hw _ (List.mem_of_getElem? (i := 12) rfl))) (notFace_of_selects (args := #[]) (mvT hZ (hw _ (List.mem_of_getElem? (i := 14) rfl)))) (mvT hZ (hw _ (List.mem_of_getElem? (i := 14) rfl))) (mvT hZ (hw _ (List.mem_of_getElem? (i := 13) rfl))) (by decide) (backOf (W := 0) (rm_price l Z a0 hw [] aF aF bid rm h0 n0 Z0 (sF)) hZ (hw _ (List.mem_of_getElem? (i := 15) rfl)) (hw _ (List.mem_of_getElem? (i := 1) rfl)) (by decide) (by decide)) q59a q59c (g := (mkF m 74 #[.val (.long bid), .second, .val (.long rm), .second, .val (.int (1 : Int32)), .val (.int (0 : Int32)), .val (.int (1 : Int32)), .val (.int (0 : Int32))] [(.long rm), (.long bid), (.ref aF)])) rfl (by rw [hml]; rfl) (Steps.refl _) (argsL := [(.long bid), (.long rm)]) (rest := []) (lenOf pd__JJ_J rfl) rfl (by show 2 * 0 + _ ≤ _; exact Nat.le_of_eq rfl) (hb hby at_74) (fun _ _ => ⟨rfl, e58, (by decide : 0 + 0 ≤ _), (by decide : 0 + 0 ≤ _)⟩)
      dsimp only [Pt.U, Pt.locs, Pt.cells, Pt.slots] at X59 l59 y59 z59 st59 hQ59
      subst l59 y59 z59
      obtain ⟨rfl, NQ59, K59⟩ := hQ59
      have N60 := Fr.app N56 NQ59
      refine Rch.st (fun _ k => st59.trans k) ?_
      show Rch p e below T59 (mkF m 77 #[.val (.long bid), .second, .val (.long rm), .second, .val (.int (1 : Int32)), .val (.int (0 : Int32)), .val (.int (1 : Int32)), .val (.int (0 : Int32))] [(.long (own_price aF aF bid rm))]) _
      refine Rch.st (fun _ k => XT.lloadN X59.here hx rfl (hb hby at_77) rfl k) ?_
      show Rch p e below T59 (mkF m 78 #[.val (.long bid), .second, .val (.long rm), .second, .val (.int (1 : Int32)), .val (.int (0 : Int32)), .val (.int (1 : Int32)), .val (.int (0 : Int32))] [(.long rm), (.long (own_price aF aF bid rm))]) _
      refine Rch.st (fun _ k => XT.lcmp X59.here hx rfl (hb hby at_78) rfl k) ?_
      show Rch p e below T59 (mkF m 79 #[.val (.long bid), .second, .val (.long rm), .second, .val (.int (1 : Int32)), .val (.int (0 : Int32)), .val (.int (1 : Int32)), .val (.int (0 : Int32))] [(.int (XT.cmpL (own_price aF aF bid rm) rm))]) _
      refine Rch.st (fun _ k => XS.ifYes X59.here hx rfl (pc0 := 79) (pc' := 84) rfl (hb hby at_79) rfl (XT.ll_le_t (by simpa [own_price] using c14)) (by decide) (by decide) k) ?_
      show Rch p e below T59 (mkF m 84 #[.val (.long bid), .second, .val (.long rm), .second, .val (.int (1 : Int32)), .val (.int (0 : Int32)), .val (.int (1 : Int32)), .val (.int (0 : Int32))] []) _
      refine Rch.st (fun _ k => XS.iload X59.here hx rfl (hb hby at_84) rfl k) ?_
      show Rch p e below T59 (mkF m 86 #[.val (.long bid), .second, .val (.long rm), .second, .val (.int (1 : Int32)), .val (.int (0 : Int32)), .val (.int (1 : Int32)), .val (.int (0 : Int32))] [(.int (0 : Int32))]) _
      refine Rch.st (fun _ k => XS.ifYes X59.here hx rfl (pc0 := 86) (pc' := 104) rfl (hb hby at_86) rfl (XT.i0_eq_t (by decide)) (by decide) (by decide) k) ?_
      show Rch p e below T59 (mkF m 104 #[.val (.long bid), .second, .val (.long rm), .second, .val (.int (1 : Int32)), .val (.int (0 : Int32)), .val (.int (1 : Int32)), .val (.int (0 : Int32))] []) _
      refine Rch.st (fun _ k => XS.iconst X59.here hx rfl (hb hby at_104) k) ?_
      show Rch p e below T59 (mkF m 105 #[.val (.long bid), .second, .val (.long rm), .second, .val (.int (1 : Int32)), .val (.int (0 : Int32)), .val (.int (1 : Int32)), .val (.int (0 : Int32))] [(.int (1 : Int32))]) _
      exact Rch.retV X59 hx Bd.returns rfl (Or.inl ⟨rfl, by simp, _, rfl⟩) (hb hby at_105) (by rw [K59]; exact ⟨rfl, N60, rfl⟩) (by decide) (by decide)

set_option maxRecDepth 65536 in
set_option maxHeartbeats 40000000 in
theorem comes_1 {Post : Tables → Env → Array Value → State → Outcome → State → Prop} (hpost : ∀ tb e args s v u, (limb_1_1.after args s (.returned v) u = true ∧ limb_1_2.after args s (.returned v) u = true ∧ True) → FrameEnd s (.returned v) u (Jvm.fieldLocs frame_1_writes args s ++ Jvm.arrayLocs frame_1_arrays args s ++ Jvm.staticLocs frame_1_statics s) 0 0 → Post tb e args s (.returned v) u) :
    ArmFor flags0 classFile x code maxLocals ret World_1 tables_1 room_1 Calls_1 rest_1 Pre_1 Post := by
  intro l hfl _ _ p e ha hc hk s m args below hf hA hF happ hP
  obtain ⟨hcalls, hrest, hpre⟩ := hP
  obtain ⟨-, -, -, hnamed, -, -, -, hat⟩ := (Spec.applies_iff hf).mp happ
  obtain ⟨hg, hn⟩ := and_e (Cond.before_iff.mp (show (Jvm.Cond.and given_1 narrow_1).before args s = true from hpre))
  obtain ⟨hcnt, hgs⟩ := and_e hg
  obtain ⟨w0, w1, rfl⟩ : ∃ w0 w1, args = #[w0, w1] := by
    have hs : args.size = 2 := by simpa [Cond.value, given_1] using hcnt
    obtain ⟨L⟩ := args
    match L, hs with
    | [w0, w1], _ => exact ⟨w0, w1, rfl⟩
  have hw := fun d (hd : d ∈ tables_1) => atoms_spec (ws := Jvm.Cond.code x code maxLocals ret :: tables_1) hat d (List.mem_cons_of_mem _ hd)
  have hfit : Fit s := fun {y c} hc i hi => by
    obtain ⟨ha, rfl⟩ := Array.getElem?_eq_some_iff.mp hc
    have q := List.all_eq_true.mp ((Array.all_eq_true_iff_forall_mem.mp hF) _ (Array.getElem_mem ha)) i (List.mem_range.mpr hi)
    simpa [Array.getElem?_eq_getElem hi] using q
  obtain ⟨g0, gr0⟩ := and_e hgs
  obtain ⟨i0, q0⟩ := isL_v g0
  obtain rfl : w0 = (.long i0) := Option.some.inj q0
  obtain ⟨i1, q1⟩ := isL_v gr0
  obtain rfl : w1 = (.long i1) := Option.some.inj q1
  obtain ⟨xF, hn⟩ := and_e hn
  obtain ⟨xC, hn⟩ := and_e hn
  obtain ⟨oC, oF⟩ := and_e hn
  obtain ⟨aF, vF⟩ := exa_v xF
  have sF := Sta.start vF (Or.inr ⟨(hw _ (List.mem_of_getElem? (i := 1) rfl)), (hw _ (List.mem_of_getElem? (i := 2) rfl))⟩)
  have fF : Fld s s.heap aF "java/lang/Enum" "ordinal" "I" (.int 0) := Fld.start (own_ord vF oF)
  have EF : Exa s s.heap aF "com/example/dualfit/dualfit/allocation/Charging" := Exa.start vF xF
  obtain ⟨aC, vC⟩ := exa_v xC
  have sC := Sta.start vC (Or.inr ⟨(hw _ (List.mem_of_getElem? (i := 1) rfl)), (hw _ (List.mem_of_getElem? (i := 10) rfl))⟩)
  have fC : Fld s s.heap aC "java/lang/Enum" "ordinal" "I" (.int 1) := Fld.start (own_ord vC oC)
  have EC : Exa s s.heap aC "com/example/dualfit/dualfit/allocation/Charging" := Exa.start vC xC
  have nCF := Fld.ne fC fF (by decide)
  obtain ⟨n, o, h1, h2, h3, _, L, rfl, ⟨rfl, N, -⟩, hq⟩ := rm_law l s _ hw tables_1 i0 i1 aF aC s.heap s.heap.size (Nat.le_refl _) sF sC EF EC nCF p e ha hc hk s m _ below hf ((Spec.applies_iff_loose hf).mp happ).1 ⟨rfl, State.Warmed39.refl s, rfl⟩ trivial
  refine ⟨n, _, h1, h2, h3, hpost _ _ _ _ _ _ ⟨Cond.after_iff.mpr rfl, Cond.after_iff.mpr (eq_i res_at (Term.int_eval (1)) rfl), trivial⟩ ⟨hq.1, hq.2.1, (hq.2.2.sift fun y hy => Or.inr (N y hy)).mono (by decide) (by decide)⟩⟩
theorem main_1_1 : Claimed_1_1 := comes_1 fun _ _ _ _ _ _ h hF => ⟨h.1, hF⟩
theorem main_1_2 : Claimed_1_2 := comes_1 fun _ _ _ _ _ _ h hF => ⟨h.2.1, hF⟩
end Jvm.Pilot.@@N@@
namespace Jvm.Pilot.@@N@@
open Jvm Jvm.ClassFile Sem Op Lib Jvm.Free Jvm.Stand Jvm.Pilot.@@N@@.Jvm.D
/-! MADE BY PROGRAM (witnessworld.py) out of the Statement's table words and the real class files: 13 classes; the members and pool entries that the words name. The judged class is class 1, her method 1. -/
namespace start1
open Jvm.ClassFile
def u (s : String) : CpInfo := .utf8 (stringToUtf16 s)
/-- a pool by its gaps: so many unusable entries, then the entry; so many at the end -/
def gap : Nat → List CpInfo → List CpInfo
  | 0, r => r
  | n + 1, r => .unusable :: gap n r
def poolList (es : List (Nat × CpInfo)) (last : Nat) : List CpInfo := es.foldr (fun e r => gap e.1 (e.2 :: r)) (gap last [])
def pool (es : List (Nat × CpInfo)) (last : Nat) : Array CpInfo := ⟨poolList es last⟩
def fileOf (pool : Array CpInfo) (this : Nat) (attrs : Array Attribute := #[]) (ms : Array MethodInfo := #[]) (fl : Nat := 33) (sup : Nat := 0) (ifs : Array Nat := #[]) (fds : Array FieldInfo := #[]) : ClassFile where
  minorVersion := 0
  majorVersion := 65
  constantPool := pool
  accessFlags := fl
  thisClass := this
  superClass := sup
  interfaces := ifs
  fields := fds
  methods := ms
  attributes := attrs
def plain (name : String) (sup : Option ClassId) : Class where
  name := name
  kind := .ordinary
  loader := none
  accessFlags := 33
  super := sup
  interfaces := #[]
  cf := none
  fields := #[]
  methods := #[]
  instanceTypes := #[]
  staticTypes := #[]
  resolved := #[]
  callSites := []
  init := .initialized
  statics := none
  mirror := none

def pool0 : Array CpInfo := pool [(5, u "<init>"), (0, u "()V"), (1, .class_ 10), (1, u "java/lang/Object")] 113

def k0m0 : Method := { name := "<init>", desc := "()V", sig := { parameters := [], returnType := none }, accessFlags := 1, code := none }
/-- java/lang/Object -/
def k0 : Class := { plain "java/lang/Object" none with
  accessFlags := 33
  interfaces := #[]
  cf := some (fileOf pool0 8 #[] #[{ accessFlags := 1, nameIndex := 5, descriptorIndex := 6, attributes := #[] }] 33 0 #[] #[])
  fields := #[]
  methods := #[k0m0]
  instanceTypes := #[]
  staticTypes := #[]
  resolved := Array.replicate 124 none
  statics := none }

def pool1 : Array CpInfo := pool [(2, .class_ 4), (1, u "java/lang/Object"), (0, u "<init>"), (0, u "()V"), (0, .fieldref 8 9), (0, .class_ 10), (0, .nameAndType 11 12), (0, u "com/example/dualfit/dualfit/allocation/Charging"), (0, u "FIT"), (0, u "Lcom/example/dualfit/dualfit/allocation/Charging;"), (0, .methodref 8 14), (0, .nameAndType 15 16), (0, u "eligible"), (0, u "(JJ)Z"), (0, .fieldref 8 18), (0, .nameAndType 19 12), (0, u "CAPPED"), (0, .methodref 8 21), (0, .nameAndType 22 23), (0, u "price"), (0, u "(JJ)J"), (0, .class_ 25), (0, u "com/example/dualfit/dualfit/allocation/ChargingEligiblePinLaw"), (2, u "law")] 3

def k1m0 : Method := { name := "<init>", desc := "()V", sig := { parameters := [], returnType := none }, accessFlags := 2, code := none }
def k1c1 : Code := { maxStack := 5, maxLocals := 8, code := code, exceptionTable := #[], attributes := #[] }
def k1m1 : Method := { name := "law", desc := "(JJ)Z", sig := { parameters := [.long, .long], returnType := some .boolean }, accessFlags := 9, code := some k1c1 }
/-- com/example/dualfit/dualfit/allocation/ChargingEligiblePinLaw -/
def k1 : Class := { plain "com/example/dualfit/dualfit/allocation/ChargingEligiblePinLaw" (some 0) with
  accessFlags := 49
  interfaces := #[]
  cf := some (fileOf pool1 24 #[] #[{ accessFlags := 2, nameIndex := 5, descriptorIndex := 6, attributes := #[] }, { accessFlags := 9, nameIndex := 28, descriptorIndex := 16, attributes := #[] }] 49 2 #[] #[])
  fields := #[]
  methods := #[k1m0, k1m1]
  instanceTypes := #[]
  staticTypes := #[]
  resolved := Array.replicate 32 none
  statics := none }

def pool2 : Array CpInfo := pool [(1, .class_ 2), (0, u "java/lang/constant/Constable"), (0, .class_ 4), (0, u "java/lang/Object")] 6

/-- java/lang/constant/Constable -/
def k2 : Class := { plain "java/lang/constant/Constable" (some 0) with
  accessFlags := 1537
  interfaces := #[]
  cf := some (fileOf pool2 1 #[] #[] 1537 3 #[] #[])
  fields := #[]
  methods := #[]
  instanceTypes := #[]
  staticTypes := #[]
  resolved := Array.replicate 11 none
  statics := none }

def pool3 : Array CpInfo := pool [(1, .class_ 2), (0, u "java/lang/Comparable"), (0, .class_ 4), (0, u "java/lang/Object")] 7

/-- java/lang/Comparable -/
def k3 : Class := { plain "java/lang/Comparable" (some 0) with
  accessFlags := 1537
  interfaces := #[]
  cf := some (fileOf pool3 1 #[] #[] 1537 3 #[] #[])
  fields := #[]
  methods := #[]
  instanceTypes := #[]
  staticTypes := #[]
  resolved := Array.replicate 12 none
  statics := none }

def pool4 : Array CpInfo := pool [(1, .class_ 2), (0, u "java/io/Serializable"), (0, .class_ 4), (0, u "java/lang/Object")] 2

/-- java/io/Serializable -/
def k4 : Class := { plain "java/io/Serializable" (some 0) with
  accessFlags := 1537
  interfaces := #[]
  cf := some (fileOf pool4 1 #[] #[] 1537 3 #[] #[])
  fields := #[]
  methods := #[]
  instanceTypes := #[]
  staticTypes := #[]
  resolved := Array.replicate 7 none
  statics := none }

def pool5 : Array CpInfo := pool [(2, .class_ 4), (1, u "java/lang/Enum"), (0, u "name"), (0, u "Ljava/lang/String;"), (2, u "ordinal"), (0, u "I"), (1, .class_ 14), (1, u "java/lang/Object"), (4, u "hash"), (86, .class_ 108), (1, u "java/lang/Enum$EnumDesc"), (2, .class_ 112), (0, u "java/lang/constant/Constable"), (0, .class_ 114), (0, u "java/lang/Comparable"), (0, .class_ 116), (0, u "java/io/Serializable")] 87

/-- java/lang/Enum -/
def k5 : Class := { plain "java/lang/Enum" (some 0) with
  accessFlags := 1057
  interfaces := #[2, 3, 4]
  cf := some (fileOf pool5 2 #[.nestMembers #[106]] #[] 1057 12 #[111, 113, 115] #[{ accessFlags := 18, nameIndex := 5, descriptorIndex := 6, attributes := #[] }, { accessFlags := 18, nameIndex := 9, descriptorIndex := 10, attributes := #[] }, { accessFlags := 2, nameIndex := 19, descriptorIndex := 10, attributes := #[] }])
  fields := #[{ name := "name", type := (.object "java/lang/String"), accessFlags := 18, slot := 0, constantValue := 0 }, { name := "ordinal", type := .int, accessFlags := 18, slot := 1, constantValue := 0 }, { name := "hash", type := .int, accessFlags := 2, slot := 2, constantValue := 0 }]
  methods := #[]
  instanceTypes := #[(.object "java/lang/String"), .int, .int]
  staticTypes := #[]
  resolved := Array.replicate 204 none
  statics := none }

def pool6 : Array CpInfo := pool [(1, .class_ 2), (0, u "com/example/dualfit/dualfit/allocation/Charging"), (0, .fieldref 1 4), (0, .nameAndType 5 6), (0, u "FIT"), (0, u "Lcom/example/dualfit/dualfit/allocation/Charging;"), (2, u "CAPPED"), (2, u "$VALUES"), (0, u "[Lcom/example/dualfit/dualfit/allocation/Charging;"), (6, .class_ 22), (1, u "java/lang/Enum"), (6, .methodref 30 31), (0, .class_ 32), (0, .nameAndType 33 34), (0, u "java/lang/Math"), (0, u "min"), (0, u "(JJ)J"), (14, u "eligible"), (0, u "(JJ)Z"), (1, u "price")] 4

def k6c0 : Code := { maxStack := 4, maxLocals := 5, code := prog_4_method_4_code, exceptionTable := #[], attributes := #[] }
def k6m0 : Method := { name := "eligible", desc := "(JJ)Z", sig := { parameters := [.long, .long], returnType := some .boolean }, accessFlags := 0, code := some k6c0 }
def k6c1 : Code := { maxStack := 4, maxLocals := 5, code := prog_4_method_5_code, exceptionTable := #[], attributes := #[] }
def k6m1 : Method := { name := "price", desc := "(JJ)J", sig := { parameters := [.long, .long], returnType := some .long }, accessFlags := 0, code := some k6c1 }
/-- com/example/dualfit/dualfit/allocation/Charging -/
def k6 : Class := { plain "com/example/dualfit/dualfit/allocation/Charging" (some 5) with
  accessFlags := 16433
  interfaces := #[]
  cf := some (fileOf pool6 1 #[] #[{ accessFlags := 0, nameIndex := 49, descriptorIndex := 50, attributes := #[] }, { accessFlags := 0, nameIndex := 52, descriptorIndex := 34, attributes := #[] }] 16433 20 #[] #[{ accessFlags := 16409, nameIndex := 5, descriptorIndex := 6, attributes := #[] }, { accessFlags := 16409, nameIndex := 9, descriptorIndex := 6, attributes := #[] }, { accessFlags := 4122, nameIndex := 12, descriptorIndex := 13, attributes := #[] }])
  fields := #[{ name := "FIT", type := (.object "com/example/dualfit/dualfit/allocation/Charging"), accessFlags := 16409, slot := 0, constantValue := 0 }, { name := "CAPPED", type := (.object "com/example/dualfit/dualfit/allocation/Charging"), accessFlags := 16409, slot := 1, constantValue := 0 }, { name := "$VALUES", type := (.array (.object "com/example/dualfit/dualfit/allocation/Charging")), accessFlags := 4122, slot := 2, constantValue := 0 }]
  methods := #[k6m0, k6m1]
  instanceTypes := #[(.object "java/lang/String"), .int, .int]
  staticTypes := #[(.object "com/example/dualfit/dualfit/allocation/Charging"), (.object "com/example/dualfit/dualfit/allocation/Charging"), (.array (.object "com/example/dualfit/dualfit/allocation/Charging"))]
  resolved := Array.replicate 57 none
  statics := some 0 }

def pool7 : Array CpInfo := pool [(1, .class_ 2), (0, u "java/lang/Math"), (1, .class_ 6), (1, u "java/lang/Object"), (0, u "<init>"), (0, u "()V"), (89, .class_ 100), (1, u "java/lang/Math$RandomNumberGeneratorHolder"), (20, u "(JJ)J"), (50, u "negativeZeroFloatBits"), (0, u "J"), (2, u "negativeZeroDoubleBits"), (24, u "min"), (43, u "$assertionsDisabled"), (0, u "Z"), (91, u "twoToTheDoubleScaleDown"), (0, u "D"), (4, u "twoToTheDoubleScaleUp"), (9, u "E"), (3, u "PI"), (2, u "TAU"), (2, u "DEGREES_TO_RADIANS"), (0, u "RADIANS_TO_DEGREES")] 94

def k7m0 : Method := { name := "<init>", desc := "()V", sig := { parameters := [], returnType := none }, accessFlags := 2, code := none }
def k7c1 : Code := { maxStack := 4, maxLocals := 4, code := jdk_29_method_70_code, exceptionTable := #[], attributes := #[] }
def k7m1 : Method := { name := "min", desc := "(JJ)J", sig := { parameters := [.long, .long], returnType := some .long }, accessFlags := 9, code := some k7c1 }
/-- java/lang/Math -/
def k7 : Class := { plain "java/lang/Math" (some 0) with
  accessFlags := 49
  interfaces := #[]
  cf := some (fileOf pool7 1 #[.nestMembers #[98]] #[{ accessFlags := 2, nameIndex := 7, descriptorIndex := 8, attributes := #[] }, { accessFlags := 9, nameIndex := 201, descriptorIndex := 121, attributes := #[] }] 49 4 #[] #[{ accessFlags := 25, nameIndex := 354, descriptorIndex := 339, attributes := #[] }, { accessFlags := 25, nameIndex := 358, descriptorIndex := 339, attributes := #[] }, { accessFlags := 25, nameIndex := 361, descriptorIndex := 339, attributes := #[] }, { accessFlags := 26, nameIndex := 364, descriptorIndex := 339, attributes := #[] }, { accessFlags := 26, nameIndex := 365, descriptorIndex := 339, attributes := #[] }, { accessFlags := 26, nameIndex := 172, descriptorIndex := 173, attributes := #[] }, { accessFlags := 26, nameIndex := 176, descriptorIndex := 173, attributes := #[] }, { accessFlags := 8, nameIndex := 344, descriptorIndex := 339, attributes := #[] }, { accessFlags := 8, nameIndex := 338, descriptorIndex := 339, attributes := #[] }, { accessFlags := 4120, nameIndex := 245, descriptorIndex := 246, attributes := #[] }])
  fields := #[{ name := "E", type := .double, accessFlags := 25, slot := 0, constantValue := 0 }, { name := "PI", type := .double, accessFlags := 25, slot := 1, constantValue := 0 }, { name := "TAU", type := .double, accessFlags := 25, slot := 2, constantValue := 0 }, { name := "DEGREES_TO_RADIANS", type := .double, accessFlags := 26, slot := 3, constantValue := 0 }, { name := "RADIANS_TO_DEGREES", type := .double, accessFlags := 26, slot := 4, constantValue := 0 }, { name := "negativeZeroFloatBits", type := .long, accessFlags := 26, slot := 5, constantValue := 0 }, { name := "negativeZeroDoubleBits", type := .long, accessFlags := 26, slot := 6, constantValue := 0 }, { name := "twoToTheDoubleScaleUp", type := .double, accessFlags := 8, slot := 7, constantValue := 0 }, { name := "twoToTheDoubleScaleDown", type := .double, accessFlags := 8, slot := 8, constantValue := 0 }, { name := "$assertionsDisabled", type := .boolean, accessFlags := 4120, slot := 9, constantValue := 0 }]
  methods := #[k7m0, k7m1]
  instanceTypes := #[]
  staticTypes := #[.double, .double, .double, .double, .double, .long, .long, .double, .double, .boolean]
  resolved := Array.replicate 460 none
  statics := none }

def pool8 : Array CpInfo := pool [(1, u "java/lang/Cloneable"), (0, .class_ 1), (0, u "java/lang/Object"), (0, .class_ 3)] 3

/-- java/lang/Cloneable -/
def k8 : Class := { plain "java/lang/Cloneable" (some 0) with
  accessFlags := 1537
  interfaces := #[]
  cf := some (fileOf pool8 2 #[] #[] 1537 4 #[] #[])
  fields := #[]
  methods := #[]
  instanceTypes := #[]
  staticTypes := #[]
  resolved := Array.replicate 8 none
  statics := none }

/-- the primitive byte -/
def k9 : Class := { plain "byte" none with kind := .primitive 'B', accessFlags := 0x411 }
/-- [B -/
def k10 : Class := { plain "[B" (some 0) with kind := .array 9 .byte, interfaces := #[8, 4], accessFlags := 1041 }

/-- the primitive int -/
def k11 : Class := { plain "int" none with kind := .primitive 'I', accessFlags := 0x411 }
/-- [I -/
def k12 : Class := { plain "[I" (some 0) with kind := .array 11 .int, interfaces := #[8, 4], accessFlags := 1041 }

def heap : Heap := #[{ cls := 6, slots := #[.ref 1, .ref 2, .null], vm := .statics 6 },
  { cls := 6, slots := #[.null, .int 0, .int 0], vm := .none },
  { cls := 6, slots := #[.null, .int 1, .int 0], vm := .none }]
def classes : Array Class := #[k0, k1, k2, k3, k4, k5, k6, k7, k8, k9, k10, k11, k12]
def interned : List (Array UInt16 × Addr) := []
def slotsUsed : Nat := 9
def theMethod : MethodId := ⟨1, 1⟩
def args0 : Array Value := #[.long 5, .long 7]
def aboutOver (below : List Frame) : State where
  vm := { classes := classes, interned := interned.toArray }
  heap := heap
  slotsUsed := slotsUsed
  threads := #[{ frames := .invoking theMethod args0 :: below }]
def below0 : List Frame := [.native { method := ⟨0, 0⟩, args := #[] }]
def about1 : State := aboutOver below0
def p0 : Program := .bare "" "" ""
def e0 : Env := launch0.env 0 0 0
theorem w_frames : about1.frames = Frame.invoking theMethod args0 :: below0 := rfl
set_option maxRecDepth 65536 in
theorem w_args : argsFit about1.vm theMethod args0 = true := by decide +kernel
set_option maxRecDepth 65536 in
theorem w_heap : heapFits about1 = true := by decide +kernel
set_option maxRecDepth 65536 in
theorem w_runnable : about1.curStatus? = some .runnable := by decide +kernel
set_option maxRecDepth 65536 in
theorem w_alone : about1.alone = true := by decide +kernel
set_option maxRecDepth 65536 in
theorem w_named : about1.methodNamed? x = some theMethod := by decide +kernel
set_option maxRecDepth 65536 in
theorem w_hears : about1.hears theMethod below0 = true := by decide +kernel
set_option maxRecDepth 65536 in
theorem w_ripe : about1.ripe theMethod args0 below0 = true := by decide +kernel
theorem w_running : about1.status = .running := rfl
set_option maxRecDepth 65536 in
theorem w_room : about1.hasRoom e0.platform room_1 = true :=
  launch0.hasRoom_least _ room_1 (by decide +kernel) (by decide +kernel) (by decide +kernel) (by decide +kernel) (by decide +kernel) (by decide +kernel)
theorem allAtoms_all (ts : List Jvm.Cond) (a : Array Jvm.Value) (st : Jvm.State) : (allAtoms ts).before a st = ts.all (fun c => c.before a st) := by
  induction ts with
  | nil => rfl
  | cons c t ih =>
    show (Jvm.Cond.and c (allAtoms t)).before a st = _
    rw [Jvm.Cond.before_and, ih, List.all_cons]
def words1 : List Jvm.Cond := Jvm.Cond.code x code maxLocals ret :: tables_1
/-- a 'code' word, met by the world's own term for the bytes: nothing is compared byte by byte -/
theorem code_word {y : MethodName} {bytes : ByteArray} {mx : Nat} {rt : Option FieldType} {a : Array Value} {s : State} {m : MethodId} {meth : Method} {c : Code} (h1 : s.methodNamed? y = some m) (h2 : s.vm.method? m = some meth) (h3 : meth.code = some c) (h4 : c.code = bytes)
    (h5 : (c.maxLocals == mx && c.exceptionTable.isEmpty && decide (c.maxStack ≤ mostOperands) && decide (meth.sig.returnType = rt) && !meth.locks && decide (parseMethodDescriptor y.desc = some meth.sig)) = true) : (Jvm.Cond.code y bytes mx rt).before a s = true := by
  simp only [Bool.and_eq_true, beq_iff_eq, Bool.not_eq_true', decide_eq_true_eq] at h5
  obtain ⟨⟨⟨⟨⟨g1, g2⟩, g3⟩, g4⟩, g5⟩, g6⟩ := h5
  simp [Cond.before, Cond.holds, Cond.value, h1, h2, h3, h4, g1, g2, g3, g4, g5, g6]
def isCode : Jvm.Cond → Bool
  | .code _ _ _ _ => true
  | _ => false
theorem all_split {L : List Jvm.Cond} {P : Jvm.Cond → Bool} (h1 : L.all (fun c => isCode c || P c) = true) (h2 : ∀ c ∈ L.filter isCode, P c = true) : L.all P = true := by
  refine List.all_eq_true.mpr fun c hc => ?_
  have h := List.all_eq_true.mp h1 c hc
  rcases Bool.eq_false_or_eq_true (isCode c) with hi | hi
  · exact h2 c (List.mem_filter.mpr ⟨hc, hi⟩)
  · simpa [hi] using h
set_option maxRecDepth 65536 in
theorem w_c0 : (Jvm.Cond.code x code maxLocals ret).before args0 about1 = true := code_word (m := ⟨1, 1⟩) (meth := k1m1) (c := k1c1) (by decide +kernel) rfl rfl rfl (by decide +kernel)
set_option maxRecDepth 65536 in
theorem w_c1 : (Jvm.Cond.code ({ cls := "com/example/dualfit/dualfit/allocation/Charging", name := "eligible", desc := "(JJ)Z" } : Jvm.MethodName) prog_4_method_4_code (5 : Nat) (Option.some Jvm.ClassFile.FieldType.boolean)).before args0 about1 = true := code_word (m := ⟨6, 0⟩) (meth := k6m0) (c := k6c0) (by decide +kernel) rfl rfl rfl (by decide +kernel)
set_option maxRecDepth 65536 in
theorem w_c2 : (Jvm.Cond.code ({ cls := "com/example/dualfit/dualfit/allocation/Charging", name := "price", desc := "(JJ)J" } : Jvm.MethodName) prog_4_method_5_code (5 : Nat) (Option.some Jvm.ClassFile.FieldType.long)).before args0 about1 = true := code_word (m := ⟨6, 1⟩) (meth := k6m1) (c := k6c1) (by decide +kernel) rfl rfl rfl (by decide +kernel)
set_option maxRecDepth 65536 in
theorem w_c3 : (Jvm.Cond.code ({ cls := "java/lang/Math", name := "min", desc := "(JJ)J" } : Jvm.MethodName) jdk_29_method_70_code (4 : Nat) (Option.some Jvm.ClassFile.FieldType.long)).before args0 about1 = true := code_word (m := ⟨7, 1⟩) (meth := k7m1) (c := k7c1) (by decide +kernel) rfl rfl rfl (by decide +kernel)
def codes1 : List Jvm.Cond := [Jvm.Cond.code x code maxLocals ret, Jvm.Cond.code ({ cls := "com/example/dualfit/dualfit/allocation/Charging", name := "eligible", desc := "(JJ)Z" } : Jvm.MethodName) prog_4_method_4_code (5 : Nat) (Option.some Jvm.ClassFile.FieldType.boolean), Jvm.Cond.code ({ cls := "com/example/dualfit/dualfit/allocation/Charging", name := "price", desc := "(JJ)J" } : Jvm.MethodName) prog_4_method_5_code (5 : Nat) (Option.some Jvm.ClassFile.FieldType.long), Jvm.Cond.code ({ cls := "java/lang/Math", name := "min", desc := "(JJ)J" } : Jvm.MethodName) jdk_29_method_70_code (4 : Nat) (Option.some Jvm.ClassFile.FieldType.long)]
set_option maxRecDepth 65536 in
theorem codes_eq : words1.filter isCode = codes1 := rfl
theorem w_codes : ∀ c ∈ words1.filter isCode, c.before args0 about1 = true := by
  rw [codes_eq]
  intro c hc
  simp only [codes1, List.mem_cons, List.not_mem_nil, or_false] at hc
  rcases hc with rfl | rfl | rfl | rfl
  · exact w_c0
  · exact w_c1
  · exact w_c2
  · exact w_c3
set_option maxRecDepth 65536 in
theorem w_t1 : words1.all (fun c => isCode c || c.before args0 about1) = true := by decide +kernel
theorem w_tables : (allAtoms (Jvm.Cond.code x code maxLocals ret :: tables_1)).before args0 about1 = true := by
  rw [allAtoms_all]
  show words1.all (fun c => c.before args0 about1) = true
  refine all_split ?_ w_codes
  rw [w_t1]
set_option maxRecDepth 65536 in
theorem w_case : (Jvm.Cond.and given_1 narrow_1).before args0 about1 = true := by decide +kernel
theorem w_applies : (headSpec (Jvm.Cond.code x code maxLocals ret :: tables_1) room_1).applies x e0.platform about1 = true :=
  (Spec.applies_iff w_frames).mpr ⟨w_running, w_runnable, w_alone, w_named, w_hears, w_ripe, w_room, w_tables⟩
theorem atStart : AtStart classFile x code maxLocals ret World_1 tables_1 room_1 Calls_1 rest_1 Pre_1 launch0 p0 e0 about1 theMethod args0 below0 :=
  ⟨lists_1, trivial, launch0.admits_env _ _ _, launch0.least_env, fairChoices_fair.cas, fairChoices_fair.clock, w_frames, w_args, w_heap, w_applies, trivial, trivial, w_case⟩
end start1
theorem witness_1 : WitnessClaimed_1 := ⟨start1.p0, start1.e0, start1.about1, start1.theMethod, start1.args0, start1.below0, start1.atStart⟩
end Jvm.Pilot.@@N@@
