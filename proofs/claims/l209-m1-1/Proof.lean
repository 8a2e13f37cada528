import JvmDerived
import JvmDerived.Pilot.@@N@@Statement
import JvmDerived.Pilot.@@N@@Code
set_option linter.unusedVariables false
set_option linter.unusedSimpArgs false
namespace Jvm.Pilot.@@N@@
open Jvm Jvm.ClassFile Sem Op Lib Jvm.Free Jvm.Stand Jvm.LawKit Jvm.RoadKit Bundle Jvm.Pilot.@@N@@.Jvm.D
section OwnKit
variable {p : Program} {l : Launch} {e : Env} {R : Room} {s : State} {m : MethodId} {args : Array Value} {below : List Frame} {meth : Method} {c : Code} {T : State} {locs : List Loc} {cells slots : Nat}
/-- from T with the frame F on top the body ends, and its end is as P says -/
def Rch (p : Program) (e : Env) (below : List Frame) (T : State) (F : JFrame) (P : Outcome → State → Prop) : Prop := ∃ s₂ o, Steps p.tables e below (T.setTop F) s₂ ∧ s₂.status = .running ∧ Ended s₂ below o ∧ P o s₂
theorem Rch.st {P : Outcome → State → Prop} {T T' : State} {F F' : JFrame} (k : ∀ t, Steps p.tables e below (T'.setTop F') t → Steps p.tables e below (T.setTop F) t) (h : Rch p e below T' F' P) : Rch p e below T F P :=
  let ⟨a, o, h1, h2⟩ := h
  ⟨a, o, k _ h1, h2⟩
theorem Rch.sq {P : Outcome → State → Prop} {T T' : State} {F F' : JFrame} (k : Steps p.tables e below (T.setTop F) (T'.setTop F')) (h : Rch p e below T' F' P) : Rch p e below T F P := Rch.st (fun _ q => k.trans q) h
theorem Rch.cast {P : Outcome → State → Prop} {T : State} {F F' : JFrame} (q : F = F') (h : Rch p e below T F' P) : Rch p e below T F P := q ▸ h
/-- a return, as a contract says it -/
def Fin (s : State) (Q : Option Value → Heap → List Loc → Prop) (K N : Nat) (o : Outcome) (U : State) : Prop := ∃ v L, o = .returned v ∧ Q v U.heap L ∧ FrameEnd s o U L K N
theorem Rch.retV (X : Stand p l e R s m args below meth c T locs cells slots) (hx : p.tables.exec = Jvm.exec) {pc : Nat} {Ls : Array Slot} {w : Value} {t : FieldType} {i : Instr} {rest : List Value} {Q : Option Value → Heap → List Loc → Prop} {K N : Nat} (hret : meth.sig.returnType = some t) (hn : narrow t w = w)
    (hi : (i = .ireturn ∧ (t = .int ∨ t = .boolean ∨ t = .byte ∨ t = .char ∨ t = .short) ∧ ∃ z, w = .int z) ∨ (i = .lreturn ∧ t = .long ∧ ∃ z, w = .long z) ∨ (i = .dreturn ∧ t = .double ∧ ∃ z, w = .double z) ∨ (i = .freturn ∧ t = .float ∧ ∃ z, w = .float z) ∨ (i = .areturn ∧ t.isReference = true ∧ w.isRef = true))
    (hd : decode c.code pc = .ok (i, 1)) (hq : Q (some w) T.heap locs) (hk : cells ≤ K) (hs : slots ≤ N) (hlocks : meth.locks = false := by first | assumption | exact BodyLoose.notSynchronized (by assumption) | exact Body.notSynchronized (by assumption)) : Rch p e below T (mkF m pc Ls (w :: rest)) (Fin s Q K N) := by
  obtain ⟨fs, hr, hrun, hended, hW, hsame⟩ := X.leave (v := some w) (fun h => by rw [hret] at h; cases h) hlocks
  exact ⟨_, _, retOut X hx hret hn hi hd hr, hrun, hended, _, _, rfl, hq, ⟨_, rfl⟩, hW, hsame.mono hk hs⟩
theorem Rch.ret0 (X : Stand p l e R s m args below meth c T locs cells slots) (hx : p.tables.exec = Jvm.exec) {pc : Nat} {Ls : Array Slot} {Q : Option Value → Heap → List Loc → Prop} {K N : Nat} (hret : meth.sig.returnType = none)
    (hd : decode c.code pc = .ok (.return_, 1)) (hq : Q none T.heap locs) (hk : cells ≤ K) (hs : slots ≤ N) (hlocks : meth.locks = false := by first | assumption | exact BodyLoose.notSynchronized (by assumption) | exact Body.notSynchronized (by assumption)) : Rch p e below T (mkF m pc Ls []) (Fin s Q K N) := by
  obtain ⟨fs, hr, hrun, hended, hW, hsame⟩ := X.leave (v := none) (fun _ => rfl) hlocks
  exact ⟨_, _, X.returnOut hx hret hd hr, hrun, hended, _, _, rfl, hq, ⟨_, rfl⟩, hW, hsame.mono hk hs⟩
theorem Rnar {t : FieldType} {w : Value} (h : w.isRef = true) : narrow t w = w := by cases w <;> first | (cases t <;> rfl) | (simp [Value.isRef] at h)
theorem Rfit {t : FieldType} {w : Value} (ht : t.isReference = true) (h : w.isRef = true) : fits t w = true := by cases t <;> first | (cases ht; done) | (cases w <;> simp [Value.isRef, fits] at h ⊢)
theorem own_selP {args : Array Value} {y : MethodName} {n : Nat} (wi : (Cond.instantiable y.cls n).before args s = true) (hpriv : s.PrivateAt y) (hinst : (Cond.instanceMethod y).before args s = true) (hy : y.cls ≠ "java/lang/invoke/MethodHandle" ∧ y.cls ≠ "java/lang/invoke/VarHandle") : (Cond.selects y.cls y y).before args s = true := by
  obtain ⟨c2, k2, i1, i2, i3, i4⟩ := Cond.instantiable_spec wi
  exact selects_self_of_private i1 i2 (by simp_all) hpriv hinst hy
theorem lremM {g : JFrame} {target : State} (X : Stand p l e R s m args below meth c T locs cells slots) (hx : p.tables.exec = Jvm.exec) (hg : g.method = m) {x y : Int64} {rest : List Value} (hd : decode c.code g.pc = .ok (.lrem, 1)) (hs : g.stack = .long y :: .long x :: rest) (hy : y ≠ 0)
    (hr : Steps p.tables e below (T.setTop { g with pc := g.pc + 1, stack := .long (x % y) :: rest }) target) : Steps p.tables e below (T.setTop g) target := XT.lrem X.here hx hg hd hs hy (by rw [lrem_mod]; exact hr)
end OwnKit
section OwnArr
variable {p : Program} {l : Launch} {e : Env} {R : Room} {s : State} {m : MethodId} {args : Array Value} {below : List Frame} {meth : Method} {c : Code} {T Z : State} {locs : List Loc} {cells slots : Nat} {h : Heap} {a : Addr} {k : ClassId} {n j x : Int32} {vs : List Value} {d v : Value} {g : JFrame} {rest : List Value} {target : State}
theorem own_alen {ty : FieldType} (X : Stand p l e R s m args below meth c T locs cells slots) (hx : p.tables.exec = Jvm.exec) (hZ : Z.Warmed39 s.vm) (eT : T.heap = h) (V : Arv Z h a k ty n vs d) (hg : g.method = m) (hs : g.stack = .ref a :: rest) (hd : decode c.code g.pc = .ok (.arraylength, 1))
    (hr : Steps p.tables e below (T.setTop { g with pc := g.pc + 1, stack := .int n :: rest }) target) : Steps p.tables e below (T.setTop g) target := by
  obtain ⟨cl, Ar, q, S, M, H, G⟩ := V
  refine X.arraylength hx (by rw [eT]; exact Ar.1) (State.isArrayOf_alike hZ.alike Ar.2.1) hg hs hd _ ?_
  rw [len_of S M]; exact hr
theorem own_ldB (X : Stand p l e R s m args below meth c T locs cells slots) (hx : p.tables.exec = Jvm.exec) (hZ : Z.Warmed39 s.vm) (eT : T.heap = h) (V : Arv Z h a k .byte n vs d) (hj : ¬ j < 0 ∧ j < n) (hv : vs.getD j.toNatClampNeg d = v) (hg : g.method = m) (hs : g.stack = .int j :: .ref a :: rest) (hd : decode c.code g.pc = .ok (.baload, 1))
    (hr : Steps p.tables e below (T.setTop { g with pc := g.pc + 1, stack := v :: rest }) target) : Steps p.tables e below (T.setTop g) target := by
  obtain ⟨cl, Ar, q, S, M, H, G⟩ := V
  exact X.baloadBytes hx (by rw [eT]; exact Ar.1) (State.isArrayOf_alike hZ.alike Ar.2.1) Ar.2.2 (inb_of S hj) (H.at (inb_of S hj) hv) hg hs hd _ hr
theorem own_ldC (X : Stand p l e R s m args below meth c T locs cells slots) (hx : p.tables.exec = Jvm.exec) (hZ : Z.Warmed39 s.vm) (eT : T.heap = h) (V : Arv Z h a k .char n vs d) (hj : ¬ j < 0 ∧ j < n) (hv : vs.getD j.toNatClampNeg d = v) (hg : g.method = m) (hs : g.stack = .int j :: .ref a :: rest) (hd : decode c.code g.pc = .ok (.caload, 1))
    (hr : Steps p.tables e below (T.setTop { g with pc := g.pc + 1, stack := v :: rest }) target) : Steps p.tables e below (T.setTop g) target := by
  obtain ⟨cl, Ar, q, S, M, H, G⟩ := V
  exact X.caload hx (by rw [eT]; exact Ar.1) (State.isArrayOf_alike hZ.alike Ar.2.1) Ar.2.2 (inb_of S hj) (H.at (inb_of S hj) hv) hg hs hd _ hr
theorem own_stC (X : Stand p l e R s m args below meth c T locs cells slots) (hx : p.tables.exec = Jvm.exec) (hZ : Z.Warmed39 s.vm) (eT : T.heap = h) (V : Arv Z h a k .char n vs d) (hj : ¬ j < 0 ∧ j < n) (i : Nat) (hi : j.toNatClampNeg = i) (hl : i < vs.length) (hg : g.method = m) (hs : g.stack = .int x :: .int j :: .ref a :: rest) (hd : decode c.code g.pc = .ok (.castore, 1)) :
    ∃ T' h', Stand p l e R s m args below meth c T' (locs ++ [⟨a, j.toNatClampNeg⟩]) cells slots ∧ T'.heap = h' ∧ Wr h h' a j.toNatClampNeg (.int (nar .char x)) ∧ Arv Z h' a k .char n (vs.set i (.int (nar .char x))) d ∧ ∀ target, Steps p.tables e below (T'.setTop { g with pc := g.pc + 1, stack := rest }) target → Steps p.tables e below (T.setTop g) target := by
  obtain ⟨cl, Ar, q, S, M, H, G⟩ := V
  obtain ⟨T', h', X', e', W, st⟩ := stC X hx hZ eT Ar (inb_of S hj) hg hs hd
  exact ⟨T', h', X', e', W, Arv.set Ar q S M H G (fits_nar_char _) W i hi hl, st⟩
theorem own_stB (X : Stand p l e R s m args below meth c T locs cells slots) (hx : p.tables.exec = Jvm.exec) (hZ : Z.Warmed39 s.vm) (eT : T.heap = h) (V : Arv Z h a k .byte n vs d) (hj : ¬ j < 0 ∧ j < n) (i : Nat) (hi : j.toNatClampNeg = i) (hl : i < vs.length) (hg : g.method = m) (hs : g.stack = .int x :: .int j :: .ref a :: rest) (hd : decode c.code g.pc = .ok (.bastore, 1)) :
    ∃ T' h', Stand p l e R s m args below meth c T' (locs ++ [⟨a, j.toNatClampNeg⟩]) cells slots ∧ T'.heap = h' ∧ Wr h h' a j.toNatClampNeg (.int x.toInt8.toInt32) ∧ Arv Z h' a k .byte n (vs.set i (.int x.toInt8.toInt32)) d ∧ ∀ target, Steps p.tables e below (T'.setTop { g with pc := g.pc + 1, stack := rest }) target → Steps p.tables e below (T.setTop g) target := by
  obtain ⟨cl, Ar, q, S, M, H, G⟩ := V
  obtain ⟨T', h', X', e', W, st⟩ := stB X hx hZ eT Ar (inb_of S hj) hg hs hd
  exact ⟨T', h', X', e', W, Arv.set Ar q S M H G (fits_nar_byte _) W i hi hl, st⟩
end OwnArr
/-- what pick returns -/
def own_pick (k : Int32) (aP aI aA aF : Addr) : Value := if k = 0 then .ref aP else if k = 1 then .ref aI else if k = 2 then .ref aA else if k = 3 then .ref aF else .null
/-- what either returns -/
def own_either (u v : Value) (aF : Addr) : Value := if u = .null then v else if u = v then v else if v = .null then u else .ref aF
/-- the law's own expectation -/
def own_e (a b : Int32) : Int32 := if a = 4 then b else if b = 4 then a else if a = b then a else 3
theorem own_pick_ref (k : Int32) (aP aI aA aF : Addr) : (own_pick k aP aI aA aF).isRef = true := by
  unfold own_pick; split <;> first | rfl | (split <;> first | rfl | (split <;> first | rfl | (split <;> rfl)))
theorem own_either_ref {u v : Value} (aF : Addr) (hu : u.isRef = true) (hv : v.isRef = true) : (own_either u v aF).isRef = true := by
  unfold own_either; split <;> first | assumption | (split <;> first | assumption | (split <;> first | assumption | rfl))
theorem own_rem5 (x : Int32) : (x &&& 2147483647) % 5 = 0 ∨ (x &&& 2147483647) % 5 = 1 ∨ (x &&& 2147483647) % 5 = 2 ∨ (x &&& 2147483647) % 5 = 3 ∨ (x &&& 2147483647) % 5 = 4 := by
  have h1 := c_and x 2147483647 (by decide)
  have h2 := (c_irem (x &&& 2147483647) 5 5 rfl).1 h1.1
  have h3 : 0 ≤ ((x &&& 2147483647) % 5).toInt ∧ ((x &&& 2147483647) % 5).toInt < 5 := by rw [h2]; omega
  generalize (x &&& 2147483647) % 5 = r at h3
  have h4 : r.toInt = 0 ∨ r.toInt = 1 ∨ r.toInt = 2 ∨ r.toInt = 3 ∨ r.toInt = 4 := by omega
  rcases h4 with h | h | h | h | h
  · exact Or.inl (Int32.toInt_inj.mp h)
  · exact Or.inr (Or.inl (Int32.toInt_inj.mp h))
  · exact Or.inr (Or.inr (Or.inl (Int32.toInt_inj.mp h)))
  · exact Or.inr (Or.inr (Or.inr (Or.inl (Int32.toInt_inj.mp h))))
  · exact Or.inr (Or.inr (Or.inr (Or.inr (Int32.toInt_inj.mp h))))
theorem own_law (a b : Int32) (aP aI aA aF : Addr) (n1 : aP ≠ aI) (n2 : aP ≠ aA) (n3 : aP ≠ aF) (n4 : aI ≠ aA) (n5 : aI ≠ aF) (n6 : aA ≠ aF) (ha : a = 0 ∨ a = 1 ∨ a = 2 ∨ a = 3 ∨ a = 4) (hb : b = 0 ∨ b = 1 ∨ b = 2 ∨ b = 3 ∨ b = 4) :
    own_either (own_pick a aP aI aA aF) (own_pick b aP aI aA aF) aF = own_pick (own_e a b) aP aI aA aF ∧ own_either (own_pick b aP aI aA aF) (own_pick a aP aI aA aF) aF = own_either (own_pick a aP aI aA aF) (own_pick b aP aI aA aF) aF := by
  have m1 := n1.symm; have m2 := n2.symm; have m3 := n3.symm; have m4 := n4.symm; have m5 := n5.symm; have m6 := n6.symm
  rcases ha with rfl | rfl | rfl | rfl | rfl <;> rcases hb with rfl | rfl | rfl | rfl | rfl <;> simp [own_either, own_pick, own_e, n1, n2, n3, n4, n5, n6, m1, m2, m3, m4, m5, m6]
theorem d_method_2_code_0 : decode method_2_code 0 = .ok (.iload_n 0, 1) := by decide +kernel
theorem d_method_2_code_1 : decode method_2_code 1 = .ok (.ifCond .ne 7, 3) := by decide +kernel
theorem d_method_2_code_4 : decode method_2_code 4 = .ok (.getstatic 7, 3) := by decide +kernel
theorem d_method_2_code_7 : decode method_2_code 7 = .ok (.areturn, 1) := by decide +kernel
theorem d_method_2_code_8 : decode method_2_code 8 = .ok (.iload_n 0, 1) := by decide +kernel
theorem d_method_2_code_9 : decode method_2_code 9 = .ok (.iconst 1, 1) := by decide +kernel
theorem d_method_2_code_10 : decode method_2_code 10 = .ok (.if_icmp .ne 7, 3) := by decide +kernel
theorem d_method_2_code_13 : decode method_2_code 13 = .ok (.getstatic 13, 3) := by decide +kernel
theorem d_method_2_code_16 : decode method_2_code 16 = .ok (.areturn, 1) := by decide +kernel
theorem d_method_2_code_17 : decode method_2_code 17 = .ok (.iload_n 0, 1) := by decide +kernel
theorem d_method_2_code_18 : decode method_2_code 18 = .ok (.iconst 2, 1) := by decide +kernel
theorem d_method_2_code_19 : decode method_2_code 19 = .ok (.if_icmp .ne 7, 3) := by decide +kernel
theorem d_method_2_code_22 : decode method_2_code 22 = .ok (.getstatic 16, 3) := by decide +kernel
theorem d_method_2_code_25 : decode method_2_code 25 = .ok (.areturn, 1) := by decide +kernel
theorem d_method_2_code_26 : decode method_2_code 26 = .ok (.iload_n 0, 1) := by decide +kernel
theorem d_method_2_code_27 : decode method_2_code 27 = .ok (.iconst 3, 1) := by decide +kernel
theorem d_method_2_code_28 : decode method_2_code 28 = .ok (.if_icmp .ne 7, 3) := by decide +kernel
theorem d_method_2_code_31 : decode method_2_code 31 = .ok (.getstatic 19, 3) := by decide +kernel
theorem d_method_2_code_34 : decode method_2_code 34 = .ok (.areturn, 1) := by decide +kernel
theorem d_method_2_code_35 : decode method_2_code 35 = .ok (.aconst_null, 1) := by decide +kernel
theorem d_method_2_code_36 : decode method_2_code 36 = .ok (.areturn, 1) := by decide +kernel
theorem pn_com_example_alcance_alcance_MaskEitherPinLaw : plainName "com/example/alcance/alcance/MaskEitherPinLaw" = true := by first | (simp [plainName, overriddenIn]; done) | decide +kernel
theorem ef_rm_pick (m : MethodId) (kk : Int32) (aP : Addr) (aI : Addr) (aA : Addr) (aF : Addr)  : entryFrame m #[(.int kk)] 1 = mkF m 0 #[.val (.int kk)] [] := by  first | rfl | (simp [entryFrame, mkF, argsToLocals, Value.category, maxLocals]; done)
def Q_rm_pick (Z : State) (kk : Int32) (aP : Addr) (aI : Addr) (aA : Addr) (aF : Addr) (h0 : Heap) (n0 : Nat) (v : Option Value) (h : Heap) (L : List Loc) : Prop := (v = some (own_pick kk aP aI aA aF)) ∧ (Fr n0 L) ∧ (h = h0)
set_option maxRecDepth 65536 in
set_option maxHeartbeats 40000000 in
theorem rm_pick (l : Launch) (Z : State) (a0 : Array Value) (hw : ∀ d ∈ tables_1, d.before a0 Z = true) (ws : List Jvm.Cond) (kk : Int32) (aP : Addr) (aI : Addr) (aA : Addr) (aF : Addr) (h0 : Heap) (n0 : Nat) (Z0 : n0 ≤ h0.size) (sP : Sta Z h0 "com/example/alcance/alcance/Mask" "PHONE" "Lcom/example/alcance/alcance/Mask;" (.ref aP)) (sI : Sta Z h0 "com/example/alcance/alcance/Mask" "IDCARD" "Lcom/example/alcance/alcance/Mask;" (.ref aI)) (sA : Sta Z h0 "com/example/alcance/alcance/Mask" "AMOUNT" "Lcom/example/alcance/alcance/Mask;" (.ref aA)) (sF : Sta Z h0 "com/example/alcance/alcance/Mask" "FULL" "Lcom/example/alcance/alcance/Mask;" (.ref aF)) :
    MetFree l (⟨"com/example/alcance/alcance/MaskEitherPinLaw", "pick", "(I)Lcom/example/alcance/alcance/Mask;"⟩ : MethodName) (head1 (Jvm.Cond.code (⟨"com/example/alcance/alcance/MaskEitherPinLaw", "pick", "(I)Lcom/example/alcance/alcance/Mask;"⟩ : MethodName) method_2_code 1 (some (.object "com/example/alcance/alcance/Mask")) :: ws) ({ frames := 0, cells := 0, slots := 0, locals := 0 } : Room)) (fun a U => a = #[(.int kk)] ∧ Z.Warmed39 U.vm ∧ U.heap = h0) (fun _ _ _ _ _ => True) (fun _ U o U' => ∃ v L, o = .returned v ∧ Q_rm_pick Z kk aP aI aA aF h0 n0 v U'.heap L ∧ FrameEnd U o U' L ({ frames := 0, cells := 0, slots := 0, locals := 0 } : Room).cells ({ frames := 0, cells := 0, slots := 0, locals := 0 } : Room).slots) := by
  refine MetFree.of_bodySF (plainFor_of_name pn_com_example_alcance_alcance_MaskEitherPinLaw) hisR ?_
  intro p e s m args below meth c s₁ Bd hml0 hP hK
  obtain ⟨rfl, hZ, hh⟩ := hP
  have hx := Bd.exec
  have hby := Bd.bytes
  have hml : c.maxLocals = 1 := hml0
  have hown : s.vm.findClass "com/example/alcance/alcance/MaskEitherPinLaw" = some m.cls := findClass_of_methodNamed Bd.named
  have hnm := (name_of_methodNamed Bd.named Bd.method).1
  have X0 : Stand p l e ({ frames := 0, cells := 0, slots := 0, locals := 0 } : Room) s m #[(.int kk)] below meth c s₁ [] 0 0 := Stand.of_body Bd
  have e0 : s₁.heap = h0 := by rw [← hh, Bd.state]; rfl
  have N0 := Fr.nil n0
  have hlk0 : meth.locks = false := by first | assumption | exact BodyLoose.notSynchronized (by assumption) | exact Body.notSynchronized (by assumption)
  show Rch p e below s₁ (entryFrame m #[(.int kk)] 1) (Fin s (Q_rm_pick Z kk aP aI aA aF h0 n0) 0 0)
  refine Rch.cast (ef_rm_pick m kk aP aI aA aF) ?_
  show Rch p e below s₁ (mkF m 0 #[.val (.int kk)] []) _
  refine Rch.st (fun _ k => XS.iloadN X0.here hx rfl (hb hby d_method_2_code_0) rfl k) ?_
  show Rch p e below s₁ (mkF m 1 #[.val (.int kk)] [(.int kk)]) _
  by_cases c1 : kk = 0
  · skip
    refine Rch.st (fun _ k => XS.ifNo X0.here hx rfl (hb hby d_method_2_code_1) rfl (XT.i0_ne_f (c1)) k) ?_
    show Rch p e below s₁ (mkF m 4 #[.val (.int kk)] []) _
    obtain ⟨T2, X2, e2, st2⟩ := getS X0 hx hZ hown (host := "") (hw _ (List.mem_of_getElem? (i := 5) rfl)) Via.refl e0 sP (g := (mkF m 4 #[.val (.int kk)] [])) rfl (hb hby d_method_2_code_4)
    refine Rch.st (fun _ k => st2 _ k) ?_
    show Rch p e below T2 (mkF m 7 #[.val (.int kk)] [(.ref aP)]) _
    exact Rch.retV X2 hx Bd.returns rfl (Or.inr (Or.inr (Or.inr (Or.inr ⟨rfl, rfl, rfl⟩)))) (hb hby d_method_2_code_7) (by rw [e2]; exact ⟨by simp [own_pick, c1], N0, rfl⟩) (by decide) (by decide)
  · skip
    refine Rch.st (fun _ k => XS.ifYes X0.here hx rfl (pc0 := 1) (pc' := 8) rfl (hb hby d_method_2_code_1) rfl (XT.i0_ne_t (c1)) (by decide) (by decide) k) ?_
    show Rch p e below s₁ (mkF m 8 #[.val (.int kk)] []) _
    refine Rch.st (fun _ k => XS.iloadN X0.here hx rfl (hb hby d_method_2_code_8) rfl k) ?_
    show Rch p e below s₁ (mkF m 9 #[.val (.int kk)] [(.int kk)]) _
    refine Rch.st (fun _ k => XS.iconst X0.here hx rfl (hb hby d_method_2_code_9) k) ?_
    show Rch p e below s₁ (mkF m 10 #[.val (.int kk)] [(.int (1 : Int32)), (.int kk)]) _
    by_cases c3 : kk = (1 : Int32)
    · skip
      refine Rch.st (fun _ k => XS.icmpNo X0.here hx rfl (hb hby d_method_2_code_10) rfl (XT.ii_ne_f (c3)) k) ?_
      show Rch p e below s₁ (mkF m 13 #[.val (.int kk)] []) _
      obtain ⟨T4, X4, e4, st4⟩ := getS X0 hx hZ hown (host := "") (hw _ (List.mem_of_getElem? (i := 14) rfl)) Via.refl e0 sI (g := (mkF m 13 #[.val (.int kk)] [])) rfl (hb hby d_method_2_code_13)
      refine Rch.st (fun _ k => st4 _ k) ?_
      show Rch p e below T4 (mkF m 16 #[.val (.int kk)] [(.ref aI)]) _
      exact Rch.retV X4 hx Bd.returns rfl (Or.inr (Or.inr (Or.inr (Or.inr ⟨rfl, rfl, rfl⟩)))) (hb hby d_method_2_code_16) (by rw [e4]; exact ⟨by simp [own_pick, c1, c3], N0, rfl⟩) (by decide) (by decide)
    · skip
      refine Rch.st (fun _ k => XS.icmpYes X0.here hx rfl (pc0 := 10) (pc' := 17) rfl (hb hby d_method_2_code_10) rfl (XT.ii_ne_t (c3)) (by decide) (by decide) k) ?_
      show Rch p e below s₁ (mkF m 17 #[.val (.int kk)] []) _
      refine Rch.st (fun _ k => XS.iloadN X0.here hx rfl (hb hby d_method_2_code_17) rfl k) ?_
      show Rch p e below s₁ (mkF m 18 #[.val (.int kk)] [(.int kk)]) _
      refine Rch.st (fun _ k => XS.iconst X0.here hx rfl (hb hby d_method_2_code_18) k) ?_
      show Rch p e below s₁ (mkF m 19 #[.val (.int kk)] [(.int (2 : Int32)), (.int kk)]) _
      by_cases c5 : kk = (2 : Int32)
      · skip
        refine Rch.st (fun _ k => XS.icmpNo X0.here hx rfl (hb hby d_method_2_code_19) rfl (XT.ii_ne_f (c5)) k) ?_
        show Rch p e below s₁ (mkF m 22 #[.val (.int kk)] []) _
        obtain ⟨T6, X6, e6, st6⟩ := getS X0 hx hZ hown (host := "") (hw _ (List.mem_of_getElem? (i := 16) rfl)) Via.refl e0 sA (g := (mkF m 22 #[.val (.int kk)] [])) rfl (hb hby d_method_2_code_22)
        refine Rch.st (fun _ k => st6 _ k) ?_
        show Rch p e below T6 (mkF m 25 #[.val (.int kk)] [(.ref aA)]) _
        exact Rch.retV X6 hx Bd.returns rfl (Or.inr (Or.inr (Or.inr (Or.inr ⟨rfl, rfl, rfl⟩)))) (hb hby d_method_2_code_25) (by rw [e6]; exact ⟨by simp [own_pick, c1, c3, c5], N0, rfl⟩) (by decide) (by decide)
      · skip
        refine Rch.st (fun _ k => XS.icmpYes X0.here hx rfl (pc0 := 19) (pc' := 26) rfl (hb hby d_method_2_code_19) rfl (XT.ii_ne_t (c5)) (by decide) (by decide) k) ?_
        show Rch p e below s₁ (mkF m 26 #[.val (.int kk)] []) _
        refine Rch.st (fun _ k => XS.iloadN X0.here hx rfl (hb hby d_method_2_code_26) rfl k) ?_
        show Rch p e below s₁ (mkF m 27 #[.val (.int kk)] [(.int kk)]) _
        refine Rch.st (fun _ k => XS.iconst X0.here hx rfl (hb hby d_method_2_code_27) k) ?_
        show Rch p e below s₁ (mkF m 28 #[.val (.int kk)] [(.int (3 : Int32)), (.int kk)]) _
        by_cases c7 : kk = (3 : Int32)
        · skip
          refine Rch.st (fun _ k => XS.icmpNo X0.here hx rfl (hb hby d_method_2_code_28) rfl (XT.ii_ne_f (c7)) k) ?_
          show Rch p e below s₁ (mkF m 31 #[.val (.int kk)] []) _
          obtain ⟨T8, X8, e8, st8⟩ := getS X0 hx hZ hown (host := "") (hw _ (List.mem_of_getElem? (i := 8) rfl)) Via.refl e0 sF (g := (mkF m 31 #[.val (.int kk)] [])) rfl (hb hby d_method_2_code_31)
          refine Rch.st (fun _ k => st8 _ k) ?_
          show Rch p e below T8 (mkF m 34 #[.val (.int kk)] [(.ref aF)]) _
          exact Rch.retV X8 hx Bd.returns rfl (Or.inr (Or.inr (Or.inr (Or.inr ⟨rfl, rfl, rfl⟩)))) (hb hby d_method_2_code_34) (by rw [e8]; exact ⟨by simp [own_pick, c1, c3, c5, c7], N0, rfl⟩) (by decide) (by decide)
        · skip
          refine Rch.st (fun _ k => XS.icmpYes X0.here hx rfl (pc0 := 28) (pc' := 35) rfl (hb hby d_method_2_code_28) rfl (XT.ii_ne_t (c7)) (by decide) (by decide) k) ?_
          show Rch p e below s₁ (mkF m 35 #[.val (.int kk)] []) _
          refine Rch.st (fun _ k => XS.aconstNull X0.here hx rfl (hb hby d_method_2_code_35) k) ?_
          show Rch p e below s₁ (mkF m 36 #[.val (.int kk)] [.null]) _
          exact Rch.retV X0 hx Bd.returns rfl (Or.inr (Or.inr (Or.inr (Or.inr ⟨rfl, rfl, rfl⟩)))) (hb hby d_method_2_code_36) (by rw [e0]; exact ⟨by simp [own_pick, c1, c3, c5, c7], N0, rfl⟩) (by decide) (by decide)

theorem d_prog_5_method_5_code_0 : decode prog_5_method_5_code 0 = .ok (.aload_n 0, 1) := by decide +kernel
theorem d_prog_5_method_5_code_1 : decode prog_5_method_5_code 1 = .ok (.ifnull 8, 3) := by decide +kernel
theorem d_prog_5_method_5_code_4 : decode prog_5_method_5_code 4 = .ok (.aload_n 0, 1) := by decide +kernel
theorem d_prog_5_method_5_code_5 : decode prog_5_method_5_code 5 = .ok (.aload_n 1, 1) := by decide +kernel
theorem d_prog_5_method_5_code_6 : decode prog_5_method_5_code 6 = .ok (.if_acmp .ne 8, 3) := by decide +kernel
theorem d_prog_5_method_5_code_9 : decode prog_5_method_5_code 9 = .ok (.aload_n 1, 1) := by decide +kernel
theorem d_prog_5_method_5_code_10 : decode prog_5_method_5_code 10 = .ok (.astore_n 2, 1) := by decide +kernel
theorem d_prog_5_method_5_code_11 : decode prog_5_method_5_code 11 = .ok (.goto 16, 3) := by decide +kernel
theorem d_prog_5_method_5_code_14 : decode prog_5_method_5_code 14 = .ok (.aload_n 1, 1) := by decide +kernel
theorem d_prog_5_method_5_code_15 : decode prog_5_method_5_code 15 = .ok (.ifnonnull 8, 3) := by decide +kernel
theorem d_prog_5_method_5_code_18 : decode prog_5_method_5_code 18 = .ok (.aload_n 0, 1) := by decide +kernel
theorem d_prog_5_method_5_code_19 : decode prog_5_method_5_code 19 = .ok (.astore_n 2, 1) := by decide +kernel
theorem d_prog_5_method_5_code_20 : decode prog_5_method_5_code 20 = .ok (.goto 7, 3) := by decide +kernel
theorem d_prog_5_method_5_code_23 : decode prog_5_method_5_code 23 = .ok (.getstatic 13, 3) := by decide +kernel
theorem d_prog_5_method_5_code_26 : decode prog_5_method_5_code 26 = .ok (.astore_n 2, 1) := by decide +kernel
theorem d_prog_5_method_5_code_27 : decode prog_5_method_5_code 27 = .ok (.aload_n 2, 1) := by decide +kernel
theorem d_prog_5_method_5_code_28 : decode prog_5_method_5_code 28 = .ok (.areturn, 1) := by decide +kernel
theorem pn_com_example_alcance_alcance_Mask : plainName "com/example/alcance/alcance/Mask" = true := by first | (simp [plainName, overriddenIn]; done) | decide +kernel
theorem ef_rm_either (m : MethodId) (u : Value) (v1 : Value) (aF : Addr) (hu : u.isRef = true) (hv : v1.isRef = true) : entryFrame m #[u, v1] 3 = mkF m 0 #[.val u, .val v1, .unset] [] := by rcases ref_cases hu with rfl | ⟨_, rfl⟩ <;> rcases ref_cases hv with rfl | ⟨_, rfl⟩ <;> first | rfl | (simp [entryFrame, mkF, argsToLocals, Value.category, maxLocals]; done)
def Q_rm_either (Z : State) (u : Value) (v1 : Value) (aF : Addr) (h0 : Heap) (n0 : Nat) (v : Option Value) (h : Heap) (L : List Loc) : Prop := (v = some (own_either u v1 aF)) ∧ (Fr n0 L) ∧ (h = h0)
set_option maxRecDepth 65536 in
set_option maxHeartbeats 40000000 in
theorem rm_either (l : Launch) (Z : State) (a0 : Array Value) (hw : ∀ d ∈ tables_1, d.before a0 Z = true) (ws : List Jvm.Cond) (u : Value) (v1 : Value) (aF : Addr) (h0 : Heap) (n0 : Nat) (Z0 : n0 ≤ h0.size) (hu : u.isRef = true) (hv : v1.isRef = true) (sF : Sta Z h0 "com/example/alcance/alcance/Mask" "FULL" "Lcom/example/alcance/alcance/Mask;" (.ref aF)) :
    MetFree l (⟨"com/example/alcance/alcance/Mask", "either", "(Lcom/example/alcance/alcance/Mask;Lcom/example/alcance/alcance/Mask;)Lcom/example/alcance/alcance/Mask;"⟩ : MethodName) (head1 (Jvm.Cond.code (⟨"com/example/alcance/alcance/Mask", "either", "(Lcom/example/alcance/alcance/Mask;Lcom/example/alcance/alcance/Mask;)Lcom/example/alcance/alcance/Mask;"⟩ : MethodName) prog_5_method_5_code 3 (some (.object "com/example/alcance/alcance/Mask")) :: ws) ({ frames := 0, cells := 0, slots := 0, locals := 0 } : Room)) (fun a U => a = #[u, v1] ∧ Z.Warmed39 U.vm ∧ U.heap = h0) (fun _ _ _ _ _ => True) (fun _ U o U' => ∃ v L, o = .returned v ∧ Q_rm_either Z u v1 aF h0 n0 v U'.heap L ∧ FrameEnd U o U' L ({ frames := 0, cells := 0, slots := 0, locals := 0 } : Room).cells ({ frames := 0, cells := 0, slots := 0, locals := 0 } : Room).slots) := by
  refine MetFree.of_bodySF (plainFor_of_name pn_com_example_alcance_alcance_Mask) hisR ?_
  intro p e s m args below meth c s₁ Bd hml0 hP hK
  obtain ⟨rfl, hZ, hh⟩ := hP
  have hx := Bd.exec
  have hby := Bd.bytes
  have hml : c.maxLocals = 3 := hml0
  have hown : s.vm.findClass "com/example/alcance/alcance/Mask" = some m.cls := findClass_of_methodNamed Bd.named
  have hnm := (name_of_methodNamed Bd.named Bd.method).1
  have X0 : Stand p l e ({ frames := 0, cells := 0, slots := 0, locals := 0 } : Room) s m #[u, v1] below meth c s₁ [] 0 0 := Stand.of_body Bd
  have e0 : s₁.heap = h0 := by rw [← hh, Bd.state]; rfl
  have N0 := Fr.nil n0
  have hlk0 : meth.locks = false := by first | assumption | exact BodyLoose.notSynchronized (by assumption) | exact Body.notSynchronized (by assumption)
  show Rch p e below s₁ (entryFrame m #[u, v1] 3) (Fin s (Q_rm_either Z u v1 aF h0 n0) 0 0)
  refine Rch.cast (ef_rm_either m u v1 aF hu hv) ?_
  show Rch p e below s₁ (mkF m 0 #[.val u, .val v1, .unset] []) _
  refine Rch.st (fun _ k => XS.aloadN X0.here hx rfl (hb hby d_prog_5_method_5_code_0) rfl hu k) ?_
  show Rch p e below s₁ (mkF m 1 #[.val u, .val v1, .unset] [u]) _
  by_cases c9 : (u : Value) = .null
  · skip
    refine Rch.st (fun _ k => XT.nullYes X0.here hx rfl (pc0 := 1) (pc' := 9) rfl (hb hby d_prog_5_method_5_code_1) rfl (c9) (by decide) (by decide) k) ?_
    show Rch p e below s₁ (mkF m 9 #[.val u, .val v1, .unset] []) _
    refine Rch.st (fun _ k => XS.aloadN X0.here hx rfl (hb hby d_prog_5_method_5_code_9) rfl hv k) ?_
    show Rch p e below s₁ (mkF m 10 #[.val u, .val v1, .unset] [v1]) _
    refine Rch.st (fun _ k => XT.astoreNS X0.here hx rfl (hb hby d_prog_5_method_5_code_10) rfl hv (XT.cat1 hv) rfl (Or.inl rfl) k) ?_
    show Rch p e below s₁ (mkF m 11 #[.val u, .val v1, .val v1] []) _
    refine Rch.st (fun _ k => XS.goto X0.here hx rfl (pc0 := 11) (pc' := 27) rfl (hb hby d_prog_5_method_5_code_11) (by decide) (by decide) k) ?_
    show Rch p e below s₁ (mkF m 27 #[.val u, .val v1, .val v1] []) _
    refine Rch.st (fun _ k => XS.aloadN X0.here hx rfl (hb hby d_prog_5_method_5_code_27) rfl hv k) ?_
    show Rch p e below s₁ (mkF m 28 #[.val u, .val v1, .val v1] [v1]) _
    exact Rch.retV X0 hx Bd.returns (Rnar hv) (Or.inr (Or.inr (Or.inr (Or.inr ⟨rfl, rfl, hv⟩)))) (hb hby d_prog_5_method_5_code_28) (by rw [e0]; exact ⟨by simp [own_either, c9], N0, rfl⟩) (by decide) (by decide)
  · skip
    refine Rch.st (fun _ k => XT.nullNo X0.here hx rfl (hb hby d_prog_5_method_5_code_1) rfl hu (c9) k) ?_
    show Rch p e below s₁ (mkF m 4 #[.val u, .val v1, .unset] []) _
    refine Rch.st (fun _ k => XS.aloadN X0.here hx rfl (hb hby d_prog_5_method_5_code_4) rfl hu k) ?_
    show Rch p e below s₁ (mkF m 5 #[.val u, .val v1, .unset] [u]) _
    refine Rch.st (fun _ k => XS.aloadN X0.here hx rfl (hb hby d_prog_5_method_5_code_5) rfl hv k) ?_
    show Rch p e below s₁ (mkF m 6 #[.val u, .val v1, .unset] [v1, u]) _
    by_cases c10 : (u : Value) = (v1 : Value)
    · skip
      refine Rch.st (fun _ k => XT.acmpNo X0.here hx rfl (hb hby d_prog_5_method_5_code_6) rfl hu hv (XT.aa_ne_f (c10)) k) ?_
      show Rch p e below s₁ (mkF m 9 #[.val u, .val v1, .unset] []) _
      refine Rch.st (fun _ k => XS.aloadN X0.here hx rfl (hb hby d_prog_5_method_5_code_9) rfl hv k) ?_
      show Rch p e below s₁ (mkF m 10 #[.val u, .val v1, .unset] [v1]) _
      refine Rch.st (fun _ k => XT.astoreNS X0.here hx rfl (hb hby d_prog_5_method_5_code_10) rfl hv (XT.cat1 hv) rfl (Or.inl rfl) k) ?_
      show Rch p e below s₁ (mkF m 11 #[.val u, .val v1, .val v1] []) _
      refine Rch.st (fun _ k => XS.goto X0.here hx rfl (pc0 := 11) (pc' := 27) rfl (hb hby d_prog_5_method_5_code_11) (by decide) (by decide) k) ?_
      show Rch p e below s₁ (mkF m 27 #[.val u, .val v1, .val v1] []) _
      refine Rch.st (fun _ k => XS.aloadN X0.here hx rfl (hb hby d_prog_5_method_5_code_27) rfl hv k) ?_
      show Rch p e below s₁ (mkF m 28 #[.val u, .val v1, .val v1] [v1]) _
      exact Rch.retV X0 hx Bd.returns (Rnar hv) (Or.inr (Or.inr (Or.inr (Or.inr ⟨rfl, rfl, hv⟩)))) (hb hby d_prog_5_method_5_code_28) (by rw [e0]; exact ⟨by simp [own_either, c9, c10], N0, rfl⟩) (by decide) (by decide)
    · skip
      refine Rch.st (fun _ k => XT.acmpYes X0.here hx rfl (pc0 := 6) (pc' := 14) rfl (hb hby d_prog_5_method_5_code_6) rfl hu hv (XT.aa_ne_t (c10)) (by decide) (by decide) k) ?_
      show Rch p e below s₁ (mkF m 14 #[.val u, .val v1, .unset] []) _
      refine Rch.st (fun _ k => XS.aloadN X0.here hx rfl (hb hby d_prog_5_method_5_code_14) rfl hv k) ?_
      show Rch p e below s₁ (mkF m 15 #[.val u, .val v1, .unset] [v1]) _
      by_cases c11 : (v1 : Value) = .null
      · skip
        refine Rch.st (fun _ k => XT.nonnullNo X0.here hx rfl (hb hby d_prog_5_method_5_code_15) rfl (c11) k) ?_
        show Rch p e below s₁ (mkF m 18 #[.val u, .val v1, .unset] []) _
        refine Rch.st (fun _ k => XS.aloadN X0.here hx rfl (hb hby d_prog_5_method_5_code_18) rfl hu k) ?_
        show Rch p e below s₁ (mkF m 19 #[.val u, .val v1, .unset] [u]) _
        refine Rch.st (fun _ k => XT.astoreNS X0.here hx rfl (hb hby d_prog_5_method_5_code_19) rfl hu (XT.cat1 hu) rfl (Or.inl rfl) k) ?_
        show Rch p e below s₁ (mkF m 20 #[.val u, .val v1, .val u] []) _
        refine Rch.st (fun _ k => XS.goto X0.here hx rfl (pc0 := 20) (pc' := 27) rfl (hb hby d_prog_5_method_5_code_20) (by decide) (by decide) k) ?_
        show Rch p e below s₁ (mkF m 27 #[.val u, .val v1, .val u] []) _
        refine Rch.st (fun _ k => XS.aloadN X0.here hx rfl (hb hby d_prog_5_method_5_code_27) rfl hu k) ?_
        show Rch p e below s₁ (mkF m 28 #[.val u, .val v1, .val u] [u]) _
        exact Rch.retV X0 hx Bd.returns (Rnar hu) (Or.inr (Or.inr (Or.inr (Or.inr ⟨rfl, rfl, hu⟩)))) (hb hby d_prog_5_method_5_code_28) (by rw [e0]; exact ⟨by simp [own_either, c9, c10, c11], N0, rfl⟩) (by decide) (by decide)
      · skip
        refine Rch.st (fun _ k => XT.nonnullYes X0.here hx rfl (pc0 := 15) (pc' := 23) rfl (hb hby d_prog_5_method_5_code_15) rfl hv (c11) (by decide) (by decide) k) ?_
        show Rch p e below s₁ (mkF m 23 #[.val u, .val v1, .unset] []) _
        obtain ⟨T12, X12, e12, st12⟩ := getS X0 hx hZ hown (host := "") (hw _ (List.mem_of_getElem? (i := 13) rfl)) Via.refl e0 sF (g := (mkF m 23 #[.val u, .val v1, .unset] [])) rfl (hb hby d_prog_5_method_5_code_23)
        refine Rch.st (fun _ k => st12 _ k) ?_
        show Rch p e below T12 (mkF m 26 #[.val u, .val v1, .unset] [(.ref aF)]) _
        refine Rch.st (fun _ k => XS.astoreN X12.here hx rfl (hb hby d_prog_5_method_5_code_26) rfl rfl (l' := #[.val u, .val v1, .val (.ref aF)]) rfl k) ?_
        show Rch p e below T12 (mkF m 27 #[.val u, .val v1, .val (.ref aF)] []) _
        refine Rch.st (fun _ k => XS.aloadN X12.here hx rfl (hb hby d_prog_5_method_5_code_27) rfl rfl k) ?_
        show Rch p e below T12 (mkF m 28 #[.val u, .val v1, .val (.ref aF)] [(.ref aF)]) _
        exact Rch.retV X12 hx Bd.returns rfl (Or.inr (Or.inr (Or.inr (Or.inr ⟨rfl, rfl, rfl⟩)))) (hb hby d_prog_5_method_5_code_28) (by rw [e12]; exact ⟨by simp [own_either, c9, c10, c11], N0, rfl⟩) (by decide) (by decide)

theorem ef_rm_law (m : MethodId) (xx : Int32) (yy : Int32) (aP : Addr) (aI : Addr) (aA : Addr) (aF : Addr)  : entryFrame m #[(.int xx), (.int yy)] maxLocals = mkF m 0 #[.val (.int xx), .val (.int yy), .unset, .unset, .unset, .unset, .unset, .unset, .unset] [] := by  first | rfl | (simp [entryFrame, mkF, argsToLocals, Value.category, maxLocals]; done)
def Q_rm_law (Z : State) (xx : Int32) (yy : Int32) (aP : Addr) (aI : Addr) (aA : Addr) (aF : Addr) (h0 : Heap) (n0 : Nat) (v : Option Value) (h : Heap) (L : List Loc) : Prop := (v = some (.int (1 : Int32))) ∧ (Fr n0 L) ∧ (h = h0)
theorem pd__I_Lcom_example_alcance_alcance_Mask_ : parseMethodDescriptor "(I)Lcom/example/alcance/alcance/Mask;" = some ⟨[.int], (some (.object "com/example/alcance/alcance/Mask"))⟩ := by decide +kernel
theorem pd__Lcom_example_alcance_alcance_Mask_Lcom_example_alcance_alcance_Mask__Lcom_example_alcance_alcance_Mask_ : parseMethodDescriptor "(Lcom/example/alcance/alcance/Mask;Lcom/example/alcance/alcance/Mask;)Lcom/example/alcance/alcance/Mask;" = some ⟨[(.object "com/example/alcance/alcance/Mask"), (.object "com/example/alcance/alcance/Mask")], (some (.object "com/example/alcance/alcance/Mask"))⟩ := by decide +kernel
set_option maxRecDepth 65536 in
set_option maxHeartbeats 40000000 in
theorem rm_law (l : Launch) (Z : State) (a0 : Array Value) (hw : ∀ d ∈ tables_1, d.before a0 Z = true) (ws : List Jvm.Cond) (xx : Int32) (yy : Int32) (aP : Addr) (aI : Addr) (aA : Addr) (aF : Addr) (h0 : Heap) (n0 : Nat) (Z0 : n0 ≤ h0.size) (sP : Sta Z h0 "com/example/alcance/alcance/Mask" "PHONE" "Lcom/example/alcance/alcance/Mask;" (.ref aP)) (sI : Sta Z h0 "com/example/alcance/alcance/Mask" "IDCARD" "Lcom/example/alcance/alcance/Mask;" (.ref aI)) (sA : Sta Z h0 "com/example/alcance/alcance/Mask" "AMOUNT" "Lcom/example/alcance/alcance/Mask;" (.ref aA)) (sF : Sta Z h0 "com/example/alcance/alcance/Mask" "FULL" "Lcom/example/alcance/alcance/Mask;" (.ref aF)) (n1 : aP ≠ aI) (n2 : aP ≠ aA) (n3 : aP ≠ aF) (n4 : aI ≠ aA) (n5 : aI ≠ aF) (n6 : aA ≠ aF) :
    MetFree l x (head1 (Jvm.Cond.code x code maxLocals ret :: ws) room_1) (fun a U => a = #[(.int xx), (.int yy)] ∧ Z.Warmed39 U.vm ∧ U.heap = h0) (fun _ _ _ _ _ => True) (fun _ U o U' => ∃ v L, o = .returned v ∧ Q_rm_law Z xx yy aP aI aA aF h0 n0 v U'.heap L ∧ FrameEnd U o U' L 0 0) := by
  refine MetFree.of_bodySF (plainFor_of_name pn_com_example_alcance_alcance_MaskEitherPinLaw) hisR ?_
  intro p e s m args below meth c s₁ Bd hml0 hP hK
  obtain ⟨rfl, hZ, hh⟩ := hP
  have hx := Bd.exec
  have hby := Bd.bytes
  have hml : c.maxLocals = 9 := hml0
  have hown : s.vm.findClass "com/example/alcance/alcance/MaskEitherPinLaw" = some m.cls := findClass_of_methodNamed Bd.named
  have hnm := (name_of_methodNamed Bd.named Bd.method).1
  have X0 : Stand p l e room_1 s m #[(.int xx), (.int yy)] below meth c s₁ [] 0 0 := Stand.of_body Bd
  have e0 : s₁.heap = h0 := by rw [← hh, Bd.state]; rfl
  have N0 := Fr.nil n0
  have hlk0 : meth.locks = false := by first | assumption | exact BodyLoose.notSynchronized (by assumption) | exact Body.notSynchronized (by assumption)
  show Rch p e below s₁ (entryFrame m #[(.int xx), (.int yy)] maxLocals) (Fin s (Q_rm_law Z xx yy aP aI aA aF h0 n0) 0 0)
  refine Rch.cast (ef_rm_law m xx yy aP aI aA aF) ?_
  show Rch p e below s₁ (mkF m 0 #[.val (.int xx), .val (.int yy), .unset, .unset, .unset, .unset, .unset, .unset, .unset] []) _
  refine Rch.st (fun _ k => XS.iloadN X0.here hx rfl (hb hby at_0) rfl k) ?_
  show Rch p e below s₁ (mkF m 1 #[.val (.int xx), .val (.int yy), .unset, .unset, .unset, .unset, .unset, .unset, .unset] [(.int xx)]) _
  refine Rch.st (fun _ k => Stand.ldcI X0 hx hown (mv hZ (hw _ (List.mem_of_getElem? (i := 0) rfl))) rfl (hb hby at_1) k) ?_
  show Rch p e below s₁ (mkF m 3 #[.val (.int xx), .val (.int yy), .unset, .unset, .unset, .unset, .unset, .unset, .unset] [(.int (2147483647 : Int32)), (.int xx)]) _
  refine Rch.st (fun _ k => XS.iand X0.here hx rfl (hb hby at_3) rfl k) ?_
  show Rch p e below s₁ (mkF m 4 #[.val (.int xx), .val (.int yy), .unset, .unset, .unset, .unset, .unset, .unset, .unset] [(.int (xx &&& (2147483647 : Int32)))]) _
  refine Rch.st (fun _ k => XS.iconst X0.here hx rfl (hb hby at_4) k) ?_
  show Rch p e below s₁ (mkF m 5 #[.val (.int xx), .val (.int yy), .unset, .unset, .unset, .unset, .unset, .unset, .unset] [(.int (5 : Int32)), (.int (xx &&& (2147483647 : Int32)))]) _
  refine Rch.st (fun _ k => iremM X0 hx rfl (hb hby at_5) rfl (by decide) k) ?_
  show Rch p e below s₁ (mkF m 6 #[.val (.int xx), .val (.int yy), .unset, .unset, .unset, .unset, .unset, .unset, .unset] [(.int ((xx &&& (2147483647 : Int32)) % (5 : Int32)))]) _
  obtain ⟨a, ha⟩ : ∃ z, z = ((xx &&& (2147483647 : Int32)) % (5 : Int32)) := ⟨_, rfl⟩
  rw [← ha]
  show Rch p e below s₁ (mkF m 6 #[.val (.int xx), .val (.int yy), .unset, .unset, .unset, .unset, .unset, .unset, .unset] [(.int a)]) _
  refine Rch.st (fun _ k => XS.istoreN X0.here hx rfl (hb hby at_6) rfl (l' := #[.val (.int xx), .val (.int yy), .val (.int a), .unset, .unset, .unset, .unset, .unset, .unset]) rfl k) ?_
  show Rch p e below s₁ (mkF m 7 #[.val (.int xx), .val (.int yy), .val (.int a), .unset, .unset, .unset, .unset, .unset, .unset] []) _
  refine Rch.st (fun _ k => XS.iloadN X0.here hx rfl (hb hby at_7) rfl k) ?_
  show Rch p e below s₁ (mkF m 8 #[.val (.int xx), .val (.int yy), .val (.int a), .unset, .unset, .unset, .unset, .unset, .unset] [(.int yy)]) _
  refine Rch.st (fun _ k => Stand.ldcI X0 hx hown (mv hZ (hw _ (List.mem_of_getElem? (i := 0) rfl))) rfl (hb hby at_8) k) ?_
  show Rch p e below s₁ (mkF m 10 #[.val (.int xx), .val (.int yy), .val (.int a), .unset, .unset, .unset, .unset, .unset, .unset] [(.int (2147483647 : Int32)), (.int yy)]) _
  refine Rch.st (fun _ k => XS.iand X0.here hx rfl (hb hby at_10) rfl k) ?_
  show Rch p e below s₁ (mkF m 11 #[.val (.int xx), .val (.int yy), .val (.int a), .unset, .unset, .unset, .unset, .unset, .unset] [(.int (yy &&& (2147483647 : Int32)))]) _
  refine Rch.st (fun _ k => XS.iconst X0.here hx rfl (hb hby at_11) k) ?_
  show Rch p e below s₁ (mkF m 12 #[.val (.int xx), .val (.int yy), .val (.int a), .unset, .unset, .unset, .unset, .unset, .unset] [(.int (5 : Int32)), (.int (yy &&& (2147483647 : Int32)))]) _
  refine Rch.st (fun _ k => iremM X0 hx rfl (hb hby at_12) rfl (by decide) k) ?_
  show Rch p e below s₁ (mkF m 13 #[.val (.int xx), .val (.int yy), .val (.int a), .unset, .unset, .unset, .unset, .unset, .unset] [(.int ((yy &&& (2147483647 : Int32)) % (5 : Int32)))]) _
  obtain ⟨b, hbq⟩ : ∃ z, z = ((yy &&& (2147483647 : Int32)) % (5 : Int32)) := ⟨_, rfl⟩
  rw [← hbq]
  show Rch p e below s₁ (mkF m 13 #[.val (.int xx), .val (.int yy), .val (.int a), .unset, .unset, .unset, .unset, .unset, .unset] [(.int b)]) _
  refine Rch.st (fun _ k => XS.istoreN X0.here hx rfl (hb hby at_13) rfl (l' := #[.val (.int xx), .val (.int yy), .val (.int a), .val (.int b), .unset, .unset, .unset, .unset, .unset]) rfl k) ?_
  show Rch p e below s₁ (mkF m 14 #[.val (.int xx), .val (.int yy), .val (.int a), .val (.int b), .unset, .unset, .unset, .unset, .unset] []) _
  refine Rch.st (fun _ k => XS.iloadN X0.here hx rfl (hb hby at_14) rfl k) ?_
  show Rch p e below s₁ (mkF m 15 #[.val (.int xx), .val (.int yy), .val (.int a), .val (.int b), .unset, .unset, .unset, .unset, .unset] [(.int a)]) _
  refine Rch.st (fun _ k => XS.iconst X0.here hx rfl (hb hby at_15) k) ?_
  show Rch p e below s₁ (mkF m 16 #[.val (.int xx), .val (.int yy), .val (.int a), .val (.int b), .unset, .unset, .unset, .unset, .unset] [(.int (4 : Int32)), (.int a)]) _
  have La := own_law a b aP aI aA aF n1 n2 n3 n4 n5 n6 (ha ▸ own_rem5 xx) (hbq ▸ own_rem5 yy)
  have J : ∀ (ee : Int32), (ee = own_e a b) →  Rch p e below s₁ (mkF m 50 #[.val (.int xx), .val (.int yy), .val (.int a), .val (.int b), .val (.int ee), .unset, .unset, .unset, .unset] []) (Fin s (Q_rm_law Z xx yy aP aI aA aF h0 n0) 0 0) := by
    intro ee hee
    refine Rch.st (fun _ k => XS.iloadN X0.here hx rfl (hb hby at_50) rfl k) ?_
    show Rch p e below s₁ (mkF m 51 #[.val (.int xx), .val (.int yy), .val (.int a), .val (.int b), .val (.int ee), .unset, .unset, .unset, .unset] [(.int a)]) _
    obtain ⟨_, _, ⟨T13, L13, k13, n13⟩, -, X13, ⟨Lc13, hQ13, l13, y13, z13⟩, st13⟩ := Jvm.LawKit.callS X0 hx (y := (⟨"com/example/alcance/alcance/MaskEitherPinLaw", "pick", "(I)Lcom/example/alcance/alcance/Mask;"⟩ : MethodName)) hown (mvT hZ (hw _ (List.mem_of_getElem? (i := 1) rfl))) (mvT hZ (hw _ (List.mem_of_getElem? (i := 2) rfl))) (mvT hZ (hw _ (List.mem_of_getElem? (i := 3) rfl))) (mvT hZ (hw _ (List.mem_of_getElem? (i := 4) rfl))) (by decide) (backOf (W := 0) (rm_pick l Z a0 hw [] a aP aI aA aF h0 n0 Z0 (sP) (sI) (sA) (sF)) hZ (hw _ (List.mem_of_getElem? (i := 4) rfl)) (hw _ (List.mem_of_getElem? (i := 3) rfl)) (by decide) (by decide)) (g := (mkF m 51 #[.val (.int xx), .val (.int yy), .val (.int a), .val (.int b), .val (.int ee), .unset, .unset, .unset, .unset] [(.int a)])) rfl (by rw [hml]; rfl) (argsL := [(.int a)]) (rest := []) (lenOf pd__I_Lcom_example_alcance_alcance_Mask_ rfl) rfl (by show 2 * 0 + _ ≤ _; exact Nat.le_of_eq rfl) (hb hby at_51) (fun _ _ => ⟨rfl, e0, (by decide : 0 + 0 ≤ _), (by decide : 0 + 0 ≤ _)⟩)
    dsimp only [Pt.U, Pt.locs, Pt.cells, Pt.slots] at X13 l13 y13 z13 st13 hQ13
    subst l13 y13 z13
    obtain ⟨rfl, NQ13, K13⟩ := hQ13
    have N14 := Fr.app N0 NQ13
    refine Rch.st (fun _ k => st13 _ k) ?_
    show Rch p e below T13 (mkF m 54 #[.val (.int xx), .val (.int yy), .val (.int a), .val (.int b), .val (.int ee), .unset, .unset, .unset, .unset] [(own_pick a aP aI aA aF)]) _
    refine Rch.st (fun _ k => XS.astoreS X13.here hx rfl (hb hby at_54) rfl (own_pick_ref a aP aI aA aF) (XT.cat1 (own_pick_ref a aP aI aA aF)) rfl (Or.inl rfl) k) ?_
    show Rch p e below T13 (mkF m 56 #[.val (.int xx), .val (.int yy), .val (.int a), .val (.int b), .val (.int ee), .val (own_pick a aP aI aA aF), .unset, .unset, .unset] []) _
    refine Rch.st (fun _ k => XS.iloadN X13.here hx rfl (hb hby at_56) rfl k) ?_
    show Rch p e below T13 (mkF m 57 #[.val (.int xx), .val (.int yy), .val (.int a), .val (.int b), .val (.int ee), .val (own_pick a aP aI aA aF), .unset, .unset, .unset] [(.int b)]) _
    obtain ⟨_, _, ⟨T15, L15, k15, n15⟩, -, X15, ⟨Lc15, hQ15, l15, y15, z15⟩, st15⟩ := Jvm.LawKit.callS X13 hx (y := (⟨"com/example/alcance/alcance/MaskEitherPinLaw", "pick", "(I)Lcom/example/alcance/alcance/Mask;"⟩ : MethodName)) hown (mvT hZ (hw _ (List.mem_of_getElem? (i := 1) rfl))) (mvT hZ (hw _ (List.mem_of_getElem? (i := 2) rfl))) (mvT hZ (hw _ (List.mem_of_getElem? (i := 3) rfl))) (mvT hZ (hw _ (List.mem_of_getElem? (i := 4) rfl))) (by decide) (backOf (W := 0) (rm_pick l Z a0 hw [] b aP aI aA aF h0 n0 Z0 (sP) (sI) (sA) (sF)) hZ (hw _ (List.mem_of_getElem? (i := 4) rfl)) (hw _ (List.mem_of_getElem? (i := 3) rfl)) (by decide) (by decide)) (g := (mkF m 57 #[.val (.int xx), .val (.int yy), .val (.int a), .val (.int b), .val (.int ee), .val (own_pick a aP aI aA aF), .unset, .unset, .unset] [(.int b)])) rfl (by rw [hml]; rfl) (argsL := [(.int b)]) (rest := []) (lenOf pd__I_Lcom_example_alcance_alcance_Mask_ rfl) rfl (by show 2 * 0 + _ ≤ _; exact Nat.le_of_eq rfl) (hb hby at_57) (fun _ _ => ⟨rfl, K13, (by decide : 0 + 0 ≤ _), (by decide : 0 + 0 ≤ _)⟩)
    dsimp only [Pt.U, Pt.locs, Pt.cells, Pt.slots] at X15 l15 y15 z15 st15 hQ15
    subst l15 y15 z15
    obtain ⟨rfl, NQ15, K15⟩ := hQ15
    have N16 := Fr.app N14 NQ15
    refine Rch.st (fun _ k => st15 _ k) ?_
    show Rch p e below T15 (mkF m 60 #[.val (.int xx), .val (.int yy), .val (.int a), .val (.int b), .val (.int ee), .val (own_pick a aP aI aA aF), .unset, .unset, .unset] [(own_pick b aP aI aA aF)]) _
    refine Rch.st (fun _ k => XS.astoreS X15.here hx rfl (hb hby at_60) rfl (own_pick_ref b aP aI aA aF) (XT.cat1 (own_pick_ref b aP aI aA aF)) rfl (Or.inl rfl) k) ?_
    show Rch p e below T15 (mkF m 62 #[.val (.int xx), .val (.int yy), .val (.int a), .val (.int b), .val (.int ee), .val (own_pick a aP aI aA aF), .val (own_pick b aP aI aA aF), .unset, .unset] []) _
    refine Rch.st (fun _ k => XS.aload X15.here hx rfl (hb hby at_62) rfl (own_pick_ref a aP aI aA aF) k) ?_
    show Rch p e below T15 (mkF m 64 #[.val (.int xx), .val (.int yy), .val (.int a), .val (.int b), .val (.int ee), .val (own_pick a aP aI aA aF), .val (own_pick b aP aI aA aF), .unset, .unset] [(own_pick a aP aI aA aF)]) _
    refine Rch.st (fun _ k => XS.aload X15.here hx rfl (hb hby at_64) rfl (own_pick_ref b aP aI aA aF) k) ?_
    show Rch p e below T15 (mkF m 66 #[.val (.int xx), .val (.int yy), .val (.int a), .val (.int b), .val (.int ee), .val (own_pick a aP aI aA aF), .val (own_pick b aP aI aA aF), .unset, .unset] [(own_pick b aP aI aA aF), (own_pick a aP aI aA aF)]) _
    obtain ⟨_, _, ⟨T17, L17, k17, n17⟩, -, X17, ⟨Lc17, hQ17, l17, y17, z17⟩, st17⟩ := Jvm.LawKit.callS X15 hx (y := (⟨"com/example/alcance/alcance/Mask", "either", "(Lcom/example/alcance/alcance/Mask;Lcom/example/alcance/alcance/Mask;)Lcom/example/alcance/alcance/Mask;"⟩ : MethodName)) hown (mvT hZ (hw _ (List.mem_of_getElem? (i := 10) rfl))) (mvT hZ (hw _ (List.mem_of_getElem? (i := 11) rfl))) (mvT hZ (hw _ (List.mem_of_getElem? (i := 6) rfl))) (mvT hZ (hw _ (List.mem_of_getElem? (i := 12) rfl))) (by decide) (backOf (W := 0) (rm_either l Z a0 hw [] (own_pick a aP aI aA aF) (own_pick b aP aI aA aF) aF h0 n0 Z0 (own_pick_ref _ _ _ _ _) (own_pick_ref _ _ _ _ _) (sF)) hZ (hw _ (List.mem_of_getElem? (i := 12) rfl)) (hw _ (List.mem_of_getElem? (i := 6) rfl)) (by decide) (by decide)) (g := (mkF m 66 #[.val (.int xx), .val (.int yy), .val (.int a), .val (.int b), .val (.int ee), .val (own_pick a aP aI aA aF), .val (own_pick b aP aI aA aF), .unset, .unset] [(own_pick b aP aI aA aF), (own_pick a aP aI aA aF)])) rfl (by rw [hml]; rfl) (argsL := [(own_pick a aP aI aA aF), (own_pick b aP aI aA aF)]) (rest := []) (lenOf pd__Lcom_example_alcance_alcance_Mask_Lcom_example_alcance_alcance_Mask__Lcom_example_alcance_alcance_Mask_ rfl) rfl (by show 2 * 0 + _ ≤ _; exact Nat.le_of_eq rfl) (hb hby at_66) (fun _ _ => ⟨rfl, K15, (by decide : 0 + 0 ≤ _), (by decide : 0 + 0 ≤ _)⟩)
    dsimp only [Pt.U, Pt.locs, Pt.cells, Pt.slots] at X17 l17 y17 z17 st17 hQ17
    subst l17 y17 z17
    obtain ⟨rfl, NQ17, K17⟩ := hQ17
    have N18 := Fr.app N16 NQ17
    refine Rch.st (fun _ k => st17 _ k) ?_
    show Rch p e below T17 (mkF m 69 #[.val (.int xx), .val (.int yy), .val (.int a), .val (.int b), .val (.int ee), .val (own_pick a aP aI aA aF), .val (own_pick b aP aI aA aF), .unset, .unset] [(own_either (own_pick a aP aI aA aF) (own_pick b aP aI aA aF) aF)]) _
    refine Rch.st (fun _ k => XS.astoreS X17.here hx rfl (hb hby at_69) rfl (own_either_ref aF (own_pick_ref _ _ _ _ _) (own_pick_ref _ _ _ _ _)) (XT.cat1 (own_either_ref aF (own_pick_ref _ _ _ _ _) (own_pick_ref _ _ _ _ _))) rfl (Or.inl rfl) k) ?_
    show Rch p e below T17 (mkF m 71 #[.val (.int xx), .val (.int yy), .val (.int a), .val (.int b), .val (.int ee), .val (own_pick a aP aI aA aF), .val (own_pick b aP aI aA aF), .val (own_either (own_pick a aP aI aA aF) (own_pick b aP aI aA aF) aF), .unset] []) _
    refine Rch.st (fun _ k => XS.aload X17.here hx rfl (hb hby at_71) rfl (own_pick_ref b aP aI aA aF) k) ?_
    show Rch p e below T17 (mkF m 73 #[.val (.int xx), .val (.int yy), .val (.int a), .val (.int b), .val (.int ee), .val (own_pick a aP aI aA aF), .val (own_pick b aP aI aA aF), .val (own_either (own_pick a aP aI aA aF) (own_pick b aP aI aA aF) aF), .unset] [(own_pick b aP aI aA aF)]) _
    refine Rch.st (fun _ k => XS.aload X17.here hx rfl (hb hby at_73) rfl (own_pick_ref a aP aI aA aF) k) ?_
    show Rch p e below T17 (mkF m 75 #[.val (.int xx), .val (.int yy), .val (.int a), .val (.int b), .val (.int ee), .val (own_pick a aP aI aA aF), .val (own_pick b aP aI aA aF), .val (own_either (own_pick a aP aI aA aF) (own_pick b aP aI aA aF) aF), .unset] [(own_pick a aP aI aA aF), (own_pick b aP aI aA aF)]) _
    obtain ⟨_, _, ⟨T19, L19, k19, n19⟩, -, X19, ⟨Lc19, hQ19, l19, y19, z19⟩, st19⟩ := Jvm.LawKit.callS X17 hx (y := (⟨"com/example/alcance/alcance/Mask", "either", "(Lcom/example/alcance/alcance/Mask;Lcom/example/alcance/alcance/Mask;)Lcom/example/alcance/alcance/Mask;"⟩ : MethodName)) hown (mvT hZ (hw _ (List.mem_of_getElem? (i := 10) rfl))) (mvT hZ (hw _ (List.mem_of_getElem? (i := 11) rfl))) (mvT hZ (hw _ (List.mem_of_getElem? (i := 6) rfl))) (mvT hZ (hw _ (List.mem_of_getElem? (i := 12) rfl))) (by decide) (backOf (W := 0) (rm_either l Z a0 hw [] (own_pick b aP aI aA aF) (own_pick a aP aI aA aF) aF h0 n0 Z0 (own_pick_ref _ _ _ _ _) (own_pick_ref _ _ _ _ _) (sF)) hZ (hw _ (List.mem_of_getElem? (i := 12) rfl)) (hw _ (List.mem_of_getElem? (i := 6) rfl)) (by decide) (by decide)) (g := (mkF m 75 #[.val (.int xx), .val (.int yy), .val (.int a), .val (.int b), .val (.int ee), .val (own_pick a aP aI aA aF), .val (own_pick b aP aI aA aF), .val (own_either (own_pick a aP aI aA aF) (own_pick b aP aI aA aF) aF), .unset] [(own_pick a aP aI aA aF), (own_pick b aP aI aA aF)])) rfl (by rw [hml]; rfl) (argsL := [(own_pick b aP aI aA aF), (own_pick a aP aI aA aF)]) (rest := []) (lenOf pd__Lcom_example_alcance_alcance_Mask_Lcom_example_alcance_alcance_Mask__Lcom_example_alcance_alcance_Mask_ rfl) rfl (by show 2 * 0 + _ ≤ _; exact Nat.le_of_eq rfl) (hb hby at_75) (fun _ _ => ⟨rfl, K17, (by decide : 0 + 0 ≤ _), (by decide : 0 + 0 ≤ _)⟩)
    dsimp only [Pt.U, Pt.locs, Pt.cells, Pt.slots] at X19 l19 y19 z19 st19 hQ19
    subst l19 y19 z19
    obtain ⟨rfl, NQ19, K19⟩ := hQ19
    have N20 := Fr.app N18 NQ19
    refine Rch.st (fun _ k => st19 _ k) ?_
    show Rch p e below T19 (mkF m 78 #[.val (.int xx), .val (.int yy), .val (.int a), .val (.int b), .val (.int ee), .val (own_pick a aP aI aA aF), .val (own_pick b aP aI aA aF), .val (own_either (own_pick a aP aI aA aF) (own_pick b aP aI aA aF) aF), .unset] [(own_either (own_pick b aP aI aA aF) (own_pick a aP aI aA aF) aF)]) _
    refine Rch.st (fun _ k => XS.astoreS X19.here hx rfl (hb hby at_78) rfl (own_either_ref aF (own_pick_ref _ _ _ _ _) (own_pick_ref _ _ _ _ _)) (XT.cat1 (own_either_ref aF (own_pick_ref _ _ _ _ _) (own_pick_ref _ _ _ _ _))) rfl (Or.inl rfl) k) ?_
    show Rch p e below T19 (mkF m 80 #[.val (.int xx), .val (.int yy), .val (.int a), .val (.int b), .val (.int ee), .val (own_pick a aP aI aA aF), .val (own_pick b aP aI aA aF), .val (own_either (own_pick a aP aI aA aF) (own_pick b aP aI aA aF) aF), .val (own_either (own_pick b aP aI aA aF) (own_pick a aP aI aA aF) aF)] []) _
    refine Rch.st (fun _ k => XS.aload X19.here hx rfl (hb hby at_80) rfl (own_either_ref aF (own_pick_ref _ _ _ _ _) (own_pick_ref _ _ _ _ _)) k) ?_
    show Rch p e below T19 (mkF m 82 #[.val (.int xx), .val (.int yy), .val (.int a), .val (.int b), .val (.int ee), .val (own_pick a aP aI aA aF), .val (own_pick b aP aI aA aF), .val (own_either (own_pick a aP aI aA aF) (own_pick b aP aI aA aF) aF), .val (own_either (own_pick b aP aI aA aF) (own_pick a aP aI aA aF) aF)] [(own_either (own_pick a aP aI aA aF) (own_pick b aP aI aA aF) aF)]) _
    refine Rch.st (fun _ k => XS.iload X19.here hx rfl (hb hby at_82) rfl k) ?_
    show Rch p e below T19 (mkF m 84 #[.val (.int xx), .val (.int yy), .val (.int a), .val (.int b), .val (.int ee), .val (own_pick a aP aI aA aF), .val (own_pick b aP aI aA aF), .val (own_either (own_pick a aP aI aA aF) (own_pick b aP aI aA aF) aF), .val (own_either (own_pick b aP aI aA aF) (own_pick a aP aI aA aF) aF)] [(.int ee), (own_either (own_pick a aP aI aA aF) (own_pick b aP aI aA aF) aF)]) _
    obtain ⟨_, _, ⟨T21, L21, k21, n21⟩, -, X21, ⟨Lc21, hQ21, l21, y21, z21⟩, st21⟩ := Jvm.LawKit.callS X19 hx (y := (⟨"com/example/alcance/alcance/MaskEitherPinLaw", "pick", "(I)Lcom/example/alcance/alcance/Mask;"⟩ : MethodName)) hown (mvT hZ (hw _ (List.mem_of_getElem? (i := 1) rfl))) (mvT hZ (hw _ (List.mem_of_getElem? (i := 2) rfl))) (mvT hZ (hw _ (List.mem_of_getElem? (i := 3) rfl))) (mvT hZ (hw _ (List.mem_of_getElem? (i := 4) rfl))) (by decide) (backOf (W := 1) (rm_pick l Z a0 hw [] ee aP aI aA aF h0 n0 Z0 (sP) (sI) (sA) (sF)) hZ (hw _ (List.mem_of_getElem? (i := 4) rfl)) (hw _ (List.mem_of_getElem? (i := 3) rfl)) (by decide) (by decide)) (g := (mkF m 84 #[.val (.int xx), .val (.int yy), .val (.int a), .val (.int b), .val (.int ee), .val (own_pick a aP aI aA aF), .val (own_pick b aP aI aA aF), .val (own_either (own_pick a aP aI aA aF) (own_pick b aP aI aA aF) aF), .val (own_either (own_pick b aP aI aA aF) (own_pick a aP aI aA aF) aF)] [(.int ee), (own_either (own_pick a aP aI aA aF) (own_pick b aP aI aA aF) aF)])) rfl (by rw [hml]; rfl) (argsL := [(.int ee)]) (rest := [(own_either (own_pick a aP aI aA aF) (own_pick b aP aI aA aF) aF)]) (lenOf pd__I_Lcom_example_alcance_alcance_Mask_ rfl) rfl (by show 2 * 0 + _ ≤ _; simp [XT.cat1 (own_either_ref aF (own_pick_ref _ _ _ _ _) (own_pick_ref _ _ _ _ _))]) (hb hby at_84) (fun _ _ => ⟨rfl, K19, (by decide : 0 + 0 ≤ _), (by decide : 0 + 0 ≤ _)⟩)
    dsimp only [Pt.U, Pt.locs, Pt.cells, Pt.slots] at X21 l21 y21 z21 st21 hQ21
    subst l21 y21 z21
    obtain ⟨rfl, NQ21, K21⟩ := hQ21
    have N22 := Fr.app N20 NQ21
    refine Rch.st (fun _ k => st21 _ k) ?_
    show Rch p e below T21 (mkF m 87 #[.val (.int xx), .val (.int yy), .val (.int a), .val (.int b), .val (.int ee), .val (own_pick a aP aI aA aF), .val (own_pick b aP aI aA aF), .val (own_either (own_pick a aP aI aA aF) (own_pick b aP aI aA aF) aF), .val (own_either (own_pick b aP aI aA aF) (own_pick a aP aI aA aF) aF)] [(own_pick ee aP aI aA aF), (own_either (own_pick a aP aI aA aF) (own_pick b aP aI aA aF) aF)]) _
    refine Rch.st (fun _ k => XT.acmpNo X21.here hx rfl (hb hby at_87) rfl (own_either_ref aF (own_pick_ref _ _ _ _ _) (own_pick_ref _ _ _ _ _)) (own_pick_ref ee aP aI aA aF) (XT.aa_ne_f (hee ▸ La.1)) k) ?_
    show Rch p e below T21 (mkF m 90 #[.val (.int xx), .val (.int yy), .val (.int a), .val (.int b), .val (.int ee), .val (own_pick a aP aI aA aF), .val (own_pick b aP aI aA aF), .val (own_either (own_pick a aP aI aA aF) (own_pick b aP aI aA aF) aF), .val (own_either (own_pick b aP aI aA aF) (own_pick a aP aI aA aF) aF)] []) _
    refine Rch.st (fun _ k => XS.aload X21.here hx rfl (hb hby at_90) rfl (own_either_ref aF (own_pick_ref _ _ _ _ _) (own_pick_ref _ _ _ _ _)) k) ?_
    show Rch p e below T21 (mkF m 92 #[.val (.int xx), .val (.int yy), .val (.int a), .val (.int b), .val (.int ee), .val (own_pick a aP aI aA aF), .val (own_pick b aP aI aA aF), .val (own_either (own_pick a aP aI aA aF) (own_pick b aP aI aA aF) aF), .val (own_either (own_pick b aP aI aA aF) (own_pick a aP aI aA aF) aF)] [(own_either (own_pick b aP aI aA aF) (own_pick a aP aI aA aF) aF)]) _
    refine Rch.st (fun _ k => XS.aload X21.here hx rfl (hb hby at_92) rfl (own_either_ref aF (own_pick_ref _ _ _ _ _) (own_pick_ref _ _ _ _ _)) k) ?_
    show Rch p e below T21 (mkF m 94 #[.val (.int xx), .val (.int yy), .val (.int a), .val (.int b), .val (.int ee), .val (own_pick a aP aI aA aF), .val (own_pick b aP aI aA aF), .val (own_either (own_pick a aP aI aA aF) (own_pick b aP aI aA aF) aF), .val (own_either (own_pick b aP aI aA aF) (own_pick a aP aI aA aF) aF)] [(own_either (own_pick a aP aI aA aF) (own_pick b aP aI aA aF) aF), (own_either (own_pick b aP aI aA aF) (own_pick a aP aI aA aF) aF)]) _
    refine Rch.st (fun _ k => XT.acmpNo X21.here hx rfl (hb hby at_94) rfl (own_either_ref aF (own_pick_ref _ _ _ _ _) (own_pick_ref _ _ _ _ _)) (own_either_ref aF (own_pick_ref _ _ _ _ _) (own_pick_ref _ _ _ _ _)) (XT.aa_ne_f (La.2)) k) ?_
    show Rch p e below T21 (mkF m 97 #[.val (.int xx), .val (.int yy), .val (.int a), .val (.int b), .val (.int ee), .val (own_pick a aP aI aA aF), .val (own_pick b aP aI aA aF), .val (own_either (own_pick a aP aI aA aF) (own_pick b aP aI aA aF) aF), .val (own_either (own_pick b aP aI aA aF) (own_pick a aP aI aA aF) aF)] []) _
    refine Rch.st (fun _ k => XS.iconst X21.here hx rfl (hb hby at_97) k) ?_
    show Rch p e below T21 (mkF m 98 #[.val (.int xx), .val (.int yy), .val (.int a), .val (.int b), .val (.int ee), .val (own_pick a aP aI aA aF), .val (own_pick b aP aI aA aF), .val (own_either (own_pick a aP aI aA aF) (own_pick b aP aI aA aF) aF), .val (own_either (own_pick b aP aI aA aF) (own_pick a aP aI aA aF) aF)] [(.int (1 : Int32))]) _
    refine Rch.st (fun _ k => XS.goto X21.here hx rfl (pc0 := 98) (pc' := 102) rfl (hb hby at_98) (by decide) (by decide) k) ?_
    show Rch p e below T21 (mkF m 102 #[.val (.int xx), .val (.int yy), .val (.int a), .val (.int b), .val (.int ee), .val (own_pick a aP aI aA aF), .val (own_pick b aP aI aA aF), .val (own_either (own_pick a aP aI aA aF) (own_pick b aP aI aA aF) aF), .val (own_either (own_pick b aP aI aA aF) (own_pick a aP aI aA aF) aF)] [(.int (1 : Int32))]) _
    exact Rch.retV X21 hx Bd.returns rfl (Or.inl ⟨rfl, by simp, _, rfl⟩) (hb hby at_102) (by rw [K21]; exact ⟨rfl, N22, rfl⟩) (by decide) (by decide)
  by_cases c23 : a = (4 : Int32)
  · skip
    refine Rch.st (fun _ k => XS.icmpNo X0.here hx rfl (hb hby at_16) rfl (XT.ii_ne_f (c23)) k) ?_
    show Rch p e below s₁ (mkF m 19 #[.val (.int xx), .val (.int yy), .val (.int a), .val (.int b), .unset, .unset, .unset, .unset, .unset] []) _
    refine Rch.st (fun _ k => XS.iloadN X0.here hx rfl (hb hby at_19) rfl k) ?_
    show Rch p e below s₁ (mkF m 20 #[.val (.int xx), .val (.int yy), .val (.int a), .val (.int b), .unset, .unset, .unset, .unset, .unset] [(.int b)]) _
    refine Rch.st (fun _ k => XS.istore X0.here hx rfl (hb hby at_20) rfl (l' := #[.val (.int xx), .val (.int yy), .val (.int a), .val (.int b), .val (.int b), .unset, .unset, .unset, .unset]) rfl k) ?_
    show Rch p e below s₁ (mkF m 22 #[.val (.int xx), .val (.int yy), .val (.int a), .val (.int b), .val (.int b), .unset, .unset, .unset, .unset] []) _
    refine Rch.st (fun _ k => XS.goto X0.here hx rfl (pc0 := 22) (pc' := 50) rfl (hb hby at_22) (by decide) (by decide) k) ?_
    show Rch p e below s₁ (mkF m 50 #[.val (.int xx), .val (.int yy), .val (.int a), .val (.int b), .val (.int b), .unset, .unset, .unset, .unset] []) _
    exact J _ (by simp [own_e, c23])
  · skip
    refine Rch.st (fun _ k => XS.icmpYes X0.here hx rfl (pc0 := 16) (pc' := 25) rfl (hb hby at_16) rfl (XT.ii_ne_t (c23)) (by decide) (by decide) k) ?_
    show Rch p e below s₁ (mkF m 25 #[.val (.int xx), .val (.int yy), .val (.int a), .val (.int b), .unset, .unset, .unset, .unset, .unset] []) _
    refine Rch.st (fun _ k => XS.iloadN X0.here hx rfl (hb hby at_25) rfl k) ?_
    show Rch p e below s₁ (mkF m 26 #[.val (.int xx), .val (.int yy), .val (.int a), .val (.int b), .unset, .unset, .unset, .unset, .unset] [(.int b)]) _
    refine Rch.st (fun _ k => XS.iconst X0.here hx rfl (hb hby at_26) k) ?_
    show Rch p e below s₁ (mkF m 27 #[.val (.int xx), .val (.int yy), .val (.int a), .val (.int b), .unset, .unset, .unset, .unset, .unset] [(.int (4 : Int32)), (.int b)]) _
    by_cases c24 : b = (4 : Int32)
    · skip
      refine Rch.st (fun _ k => XS.icmpNo X0.here hx rfl (hb hby at_27) rfl (XT.ii_ne_f (c24)) k) ?_
      show Rch p e below s₁ (mkF m 30 #[.val (.int xx), .val (.int yy), .val (.int a), .val (.int b), .unset, .unset, .unset, .unset, .unset] []) _
      refine Rch.st (fun _ k => XS.iloadN X0.here hx rfl (hb hby at_30) rfl k) ?_
      show Rch p e below s₁ (mkF m 31 #[.val (.int xx), .val (.int yy), .val (.int a), .val (.int b), .unset, .unset, .unset, .unset, .unset] [(.int a)]) _
      refine Rch.st (fun _ k => XS.istore X0.here hx rfl (hb hby at_31) rfl (l' := #[.val (.int xx), .val (.int yy), .val (.int a), .val (.int b), .val (.int a), .unset, .unset, .unset, .unset]) rfl k) ?_
      show Rch p e below s₁ (mkF m 33 #[.val (.int xx), .val (.int yy), .val (.int a), .val (.int b), .val (.int a), .unset, .unset, .unset, .unset] []) _
      refine Rch.st (fun _ k => XS.goto X0.here hx rfl (pc0 := 33) (pc' := 50) rfl (hb hby at_33) (by decide) (by decide) k) ?_
      show Rch p e below s₁ (mkF m 50 #[.val (.int xx), .val (.int yy), .val (.int a), .val (.int b), .val (.int a), .unset, .unset, .unset, .unset] []) _
      exact J _ (by simp [own_e, c23, c24])
    · skip
      refine Rch.st (fun _ k => XS.icmpYes X0.here hx rfl (pc0 := 27) (pc' := 36) rfl (hb hby at_27) rfl (XT.ii_ne_t (c24)) (by decide) (by decide) k) ?_
      show Rch p e below s₁ (mkF m 36 #[.val (.int xx), .val (.int yy), .val (.int a), .val (.int b), .unset, .unset, .unset, .unset, .unset] []) _
      refine Rch.st (fun _ k => XS.iloadN X0.here hx rfl (hb hby at_36) rfl k) ?_
      show Rch p e below s₁ (mkF m 37 #[.val (.int xx), .val (.int yy), .val (.int a), .val (.int b), .unset, .unset, .unset, .unset, .unset] [(.int a)]) _
      refine Rch.st (fun _ k => XS.iloadN X0.here hx rfl (hb hby at_37) rfl k) ?_
      show Rch p e below s₁ (mkF m 38 #[.val (.int xx), .val (.int yy), .val (.int a), .val (.int b), .unset, .unset, .unset, .unset, .unset] [(.int b), (.int a)]) _
      by_cases c25 : a = b
      · skip
        refine Rch.st (fun _ k => XS.icmpNo X0.here hx rfl (hb hby at_38) rfl (XT.ii_ne_f (c25)) k) ?_
        show Rch p e below s₁ (mkF m 41 #[.val (.int xx), .val (.int yy), .val (.int a), .val (.int b), .unset, .unset, .unset, .unset, .unset] []) _
        refine Rch.st (fun _ k => XS.iloadN X0.here hx rfl (hb hby at_41) rfl k) ?_
        show Rch p e below s₁ (mkF m 42 #[.val (.int xx), .val (.int yy), .val (.int a), .val (.int b), .unset, .unset, .unset, .unset, .unset] [(.int a)]) _
        refine Rch.st (fun _ k => XS.istore X0.here hx rfl (hb hby at_42) rfl (l' := #[.val (.int xx), .val (.int yy), .val (.int a), .val (.int b), .val (.int a), .unset, .unset, .unset, .unset]) rfl k) ?_
        show Rch p e below s₁ (mkF m 44 #[.val (.int xx), .val (.int yy), .val (.int a), .val (.int b), .val (.int a), .unset, .unset, .unset, .unset] []) _
        refine Rch.st (fun _ k => XS.goto X0.here hx rfl (pc0 := 44) (pc' := 50) rfl (hb hby at_44) (by decide) (by decide) k) ?_
        show Rch p e below s₁ (mkF m 50 #[.val (.int xx), .val (.int yy), .val (.int a), .val (.int b), .val (.int a), .unset, .unset, .unset, .unset] []) _
        exact J _ (by simp [own_e, c23, c24, c25])
      · skip
        refine Rch.st (fun _ k => XS.icmpYes X0.here hx rfl (pc0 := 38) (pc' := 47) rfl (hb hby at_38) rfl (XT.ii_ne_t (c25)) (by decide) (by decide) k) ?_
        show Rch p e below s₁ (mkF m 47 #[.val (.int xx), .val (.int yy), .val (.int a), .val (.int b), .unset, .unset, .unset, .unset, .unset] []) _
        refine Rch.st (fun _ k => XS.iconst X0.here hx rfl (hb hby at_47) k) ?_
        show Rch p e below s₁ (mkF m 48 #[.val (.int xx), .val (.int yy), .val (.int a), .val (.int b), .unset, .unset, .unset, .unset, .unset] [(.int (3 : Int32))]) _
        refine Rch.st (fun _ k => XS.istore X0.here hx rfl (hb hby at_48) rfl (l' := #[.val (.int xx), .val (.int yy), .val (.int a), .val (.int b), .val (.int (3 : Int32)), .unset, .unset, .unset, .unset]) rfl k) ?_
        show Rch p e below s₁ (mkF m 50 #[.val (.int xx), .val (.int yy), .val (.int a), .val (.int b), .val (.int (3 : Int32)), .unset, .unset, .unset, .unset] []) _
        exact J _ (by simp [own_e, c23, c24, c25])

theorem own_ord {args : Array Value} {s : State} {t : Term} {a : Addr} {C n d : String} {z : Int32} (hv : t.eval args s none [] s = some (.ref a)) (h : (Cond.eq (Term.field t C n d) (Term.int z)).value args s none s [] = some true) : s.fieldOf? a C n d = some (.int z) := by
  obtain ⟨x, y, h1, h2, -, -⟩ := cmp_v (Or.inl h)
  have h3 : y = .int z := Option.some.inj (h2.symm.trans (Term.int_eval z))
  subst h3
  rw [fld_at hv] at h1
  have h4 := h
  simp only [Cond.value, fld_at hv, h1, Term.int_eval] at h4
  cases x <;> simp at h4
  rw [h1, h4]
set_option maxRecDepth 65536 in
set_option maxHeartbeats 40000000 in
theorem comes_1 {Post : Tables → Env → Array Value → State → Outcome → State → Prop} (hpost : ∀ tb e args s v u, (limb_1_1.after args s (.returned v) u = true ∧ limb_1_2.after args s (.returned v) u = true ∧ True) → FrameEnd s (.returned v) u (Jvm.fieldLocs frame_1_writes args s ++ Jvm.arrayLocs frame_1_arrays args s ++ Jvm.staticLocs frame_1_statics s) 0 0 → Post tb e args s (.returned v) u) :
    ArmFor flags0 classFile x code maxLocals ret World_1 tables_1 room_1 Calls_1 rest_1 Pre_1 Post := by
  intro l hfl _ _ p e ha hc hk s m args below hf hA hF happ hP
  obtain ⟨hcalls, hrest, hpre⟩ := hP
  obtain ⟨-, -, -, hnamed, -, -, -, hat⟩ := (Spec.applies_iff hf).mp happ
  obtain ⟨hg, hn⟩ := and_e (Cond.before_iff.mp (show (Jvm.Cond.and given_1 narrow_1).before args s = true from hpre))
  obtain ⟨hcnt, hgs⟩ := and_e hg
  obtain ⟨w0, w1, rfl⟩ : ∃ w0 w1, args = #[w0, w1] := by
    have hs : args.size = 2 := by simpa [Cond.value, given_1] using hcnt
    obtain ⟨L⟩ := args
    match L, hs with
    | [w0, w1], _ => exact ⟨w0, w1, rfl⟩
  have hw := fun d (hd : d ∈ tables_1) => atoms_spec (ws := Jvm.Cond.code x code maxLocals ret :: tables_1) hat d (List.mem_cons_of_mem _ hd)
  have hfit : Fit s := fun {y c} hc i hi => by
    obtain ⟨ha, rfl⟩ := Array.getElem?_eq_some_iff.mp hc
    have q := List.all_eq_true.mp ((Array.all_eq_true_iff_forall_mem.mp hF) _ (Array.getElem_mem ha)) i (List.mem_range.mpr hi)
    simpa [Array.getElem?_eq_getElem hi] using q
  obtain ⟨g0, gr0⟩ := and_e hgs
  obtain ⟨i0, q0⟩ := is_v g0
  obtain rfl : w0 = (.int i0) := Option.some.inj q0
  obtain ⟨i1, q1⟩ := is_v gr0
  obtain rfl : w1 = (.int i1) := Option.some.inj q1
  obtain ⟨xP, hn⟩ := and_e hn
  obtain ⟨xF, hn⟩ := and_e hn
  obtain ⟨oP, hn⟩ := and_e hn
  obtain ⟨oF, hn⟩ := and_e hn
  obtain ⟨xI, hn⟩ := and_e hn
  obtain ⟨oI, hn⟩ := and_e hn
  obtain ⟨xA, oA⟩ := and_e hn
  obtain ⟨aP, vP⟩ := exa_v xP
  have sP := Sta.start vP (Or.inr ⟨(hw _ (List.mem_of_getElem? (i := 6) rfl)), (hw _ (List.mem_of_getElem? (i := 7) rfl))⟩)
  have fP : Fld s s.heap aP "java/lang/Enum" "ordinal" "I" (.int 0) := Fld.start (own_ord vP oP)
  obtain ⟨aF, vF⟩ := exa_v xF
  have sF := Sta.start vF (Or.inr ⟨(hw _ (List.mem_of_getElem? (i := 6) rfl)), (hw _ (List.mem_of_getElem? (i := 9) rfl))⟩)
  have fF : Fld s s.heap aF "java/lang/Enum" "ordinal" "I" (.int 3) := Fld.start (own_ord vF oF)
  obtain ⟨aI, vI⟩ := exa_v xI
  have sI := Sta.start vI (Or.inr ⟨(hw _ (List.mem_of_getElem? (i := 6) rfl)), (hw _ (List.mem_of_getElem? (i := 15) rfl))⟩)
  have fI : Fld s s.heap aI "java/lang/Enum" "ordinal" "I" (.int 1) := Fld.start (own_ord vI oI)
  obtain ⟨aA, vA⟩ := exa_v xA
  have sA := Sta.start vA (Or.inr ⟨(hw _ (List.mem_of_getElem? (i := 6) rfl)), (hw _ (List.mem_of_getElem? (i := 17) rfl))⟩)
  have fA : Fld s s.heap aA "java/lang/Enum" "ordinal" "I" (.int 2) := Fld.start (own_ord vA oA)
  have n1 := Fld.ne fP fI (by decide)
  have n2 := Fld.ne fP fA (by decide)
  have n3 := Fld.ne fP fF (by decide)
  have n4 := Fld.ne fI fA (by decide)
  have n5 := Fld.ne fI fF (by decide)
  have n6 := Fld.ne fA fF (by decide)
  obtain ⟨n, o, h1, h2, h3, _, L, rfl, ⟨rfl, N, -⟩, hq⟩ := rm_law l s _ hw tables_1 i0 i1 aP aI aA aF s.heap s.heap.size (Nat.le_refl _) sP sI sA sF n1 n2 n3 n4 n5 n6 p e ha hc hk s m _ below hf ((Spec.applies_iff_loose hf).mp happ).1 ⟨rfl, State.Warmed39.refl s, rfl⟩ trivial
  refine ⟨n, _, h1, h2, h3, hpost _ _ _ _ _ _ ⟨Cond.after_iff.mpr rfl, Cond.after_iff.mpr (eq_i res_at (Term.int_eval (1)) rfl), trivial⟩ ⟨hq.1, hq.2.1, (hq.2.2.sift fun y hy => Or.inr (N y hy)).mono (by decide) (by decide)⟩⟩
theorem main_1_1 : Claimed_1_1 := comes_1 fun _ _ _ _ _ _ h hF => ⟨h.1, hF⟩
theorem main_1_2 : Claimed_1_2 := comes_1 fun _ _ _ _ _ _ h hF => ⟨h.2.1, hF⟩
end Jvm.Pilot.@@N@@
namespace Jvm.Pilot.@@N@@
open Jvm Jvm.ClassFile Sem Op Lib Jvm.Free Jvm.Stand Jvm.Pilot.@@N@@.Jvm.D
/-! MADE BY PROGRAM (witnessworld.py) out of the Statement's table words and the real class files: 12 classes; the members and pool entries that the words name. The judged class is class 1, her method 2. -/
namespace start1
open Jvm.ClassFile
def u (s : String) : CpInfo := .utf8 (stringToUtf16 s)
/-- a pool by its gaps: so many unusable entries, then the entry; so many at the end -/
def gap : Nat → List CpInfo → List CpInfo
  | 0, r => r
  | n + 1, r => .unusable :: gap n r
def poolList (es : List (Nat × CpInfo)) (last : Nat) : List CpInfo := es.foldr (fun e r => gap e.1 (e.2 :: r)) (gap last [])
def pool (es : List (Nat × CpInfo)) (last : Nat) : Array CpInfo := ⟨poolList es last⟩
def fileOf (pool : Array CpInfo) (this : Nat) (attrs : Array Attribute := #[]) (ms : Array MethodInfo := #[]) (fl : Nat := 33) (sup : Nat := 0) (ifs : Array Nat := #[]) (fds : Array FieldInfo := #[]) : ClassFile where
  minorVersion := 0
  majorVersion := 65
  constantPool := pool
  accessFlags := fl
  thisClass := this
  superClass := sup
  interfaces := ifs
  fields := fds
  methods := ms
  attributes := attrs
def plain (name : String) (sup : Option ClassId) : Class where
  name := name
  kind := .ordinary
  loader := none
  accessFlags := 33
  super := sup
  interfaces := #[]
  cf := none
  fields := #[]
  methods := #[]
  instanceTypes := #[]
  staticTypes := #[]
  resolved := #[]
  callSites := []
  init := .initialized
  statics := none
  mirror := none

def pool0 : Array CpInfo := pool [(5, u "<init>"), (0, u "()V"), (1, .class_ 10), (1, u "java/lang/Object")] 113

def k0m0 : Method := { name := "<init>", desc := "()V", sig := { parameters := [], returnType := none }, accessFlags := 1, code := none }
/-- java/lang/Object -/
def k0 : Class := { plain "java/lang/Object" none with
  accessFlags := 33
  interfaces := #[]
  cf := some (fileOf pool0 8 #[] #[{ accessFlags := 1, nameIndex := 5, descriptorIndex := 6, attributes := #[] }] 33 0 #[] #[])
  fields := #[]
  methods := #[k0m0]
  instanceTypes := #[]
  staticTypes := #[]
  resolved := Array.replicate 124 none
  statics := none }

def pool1 : Array CpInfo := pool [(2, .class_ 4), (1, u "java/lang/Object"), (0, u "<init>"), (0, u "()V"), (0, .fieldref 8 9), (0, .class_ 10), (0, .nameAndType 11 12), (0, u "com/example/alcance/alcance/Mask"), (0, u "PHONE"), (0, u "Lcom/example/alcance/alcance/Mask;"), (0, .fieldref 8 14), (0, .nameAndType 15 12), (0, u "IDCARD"), (0, .fieldref 8 17), (0, .nameAndType 18 12), (0, u "AMOUNT"), (0, .fieldref 8 20), (0, .nameAndType 21 12), (0, u "FULL"), (0, .integer 2147483647), (0, .methodref 24 25), (0, .class_ 26), (0, .nameAndType 27 28), (0, u "com/example/alcance/alcance/MaskEitherPinLaw"), (0, u "pick"), (0, u "(I)Lcom/example/alcance/alcance/Mask;"), (0, .methodref 8 30), (0, .nameAndType 31 32), (0, u "either"), (0, u "(Lcom/example/alcance/alcance/Mask;Lcom/example/alcance/alcance/Mask;)Lcom/example/alcance/alcance/Mask;"), (3, u "law"), (0, u "(II)Z")] 2

def k1m0 : Method := { name := "<init>", desc := "()V", sig := { parameters := [], returnType := none }, accessFlags := 1, code := none }
def k1c1 : Code := { maxStack := 2, maxLocals := 1, code := method_2_code, exceptionTable := #[], attributes := #[] }
def k1m1 : Method := { name := "pick", desc := "(I)Lcom/example/alcance/alcance/Mask;", sig := { parameters := [.int], returnType := some (.object "com/example/alcance/alcance/Mask") }, accessFlags := 10, code := some k1c1 }
def k1c2 : Code := { maxStack := 2, maxLocals := 9, code := code, exceptionTable := #[], attributes := #[] }
def k1m2 : Method := { name := "law", desc := "(II)Z", sig := { parameters := [.int, .int], returnType := some .boolean }, accessFlags := 9, code := some k1c2 }
/-- com/example/alcance/alcance/MaskEitherPinLaw -/
def k1 : Class := { plain "com/example/alcance/alcance/MaskEitherPinLaw" (some 0) with
  accessFlags := 49
  interfaces := #[]
  cf := some (fileOf pool1 24 #[] #[{ accessFlags := 1, nameIndex := 5, descriptorIndex := 6, attributes := #[] }, { accessFlags := 10, nameIndex := 27, descriptorIndex := 28, attributes := #[] }, { accessFlags := 9, nameIndex := 36, descriptorIndex := 37, attributes := #[] }] 49 2 #[] #[])
  fields := #[]
  methods := #[k1m0, k1m1, k1m2]
  instanceTypes := #[]
  staticTypes := #[]
  resolved := Array.replicate 40 none
  statics := none }

def pool2 : Array CpInfo := pool [(1, .class_ 2), (0, u "java/lang/constant/Constable"), (0, .class_ 4), (0, u "java/lang/Object")] 6

/-- java/lang/constant/Constable -/
def k2 : Class := { plain "java/lang/constant/Constable" (some 0) with
  accessFlags := 1537
  interfaces := #[]
  cf := some (fileOf pool2 1 #[] #[] 1537 3 #[] #[])
  fields := #[]
  methods := #[]
  instanceTypes := #[]
  staticTypes := #[]
  resolved := Array.replicate 11 none
  statics := none }

def pool3 : Array CpInfo := pool [(1, .class_ 2), (0, u "java/lang/Comparable"), (0, .class_ 4), (0, u "java/lang/Object")] 7

/-- java/lang/Comparable -/
def k3 : Class := { plain "java/lang/Comparable" (some 0) with
  accessFlags := 1537
  interfaces := #[]
  cf := some (fileOf pool3 1 #[] #[] 1537 3 #[] #[])
  fields := #[]
  methods := #[]
  instanceTypes := #[]
  staticTypes := #[]
  resolved := Array.replicate 12 none
  statics := none }

def pool4 : Array CpInfo := pool [(1, .class_ 2), (0, u "java/io/Serializable"), (0, .class_ 4), (0, u "java/lang/Object")] 2

/-- java/io/Serializable -/
def k4 : Class := { plain "java/io/Serializable" (some 0) with
  accessFlags := 1537
  interfaces := #[]
  cf := some (fileOf pool4 1 #[] #[] 1537 3 #[] #[])
  fields := #[]
  methods := #[]
  instanceTypes := #[]
  staticTypes := #[]
  resolved := Array.replicate 7 none
  statics := none }

def pool5 : Array CpInfo := pool [(2, .class_ 4), (1, u "java/lang/Enum"), (0, u "name"), (0, u "Ljava/lang/String;"), (2, u "ordinal"), (0, u "I"), (1, .class_ 14), (1, u "java/lang/Object"), (4, u "hash"), (86, .class_ 108), (1, u "java/lang/Enum$EnumDesc"), (2, .class_ 112), (0, u "java/lang/constant/Constable"), (0, .class_ 114), (0, u "java/lang/Comparable"), (0, .class_ 116), (0, u "java/io/Serializable")] 87

/-- java/lang/Enum -/
def k5 : Class := { plain "java/lang/Enum" (some 0) with
  accessFlags := 1057
  interfaces := #[2, 3, 4]
  cf := some (fileOf pool5 2 #[.nestMembers #[106]] #[] 1057 12 #[111, 113, 115] #[{ accessFlags := 18, nameIndex := 5, descriptorIndex := 6, attributes := #[] }, { accessFlags := 18, nameIndex := 9, descriptorIndex := 10, attributes := #[] }, { accessFlags := 2, nameIndex := 19, descriptorIndex := 10, attributes := #[] }])
  fields := #[{ name := "name", type := (.object "java/lang/String"), accessFlags := 18, slot := 0, constantValue := 0 }, { name := "ordinal", type := .int, accessFlags := 18, slot := 1, constantValue := 0 }, { name := "hash", type := .int, accessFlags := 2, slot := 2, constantValue := 0 }]
  methods := #[]
  instanceTypes := #[(.object "java/lang/String"), .int, .int]
  staticTypes := #[]
  resolved := Array.replicate 204 none
  statics := none }

def pool6 : Array CpInfo := pool [(1, .class_ 2), (0, u "com/example/alcance/alcance/Mask"), (2, u "PHONE"), (0, u "Lcom/example/alcance/alcance/Mask;"), (2, u "IDCARD"), (2, u "AMOUNT"), (0, .fieldref 1 14), (0, .nameAndType 15 6), (0, u "FULL"), (2, u "$VALUES"), (0, u "[Lcom/example/alcance/alcance/Mask;"), (6, .class_ 28), (1, u "java/lang/Enum"), (61, u "HIDDEN"), (0, u "Ljava/lang/String;"), (9, u "either"), (0, u "(Lcom/example/alcance/alcance/Mask;Lcom/example/alcance/alcance/Mask;)Lcom/example/alcance/alcance/Mask;")] 24

def k6c0 : Code := { maxStack := 2, maxLocals := 3, code := prog_5_method_5_code, exceptionTable := #[], attributes := #[] }
def k6m0 : Method := { name := "either", desc := "(Lcom/example/alcance/alcance/Mask;Lcom/example/alcance/alcance/Mask;)Lcom/example/alcance/alcance/Mask;", sig := { parameters := [(.object "com/example/alcance/alcance/Mask"), (.object "com/example/alcance/alcance/Mask")], returnType := some (.object "com/example/alcance/alcance/Mask") }, accessFlags := 8, code := some k6c0 }
/-- com/example/alcance/alcance/Mask -/
def k6 : Class := { plain "com/example/alcance/alcance/Mask" (some 5) with
  accessFlags := 16432
  interfaces := #[]
  cf := some (fileOf pool6 1 #[] #[{ accessFlags := 8, nameIndex := 101, descriptorIndex := 102, attributes := #[] }] 16432 26 #[] #[{ accessFlags := 16409, nameIndex := 5, descriptorIndex := 6, attributes := #[] }, { accessFlags := 16409, nameIndex := 9, descriptorIndex := 6, attributes := #[] }, { accessFlags := 16409, nameIndex := 12, descriptorIndex := 6, attributes := #[] }, { accessFlags := 16409, nameIndex := 15, descriptorIndex := 6, attributes := #[] }, { accessFlags := 26, nameIndex := 90, descriptorIndex := 91, attributes := #[] }, { accessFlags := 4122, nameIndex := 18, descriptorIndex := 19, attributes := #[] }])
  fields := #[{ name := "PHONE", type := (.object "com/example/alcance/alcance/Mask"), accessFlags := 16409, slot := 0, constantValue := 0 }, { name := "IDCARD", type := (.object "com/example/alcance/alcance/Mask"), accessFlags := 16409, slot := 1, constantValue := 0 }, { name := "AMOUNT", type := (.object "com/example/alcance/alcance/Mask"), accessFlags := 16409, slot := 2, constantValue := 0 }, { name := "FULL", type := (.object "com/example/alcance/alcance/Mask"), accessFlags := 16409, slot := 3, constantValue := 0 }, { name := "HIDDEN", type := (.object "java/lang/String"), accessFlags := 26, slot := 4, constantValue := 0 }, { name := "$VALUES", type := (.array (.object "com/example/alcance/alcance/Mask")), accessFlags := 4122, slot := 5, constantValue := 0 }]
  methods := #[k6m0]
  instanceTypes := #[(.object "java/lang/String"), .int, .int]
  staticTypes := #[(.object "com/example/alcance/alcance/Mask"), (.object "com/example/alcance/alcance/Mask"), (.object "com/example/alcance/alcance/Mask"), (.object "com/example/alcance/alcance/Mask"), (.object "java/lang/String"), (.array (.object "com/example/alcance/alcance/Mask"))]
  resolved := Array.replicate 127 none
  statics := some 0 }

def pool7 : Array CpInfo := pool [(1, u "java/lang/Cloneable"), (0, .class_ 1), (0, u "java/lang/Object"), (0, .class_ 3)] 3

/-- java/lang/Cloneable -/
def k7 : Class := { plain "java/lang/Cloneable" (some 0) with
  accessFlags := 1537
  interfaces := #[]
  cf := some (fileOf pool7 2 #[] #[] 1537 4 #[] #[])
  fields := #[]
  methods := #[]
  instanceTypes := #[]
  staticTypes := #[]
  resolved := Array.replicate 8 none
  statics := none }

/-- the primitive byte -/
def k8 : Class := { plain "byte" none with kind := .primitive 'B', accessFlags := 0x411 }
/-- [B -/
def k9 : Class := { plain "[B" (some 0) with kind := .array 8 .byte, interfaces := #[7, 4], accessFlags := 1041 }

/-- the primitive int -/
def k10 : Class := { plain "int" none with kind := .primitive 'I', accessFlags := 0x411 }
/-- [I -/
def k11 : Class := { plain "[I" (some 0) with kind := .array 10 .int, interfaces := #[7, 4], accessFlags := 1041 }

def heap : Heap := #[{ cls := 6, slots := #[.ref 1, .ref 2, .ref 3, .ref 4, .null, .null], vm := .statics 6 },
  { cls := 6, slots := #[.null, .int 0, .int 0], vm := .none },
  { cls := 6, slots := #[.null, .int 1, .int 0], vm := .none },
  { cls := 6, slots := #[.null, .int 2, .int 0], vm := .none },
  { cls := 6, slots := #[.null, .int 3, .int 0], vm := .none }]
def classes : Array Class := #[k0, k1, k2, k3, k4, k5, k6, k7, k8, k9, k10, k11]
def interned : List (Array UInt16 × Addr) := []
def slotsUsed : Nat := 18
def theMethod : MethodId := ⟨1, 2⟩
def args0 : Array Value := #[.int 5, .int 7]
def aboutOver (below : List Frame) : State where
  vm := { classes := classes, interned := interned.toArray }
  heap := heap
  slotsUsed := slotsUsed
  threads := #[{ frames := .invoking theMethod args0 :: below }]
def below0 : List Frame := [.native { method := ⟨0, 0⟩, args := #[] }]
def about1 : State := aboutOver below0
def p0 : Program := .bare "" "" ""
def e0 : Env := launch0.env 0 0 0
theorem w_frames : about1.frames = Frame.invoking theMethod args0 :: below0 := rfl
set_option maxRecDepth 65536 in
theorem w_args : argsFit about1.vm theMethod args0 = true := by decide +kernel
set_option maxRecDepth 65536 in
theorem w_heap : heapFits about1 = true := by decide +kernel
set_option maxRecDepth 65536 in
theorem w_runnable : about1.curStatus? = some .runnable := by decide +kernel
set_option maxRecDepth 65536 in
theorem w_alone : about1.alone = true := by decide +kernel
set_option maxRecDepth 65536 in
theorem w_named : about1.methodNamed? x = some theMethod := by decide +kernel
set_option maxRecDepth 65536 in
theorem w_hears : about1.hears theMethod below0 = true := by decide +kernel
set_option maxRecDepth 65536 in
theorem w_ripe : about1.ripe theMethod args0 below0 = true := by decide +kernel
theorem w_running : about1.status = .running := rfl
set_option maxRecDepth 65536 in
theorem w_room : about1.hasRoom e0.platform room_1 = true :=
  launch0.hasRoom_least _ room_1 (by decide +kernel) (by decide +kernel) (by decide +kernel) (by decide +kernel) (by decide +kernel) (by decide +kernel)
theorem allAtoms_all (ts : List Jvm.Cond) (a : Array Jvm.Value) (st : Jvm.State) : (allAtoms ts).before a st = ts.all (fun c => c.before a st) := by
  induction ts with
  | nil => rfl
  | cons c t ih =>
    show (Jvm.Cond.and c (allAtoms t)).before a st = _
    rw [Jvm.Cond.before_and, ih, List.all_cons]
def words1 : List Jvm.Cond := Jvm.Cond.code x code maxLocals ret :: tables_1
/-- a 'code' word, met by the world's own term for the bytes: nothing is compared byte by byte -/
theorem code_word {y : MethodName} {bytes : ByteArray} {mx : Nat} {rt : Option FieldType} {a : Array Value} {s : State} {m : MethodId} {meth : Method} {c : Code} (h1 : s.methodNamed? y = some m) (h2 : s.vm.method? m = some meth) (h3 : meth.code = some c) (h4 : c.code = bytes)
    (h5 : (c.maxLocals == mx && c.exceptionTable.isEmpty && decide (c.maxStack ≤ mostOperands) && decide (meth.sig.returnType = rt) && !meth.locks && decide (parseMethodDescriptor y.desc = some meth.sig)) = true) : (Jvm.Cond.code y bytes mx rt).before a s = true := by
  simp only [Bool.and_eq_true, beq_iff_eq, Bool.not_eq_true', decide_eq_true_eq] at h5
  obtain ⟨⟨⟨⟨⟨g1, g2⟩, g3⟩, g4⟩, g5⟩, g6⟩ := h5
  simp [Cond.before, Cond.holds, Cond.value, h1, h2, h3, h4, g1, g2, g3, g4, g5, g6]
def isCode : Jvm.Cond → Bool
  | .code _ _ _ _ => true
  | _ => false
theorem all_split {L : List Jvm.Cond} {P : Jvm.Cond → Bool} (h1 : L.all (fun c => isCode c || P c) = true) (h2 : ∀ c ∈ L.filter isCode, P c = true) : L.all P = true := by
  refine List.all_eq_true.mpr fun c hc => ?_
  have h := List.all_eq_true.mp h1 c hc
  rcases Bool.eq_false_or_eq_true (isCode c) with hi | hi
  · exact h2 c (List.mem_filter.mpr ⟨hc, hi⟩)
  · simpa [hi] using h
set_option maxRecDepth 65536 in
theorem w_c0 : (Jvm.Cond.code x code maxLocals ret).before args0 about1 = true := code_word (m := ⟨1, 2⟩) (meth := k1m2) (c := k1c2) (by decide +kernel) rfl rfl rfl (by decide +kernel)
set_option maxRecDepth 65536 in
theorem w_c1 : (Jvm.Cond.code ({ cls := "com/example/alcance/alcance/MaskEitherPinLaw", name := "pick", desc := "(I)Lcom/example/alcance/alcance/Mask;" } : Jvm.MethodName) method_2_code (1 : Nat) (Option.some (Jvm.ClassFile.FieldType.object "com/example/alcance/alcance/Mask"))).before args0 about1 = true := code_word (m := ⟨1, 1⟩) (meth := k1m1) (c := k1c1) (by decide +kernel) rfl rfl rfl (by decide +kernel)
set_option maxRecDepth 65536 in
theorem w_c2 : (Jvm.Cond.code ({ cls := "com/example/alcance/alcance/Mask", name := "either", desc := "(Lcom/example/alcance/alcance/Mask;Lcom/example/alcance/alcance/Mask;)Lcom/example/alcance/alcance/Mask;" } : Jvm.MethodName) prog_5_method_5_code (3 : Nat) (Option.some (Jvm.ClassFile.FieldType.object "com/example/alcance/alcance/Mask"))).before args0 about1 = true := code_word (m := ⟨6, 0⟩) (meth := k6m0) (c := k6c0) (by decide +kernel) rfl rfl rfl (by decide +kernel)
def codes1 : List Jvm.Cond := [Jvm.Cond.code x code maxLocals ret, Jvm.Cond.code ({ cls := "com/example/alcance/alcance/MaskEitherPinLaw", name := "pick", desc := "(I)Lcom/example/alcance/alcance/Mask;" } : Jvm.MethodName) method_2_code (1 : Nat) (Option.some (Jvm.ClassFile.FieldType.object "com/example/alcance/alcance/Mask")), Jvm.Cond.code ({ cls := "com/example/alcance/alcance/Mask", name := "either", desc := "(Lcom/example/alcance/alcance/Mask;Lcom/example/alcance/alcance/Mask;)Lcom/example/alcance/alcance/Mask;" } : Jvm.MethodName) prog_5_method_5_code (3 : Nat) (Option.some (Jvm.ClassFile.FieldType.object "com/example/alcance/alcance/Mask"))]
set_option maxRecDepth 65536 in
theorem codes_eq : words1.filter isCode = codes1 := rfl
theorem w_codes : ∀ c ∈ words1.filter isCode, c.before args0 about1 = true := by
  rw [codes_eq]
  intro c hc
  simp only [codes1, List.mem_cons, List.not_mem_nil, or_false] at hc
  rcases hc with rfl | rfl | rfl
  · exact w_c0
  · exact w_c1
  · exact w_c2
set_option maxRecDepth 65536 in
theorem w_t1 : words1.all (fun c => isCode c || c.before args0 about1) = true := by decide +kernel
theorem w_tables : (allAtoms (Jvm.Cond.code x code maxLocals ret :: tables_1)).before args0 about1 = true := by
  rw [allAtoms_all]
  show words1.all (fun c => c.before args0 about1) = true
  refine all_split ?_ w_codes
  rw [w_t1]
set_option maxRecDepth 65536 in
theorem w_case : (Jvm.Cond.and given_1 narrow_1).before args0 about1 = true := by decide +kernel
theorem w_applies : (headSpec (Jvm.Cond.code x code maxLocals ret :: tables_1) room_1).applies x e0.platform about1 = true :=
  (Spec.applies_iff w_frames).mpr ⟨w_running, w_runnable, w_alone, w_named, w_hears, w_ripe, w_room, w_tables⟩
theorem atStart : AtStart classFile x code maxLocals ret World_1 tables_1 room_1 Calls_1 rest_1 Pre_1 launch0 p0 e0 about1 theMethod args0 below0 :=
  ⟨lists_1, trivial, launch0.admits_env _ _ _, launch0.least_env, fairChoices_fair.cas, fairChoices_fair.clock, w_frames, w_args, w_heap, w_applies, trivial, trivial, w_case⟩
end start1
theorem witness_1 : WitnessClaimed_1 := ⟨start1.p0, start1.e0, start1.about1, start1.theMethod, start1.args0, start1.below0, start1.atStart⟩
end Jvm.Pilot.@@N@@
